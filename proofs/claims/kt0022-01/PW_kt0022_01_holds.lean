import PyProof.Rows.All
import Wide.All
import OpenK.AllK
import Wide.FinOn
import KE.KLam
import KE.KSortTup
import KE.KSortAsk
import KE.KDictIter
import Lean
import PySem.Challenge.RW_kt0022_01
set_option Elab.async false
set_option maxRecDepth 1000000
set_option linter.all false
section
open PySem PySem.W PyProof.Rows PySem.Calls
namespace Mine

noncomputable abbrev PG : Program := PySem.Challenge.pw_kt0022_01
noncomputable abbrev Fz := Addr → Option Obj
noncomputable def Fz.Le (F F' : Fz) : Prop := ∀ a o, F a = some o → F' a = some o
noncomputable def IsTab (o : Obj) : Prop := o.cls = .none ∧ ∃ vs, o.data = .fields vs
noncomputable def Fz.In (F : Fz) (h : Heap) : Prop := ∀ a o, F a = some o → h.get? a = some o ∧ ¬ IsTab o
theorem Fz.In.up {F : Fz} {h h' : Heap} (f : F.In h) (k : ∀ a o, h.get? a = some o → ¬ IsTab o → h'.get? a = some o) : F.In h' := fun a o e => ⟨k a o (f a o e).1 (f a o e).2, (f a o e).2⟩
theorem Fz.Le.refl (F : Fz) : F.Le F := fun _ _ e => e
theorem Fz.Le.trans {F G H : Fz} (x : F.Le G) (y : G.Le H) : F.Le H := fun a o e => y a o (x a o e)

/-- what is said of a value: grows with the frozen part -/
structure Rp where
  p : Fz → Value → Prop
  mono : ∀ F F' v, F.Le F' → p F v → p F' v

noncomputable def rVal (u : Value) : Rp := ⟨fun _ v => v = u, fun _ _ _ _ h => h⟩
noncomputable def rInt (i : Int) : Rp := ⟨fun _ v => ∃ t, v = .int i t, fun _ _ _ _ h => h⟩
noncomputable def rStr (x : Str) : Rp := ⟨fun _ v => ∃ t, v = .str x t, fun _ _ _ _ h => h⟩
noncomputable def rBytes (b : Array UInt8) : Rp := ⟨fun _ v => ∃ t, v = .bytes b t, fun _ _ _ _ h => h⟩
noncomputable abbrev rBool (b : Bool) : Rp := rVal (.bool b)
noncomputable abbrev rNone : Rp := rVal .none
noncomputable abbrev lst (vs : List Value) (n : Nat) : Obj := { cls := .type "list", data := .seq vs.toArray n }

noncomputable def Are {α : Type} (f : α → Rp) (F : Fz) (vs : List Value) (xs : List α) : Prop := vs.length = xs.length ∧ ∀ q ∈ vs.zip xs, (f q.2).p F q.1
theorem Are.mono {α : Type} {f : α → Rp} {F F' : Fz} {vs : List Value} {xs : List α} (h : Are f F vs xs) (l : F.Le F') : Are f F' vs xs := ⟨h.1, fun q hq => (f q.2).mono F F' q.1 l (h.2 q hq)⟩
theorem Are.nil {α : Type} {f : α → Rp} {F : Fz} : Are f F [] [] := ⟨rfl, fun _ h => by simp at h⟩
theorem Are.cons {α : Type} {f : α → Rp} {F : Fz} {v : Value} {x : α} {vs : List Value} {xs : List α} (h : (f x).p F v) (r : Are f F vs xs) : Are f F (v :: vs) (x :: xs) :=
  ⟨by simp [r.1], fun q hq => by
    rcases List.mem_cons.mp hq with rfl | hq
    · exact h
    · exact r.2 q hq⟩
theorem Are.cons_inv {α : Type} {f : α → Rp} {F : Fz} {x : α} {vs : List Value} {xs : List α} (h : Are f F vs (x :: xs)) : ∃ v vs', vs = v :: vs' ∧ (f x).p F v ∧ Are f F vs' xs := by
  cases vs with
  | nil => have := h.1; simp at this
  | cons v vs' => exact ⟨v, vs', rfl, h.2 (v, x) (by simp), ⟨by simpa using h.1, fun q hq => h.2 q (by simp [hq])⟩⟩
theorem Are.nil_inv {α : Type} {f : α → Rp} {F : Fz} {vs : List Value} (h : Are f F vs ([] : List α)) : vs = [] := List.length_eq_zero_iff.mp (by simpa using h.1)
theorem Are.append {α : Type} {f : α → Rp} {F : Fz} : ∀ {vs : List Value} {xs : List α} {ws : List Value} {ys : List α}, Are f F vs xs → Are f F ws ys → Are f F (vs ++ ws) (xs ++ ys)
  | _, [], _, _, h, k => by rw [h.nil_inv]; exact k
  | _, x :: xs, _, _, h, k => by
    obtain ⟨v, vs', rfl, hv, h'⟩ := h.cons_inv
    exact Are.cons hv (h'.append k)
theorem Are.get {α : Type} {f : α → Rp} {F : Fz} {vs : List Value} {xs : List α} (h : Are f F vs xs) {i : Nat} {x : α} (hx : xs[i]? = some x) : ∃ v, vs[i]? = some v ∧ (f x).p F v := by
  have hl : i < vs.length := by rw [h.1]; exact (List.getElem?_eq_some_iff.mp hx).1
  refine ⟨vs[i], List.getElem?_eq_getElem hl, h.2 (vs[i], x) ?_⟩
  refine List.mem_iff_getElem?.mpr ⟨i, ?_⟩
  rw [List.getElem?_zip_eq_some]
  exact ⟨List.getElem?_eq_getElem hl, hx⟩
theorem Are.of_get {α : Type} {f : α → Rp} {F : Fz} {vs : List Value} {xs : List α} (hl : vs.length = xs.length) (h : ∀ (i : Nat) v x, vs[i]? = some v → xs[i]? = some x → (f x).p F v) : Are f F vs xs :=
  ⟨hl, fun q hq => by
    obtain ⟨i, hi⟩ := List.mem_iff_getElem?.mp hq
    rw [List.getElem?_zip_eq_some] at hi
    exact h i _ _ hi.1 hi.2⟩

noncomputable def rList {α : Type} (f : α → Rp) (xs : List α) : Rp :=
  ⟨fun F v => ∃ a vs n, v = .ref a ∧ F a = some (lst vs n) ∧ Are f F vs xs, fun _ _ _ l ⟨a, vs, n, e, g, h⟩ => ⟨a, vs, n, e, l _ _ g, h.mono l⟩⟩

/-- tables and code objects stand -/
noncomputable def Hard (o : Obj) : Prop := (o.cls = .none ∨ o.cls = .type "code") ∧ ∃ vs, o.data = .fields vs
noncomputable def Sft (h h' : Heap) : Prop := ∀ b o, h.get? b = some o → Hard o → h'.get? b = some o
noncomputable abbrev soft (o : Obj) : Prop := ¬ Hard o
theorem Sft.refl (h : Heap) : Sft h h := fun _ _ e _ => e
theorem Sft.trans {h h' h'' : Heap} (x : Sft h h') (y : Sft h' h'') : Sft h h'' := fun b o e k => y b o (x b o e k) k
theorem Sft.push (h : Heap) (o : Obj) : Sft h (h.push o) := fun _ _ e _ => Heap.get?_push_of_some _ e
theorem Sft.same {h h' : Heap} {a : Addr} {o : Obj} (hs : Heap.SameBut a h h') (ho : h.get? a = some o) (hq : soft o) : Sft h h' := fun b o' e k => by
  have ne : b ≠ a := by
    rintro rfl
    rw [ho] at e; cases e
    exact hq k
  exact (hs.2 b ne).trans e

noncomputable def CodeOk (h : Heap) (cv : Value) (q : Str) : Prop := ∃ c o vs t, cv = .ref c ∧ h.get? c = some o ∧ o.cls = .type "code" ∧ o.data = .fields vs ∧ vs[1]? = some (.str q t)
theorem Hard.of_tab {o : Obj} (h : IsTab o) : Hard o := ⟨.inl h.1, h.2⟩
theorem soft.ntab {o : Obj} (h : soft o) : ¬ IsTab o := fun t => h (Hard.of_tab t)
theorem soft_of {o : Obj} (h : ∀ vs, o.data ≠ .fields vs) : soft o := fun ⟨_, vs, e⟩ => h vs e
theorem CodeOk.sft {h h' : Heap} {cv : Value} {q : Str} (x : CodeOk h cv q) (s : Sft h h') : CodeOk h' cv q :=
  let ⟨c, o, vs, t, e, g, k, r⟩ := x; ⟨c, o, vs, t, e, s _ _ g ⟨.inr k, _, r.1⟩, k, r⟩
theorem CodeOk.rec {h : Heap} {cv : Value} {q : Str} (x : CodeOk h cv q) : h.CodeRec cv q :=
  let ⟨c, o, vs, t, e, g, _, r⟩ := x; ⟨c, o, vs, t, e, g, r⟩
/-- a table of codes: what is found in it bears its name -/
noncomputable def TabAt (h : Heap) (P : Addr) (ok : Pos → Value → Prop) : Prop := ∃ ps, h.get? P = some (tabObj ps) ∧ TriplesOk ps.toList ∧ ∀ pos cv, codeAmong pos ps.toList = some cv → ok pos cv

/-- the tables that may grow: law's, _translate's, cmp_to_key's and that of the class's code in it -/
noncomputable def Mut (a : Addr) : Prop := a = 171 ∨ a = 110 ∨ a = 40
/-- what stands in the class's code, and in the tables over it and under it, once it has been made at `m` -/
noncomputable def kT0 (m : Nat) : Obj := { cls := .none, dict := none, data := .fields #[.int (8) 0, .int (4) 0, .ref (m + 5)], slots := #[] }
noncomputable def kT5 (n₁ : Nat) : Obj := { cls := .none, dict := none, data := .fields #[.int (12) 0, .int (8) 0, .ref (n₁ + 13), .int (15) 0, .int (8) 0, .ref (n₁ + 21), .int (18) 0, .int (8) 0, .ref (n₁ + 29), .int (21) 0, .int (8) 0, .ref (n₁ + 37), .int (24) 0, .int (8) 0, .ref (n₁ + 45), .int (27) 0, .int (8) 0, .ref (n₁ + 53)], slots := #[] }
noncomputable def kT6 (n₁ t : Nat) : Obj := { cls := .type "code", dict := none, data := .fields #[.str "K" (t + 2), .str "cmp_to_key.<locals>.K" (t + 3), .str "/claim/cut.py" (t + 4), .int (8) 0, .int (0) 0, .int (0) 0, .int (0) 0, .int (0) 0, .ref (n₁ + 3), .bool true, .int (276) 0, .ref (n₁ + 4), .none, .none, .none, .none, .int ((t + 6 : Nat) : Int) 0, .int (8) 0, .str "/claim/cut.py" (t + 7)], slots := #[] }
noncomputable def kCodes : List (Nat × Str) := [(13, "cmp_to_key.<locals>.K.__init__"), (21, "cmp_to_key.<locals>.K.__lt__"), (29, "cmp_to_key.<locals>.K.__gt__"), (37, "cmp_to_key.<locals>.K.__eq__"), (45, "cmp_to_key.<locals>.K.__le__"), (53, "cmp_to_key.<locals>.K.__ge__")]
noncomputable def KMade (h : Heap) (m t : Nat) : Prop := 175 ≤ m ∧ h.get? 40 = some (kT0 m) ∧ h.get? (m + 4) = some (kT5 m) ∧ h.get? (m + 5) = some (kT6 m t) ∧ ∀ p ∈ kCodes, CodeOk h (.ref (m + p.1)) p.2
noncomputable def K40 (h : Heap) : Prop := h.get? 40 = some (tabObj #[]) ∨ ∃ m t, KMade h m t
theorem KMade.sft {h h' : Heap} {m t : Nat} (x : KMade h m t) (s : Sft h h') : KMade h' m t :=
  ⟨x.1, s _ _ x.2.1 ⟨.inl rfl, _, rfl⟩, s _ _ x.2.2.1 ⟨.inl rfl, _, rfl⟩, s _ _ x.2.2.2.1 ⟨.inr rfl, _, rfl⟩, fun p hp => (x.2.2.2.2 p hp).sft s⟩
theorem K40.sft {h h' : Heap} (x : K40 h) (s : Sft h h') : K40 h' := x.imp (fun e => s _ _ e ⟨.inl rfl, _, rfl⟩) fun ⟨m, t, y⟩ => ⟨m, t, y.sft s⟩
end Mine
end

section
open PySem PySem.W PyProof.Rows PySem.Calls
namespace Mine

/-- the facts of the text's own part that the walk reads -/
structure Gl (h : Heap) (mg mb : Str → Option Value) : Prop where
  g : h.Ns mainGlobals mg
  b : h.Ns builtinsNs mb
  lim : h.NoLimit

structure Inv (B : Shared) (s : Shared) : Prop where
  keep : ∀ b o, B.heap.get? b = some o → ¬ (IsTab o ∧ Mut b) → s.heap.get? b = some o
  size : B.heap.objs.size ≤ s.heap.objs.size
  t1 : TabAt s.heap 171 fun _ cv => CodeOk s.heap cv "law.<locals>.<lambda>"
  t2 : TabAt s.heap 110 fun _ cv => ∃ q, CodeOk s.heap cv q
  t3 : K40 s.heap
  os : s.os = B.os
  gens : AllBare s.gens

theorem TabAt.sft {h h' : Heap} {P : Addr} {ok ok' : Pos → Value → Prop} (x : TabAt h P ok) (s : Sft h h') (m : ∀ p v, ok p v → ok' p v) : TabAt h' P ok' :=
  let ⟨ps, e, t, k⟩ := x; ⟨ps, s _ _ e ⟨.inl rfl, _, rfl⟩, t, fun p v hv => m p v (k p v hv)⟩
theorem Inv.sft {B s s' : Shared} (x : Inv B s) (k : ∀ b o, s.heap.get? b = some o → b < B.heap.objs.size → s'.heap.get? b = some o) (hs : Sft s.heap s'.heap) (hz : s.heap.objs.size ≤ s'.heap.objs.size) (ho : s'.os = s.os) (hg : AllBare s'.gens) : Inv B s' where
  keep b o e q := k b o (x.keep b o e q) (Heap.lt_size e)
  size := Nat.le_trans x.size hz
  t1 := x.t1.sft hs fun _ _ q => q.sft hs
  t2 := x.t2.sft hs fun _ _ ⟨q, y⟩ => ⟨q, y.sft hs⟩
  t3 := x.t3.sft hs
  os := ho.trans x.os
  gens := hg
theorem Inv.push {B s : Shared} (x : Inv B s) (o : Obj) (t : Tok := s.toks) : Inv B { s with heap := s.heap.push o, toks := t } :=
  x.sft (fun _ _ e _ => Heap.get?_push_of_some _ e) (Sft.push _ _) (by simp) rfl x.gens
theorem Inv.tok {B s : Shared} (x : Inv B s) (t : Tok) : Inv B { s with toks := t } := x.sft (fun _ _ e _ => e) (Sft.refl _) (Nat.le_refl _) rfl x.gens
theorem Inv.same {B s : Shared} (x : Inv B s) {a : Addr} {o : Obj} {h' : Heap} (hs : Heap.SameBut a s.heap h') (ho : s.heap.get? a = some o) (hq : soft o) (hb : B.heap.objs.size ≤ a) (t : Tok := s.toks) : Inv B { s with heap := h', toks := t } :=
  x.sft (fun b o' e hlt => (hs.2 b (Nat.ne_of_lt (Nat.lt_of_lt_of_le hlt hb))).trans e) (Sft.same hs ho hq) (by show _ ≤ h'.objs.size; rw [hs.1]; exact Nat.le_refl _) rfl x.gens

structure Ext (B : Shared) (s : Shared) (F : Fz) (s' : Shared) (F' : Fz) : Prop where
  inv : Inv B s'
  size : s.heap.objs.size ≤ s'.heap.objs.size
  keep : ∀ b o, s.heap.get? b = some o → ¬ IsTab o → s'.heap.get? b = some o
  le : F.Le F'
  new : ∀ a o, F' a = some o → F a = some o ∨ s.heap.objs.size ≤ a ∨ Hard o
  fin : F'.In s'.heap

theorem Ext.refl {B s : Shared} {F : Fz} (i : Inv B s) (f : F.In s.heap) : Ext B s F s F := ⟨i, Nat.le_refl _, fun _ _ e _ => e, Fz.Le.refl _, fun _ _ e => .inl e, f⟩
theorem Ext.trans {B s s' s'' : Shared} {F F' F'' : Fz} (x : Ext B s F s' F') (y : Ext B s' F' s'' F'') : Ext B s F s'' F'' where
  inv := y.inv
  size := Nat.le_trans x.size y.size
  keep b o e q := y.keep b o (x.keep b o e q) q
  le := x.le.trans y.le
  new a o e := (y.new a o e).elim (fun e' => x.new a o e') fun h => .inr (h.imp (Nat.le_trans x.size) id)
  fin := y.fin
theorem Ext.tok {B s : Shared} {F : Fz} (i : Inv B s) (f : F.In s.heap) (t : Tok) : Ext B s F { s with toks := t } F := ⟨i.tok t, Nat.le_refl _, fun _ _ e _ => e, Fz.Le.refl _, fun _ _ e => .inl e, f⟩
theorem Ext.push {B s : Shared} {F : Fz} (i : Inv B s) (f : F.In s.heap) (o : Obj) (t : Tok := s.toks) : Ext B s F { s with heap := s.heap.push o, toks := t } F :=
  ⟨i.push o t, by simp, fun _ _ e _ => Heap.get?_push_of_some _ e, Fz.Le.refl _, fun _ _ e => .inl e, f.up fun _ _ e _ => Heap.get?_push_of_some _ e⟩

noncomputable def Fz.put (F : Fz) (a : Addr) (o : Obj) : Fz := fun b => if b = a then some o else F b
theorem Fz.put_self (F : Fz) (a : Addr) (o : Obj) : F.put a o a = some o := by simp [Fz.put]
/-- an object that the call has made since is frozen -/
theorem Ext.freeze {B s s' : Shared} {F F' : Fz} (x : Ext B s F s' F') {a : Addr} {o : Obj} (ha : s.heap.objs.size ≤ a) (ho : s'.heap.get? a = some o) (hn : F' a = none) (hq : ¬ IsTab o := by intro h; cases h.1) : Ext B s F s' (F'.put a o) where
  inv := x.inv
  size := x.size
  keep := x.keep
  le b o' e := by
    have := x.le b o' e
    unfold Fz.put
    split
    · rename_i h; subst h; rw [hn] at this; cases this
    · exact this
  new b o' e := by
    unfold Fz.put at e
    split at e
    · rename_i h; subst h; exact .inr (.inl ha)
    · exact x.new b o' e
  fin b o' e := by
    unfold Fz.put at e
    split at e
    · rename_i h; subst h; cases e; exact ⟨ho, hq⟩
    · exact x.fin b o' e
/-- a code object that stands is frozen -/
theorem Ext.freezeHard {B s s' : Shared} {F F' : Fz} (x : Ext B s F s' F') {a : Addr} {o : Obj} (ho : s'.heap.get? a = some o) (hq : ¬ IsTab o) (hh : s.heap.objs.size ≤ a ∨ Hard o) : Ext B s F s' (F'.put a o) where
  inv := x.inv
  size := x.size
  keep := x.keep
  le b o' e := by
    have := x.le b o' e
    unfold Fz.put
    split
    · rename_i h; subst h
      have h2 := (x.fin _ _ this).1
      rw [ho] at h2; exact h2
    · exact this
  new b o' e := by
    unfold Fz.put at e
    split at e
    · rename_i h; subst h; cases e; exact .inr hh
    · exact x.new b o' e
  fin b o' e := by
    unfold Fz.put at e
    split at e
    · rename_i h; subst h; cases e; exact ⟨ho, hq⟩
    · exact x.fin b o' e
noncomputable def Fz.puts (F : Fz) : List (Addr × Obj) → Fz
  | [] => F
  | p :: l => (F.puts l).put p.1 p.2
theorem Ext.freezes {B s s' : Shared} {F F' : Fz} (x : Ext B s F s' F') (l : List (Addr × Obj)) (h : ∀ p ∈ l, s'.heap.get? p.1 = some p.2 ∧ ¬ IsTab p.2 ∧ (s.heap.objs.size ≤ p.1 ∨ Hard p.2)) : Ext B s F s' (F'.puts l) := by
  induction l with
  | nil => exact x
  | cons p l ih => exact (ih fun q hq => h q (.tail _ hq)).freezeHard (h p (.head _)).1 (h p (.head _)).2.1 (h p (.head _)).2.2
theorem Fz.puts_at {F : Fz} {h : Heap} {l : List (Addr × Obj)} (hl : ∀ p ∈ l, h.get? p.1 = some p.2) : ∀ p ∈ l, F.puts l p.1 = some p.2 := by
  induction l with
  | nil => intro p hp; cases hp
  | cons q l ih =>
    intro p hp
    show ((F.puts l).put q.1 q.2) p.1 = some p.2
    unfold Fz.put
    split
    · rename_i e
      have h1 := hl p hp
      have h2 := hl q (.head _)
      rw [e, h2] at h1; exact h1
    · rename_i ne
      rcases List.mem_cons.mp hp with rfl | hp
      · exact absurd rfl ne
      · exact ih (fun p hp => hl p (.tail _ hp)) p hp
theorem Fz.le_put {F : Fz} {a : Addr} {o : Obj} (hn : F a = none) : F.Le (F.put a o) := fun b o' e => by
  unfold Fz.put
  split
  · rename_i h; subst h; rw [hn] at e; cases e
  · exact e
theorem Fz.none_of_in {F : Fz} {h : Heap} (f : F.In h) {a : Addr} (ha : h.objs.size ≤ a) : F a = none := by
  cases e : F a with
  | none => rfl
  | some o => exact absurd (Heap.lt_size (f a o e).1) (Nat.not_lt.mpr ha)

/-- where the walk stands: how much room is left -/
theorem turn_lt {n i : Nat} (h : i < n) : n + 1 - (i + 1) < n + 1 - i := Nat.sub_lt_sub_left (Nat.lt_succ_of_lt h) (Nat.lt_succ_self i)
theorem less_lt {n i : Nat} (h : i < n) : n - (i + 1) < n - i := Nat.sub_lt_sub_left h (Nat.lt_succ_self i)
structure Le (A : Around) (n : Nat) : Prop where
  handled : A.handled = none
  depth : A.depth ≤ 10 * n + 5
  units : A.units ≤ 40 * n + 20
theorem Le.deeper {A : Around} {n : Nat} (h : Le A n) (env : Env) : Le (A.deeper env) (n + 1) := ⟨h.handled, by have := h.depth; show A.depth + 1 ≤ _; (lia), by have := h.units; show A.units + 3 ≤ _; (lia)⟩
theorem Le.in1 {A : Around} {n : Nat} (h : Le A n) : Le A.in1 (n + 1) := ⟨h.handled, by have := h.depth; show A.depth ≤ _; (lia), by have := h.units; show A.units + 1 ≤ _; (lia)⟩
theorem Le.room {A : Around} {n : Nat} (h : Le A n) (hn : n ≤ 60) : A.depth < recursionLimit := by have := h.depth; show A.depth < 1000; (lia)
theorem Le.unit {A : Around} {n : Nat} (h : Le A n) (hn : n ≤ 60) : A.units < cLine := by have := h.units; show A.units < 9900; (lia)

section
variable (w : World)
/-- the tree ends in Q, and no way raises -/
noncomputable abbrev W {α : Type} (A : Around) (t : Sem α) (Q : α → Shared → Prop) (s : Shared) : Prop := wpAny (model PG w) A t Q (fun _ _ => False) s
/-- the code returns by R -/
noncomputable abbrev WC (A : Around) (c : Code) (R : Result → Shared → Prop) (s : Shared) : Prop := codeAny (model PG w) A c R s
end
theorem W.mono {w : World} {α : Type} {A : Around} {t : Sem α} {Q Q' : α → Shared → Prop} {s : Shared} (h : W w A t Q s) (k : ∀ a s', Q a s' → Q' a s') : W w A t Q' s := wpAny_mono h k fun _ _ h => h
theorem W.toE {w : World} {α : Type} {A : Around} {t : Sem α} {Q : α → Shared → Prop} {E : Value → Shared → Prop} {s : Shared} (h : W w A t Q s) : wpAny (model PG w) A t Q E s := wpAny_mono h (fun _ _ h => h) fun _ _ h => h.elim

/-- ends with a value of which r holds, all else as it was -/
noncomputable abbrev Gives (B : Shared) (s : Shared) (F : Fz) (r : Rp) (v : Value) (s' : Shared) : Prop := ∃ F', Ext B s F s' F' ∧ r.p F' v
theorem Gives.from {B s s₁ s₂ : Shared} {F F₁ : Fz} {r : Rp} {v : Value} (x : Ext B s F s₁ F₁) (g : Gives B s₁ F₁ r v s₂) : Gives B s F r v s₂ := let ⟨F', y, h⟩ := g; ⟨F', x.trans y, h⟩
end Mine
end

section
open PySem PySem.W PyProof.Rows PySem.Calls
namespace Mine

/-- a run of trees by reckoning alone: which object a load reads is told beforehand, and the places met are kept to be compared -/
noncomputable def dn : Code → Sem Fin := PySem.W.Fast.tw11892475500146522536 PySem.W.Fast.tw14364793385576792824
theorem dn_eq (c : Code) : dn c = denote table c := by
  unfold dn
  rw [← PySem.W.Fast.te11892475500146522536, ← PySem.W.Fast.te14364793385576792824, ← table_eq_tree]

/-- whose tree it is: one that is met from outside, or a code's own -/
inductive Fm where
  | top (A : Around)
  | inn (A : Around) (c : Code)
noncomputable def Fm.cur : Fm → Around
  | .top A => A
  | .inn A c => A.under c
inductive Kn where
  | base
  | ret (f : Fm) (k : Result → Sem Fin) (κ : Kn)
structure Out where
  f : Fm
  κ : Kn
  t : Sem Fin
  own : List (Addr × Obj)
  m : Nat
  i : Nat
  acc : List (Addr × Addr)

noncomputable def setAt {α : Type} : List α → Nat → α → List α
  | [], _, _ => []
  | _ :: r, 0, y => y :: r
  | x :: r, n + 1, y => x :: setAt r n y
noncomputable def nth {α : Type} : List α → Nat → Option α
  | [], _ => none
  | x :: _, 0 => some x
  | _ :: r, n + 1 => nth r n
noncomputable def okMk (hd : Option Value) : Bool := match hd with
  | none => true
  | some v => match v with
    | .none => true
    | .ref _ => true
    | _ => false
noncomputable def simD (S : Setting) (n₁ t₀ : Nat) (olds : List (Addr × Obj)) : Nat → List Nat → Fm → Kn → Sem Fin → List (Addr × Obj) → Nat → Nat → List (Addr × Addr) → Out
  | 0, _, f, κ, t, own, m, i, acc => ⟨f, κ, t, own, m, i, acc⟩
  | n + 1, sc, f, κ, t, own, m, i, acc => match t with
    | .pure fin => match fin with
      | .done fl => match κ with
        | .base => ⟨f, κ, t, own, m, i, acc⟩
        | .ret f' k κ' => simD S n₁ t₀ olds n sc f' κ' (k (.ok fl)) own m i acc
      | .again c' => match c'.quiet with
        | true => match f with
          | .inn A _ => simD S n₁ t₀ olds n sc (.inn A c') κ (dn c') own m i acc
          | .top _ => ⟨f, κ, t, own, m, i, acc⟩
        | false => ⟨f, κ, t, own, m, i, acc⟩
    | .raise e => match κ with
      | .base => ⟨f, κ, t, own, m, i, acc⟩
      | .ret f' k κ' => simD S n₁ t₀ olds n sc f' κ' (k (.error e)) own m i acc
    | .rule _ k => simD S n₁ t₀ olds n sc f κ (k ()) own m i acc
    | .at _ k => simD S n₁ t₀ olds n sc f κ (k ()) own m i acc
    | .point _ k => simD S n₁ t₀ olds n sc f κ (k ()) own m i acc
    | .ask k => simD S n₁ t₀ olds n sc f κ (k S) own m i acc
    | .load a _ k => match sc with
      | [] => ⟨f, κ, t, own, m, i, acc⟩
      | j :: sc' => match nth own j with
        | some p => simD S n₁ t₀ olds n sc' f κ (k p.2) own m i ((a, p.1) :: acc)
        | none => match nth olds (j - 1000) with
          | some p => simD S n₁ t₀ olds n sc' f κ (k p.2) own m i ((a, p.1) :: acc)
          | none => ⟨f, κ, t, own, m, i, acc⟩
    | .alloc o k => match o.isFreed with
      | true => ⟨f, κ, t, own, m, i, acc⟩
      | false => simD S n₁ t₀ olds n sc f κ (k (n₁ + m)) (own ++ [(n₁ + m, o)]) (m + 1) i acc
    | .update a _ u k => match sc with
      | [] => ⟨f, κ, t, own, m, i, acc⟩
      | j :: sc' => match nth own j with
        | some p => match (u p.2).isFreed with
          | true => ⟨f, κ, t, own, m, i, acc⟩
          | false => simD S n₁ t₀ olds n sc' f κ (k ()) (setAt own j (p.1, u p.2)) m i ((a, p.1) :: acc)
        | none => ⟨f, κ, t, own, m, i, acc⟩
    | .fresh k => simD S n₁ t₀ olds n sc f κ (k (t₀ + i)) own m (i + 1) acc
    | .handled b k => match b with
      | false => simD S n₁ t₀ olds n sc f κ (k f.cur.handled) own m i acc
      | true => ⟨f, κ, t, own, m, i, acc⟩
    | .call c' hd g l k => match okMk hd with
      | true => simD S n₁ t₀ olds n sc (.inn (f.cur.mark hd) c') (.ret f k κ) (dn c') own m i acc
      | false => ⟨f, κ, t, own, m, i, acc⟩
    | _ => ⟨f, κ, t, own, m, i, acc⟩
/-- the same once more, by another name (so that the kernel compares two runs by their ends) -/
noncomputable def simE (S : Setting) (n₁ t₀ : Nat) (olds : List (Addr × Obj)) : Nat → List Nat → Fm → Kn → Sem Fin → List (Addr × Obj) → Nat → Nat → List (Addr × Addr) → Out
  | 0, _, f, κ, t, own, m, i, acc => ⟨f, κ, t, own, m, i, acc⟩
  | n + 1, sc, f, κ, t, own, m, i, acc => match t with
    | .pure fin => match fin with
      | .done fl => match κ with
        | .base => ⟨f, κ, t, own, m, i, acc⟩
        | .ret f' k κ' => simE S n₁ t₀ olds n sc f' κ' (k (.ok fl)) own m i acc
      | .again c' => match c'.quiet with
        | true => match f with
          | .inn A _ => simE S n₁ t₀ olds n sc (.inn A c') κ (dn c') own m i acc
          | .top _ => ⟨f, κ, t, own, m, i, acc⟩
        | false => ⟨f, κ, t, own, m, i, acc⟩
    | .raise e => match κ with
      | .base => ⟨f, κ, t, own, m, i, acc⟩
      | .ret f' k κ' => simE S n₁ t₀ olds n sc f' κ' (k (.error e)) own m i acc
    | .rule _ k => simE S n₁ t₀ olds n sc f κ (k ()) own m i acc
    | .at _ k => simE S n₁ t₀ olds n sc f κ (k ()) own m i acc
    | .point _ k => simE S n₁ t₀ olds n sc f κ (k ()) own m i acc
    | .ask k => simE S n₁ t₀ olds n sc f κ (k S) own m i acc
    | .load a _ k => match sc with
      | [] => ⟨f, κ, t, own, m, i, acc⟩
      | j :: sc' => match nth own j with
        | some p => simE S n₁ t₀ olds n sc' f κ (k p.2) own m i ((a, p.1) :: acc)
        | none => match nth olds (j - 1000) with
          | some p => simE S n₁ t₀ olds n sc' f κ (k p.2) own m i ((a, p.1) :: acc)
          | none => ⟨f, κ, t, own, m, i, acc⟩
    | .alloc o k => match o.isFreed with
      | true => ⟨f, κ, t, own, m, i, acc⟩
      | false => simE S n₁ t₀ olds n sc f κ (k (n₁ + m)) (own ++ [(n₁ + m, o)]) (m + 1) i acc
    | .update a _ u k => match sc with
      | [] => ⟨f, κ, t, own, m, i, acc⟩
      | j :: sc' => match nth own j with
        | some p => match (u p.2).isFreed with
          | true => ⟨f, κ, t, own, m, i, acc⟩
          | false => simE S n₁ t₀ olds n sc' f κ (k ()) (setAt own j (p.1, u p.2)) m i ((a, p.1) :: acc)
        | none => ⟨f, κ, t, own, m, i, acc⟩
    | .fresh k => simE S n₁ t₀ olds n sc f κ (k (t₀ + i)) own m (i + 1) acc
    | .handled b k => match b with
      | false => simE S n₁ t₀ olds n sc f κ (k f.cur.handled) own m i acc
      | true => ⟨f, κ, t, own, m, i, acc⟩
    | .call c' hd g l k => match okMk hd with
      | true => simE S n₁ t₀ olds n sc (.inn (f.cur.mark hd) c') (.ret f k κ) (dn c') own m i acc
      | false => ⟨f, κ, t, own, m, i, acc⟩
    | _ => ⟨f, κ, t, own, m, i, acc⟩
end Mine
end

section
open PySem PySem.W PySem.W.X PyProof.Rows PySem.Calls
namespace Mine

theorem nth_mem {α : Type} : ∀ {l : List α} {n : Nat} {x : α}, nth l n = some x → x ∈ l
  | [], _, _, h => by cases h
  | _ :: _, 0, _, h => by cases h; exact .head _
  | _ :: r, n + 1, x, h => .tail _ (nth_mem (l := r) h)

/-- the objects `own` stand as said; all others that stood at first stand as they stood -/
structure Rep (h₀ : Heap) (n₁ : Nat) (h : Heap) (own : List (Addr × Obj)) (m : Nat) : Prop where
  size : h.objs.size = n₁ + m
  le : h₀.objs.size ≤ h.objs.size
  at_ : ∀ p ∈ own, h.get? p.1 = some p.2
  apart : (own.map (·.1)).Nodup
  keep : ∀ b o, h₀.get? b = some o → b ∉ own.map (·.1) → h.get? b = some o

theorem setAt_map {α β : Type} (f : α → β) : ∀ {l : List α} {n : Nat} {x y : α}, nth l n = some x → f y = f x → (setAt l n y).map f = l.map f
  | [], _, _, _, h, _ => by cases h
  | z :: r, 0, x, y, h, e => by cases h; exact congrArg (· :: r.map f) e
  | z :: r, n + 1, x, y, h, e => congrArg (f z :: ·) (setAt_map f (l := r) h e)
theorem Rep.alloc {h₀ h : Heap} {n₁ m : Nat} {own : List (Addr × Obj)} (R : Rep h₀ n₁ h own m) {o : Obj} (hf : o.isFreed = false) : Rep h₀ n₁ (h.push o) (own ++ [(n₁ + m, o)]) (m + 1) where
  size := by rw [Heap.size_push, R.size, Nat.add_assoc]
  le := Nat.le_trans R.le (by simp)
  at_ p hp := by
    rcases List.mem_append.mp hp with hp | hp
    · exact Heap.get?_push_of_some _ (R.at_ p hp)
    · rw [List.mem_singleton] at hp
      subst hp
      show (h.push o).get? (n₁ + m) = some o
      rw [← R.size]; exact Heap.get?_push_size _ hf
  apart := by
    rw [List.map_append]
    refine List.nodup_append.mpr ⟨R.apart, by simp, fun a ha b hb => ?_⟩
    simp only [List.map_cons, List.map_nil, List.mem_singleton] at hb
    subst hb
    obtain ⟨p, hp, rfl⟩ := List.mem_map.mp ha
    have := Heap.lt_size (R.at_ p hp)
    rw [R.size] at this
    exact Nat.ne_of_lt this
  keep b o e hb := Heap.get?_push_of_some _ (R.keep b o e fun q => hb (by rw [List.map_append]; exact List.mem_append_left _ q))
theorem nodup_update {h : Heap} {a : Addr} {f : Obj → Obj} {o : Obj} : ∀ {own : List (Addr × Obj)} {j : Nat}, nth own j = some (a, o) → (own.map (·.1)).Nodup → (∀ p ∈ own, h.get? p.1 = some p.2) → (f o).isFreed = false →
    ∀ p ∈ setAt own j (a, f o), (h.update a f).get? p.1 = some p.2 := by
  intro own j e nd at_ hf
  have ha : h.get? a = some o := at_ (a, o) (nth_mem e)
  have hs : Heap.SameBut a h (h.update a f) := Heap.SameBut.update ..
  have self : (h.update a f).get? a = some (f o) := by first | exact Heap.get?_update_self f ha hf | exact Heap.get?_update_self _ ha hf | (rw [Heap.get?_update_self _ ha]; exact hf)
  clear ha
  induction own generalizing j with
  | nil => cases e
  | cons z r ih =>
    rw [List.map_cons, List.nodup_cons] at nd
    cases j with
    | zero =>
      cases e
      intro p hp
      rcases List.mem_cons.mp hp with rfl | hp
      · exact self
      · refine (hs.2 p.1 ?_).trans (at_ p (.tail _ hp))
        rintro q
        exact nd.1 (List.mem_map.mpr ⟨p, hp, q⟩)
    | succ j =>
      intro p hp
      rcases List.mem_cons.mp hp with rfl | hp
      · refine (hs.2 p.1 ?_).trans (at_ p (.head _))
        rintro q
        exact nd.1 (List.mem_map.mpr ⟨(a, o), nth_mem (l := r) e, q.symm⟩)
      · exact ih (j := j) e nd.2 (fun p hp => at_ p (.tail _ hp)) p hp
theorem Rep.update {h₀ h : Heap} {n₁ m j : Nat} {own : List (Addr × Obj)} (R : Rep h₀ n₁ h own m) {a : Addr} {o : Obj} {f : Obj → Obj} (e : nth own j = some (a, o)) (hf : (f o).isFreed = false) : Rep h₀ n₁ (h.update a f) (setAt own j (a, f o)) m where
  size := by rw [(Heap.SameBut.update h a f).1, R.size]
  le := by rw [(Heap.SameBut.update h a f).1]; exact R.le
  at_ := nodup_update e R.apart R.at_ hf
  apart := by rw [setAt_map (·.1) (y := (a, f o)) e rfl]; exact R.apart
  keep b o' e' hb := by
    rw [setAt_map (·.1) (y := (a, f o)) e rfl] at hb
    exact ((Heap.SameBut.update h a f).2 b fun q => hb (q ▸ List.mem_map.mpr ⟨_, nth_mem e, rfl⟩)).trans (R.keep b o' e' hb)

theorem Rep.same {h₀ h h' : Heap} {n₁ m j : Nat} {own : List (Addr × Obj)} (R : Rep h₀ n₁ h own m) {b : Addr} {ob ob' : Obj} (e : nth own j = some (b, ob)) (hs : Heap.SameBut b h h') (hb : h'.get? b = some ob') : Rep h₀ n₁ h' (setAt own j (b, ob')) m where
  size := by rw [hs.1, R.size]
  le := by rw [hs.1]; exact R.le
  at_ := by
    have nd := R.apart
    have at_ := R.at_
    clear R
    induction own generalizing j with
    | nil => cases e
    | cons z r ih =>
      rw [List.map_cons, List.nodup_cons] at nd
      cases j with
      | zero =>
        cases e
        intro p hp
        rcases List.mem_cons.mp hp with rfl | hp
        · exact hb
        · exact (hs.2 p.1 (by rintro q; exact nd.1 (List.mem_map.mpr ⟨p, hp, q⟩))).trans (at_ p (.tail _ hp))
      | succ j =>
        intro p hp
        rcases List.mem_cons.mp hp with rfl | hp
        · exact (hs.2 p.1 (by rintro q; exact nd.1 (List.mem_map.mpr ⟨(b, ob), nth_mem (l := r) e, q.symm⟩))).trans (at_ p (.head _))
        · exact ih (j := j) e nd.2 (fun p hp => at_ p (.tail _ hp)) p hp
  apart := by rw [setAt_map (·.1) (y := (b, ob')) e rfl]; exact R.apart
  keep c o' e' hc := by
    rw [setAt_map (·.1) (y := (b, ob')) e rfl] at hc
    exact (hs.2 c fun q => hc (q ▸ List.mem_map.mpr ⟨_, nth_mem e, rfl⟩)).trans (R.keep c o' e' hc)
section
variable {w : World} {R₀ : Result → Shared → Prop}
noncomputable def postF (w : World) (f : Fm) (R : Result → Shared → Prop) : Fin → Shared → Prop := fun fin s => match fin with
  | .done fl => R (.ok fl) s
  | .again c' => match f with
    | .inn A _ => c'.quiet = true ∧ codeAny (model PG w) A c' R s
    | .top _ => False
noncomputable def endK (w : World) (R₀ : Result → Shared → Prop) : Kn → Result → Shared → Prop
  | .base => R₀
  | .ret f k κ => fun r s => wpAny (model PG w) f.cur (k r) (postF w f (endK w R₀ κ)) (fun e s' => endK w R₀ κ (.error e) s') s
noncomputable abbrev Mn (w : World) (R₀ : Result → Shared → Prop) (f : Fm) (κ : Kn) (t : Sem Fin) (s : Shared) : Prop := wpAny (model PG w) f.cur t (postF w f (endK w R₀ κ)) (fun e s' => endK w R₀ κ (.error e) s') s

/-- what is known at a stop -/
structure Stp (w : World) (R₀ : Result → Shared → Prop) (h₀ : Heap) (n₁ t₀ : Nat) (g : Array GenState) (d : Drawn) (os : OsState) (o : Out) : Prop where
  acc : ∀ p ∈ o.acc, p.1 = p.2
  go : ∀ h, Rep h₀ n₁ h o.own o.m → Mn w R₀ o.f o.κ o.t ⟨h, g, d, t₀ + o.i, os⟩

theorem okMk_ne {hd : Option Value} (h : okMk hd = true) : hd ≠ some byPass := by
  rintro rfl
  revert h
  decide
theorem inn_code {A : Around} {c : Code} {R : Result → Shared → Prop} {s : Shared} (h : wpAny (model PG w) (A.under c) (dn c) (postF w (.inn A c) R) (fun e s' => R (.error e) s') s) : codeAny (model PG w) A c R s := by
  rw [dn_eq] at h
  exact x_code (wpAny_mono h (fun fin s' q => by cases fin <;> exact q) fun _ _ q => q)

section
variable {S : Setting} {n₁ t₀ n : Nat} {olds : List (Addr × Obj)} {sc : List Nat} {f : Fm} {κ : Kn} {own : List (Addr × Obj)} {m i j : Nat} {acc : List (Addr × Addr)}
theorem simD_again {c' : Code} : simD S n₁ t₀ olds (n + 1) sc f κ (.pure (.again c')) own m i acc = (match c'.quiet with
  | true => match f with
    | .inn A _ => simD S n₁ t₀ olds n sc (.inn A c') κ (dn c') own m i acc
    | .top _ => ⟨f, κ, .pure (.again c'), own, m, i, acc⟩
  | false => ⟨f, κ, .pure (.again c'), own, m, i, acc⟩) := rfl
theorem simD_load {a : Addr} {q : Option Value} {k : Obj → Sem Fin} : simD S n₁ t₀ olds (n + 1) (j :: sc) f κ (.load a q k) own m i acc = (match nth own j with
  | some p => simD S n₁ t₀ olds n sc f κ (k p.2) own m i ((a, p.1) :: acc)
  | none => match nth olds (j - 1000) with
    | some p => simD S n₁ t₀ olds n sc f κ (k p.2) own m i ((a, p.1) :: acc)
    | none => ⟨f, κ, .load a q k, own, m, i, acc⟩) := rfl
theorem simD_alloc {o : Obj} {k : Addr → Sem Fin} : simD S n₁ t₀ olds (n + 1) sc f κ (.alloc o k) own m i acc = (match o.isFreed with
  | true => ⟨f, κ, .alloc o k, own, m, i, acc⟩
  | false => simD S n₁ t₀ olds n sc f κ (k (n₁ + m)) (own ++ [(n₁ + m, o)]) (m + 1) i acc) := rfl
theorem simD_update {a : Addr} {q : Option Value} {u : Obj → Obj} {k : Unit → Sem Fin} : simD S n₁ t₀ olds (n + 1) (j :: sc) f κ (.update a q u k) own m i acc = (match nth own j with
  | some p => match (u p.2).isFreed with
    | true => ⟨f, κ, .update a q u k, own, m, i, acc⟩
    | false => simD S n₁ t₀ olds n sc f κ (k ()) (setAt own j (p.1, u p.2)) m i ((a, p.1) :: acc)
  | none => ⟨f, κ, .update a q u k, own, m, i, acc⟩) := rfl
theorem simD_call {c' : Code} {hd : Option Value} {gd : Bool} {l : List Value} {k : Result → Sem Fin} : simD S n₁ t₀ olds (n + 1) sc f κ (.call c' hd gd l k) own m i acc = (match okMk hd with
  | true => simD S n₁ t₀ olds n sc (.inn (f.cur.mark hd) c') (.ret f k κ) (dn c') own m i acc
  | false => ⟨f, κ, .call c' hd gd l k, own, m, i, acc⟩) := rfl
end
theorem simD_sound {h₀ : Heap} {n₁ t₀ : Nat} {olds : List (Addr × Obj)} {g : Array GenState} {d : Drawn} {os : OsState} (hold : ∀ p ∈ olds, h₀.get? p.1 = some p.2) :
    ∀ (n : Nat) (sc : List Nat) (f : Fm) (κ : Kn) (t : Sem Fin) (own : List (Addr × Obj)) (m i : Nat) (acc : List (Addr × Addr)), (∀ p ∈ olds, p.1 ∉ own.map (·.1) ∧ p.1 < n₁) →
      Stp w R₀ h₀ n₁ t₀ g d os (simD ⟨PG, w.params⟩ n₁ t₀ olds n sc f κ t own m i acc) → (∀ p ∈ acc, p.1 = p.2) ∧ ∀ h, Rep h₀ n₁ h own m → Mn w R₀ f κ t ⟨h, g, d, t₀ + i, os⟩
  | 0, sc, f, κ, t, own, m, i, acc, ho, S => ⟨S.acc, S.go⟩
  | n + 1, sc, f, κ, t, own, m, i, acc, ho, S => by
    have IH := simD_sound (g := g) (d := d) (os := os) hold n (n₁ := n₁) (t₀ := t₀)
    cases t with
    | pure fin =>
      cases fin with
      | done fl =>
        cases κ with
        | base => exact ⟨S.acc, S.go⟩
        | ret f' k κ' => exact (IH sc f' κ' (k (.ok fl)) own m i acc ho S).imp id fun z h r => x_pure (z h r)
      | again c' =>
        cases q : c'.quiet with
        | false => rw [simD_again, q] at S; exact ⟨S.acc, S.go⟩
        | true =>
          rw [simD_again, q] at S
          cases f with
          | top A => exact ⟨S.acc, S.go⟩
          | inn A c => exact (IH sc (.inn A c') κ (dn c') own m i acc ho S).imp id fun z h r => x_pure (show postF w (.inn A c) _ (.again c') _ from ⟨q, inn_code (z h r)⟩)
    | raise e =>
      cases κ with
      | base => exact ⟨S.acc, S.go⟩
      | ret f' k κ' => exact (IH sc f' κ' (k (.error e)) own m i acc ho S).imp id fun z h r => x_raise (z h r)
    | rule tag k => exact (IH sc f κ (k ()) own m i acc ho S).imp id fun z h r => x_rule (z h r)
    | «at» q k => exact (IH sc f κ (k ()) own m i acc ho S).imp id fun z h r => x_at (z h r)
    | point l k => exact (IH sc f κ (k ()) own m i acc ho S).imp id fun z h r => x_point (z h r)
    | ask k => exact (IH sc f κ (k ⟨PG, w.params⟩) own m i acc ho S).imp id fun z h r => x_ask (z h r)
    | load a q k =>
      cases sc with
      | nil => exact ⟨S.acc, S.go⟩
      | cons j sc =>
        rw [simD_load] at S
        cases e : nth own j with
        | some p =>
          rw [e] at S
          have z := IH sc f κ (k p.2) own m i _ ho S
          have ea : a = p.1 := z.1 _ (.head _)
          refine ⟨fun p hp => z.1 p (.tail _ hp), fun h r => x_load ?_ (z.2 h r)⟩
          rw [ea]; exact r.at_ p (nth_mem e)
        | none =>
          rw [e] at S
          dsimp only at S
          cases e' : nth olds (j - 1000) with
          | some p =>
            rw [e'] at S
            have z := IH sc f κ (k p.2) own m i _ ho S
            have ea : a = p.1 := z.1 _ (.head _)
            refine ⟨fun p hp => z.1 p (.tail _ hp), fun h r => x_load ?_ (z.2 h r)⟩
            rw [ea]; exact r.keep _ _ (hold p (nth_mem e')) (ho p (nth_mem e')).1
          | none => rw [e'] at S; exact ⟨S.acc, S.go⟩
    | alloc o k =>
      rw [simD_alloc] at S
      cases hf : o.isFreed with
      | true => rw [hf] at S; exact ⟨S.acc, S.go⟩
      | false =>
        rw [hf] at S
        have z := IH sc f κ (k (n₁ + m)) (own ++ [(n₁ + m, o)]) (m + 1) i acc (fun p hp => ⟨by
          rw [List.map_append, List.mem_append, not_or]
          refine ⟨(ho p hp).1, ?_⟩
          simp only [List.map_cons, List.map_nil, List.mem_singleton]
          have := (ho p hp).2
          exact Nat.ne_of_lt (Nat.lt_of_lt_of_le this (Nat.le_add_right ..)), (ho p hp).2⟩) S
        refine ⟨z.1, fun h r => wpAny_bind (m := PySem.alloc o) (f := k) (wpAny_alloc ?_)⟩
        show Mn w R₀ f κ (k h.objs.size) _
        rw [r.size]
        exact z.2 _ (r.alloc hf)
    | update a q u k =>
      cases sc with
      | nil => exact ⟨S.acc, S.go⟩
      | cons j sc =>
        rw [simD_update] at S
        cases e : nth own j with
        | some p =>
          rw [e] at S
          dsimp only at S
          cases hf : (u p.2).isFreed with
          | true => rw [hf] at S; exact ⟨S.acc, S.go⟩
          | false =>
            rw [hf] at S
            have z := IH sc f κ (k ()) (setAt own j (p.1, u p.2)) m i _ (fun q hq => ⟨by rw [setAt_map (·.1) (y := (p.1, u p.2)) e rfl]; exact (ho q hq).1, (ho q hq).2⟩) S
            have ea : a = p.1 := z.1 _ (.head _)
            subst ea
            exact ⟨fun p hp => z.1 p (.tail _ hp), fun h r => wpAny_bind (m := updatePart p.1 q u) (f := k) (wpAny_updatePart (r.at_ p (nth_mem e)) (z.2 _ (r.update e hf)))⟩
        | none => rw [e] at S; exact ⟨S.acc, S.go⟩
    | fresh k => exact (IH sc f κ (k (t₀ + i)) own m (i + 1) acc ho S).imp id fun z h r => x_fresh (z h r)
    | handled b k =>
      cases b with
      | true => exact ⟨S.acc, S.go⟩
      | false => exact (IH sc f κ (k f.cur.handled) own m i acc ho S).imp id fun z h r => x_handled (z h r)
    | call c' hd gd l k =>
      rw [simD_call] at S
      cases q : okMk hd with
      | false => rw [q] at S; exact ⟨S.acc, S.go⟩
      | true =>
        rw [q] at S
        exact (IH sc (.inn (f.cur.mark hd) c') (.ret f k κ) (dn c') own m i acc ho S).imp id fun z h r => x_call (inn_code (z h r)) (okMk_ne q)
    | loadIfAlive => exact ⟨S.acc, S.go⟩
    | stack => exact ⟨S.acc, S.go⟩
    | newGen => exact ⟨S.acc, S.go⟩
    | genState => exact ⟨S.acc, S.go⟩
    | resume => exact ⟨S.acc, S.go⟩
    | yield => exact ⟨S.acc, S.go⟩
    | unsupported => exact ⟨S.acc, S.go⟩
    | finish => exact ⟨S.acc, S.go⟩
    | register => exact ⟨S.acc, S.go⟩
    | choose => exact ⟨S.acc, S.go⟩
    | os => exact ⟨S.acc, S.go⟩
    | fork => exact ⟨S.acc, S.go⟩
    | thread => exact ⟨S.acc, S.go⟩
    | await => exact ⟨S.acc, S.go⟩
end
end Mine
end

section
open PySem PySem.W PySem.W.X PyProof.Rows PySem.Calls
namespace Mine
section
variable {w : World} {R₀ : Result → Shared → Prop} {h₀ : Heap} {n₁ t₀ : Nat} {g : Array GenState} {d : Drawn} {os : OsState} {olds : List (Addr × Obj)}

/-- from here on it ends well -/
structure Goes (w : World) (R₀ : Result → Shared → Prop) (h₀ : Heap) (n₁ t₀ : Nat) (g : Array GenState) (d : Drawn) (os : OsState) (o : Out) : Prop where
  acc : ∀ p ∈ o.acc, p.1 = p.2
  go : ∀ h, Rep h₀ n₁ h o.own o.m → Mn w R₀ o.f o.κ o.t ⟨h, g, d, t₀ + o.i, os⟩

noncomputable def sim (S : Setting) (n₁ t₀ : Nat) (olds : List (Addr × Obj)) (n : Nat) (sc : List Nat) (o : Out) : Out := match o with | ⟨f, κ, t, own, m, i, acc⟩ => simD S n₁ t₀ olds n sc f κ t own m i acc

noncomputable def simX (S : Setting) (n₁ t₀ : Nat) (olds : List (Addr × Obj)) (n : Nat) (sc : List Nat) (o : Out) : Out := match o with | ⟨f, κ, t, own, m, i, acc⟩ => simE S n₁ t₀ olds n sc f κ t own m i acc
/-- the objects known beforehand stay apart from those that change -/
noncomputable def offOk (olds : List (Addr × Obj)) (own : List (Addr × Obj)) : Prop := ∀ p ∈ olds, p.1 ∉ own.map (·.1)
theorem Rep.off {h : Heap} {own : List (Addr × Obj)} {m : Nat} (R : Rep h₀ n₁ h own m) : True := trivial

structure Olds (h₀ : Heap) (n₁ : Nat) (olds : List (Addr × Obj)) (o : Out) : Prop where
  at_ : ∀ p ∈ olds, h₀.get? p.1 = some p.2
  lt : ∀ p ∈ olds, p.1 < n₁
  off : ∀ p ∈ olds, p.1 ∉ o.own.map (·.1)

theorem simD_own {S : Setting} : ∀ (n : Nat) (sc : List Nat) (f : Fm) (κ : Kn) (t : Sem Fin) (own : List (Addr × Obj)) (m i : Nat) (acc : List (Addr × Addr)),
    ∀ b ∈ (simD S n₁ t₀ olds n sc f κ t own m i acc).own.map (·.1), b ∈ own.map (·.1) ∨ n₁ ≤ b
  | 0, sc, f, κ, t, own, m, i, acc => fun b hb => .inl hb
  | n + 1, sc, f, κ, t, own, m, i, acc => by
    have IH := simD_own (S := S) n
    intro b hb
    cases t with
    | pure fin =>
      cases fin with
      | done fl =>
        cases κ with
        | base => exact .inl hb
        | ret f' k κ' => exact IH _ _ _ _ _ _ _ _ b hb
      | again c' =>
        cases q : c'.quiet with
        | false => rw [simD_again, q] at hb; exact .inl hb
        | true =>
          rw [simD_again, q] at hb
          cases f with
          | top A => exact .inl hb
          | inn A c => exact IH _ _ _ _ _ _ _ _ b hb
    | raise e =>
      cases κ with
      | base => exact .inl hb
      | ret f' k κ' => exact IH _ _ _ _ _ _ _ _ b hb
    | rule tag k => exact IH _ _ _ _ _ _ _ _ b hb
    | «at» q k => exact IH _ _ _ _ _ _ _ _ b hb
    | point l k => exact IH _ _ _ _ _ _ _ _ b hb
    | ask k => exact IH _ _ _ _ _ _ _ _ b hb
    | load a q k =>
      cases sc with
      | nil => exact .inl hb
      | cons j sc =>
        rw [simD_load] at hb
        cases e : nth own j with
        | some p => rw [e] at hb; exact IH _ _ _ _ _ _ _ _ b hb
        | none =>
          rw [e] at hb
          dsimp only at hb
          cases e' : nth olds (j - 1000) with
          | some p => rw [e'] at hb; exact IH _ _ _ _ _ _ _ _ b hb
          | none => rw [e'] at hb; exact .inl hb
    | alloc o k =>
      rw [simD_alloc] at hb
      cases hf : o.isFreed with
      | true => rw [hf] at hb; exact .inl hb
      | false =>
        rw [hf] at hb
        rcases IH _ _ _ _ _ _ _ _ b hb with h | h
        · rw [List.map_append] at h
          rcases List.mem_append.mp h with h | h
          · exact .inl h
          · simp only [List.map_cons, List.map_nil, List.mem_singleton] at h
            subst h; exact .inr (Nat.le_add_right ..)
        · exact .inr h
    | update a q u k =>
      cases sc with
      | nil => exact .inl hb
      | cons j sc =>
        rw [simD_update] at hb
        cases e : nth own j with
        | some p =>
          rw [e] at hb
          dsimp only at hb
          cases hf : (u p.2).isFreed with
          | true => rw [hf] at hb; exact .inl hb
          | false =>
            rw [hf] at hb
            rcases IH _ _ _ _ _ _ _ _ b hb with h | h
            · rw [setAt_map (·.1) (y := (p.1, u p.2)) e rfl] at h; exact .inl h
            · exact .inr h
        | none => rw [e] at hb; exact .inl hb
    | fresh k => exact IH _ _ _ _ _ _ _ _ b hb
    | handled c k =>
      cases c with
      | true => exact .inl hb
      | false => exact IH _ _ _ _ _ _ _ _ b hb
    | call c' hd gd l k =>
      rw [simD_call] at hb
      cases q : okMk hd with
      | false => rw [q] at hb; exact .inl hb
      | true => rw [q] at hb; exact IH _ _ _ _ _ _ _ _ b hb
    | _ => exact .inl hb
theorem Olds.run {S : Setting} {o : Out} (O : Olds h₀ n₁ olds o) (n : Nat) (sc : List Nat) : Olds h₀ n₁ olds (sim S n₁ t₀ olds n sc o) :=
  ⟨O.at_, O.lt, fun p hp q => (simD_own n sc o.f o.κ o.t o.own o.m o.i o.acc _ q).elim (O.off p hp) fun h => absurd (O.lt p hp) (Nat.not_lt.mpr h)⟩
theorem Goes.run (n : Nat) (sc : List Nat) {o : Out} (O : Olds h₀ n₁ olds o) (G : Olds h₀ n₁ olds (sim ⟨PG, w.params⟩ n₁ t₀ olds n sc o) → Goes w R₀ h₀ n₁ t₀ g d os (sim ⟨PG, w.params⟩ n₁ t₀ olds n sc o)) : Goes w R₀ h₀ n₁ t₀ g d os o :=
  let G := G (O.run n sc)
  let z := simD_sound (g := g) (d := d) (os := os) O.at_ n sc o.f o.κ o.t o.own o.m o.i o.acc (fun p hp => ⟨O.off p hp, O.lt p hp⟩) ⟨G.acc, G.go⟩
  ⟨z.1, z.2⟩
theorem Olds.with_ {o o' : Out} (O : Olds h₀ n₁ olds o) (e : o'.own = o.own) : Olds h₀ n₁ olds o' := ⟨O.at_, O.lt, by rw [e]; exact O.off⟩

theorem Goes.stack {o : Out} {A : Around} {K : List (Code × Pos) → Sem Fin} (e : o.t = .stack K) (hA : o.f.cur = A) (ha : ∀ p ∈ o.acc, p.1 = p.2) (G : ∀ st, Lies A st → Goes w R₀ h₀ n₁ t₀ g d os { o with t := K st }) : Goes w R₀ h₀ n₁ t₀ g d os o := by
  subst hA
  obtain ⟨f, κ, t, own, m, i, acc⟩ := o
  cases (show t = .stack K from e)
  exact ⟨ha, fun h r Γ p hΓ => (G ((Γ.code, p) :: Γ.below) (lies_of hΓ)).go h r Γ p hΓ⟩
theorem Goes.turn {o : Out} {t' : Sem Fin} (e : o.t = t') (G : Goes w R₀ h₀ n₁ t₀ g d os { o with t := t' }) : Goes w R₀ h₀ n₁ t₀ g d os o := by subst e; exact G
noncomputable abbrev Lk := List (Code × Pos) → Nat → Nat → Bool
theorem accOk {o : Out} (h : o.acc.map (·.1) = o.acc.map (·.2)) : ∀ p ∈ o.acc, p.1 = p.2 := by
  generalize o.acc = l at h
  induction l with
  | nil => intro p hp; cases hp
  | cons q r ih =>
    intro p hp
    simp only [List.map_cons, List.cons.injEq] at h
    rcases List.mem_cons.mp hp with rfl | hp
    · exact h.1
    · exact ih h.2 p hp
noncomputable def stU : Sem Unit → List (Code × Pos) → Sem Unit
  | .stack k, st => k st
  | t, _ => t
noncomputable def ldU : Sem Unit → Obj → Sem Unit
  | .load _ _ k, o => k o
  | t, _ => t
noncomputable def qU : Sem Unit → Option Value
  | .load _ q _ => q
  | _ => none
theorem enter_stack : enterFrame 0 = .stack (fun st => stU (enterFrame 0) st) := by kernel_rfl
theorem enter_load (st : List (Code × Pos)) : stU (enterFrame 0) st = .load cStatics (qU (stU (enterFrame 0) st)) (fun o => ldU (stU (enterFrame 0) st) o) := by kernel_rfl
/-- a frame is entered amid the tree: the looks at the stack say no -/
theorem Goes.enter {A : Around} {S : Setting} (T : Sem Unit → Sem Fin) (o : Out) (n : Nat) (sc : List Nat) (j : Nat) (ob : Obj) (hS : S = ⟨PG, w.params⟩) (hA : o.f.cur = A)
    (O : Olds h₀ n₁ olds o) (ho : o.t = T (enterFrame 0))
    (k1 : ∀ k, (sim S n₁ t₀ olds n sc { o with t := T (.stack k) }).t = .stack fun st => (sim S n₁ t₀ olds n sc { o with t := T (k st) }).t)
    (k1' : ∀ a q k, (sim S n₁ t₀ olds n sc { o with t := T (.load a q k) }).t = .load a q fun ob => (sim S n₁ t₀ olds n sc { o with t := T (k ob) }).t)
    (k2 : (sim S n₁ t₀ olds n sc { o with t := T (enterFrame 0) }).f.cur = o.f.cur)
    (k3 : (sim S n₁ t₀ olds n sc { o with t := T (enterFrame 0) }).acc.map (·.1) = (sim S n₁ t₀ olds n sc { o with t := T (enterFrame 0) }).acc.map (·.2))
    (hj : nth olds (j - 1000) = some (cStatics, ob)) (hj' : nth (sim S n₁ t₀ olds n sc { o with t := T (enterFrame 0) }).own j = none) (hob : ∀ st, Lies A st → ldU (stU (enterFrame 0) st) ob = .pure ())
    (G : Olds h₀ n₁ olds (sim S n₁ t₀ olds n sc { o with t := T (enterFrame 0) }) → Goes w R₀ h₀ n₁ t₀ g d os { sim S n₁ t₀ olds n sc { o with t := T (enterFrame 0) } with t := (sim S n₁ t₀ olds n sc { o with t := T (.pure ()) }).t }) :
    Goes w R₀ h₀ n₁ t₀ g d os o := by
  subst hS
  refine Goes.turn ho (Goes.run n sc (O.with_ rfl) fun O₁ => ?_)
  have e1 : (sim ⟨PG, w.params⟩ n₁ t₀ olds n sc { o with t := T (enterFrame 0) }).t = .stack fun st => (sim ⟨PG, w.params⟩ n₁ t₀ olds n sc { o with t := T (stU (enterFrame 0) st) }).t := by
    conv => lhs; rw [enter_stack]
    exact k1 _
  refine Goes.stack (A := A) e1 (k2.trans hA) (accOk k3) fun st lies => ?_
  have e2 : (sim ⟨PG, w.params⟩ n₁ t₀ olds n sc { o with t := T (stU (enterFrame 0) st) }).t = .load cStatics (qU (stU (enterFrame 0) st)) fun ob => (sim ⟨PG, w.params⟩ n₁ t₀ olds n sc { o with t := T (ldU (stU (enterFrame 0) st) ob) }).t := by
    conv => lhs; rw [enter_load]
    exact k1' _ _ _
  have G' := G O₁
  generalize hgen : sim ⟨PG, w.params⟩ n₁ t₀ olds n sc { o with t := T (enterFrame 0) } = o₁ at *
  refine Goes.turn e2 (Goes.run 1 [j] (O₁.with_ rfl) fun O₂ => ?_)
  have e3 : sim ⟨PG, w.params⟩ n₁ t₀ olds 1 [j] { o₁ with t := .load cStatics (qU (stU (enterFrame 0) st)) fun ob => (sim ⟨PG, w.params⟩ n₁ t₀ olds n sc { o with t := T (ldU (stU (enterFrame 0) st) ob) }).t } =
      { o₁ with t := (sim ⟨PG, w.params⟩ n₁ t₀ olds n sc { o with t := T (.pure ()) }).t, acc := (cStatics, cStatics) :: o₁.acc } := by
    unfold sim
    dsimp only
    rw [simD_load, hj', hj]
    dsimp only
    rw [hob st lies]
    rfl
  rw [e3]
  exact ⟨fun p hp => by
    rcases List.mem_cons.mp hp with rfl | hp
    · rfl
    · exact G'.acc p hp, G'.go⟩
theorem Goes.enter' {f : Fm} {κ : Kn} {own : List (Addr × Obj)} {m i : Nat} {acc : List (Addr × Addr)} {A : Around} {S : Setting} (T : Sem Unit → Sem Fin) (n : Nat) (sc : List Nat) (j : Nat) (ob : Obj) (hS : S = ⟨PG, w.params⟩) (hA : f.cur = A)
    (O : Olds h₀ n₁ olds ⟨f, κ, .pure (.done .next), own, m, i, acc⟩) 
    (k1 : ∀ k, (sim S n₁ t₀ olds n sc ⟨f, κ, T (.stack k), own, m, i, acc⟩).t = .stack fun st => (sim S n₁ t₀ olds n sc ⟨f, κ, T (k st), own, m, i, acc⟩).t)
    (k1' : ∀ a q k, (sim S n₁ t₀ olds n sc ⟨f, κ, T (.load a q k), own, m, i, acc⟩).t = .load a q fun ob => (sim S n₁ t₀ olds n sc ⟨f, κ, T (k ob), own, m, i, acc⟩).t)
    (k2 : (sim S n₁ t₀ olds n sc ⟨f, κ, T (enterFrame 0), own, m, i, acc⟩).f.cur = f.cur)
    (k3 : (sim S n₁ t₀ olds n sc ⟨f, κ, T (enterFrame 0), own, m, i, acc⟩).acc.map (·.1) = (sim S n₁ t₀ olds n sc ⟨f, κ, T (enterFrame 0), own, m, i, acc⟩).acc.map (·.2))
    (hj : nth olds (j - 1000) = some (cStatics, ob)) (hj' : nth (sim S n₁ t₀ olds n sc ⟨f, κ, T (enterFrame 0), own, m, i, acc⟩).own j = none) (hob : ∀ st, Lies A st → ldU (stU (enterFrame 0) st) ob = .pure ())
    (G : Olds h₀ n₁ olds (sim S n₁ t₀ olds n sc ⟨f, κ, T (enterFrame 0), own, m, i, acc⟩) → Goes w R₀ h₀ n₁ t₀ g d os { sim S n₁ t₀ olds n sc ⟨f, κ, T (enterFrame 0), own, m, i, acc⟩ with t := (sim S n₁ t₀ olds n sc ⟨f, κ, T (.pure ()), own, m, i, acc⟩).t }) :
    ∀ E, enterFrame 0 = E → Goes w R₀ h₀ n₁ t₀ g d os ⟨f, κ, T E, own, m, i, acc⟩ := fun E hE => by
  subst hE
  exact Goes.enter T ⟨f, κ, T (enterFrame 0), own, m, i, acc⟩ n sc j ob hS hA (O.with_ rfl) rfl k1 k1' k2 k3 hj hj' hob G
noncomputable def againC (o : Out) : Option Code := match o.f with
  | .inn _ _ => match o.t with
    | .pure fin => match fin with
      | .again c => match c.quiet with
        | true => some c
        | false => none
      | _ => none
    | _ => none
  | .top _ => none
noncomputable def Fm.to : Fm → Code → Fm
  | .inn A _, c => .inn A c
  | .top A, _ => .top A
theorem againC_inv {o : Out} {c : Code} (e : againC o = some c) : ∃ A c₀, o.f = .inn A c₀ ∧ o.t = .pure (.again c) ∧ c.quiet = true := by
  obtain ⟨f, κ, t, own, m, i, acc⟩ := o
  unfold againC at e
  dsimp only at e ⊢
  split at e <;> try cases e
  split at e <;> try cases e
  split at e <;> try cases e
  split at e <;> try cases e
  exact ⟨_, _, rfl, rfl, ‹_›⟩
/-- the tree of the code that takes its place, in other words -/
theorem Goes.again {o : Out} {c : Code} {t' : Sem Fin} (e : againC o = some c) (ht : denote table c = t') (G : Goes w R₀ h₀ n₁ t₀ g d os { o with f := o.f.to c, t := t' }) : Goes w R₀ h₀ n₁ t₀ g d os o := by
  obtain ⟨A, c₀, h1, h2, q⟩ := againC_inv e
  obtain ⟨f, κ, t, own, m, i, acc⟩ := o
  cases h1
  cases h2
  refine ⟨G.acc, fun h r => x_pure (show postF w (.inn A c₀) _ (.again c) _ from ⟨q, inn_code ?_⟩)⟩
  rw [dn_eq, ht]; exact G.go h r
noncomputable def κf : Kn → Fm
  | .ret f _ _ => f
  | .base => .top {}
noncomputable def κk : Kn → Result → Sem Fin
  | .ret _ k _, r => k r
  | .base, _ => .unsupported ""
noncomputable def κκ : Kn → Kn
  | .ret _ _ κ => κ
  | .base => .base
noncomputable def isRet : Kn → Bool
  | .ret .. => true
  | .base => false
theorem again_codes {o : Out} {c : Code} (e : againC o = some c) (eκ : isRet o.κ = true) (ha : ∀ p ∈ o.acc, p.1 = p.2)
    (G : ∀ h A, Rep h₀ n₁ h o.own o.m → codeAny (model PG w) A c (fun r s' => Mn w R₀ (κf o.κ) (κκ o.κ) (κk o.κ r) s') ⟨h, g, d, t₀ + o.i, os⟩) : Goes w R₀ h₀ n₁ t₀ g d os o := by
  obtain ⟨A, c₀, h1, h2, q⟩ := againC_inv e
  obtain ⟨f, κ, t, own, m, i, acc⟩ := o
  cases h1
  cases h2
  cases κ with
  | base => cases eκ
  | ret f' k κ' => exact ⟨ha, fun h rp => x_pure (show postF w (.inn A c₀) _ (.again c) _ from ⟨q, G h A rp⟩)⟩
theorem Rep.known {h : Heap} {o : Out} (R : Rep h₀ n₁ h o.own o.m) (O : Olds h₀ n₁ olds o) : ∀ p ∈ olds, h.get? p.1 = some p.2 := fun p hp => R.keep _ _ (O.at_ p hp) (O.off p hp)
theorem Olds.set {o o' : Out} (O : Olds h₀ n₁ olds o) {j : Nat} {b : Addr} {ob ob' : Obj} (hj : nth o.own j = some (b, ob)) (e : o'.own = setAt o.own j (b, ob')) : Olds h₀ n₁ olds o' :=
  ⟨O.at_, O.lt, by rw [e, setAt_map (·.1) (y := (b, ob')) hj rfl]; exact O.off⟩
theorem Olds.more {o o' : Out} (O : Olds h₀ n₁ olds o) {a : Addr} {ob : Obj} (ha : n₁ ≤ a) (e : o'.own = o.own ++ [(a, ob)]) : Olds h₀ n₁ olds o' :=
  ⟨O.at_, O.lt, fun p hp q => by
    rw [e, List.map_append] at q
    rcases List.mem_append.mp q with q | q
    · exact O.off p hp q
    · simp only [List.map_cons, List.map_nil, List.mem_singleton] at q
      exact absurd (O.lt p hp) (Nat.not_lt.mpr (q ▸ ha))⟩
/-- a code by a fact about it: one of the own objects changes -/
theorem Goes.upd {o : Out} {c : Code} {r : Result} {j : Nat} {b : Addr} {ob ob' : Obj} (O : Olds h₀ n₁ olds o) (e : againC o = some c) (eκ : isRet o.κ = true) (hj : nth o.own j = some (b, ob))
    (hc : ∀ (A : Around) (s : Shared) (R : Result → Shared → Prop), (∀ p ∈ o.own, s.heap.get? p.1 = some p.2) → (∀ p ∈ olds, s.heap.get? p.1 = some p.2) → (∀ h', Heap.SameBut b s.heap h' → h'.get? b = some ob' → R r { s with heap := h' }) → codeAny (model PG w) A c R s)
    (G : Olds h₀ n₁ olds { o with f := κf o.κ, κ := κκ o.κ, t := κk o.κ r, own := setAt o.own j (b, ob') } → Goes w R₀ h₀ n₁ t₀ g d os { o with f := κf o.κ, κ := κκ o.κ, t := κk o.κ r, own := setAt o.own j (b, ob') }) : Goes w R₀ h₀ n₁ t₀ g d os o :=
  have G := G (O.set hj rfl)
  again_codes e eκ G.acc fun h A rp => hc A _ _ rp.at_ (rp.known O) fun h' hs hb => G.go h' (rp.same hj hs hb)
/-- a code by a fact about it: an object more -/
theorem Goes.new {o : Out} {c : Code} {ob : Obj} (O : Olds h₀ n₁ olds o) (e : againC o = some c) (eκ : isRet o.κ = true) (hf : ob.isFreed = false)
    (hc : ∀ (A : Around) (s : Shared) (R : Result → Shared → Prop), (∀ p ∈ o.own, s.heap.get? p.1 = some p.2) → (∀ p ∈ olds, s.heap.get? p.1 = some p.2) → R (.ok (.ret (.ref s.heap.objs.size))) { s with heap := s.heap.push ob } → codeAny (model PG w) A c R s)
    (G : Olds h₀ n₁ olds { o with f := κf o.κ, κ := κκ o.κ, t := κk o.κ (.ok (.ret (.ref (n₁ + o.m)))), own := o.own ++ [(n₁ + o.m, ob)], m := o.m + 1 } → Goes w R₀ h₀ n₁ t₀ g d os { o with f := κf o.κ, κ := κκ o.κ, t := κk o.κ (.ok (.ret (.ref (n₁ + o.m)))), own := o.own ++ [(n₁ + o.m, ob)], m := o.m + 1 }) : Goes w R₀ h₀ n₁ t₀ g d os o :=
  have G := G (O.more (Nat.le_add_right ..) rfl)
  again_codes e eκ G.acc fun h A rp => hc A _ _ rp.at_ (rp.known O) (by
    show Mn w R₀ _ _ (κk o.κ (.ok (.ret (.ref h.objs.size)))) _
    rw [rp.size]
    exact G.go _ (rp.alloc hf))
theorem Olds.own_eq {o o' : Out} (O : Olds h₀ n₁ olds o) (e : o.own = o'.own) : Olds h₀ n₁ olds o' := ⟨O.at_, O.lt, by rw [← e]; exact O.off⟩
theorem Goes.norm4 {o : Out} {own' : List (Addr × Obj)} {m' i' : Nat} (hw : o.own = own') (hm : o.m = m') (hi : o.i = i') (G : Goes w R₀ h₀ n₁ t₀ g d os { o with own := own', m := m', i := i' }) : Goes w R₀ h₀ n₁ t₀ g d os o := by
  subst hw; subst hm; subst hi; exact G
theorem Goes.norm {o : Out} {m' i' : Nat} (hm : o.m = m') (hi : o.i = i') (G : Goes w R₀ h₀ n₁ t₀ g d os { o with m := m', i := i' }) : Goes w R₀ h₀ n₁ t₀ g d os o := by
  subst hm; subst hi; exact G
noncomputable def tA : Out → Sem Fin
  | ⟨_, _, t, _, _, _, _⟩ => t
noncomputable def tX : Out → Sem Fin
  | ⟨_, _, t, _, _, _, _⟩ => t
theorem tA_eq (o : Out) : tA o = o.t := by cases o; rfl
theorem tX_eq (o : Out) : tX o = o.t := by cases o; rfl
/-- a function of the tree's, asked once: its answer is put in -/
theorem Goes.asked {α β γ : Type} {F₀ : β → γ → α} (T : (β → γ → α) → Out) (n : Nat) (sc : List Nat) (a : β) (b : γ) (l : α)
    (O : Olds h₀ n₁ olds (T F₀))
    (h : ∀ F, tA (sim ⟨PG, w.params⟩ n₁ t₀ olds n sc (T F)) = tX (simX ⟨PG, w.params⟩ n₁ t₀ olds n sc (T (fun _ _ => F a b)))) (hl : F₀ a b = l)
    (G : Olds h₀ n₁ olds (sim ⟨PG, w.params⟩ n₁ t₀ olds n sc (T F₀)) → Goes w R₀ h₀ n₁ t₀ g d os { sim ⟨PG, w.params⟩ n₁ t₀ olds n sc (T F₀) with t := (simX ⟨PG, w.params⟩ n₁ t₀ olds n sc (T (fun _ _ => l))).t }) :
    ∀ F, F₀ = F → Goes w R₀ h₀ n₁ t₀ g d os (T F) := fun F hF => by
  subst hF
  refine Goes.run n sc O fun O₁ => Goes.turn ?_ (G O₁)
  rw [← tA_eq, h, hl, tX_eq]
theorem den {id : String} {args : Args} {b : Builtin} (h : entryFor table id = some b) : denote table (.builtin id args) = b args := by
  show (match entryFor table id with | some b => b args | none => _) = _
  rw [h]
noncomputable def endV (o : Out) : Option Value := match o.κ with
  | .base => match o.t with
    | .pure f => match f with
      | .done fl => match fl with
        | .ret v => some v
        | _ => none
      | _ => none
    | _ => none
  | _ => none
theorem Goes.end_ {o : Out} {v : Value} (e : endV o = some v) (ha : ∀ p ∈ o.acc, p.1 = p.2) (G : ∀ h, Rep h₀ n₁ h o.own o.m → R₀ (.ok (.ret v)) ⟨h, g, d, t₀ + o.i, os⟩) : Goes w R₀ h₀ n₁ t₀ g d os o := by
  obtain ⟨f, κ, t, own, m, i, acc⟩ := o
  refine ⟨ha, fun h r => ?_⟩
  have z := G h r
  unfold endV at e
  dsimp only at e z ⊢
  split at e <;> try cases e
  split at e <;> try cases e
  split at e <;> try cases e
  split at e <;> try cases e
  exact x_pure (show postF w f (endK w R₀ .base) (.done (.ret v)) _ from z)
/-- the start: a tree met from outside -/
theorem goes_start {A : Around} {t : Sem Value} {Q : Value → Shared → Prop} {s : Shared} {own : List (Addr × Obj)} (hn : s.heap.objs.size = n₁) (ho : ∀ p ∈ own, s.heap.get? p.1 = some p.2) (nd : (own.map (·.1)).Nodup)
    (G : Goes w (fun r s' => match r with | .ok (.ret v) => Q v s' | _ => False) s.heap n₁ s.toks s.gens s.drawn s.os ⟨.top A, .base, t.bind fun v => (Sem.pure (PySem.Fin.done (.ret v)) : Sem PySem.Fin), own, 0, 0, []⟩) : W w A t Q s := by
  have z := G.go s.heap ⟨hn, Nat.le_refl _, ho, nd, fun _ _ e _ => e⟩
  intro Γ p hΓ
  have y := z Γ p hΓ
  have y' : Sem.wp (model PG w) Γ (t >>= fun v => (Sem.pure (PySem.Fin.done (.ret v)) : Sem PySem.Fin)) _ _ p s := y
  rw [Sem.wp_bind'] at y'
  exact Sem.wp_mono _ Γ t (fun _ _ _ q => q) (fun _ _ _ q => q) p s y'
end
end Mine
end

section
open PySem PySem.W PySem.W.X PyProof.Rows PySem.Calls
namespace Mine
/-- a call that goes through in one run by reckoning -/
theorem one_run {w : World} {A : Around} {s : Shared} {t : Sem Value} {Q : Value → Shared → Prop} (olds : List (Addr × Obj)) (n : Nat) (sc : List Nat) (own' : List (Addr × Obj)) (m' i' : Nat) (v : Value) (O : ∀ p ∈ olds, s.heap.get? p.1 = some p.2)
    (e1 : (sim ⟨PG, w.params⟩ s.heap.objs.size s.toks olds n sc ⟨.top A, .base, t.bind fun v => .pure (.done (.ret v)), [], 0, 0, []⟩).own = own')
    (e2 : (sim ⟨PG, w.params⟩ s.heap.objs.size s.toks olds n sc ⟨.top A, .base, t.bind fun v => .pure (.done (.ret v)), [], 0, 0, []⟩).m = m')
    (e3 : (sim ⟨PG, w.params⟩ s.heap.objs.size s.toks olds n sc ⟨.top A, .base, t.bind fun v => .pure (.done (.ret v)), [], 0, 0, []⟩).i = i')
    (e4 : endV (sim ⟨PG, w.params⟩ s.heap.objs.size s.toks olds n sc ⟨.top A, .base, t.bind fun v => .pure (.done (.ret v)), [], 0, 0, []⟩) = some v)
    (e5 : (sim ⟨PG, w.params⟩ s.heap.objs.size s.toks olds n sc ⟨.top A, .base, t.bind fun v => .pure (.done (.ret v)), [], 0, 0, []⟩).acc.map (·.1) = (sim ⟨PG, w.params⟩ s.heap.objs.size s.toks olds n sc ⟨.top A, .base, t.bind fun v => .pure (.done (.ret v)), [], 0, 0, []⟩).acc.map (·.2))
    (hQ : ∀ h, Rep s.heap s.heap.objs.size h own' m' → Q v ⟨h, s.gens, s.drawn, s.toks + i', s.os⟩) : W w A t Q s :=
  goes_start (n₁ := s.heap.objs.size) (own := []) rfl (fun _ h => nomatch h) .nil
    (Goes.run (olds := olds) n sc ⟨O, fun p hp => Heap.lt_size (O p hp), fun _ _ h => nomatch h⟩ fun _ => Goes.norm4 e1 e2 e3 (Goes.end_ e4 (accOk e5) hQ))
theorem Rep.ext {B s : Shared} {F : Fz} {h : Heap} {own : List (Addr × Obj)} {m : Nat} (i : Inv B s) (f : F.In s.heap) (R : Rep s.heap s.heap.objs.size h own m) (ho : ∀ p ∈ own, s.heap.objs.size ≤ p.1) (t : Tok) : Ext B s F { s with heap := h, toks := t } F := by
  have k : ∀ b o, s.heap.get? b = some o → h.get? b = some o := fun b o e => R.keep b o e fun q => by
    obtain ⟨p, hp, q⟩ := List.mem_map.mp q
    exact absurd (Heap.lt_size e) (Nat.not_lt.mpr (q ▸ ho p hp))
  exact ⟨i.sft (fun b o e _ => k b o e) (fun b o e _ => k b o e) R.le rfl i.gens, R.le, fun b o e _ => k b o e, Fz.Le.refl _, fun _ _ e => .inl e, f.up fun a o e _ => k a o e⟩
theorem one_new {n₁ : Nat} {o : Obj} : ∀ p ∈ [(n₁ + 0, o)], n₁ ≤ p.1 := fun p hp => by rw [List.mem_singleton.mp hp]; exact Nat.le_refl _
theorem all_one {h : Heap} {a : Addr} {o : Obj} (e : h.get? a = some o) : ∀ p ∈ [(a, o)], h.get? p.1 = some p.2 := fun p hp => by rw [List.mem_singleton.mp hp]; exact e
end Mine
end

section
open PySem PySem.W PyProof.Rows PySem.Calls
namespace Mine

structure EnvOK (B : Shared) (env : Env) (h : Heap) (F : Fz) : Prop where
  kd : env.scope.kind = .function
  gl : env.globals = mainGlobals
  bi : env.builtins = builtinsNs
  loc : ∃ m, h.Ns env.locals m
  locF : F env.locals = none
  locB : B.heap.objs.size ≤ env.locals
  cells : ∀ x c, env.cells.lookup x = some c → (∃ v, h.IsCell c v) ∧ F c = none ∧ B.heap.objs.size ≤ c
  apart : ∀ x y c, env.cells.lookup x = some c → env.cells.lookup y = some c → x = y

noncomputable def Loads (env : Env) (h : Heap) (F : Fz) (x : Str) (r : Rp) : Prop := ∃ v, r.p F v ∧ ((env.kindOf x = some .local ∧ ∃ m, h.Ns env.locals m ∧ m x = some v) ∨
  ((env.kindOf x = some .cell ∨ env.kindOf x = some .free) ∧ ∃ c, env.cells.lookup x = some c ∧ h.IsCell c (some v)))
noncomputable abbrev Vars := List (Str × Rp)

structure St (B : Shared) (env : Env) (vars : Vars) (F : Fz) (s : Shared) : Prop where
  inv : Inv B s
  fin : F.In s.heap
  eok : EnvOK B env s.heap F
  vars : ∀ p ∈ vars, Loads env s.heap F p.1 p.2

theorem Ns.ext {h h' : Heap} {a : Addr} {m : Str → Option Value} (x : h.Ns a m) (k : ∀ b o, h.get? b = some o → ¬ IsTab o → h'.get? b = some o) : h'.Ns a m :=
  let ⟨o, es, ep, e, d, r⟩ := x; ⟨o, es, ep, k _ _ e (fun ⟨_, vs, q⟩ => by rw [d] at q; cases q), d, r⟩
theorem Cell.ext {h h' : Heap} {a : Addr} {v : Option Value} (x : h.IsCell a v) (k : ∀ b o, h.get? b = some o → ¬ IsTab o → h'.get? b = some o) : h'.IsCell a v :=
  let ⟨o, e, d⟩ := x; ⟨o, k _ _ e (fun ⟨_, vs, q⟩ => by rw [d] at q; cases q), d⟩
theorem Ext.noneAt {B s s' : Shared} {F F' : Fz} (x : Ext B s F s' F') {a : Addr} {o : Obj} (ho : s.heap.get? a = some o) (hq : soft o) (h : F a = none) : F' a = none := by
  cases e : F' a with
  | none => rfl
  | some o' =>
    rcases x.new a o' e with q | q | q
    · rw [h] at q; cases q
    · exact absurd (Heap.lt_size ho) (Nat.not_lt.mpr q)
    · have h1 := x.keep a o ho (soft.ntab hq)
      rw [(x.fin a o' e).1] at h1
      cases h1; exact absurd q hq

theorem EnvOK.ext {B s s' : Shared} {env : Env} {F F' : Fz} (E : EnvOK B env s.heap F) (x : Ext B s F s' F') : EnvOK B env s'.heap F' where
  kd := E.kd
  gl := E.gl
  bi := E.bi
  loc := let ⟨m, hm⟩ := E.loc; ⟨m, Ns.ext hm x.keep⟩
  locF := let ⟨_, o, es, ep, e, d, _⟩ := E.loc; x.noneAt e (soft_of fun vs q => by rw [d] at q; cases q) E.locF
  locB := E.locB
  cells n c h := let ⟨⟨v, hv⟩, f, b⟩ := E.cells n c h; let ⟨_, e, d⟩ := id hv; ⟨⟨v, Cell.ext hv x.keep⟩, x.noneAt e (soft_of fun vs q => by rw [d] at q; cases q) f, b⟩
  apart := E.apart
theorem Loads.ext {B s s' : Shared} {env : Env} {F F' : Fz} {y : Str} {r : Rp} (L : Loads env s.heap F y r) (x : Ext B s F s' F') : Loads env s'.heap F' y r :=
  let ⟨v, hv, k⟩ := L; ⟨v, r.mono _ _ _ x.le hv, k.imp (fun ⟨a, m, b, c⟩ => ⟨a, m, Ns.ext b x.keep, c⟩) fun ⟨a, c, b, d⟩ => ⟨a, c, b, Cell.ext d x.keep⟩⟩
theorem St.ext {B s s' : Shared} {env : Env} {vars : Vars} {F F' : Fz} (S : St B env vars F s) (x : Ext B s F s' F') : St B env vars F' s' :=
  ⟨x.inv, x.fin, S.eok.ext x, fun p hp => (S.vars p hp).ext x⟩
theorem St.sub {B s : Shared} {env : Env} {vars vars' : Vars} {F : Fz} (S : St B env vars F s) (h : ∀ p ∈ vars', p ∈ vars) : St B env vars' F s := ⟨S.inv, S.fin, S.eok, fun p hp => S.vars p (h p hp)⟩

/-- a name met among the written ones -/
inductive Has : Vars → Str → Rp → Prop
  | here {x r l} : Has ((x, r) :: l) x r
  | there {p l x r} : Has l x r → Has (p :: l) x r
theorem Has.mem {vars : Vars} {x : Str} {r : Rp} (h : Has vars x r) : (x, r) ∈ vars := by
  induction h with
  | here => exact .head _
  | there _ ih => exact .tail _ ih

section
variable (w : World) (B : Shared)
/-- the expression's value is one of which r holds -/
structure Ev (n : Nat) (env : Env) (vars : Vars) (e : Expr) (r : Rp) : Prop where
  go : ∀ A s F, Le A n → St B env vars F s → W w A (eval e env) (Gives B s F r) s
structure Op2 (n : Nat) (t : Value → Value → Sem Value) (r₁ r₂ r : Rp) : Prop where
  go : ∀ A s F a b, Le A n → Inv B s → F.In s.heap → r₁.p F a → r₂.p F b → W w A (t a b) (Gives B s F r) s
structure Op1 (n : Nat) (t : Value → Sem Value) (r₁ r : Rp) : Prop where
  go : ∀ A s F a, Le A n → Inv B s → F.In s.heap → r₁.p F a → W w A (t a) (Gives B s F r) s
/-- the test comes out as b -/
structure EvT (n : Nat) (env : Env) (vars : Vars) (e : Expr) (b : Bool) : Prop where
  go : ∀ A s F, Le A n → St B env vars F s → W w A (isTrue e env (eval e env)) (fun c s' => c = b ∧ ∃ F', Ext B s F s' F') s
structure Tr (n : Nat) (r : Rp) (b : Bool) : Prop where
  go : ∀ A s F a, Le A n → Inv B s → F.In s.heap → r.p F a → W w A (truthy a) (fun c s' => c = b ∧ ∃ F', Ext B s F s' F') s
end

section
variable {w : World} {B : Shared} {n : Nat} {env : Env} {vars : Vars}

theorem loads_name {A : Around} {s : Shared} {F : Fz} {x : Str} {r : Rp} {pos : Pos} {Q : Value → Shared → Prop} (S : St B env vars F s) (h : Has vars x r) (hQ : ∀ v, r.p F v → Q v s)
    (hd : (x == ("__debug__" : Str)) = false) (hc : (x == ("__classdict__" : Str)) = false) : W w A (eval (.Name x pos) env) Q s := by
  obtain ⟨v, hv, k⟩ := S.vars _ h.mem
  refine wpAny_Name ?_ hd
  rcases k with ⟨kl, m, hm, hx⟩ | ⟨kc | kf, c, hc', hcell⟩
  · exact wpAny_loadName_local S.eok.kd kl hm hx (hQ v hv)
  · exact wpAny_loadName_cell S.eok.kd kc hc' hcell (hQ v hv)
  · exact wpAny_loadName_free S.eok.kd kf hc' hcell (hQ v hv) hc
theorem Ev.name {x : Str} {r : Rp} {pos : Pos} (h : Has vars x r) (hd : (x == ("__debug__" : Str)) = false := by decide) (hc : (x == ("__classdict__" : Str)) = false := by decide) : Ev w B n env vars (.Name x pos) r :=
  .mk fun _ s F _ S => loads_name S h (fun v hv => ⟨F, Ext.refl S.inv S.fin, hv⟩) hd hc
theorem Ev.int {i : Int} {k : Nat} {pos : Pos} : Ev w B n env vars (.Constant (.int i) k pos) (rInt i) := .mk fun _ s F _ S => wpAny_Constant_int ⟨F, Ext.tok S.inv S.fin _, _, rfl⟩
theorem Ev.str {x : Str} {k : Nat} {pos : Pos} : Ev w B n env vars (.Constant (.str x) k pos) (rStr x) := .mk fun _ s F _ S => Constant_str ⟨F, Ext.tok S.inv S.fin _, _, rfl⟩
theorem Ev.bool {b : Bool} {k : Nat} {pos : Pos} : Ev w B n env vars (.Constant (.bool b) k pos) (rBool b) := .mk fun _ s F _ S => wpAny_Constant_bool ⟨F, Ext.refl S.inv S.fin, rfl⟩
theorem Ev.none {k : Nat} {pos : Pos} : Ev w B n env vars (.Constant .none k pos) rNone := .mk fun _ s F _ S => wpAny_Constant_none ⟨F, Ext.refl S.inv S.fin, rfl⟩
theorem Ev.imp {e : Expr} {r r' : Rp} (h : Ev w B n env vars e r) (k : ∀ F v, r.p F v → r'.p F v) : Ev w B n env vars e r' := .mk fun A s F l S => (h.go A s F l S).mono fun v s' ⟨F', x, y⟩ => ⟨F', x, k _ _ y⟩
theorem Ev.eq {e : Expr} {r r' : Rp} (h : Ev w B n env vars e r) (k : r = r') : Ev w B n env vars e r' := k ▸ h

theorem Ev.two {l r : Expr} {r₁ r₂ r₃ : Rp} {t : Value → Value → Sem Value} {A : Around} {s : Shared} {F : Fz} (hA : Le A n) (S : St B env vars F s) (h₁ : Ev w B n env vars l r₁) (h₂ : Ev w B n env vars r r₂) (h₃ : Op2 w B n t r₁ r₂ r₃) :
    W w A (eval l env) (fun a s₁ => W w A (eval r env) (fun b s₂ => W w A (t a b) (Gives B s F r₃) s₂) s₁) s := by
  refine (h₁.go A s F hA S).mono fun a s₁ ⟨F₁, x₁, p₁⟩ => (h₂.go A s₁ F₁ hA (S.ext x₁)).mono fun b s₂ ⟨F₂, x₂, p₂⟩ => ?_
  exact (h₃.go A s₂ F₂ a b hA x₂.inv x₂.fin (r₁.mono _ _ _ x₂.le p₁) p₂).mono fun v s' g => g.from (x₁.trans x₂)
theorem Ev.bin {l r : Expr} {op : Operator} {pos : Pos} {r₁ r₂ r₃ : Rp} (h₁ : Ev w B n env vars l r₁) (h₂ : Ev w B n env vars r r₂) (h₃ : Op2 w B n (binaryOp op) r₁ r₂ r₃) : Ev w B n env vars (.BinOp l op r pos) r₃ :=
  .mk fun A s F hA S => wpAny_BinOp (Ev.two hA S h₁ h₂ h₃)
theorem Ev.cmp {l r : Expr} {op : CmpOp} {pos : Pos} {r₁ r₂ r₃ : Rp} (h₁ : Ev w B n env vars l r₁) (h₂ : Ev w B n env vars r r₂) (h₃ : Op2 w B n (compareOp op) r₁ r₂ r₃) (hm : behindInMarks op r = false := by with_unfolding_all rfl) :
    Ev w B n env vars (.Compare l [op] [r] pos) r₃ := .mk fun A s F hA S => wpAny_Compare1 (Ev.two hA S h₁ h₂ h₃) hm
theorem EvT.cmp {l r : Expr} {op : CmpOp} {pos : Pos} {r₁ r₂ r₃ : Rp} {b : Bool} (h₁ : Ev w B n env vars l r₁) (h₂ : Ev w B n env vars r r₂) (h₃ : Op2 w B n (compareOp op) r₁ r₂ r₃) (h₄ : Tr w B n r₃ b) (hm : behindInMarks op r = false := by with_unfolding_all rfl) :
    EvT w B n env vars (.Compare l [op] [r] pos) b := .mk fun A s F hA S => wpAny_isTrue_Compare1 (by
  refine (h₁.go A s F hA S).mono fun a s₁ ⟨F₁, x₁, p₁⟩ => (h₂.go A s₁ F₁ hA (S.ext x₁)).mono fun c s₂ ⟨F₂, x₂, p₂⟩ => ?_
  refine (h₃.go A s₂ F₂ a c hA x₂.inv x₂.fin (r₁.mono _ _ _ x₂.le p₁) p₂).mono fun v s₃ ⟨F₃, x₃, p₃⟩ => ?_
  exact (h₄.go A s₃ F₃ v hA x₃.inv x₃.fin p₃).mono fun c s' ⟨e, F', x'⟩ => ⟨e, F', ((x₁.trans x₂).trans x₃).trans x'⟩) hm
theorem Tr.bool {b : Bool} : Tr w B n (rBool b) b := .mk fun A s F a _ i f e => by
  cases (show a = .bool b from e)
  exact wpAny_truthy_bool ⟨rfl, F, Ext.refl i f⟩
theorem EvT.not {x : Expr} {pos : Pos} {b : Bool} (h : EvT w B n env vars x b) : EvT w B n env vars (.UnaryOp .Not x pos) (!b) := .mk fun A s F hA S =>
  wpAny_isTrue_Not ((h.go A s F hA S).mono fun c s' ⟨e, q⟩ => ⟨by rw [e], q⟩)
theorem EvT.ext {x : Expr} {b b' : Bool} (h : EvT w B n env vars x b) (e : b = b') : EvT w B n env vars x b' := e ▸ h

structure AllT (w : World) (B : Shared) (n : Nat) (env : Env) (vars : Vars) (op : BoolOp) (es : List Expr) (b : Bool) : Prop where
  go : ∀ A s F, Le A n → St B env vars F s → W w A (allTrue op es env) (fun c s' => c = b ∧ ∃ F', Ext B s F s' F') s
theorem AllT.and_nil : AllT w B n env vars .And [] true := .mk fun A s F _ S => by
  rw [arm_allTrue_nil]
  exact wpAny_pure ⟨rfl, F, Ext.refl S.inv S.fin⟩
theorem AllT.or_nil : AllT w B n env vars .Or [] false := .mk fun A s F _ S => by
  rw [arm_allTrue_nil]
  exact wpAny_pure ⟨rfl, F, Ext.refl S.inv S.fin⟩
theorem AllT.and_cons {x : Expr} {r : List Expr} {a b : Bool} (h : EvT w B n env vars x a) (k : a = true → AllT w B n env vars .And r b) : AllT w B n env vars .And (x :: r) (a && b) := .mk fun A s F hA S =>
  wpAny_allTrue_And_cons ((h.go A s F hA S).mono fun c s₁ ⟨e, F₁, x₁⟩ => by
    subst e
    cases c with
    | true => exact ((k rfl).go A s₁ F₁ hA (S.ext x₁)).mono fun d s' ⟨e, F', x'⟩ => ⟨by rw [e]; rfl, F', x₁.trans x'⟩
    | false => exact ⟨rfl, F₁, x₁⟩)
theorem AllT.or_cons {x : Expr} {r : List Expr} {a b : Bool} (h : EvT w B n env vars x a) (k : a = false → AllT w B n env vars .Or r b) : AllT w B n env vars .Or (x :: r) (a || b) := .mk fun A s F hA S =>
  wpAny_allTrue_Or_cons ((h.go A s F hA S).mono fun c s₁ ⟨e, F₁, x₁⟩ => by
    subst e
    cases c with
    | false => exact ((k rfl).go A s₁ F₁ hA (S.ext x₁)).mono fun d s' ⟨e, F', x'⟩ => ⟨by rw [e]; rfl, F', x₁.trans x'⟩
    | true => exact ⟨rfl, F₁, x₁⟩)
theorem EvT.bop {op : BoolOp} {es : List Expr} {pos : Pos} {b : Bool} (h : AllT w B n env vars op es b) : EvT w B n env vars (.BoolOp op es pos) b := .mk fun A s F hA S => wpAny_isTrue_BoolOp (h.go A s F hA S)
theorem Ev.ite {t a c : Expr} {pos : Pos} {b : Bool} {r : Rp} (h : EvT w B n env vars t b) (h₁ : b = true → Ev w B n env vars a r) (h₂ : b = false → Ev w B n env vars c r) : Ev w B n env vars (.IfExp t a c pos) r := .mk fun A s F hA S =>
  wpAny_IfExp ((h.go A s F hA S).mono fun d s₁ ⟨e, F₁, x₁⟩ => by
    subst e
    cases d with
    | true => exact ((h₁ rfl).go A s₁ F₁ hA (S.ext x₁)).mono fun v s' g => g.from x₁
    | false => exact ((h₂ rfl).go A s₁ F₁ hA (S.ext x₁)).mono fun v s' g => g.from x₁)
end

section
variable {w : World} {B : Shared} {n : Nat} {a b : Int}
theorem Op2.ints {f : Value → Value → Sem Value} {c : Rp} (h : ∀ A s F t u, Le A n → Inv B s → F.In s.heap → W w A (f (.int a t) (.int b u)) (Gives B s F c) s) : Op2 w B n f (rInt a) (rInt b) c :=
  .mk fun A s F x y l i f ⟨t, e⟩ ⟨u, e'⟩ => by subst e; subst e'; exact h A s F t u l i f
theorem op_add : Op2 w B n (binaryOp .Add) (rInt a) (rInt b) (rInt (a + b)) := .ints fun A s F t u _ i f => add_int ⟨F, Ext.tok i f _, _, rfl⟩
theorem op_sub : Op2 w B n (binaryOp .Sub) (rInt a) (rInt b) (rInt (a - b)) := .ints fun A s F t u _ i f => sub_int ⟨F, Ext.tok i f _, _, rfl⟩
theorem op_mul (hm : IntMulOk a b) : Op2 w B n (binaryOp .Mult) (rInt a) (rInt b) (rInt (a * b)) := .ints fun A s F t u _ i f => mul_int ⟨F, Ext.tok i f _, _, rfl⟩ hm
theorem op_mod (hb : b ≠ 0) : Op2 w B n (binaryOp .Mod) (rInt a) (rInt b) (rInt (a.fmod b)) := .ints fun A s F t u _ i f => mod_int' hb ⟨F, Ext.tok i f _, _, rfl⟩
theorem op_div (hb : b ≠ 0) (hp : Builtin.divisionGoesByPylong a b = false) : Op2 w B n (binaryOp .FloorDiv) (rInt a) (rInt b) (rInt (a.fdiv b)) := .ints fun A s F t u _ i f => floordiv_int hb ⟨F, Ext.tok i f _, _, rfl⟩ (.inl hp)
theorem op_pow (hn : 0 ≤ b) (hs : (Builtin.Int.intBits a : Int) * b ≤ 2 ^ 27) : Op2 w B n (binaryOp .Pow) (rInt a) (rInt b) (rInt (a ^ b.toNat)) := .ints fun A s F t u _ i f => pow_int hn hs ⟨F, Ext.tok i f _, _, rfl⟩
theorem op_shl (hn : 0 ≤ b) (h2 : b ≤ 1000000) (ha : a.natAbs < 2 ^ 64) : Op2 w B n (binaryOp .LShift) (rInt a) (rInt b) (rInt (a * 2 ^ b.toNat)) := .ints fun A s F t u _ i f => lshift_int_small hn h2 ha ⟨F, Ext.tok i f _, _, rfl⟩
theorem op_shr (hn : 0 ≤ b) : Op2 w B n (binaryOp .RShift) (rInt a) (rInt b) (rInt (a.fdiv (2 ^ b.toNat))) := .ints fun A s F t u _ i f => rshift_int hn ⟨F, Ext.tok i f _, _, rfl⟩
theorem op_and : Op2 w B n (binaryOp .BitAnd) (rInt a) (rInt b) (rInt (Builtin.bitAnd a b)) := .ints fun A s F t u _ i f => and_int ⟨F, Ext.tok i f _, _, rfl⟩
theorem op_or : Op2 w B n (binaryOp .BitOr) (rInt a) (rInt b) (rInt (Builtin.bitOr a b)) := .ints fun A s F t u _ i f => or_int ⟨F, Ext.tok i f _, _, rfl⟩
theorem cmp_lt : Op2 w B n (compareOp .Lt) (rInt a) (rInt b) (rBool (decide (a < b))) := .ints fun A s F t u _ i f => lt_int ⟨F, Ext.refl i f, rfl⟩
theorem cmp_gt : Op2 w B n (compareOp .Gt) (rInt a) (rInt b) (rBool (decide (a > b))) := .ints fun A s F t u _ i f => gt_int ⟨F, Ext.refl i f, rfl⟩
theorem cmp_le : Op2 w B n (compareOp .LtE) (rInt a) (rInt b) (rBool (decide (a ≤ b))) := .ints fun A s F t u _ i f => le_int ⟨F, Ext.refl i f, rfl⟩
theorem cmp_ge : Op2 w B n (compareOp .GtE) (rInt a) (rInt b) (rBool (decide (a ≥ b))) := .ints fun A s F t u _ i f => ge_int ⟨F, Ext.refl i f, rfl⟩
theorem cmp_eq : Op2 w B n (compareOp .Eq) (rInt a) (rInt b) (rBool (a == b)) := .ints fun A s F t u _ i f => eq_int ⟨F, Ext.refl i f, rfl⟩
end
end Mine
end

section
open PySem PySem.W PyProof.Rows PySem.Calls
namespace Mine

/-- a name of the block's own -/
noncomputable def Own (env : Env) (N : Nat) (x : Str) : Prop := (env.kindOf x = some .local ∧ N ≤ env.locals) ∨ (env.kindOf x = some .cell ∧ ∃ c, env.cells.lookup x = some c ∧ N ≤ c)

structure Rn (B s₀ : Shared) (F₀ : Fz) (env : Env) (vars : Vars) (F : Fz) (s : Shared) : Prop where
  st : St B env vars F s
  ext : Ext B s₀ F₀ s F

theorem Ns.uniq {h : Heap} {a : Addr} {m m' : Str → Option Value} (x : h.Ns a m) (y : h.Ns a m') (n : Str) : m n = m' n := by
  obtain ⟨o, es, ep, e, d, k, f⟩ := x
  obtain ⟨o', es', ep', e', d', k', f'⟩ := y
  rw [e] at e'; cases e'
  rw [d] at d'; cases d'
  rw [← f, ← f']
theorem Ns.ne_cell {h : Heap} {a c : Addr} {m : Str → Option Value} {v : Option Value} (x : h.Ns a m) (y : h.IsCell c v) : c ≠ a := by
  rintro rfl
  obtain ⟨o, es, ep, e, d, _⟩ := x
  obtain ⟨o', e', d'⟩ := y
  rw [e] at e'; cases e'
  rw [d] at d'; cases d'
theorem Fz.In.same {F : Fz} {h h' : Heap} {a : Addr} (f : F.In h) (hs : Heap.SameBut a h h') (hn : F a = none) : F.In h' := fun b o e => by
  have ne : b ≠ a := by rintro rfl; rw [hn] at e; cases e
  exact ⟨(hs.2 b ne).trans (f b o e).1, (f b o e).2⟩
theorem Ext.same {B s₀ s : Shared} {F₀ F : Fz} (x : Ext B s₀ F₀ s F) {a : Addr} {o : Obj} {h' : Heap} (hs : Heap.SameBut a s.heap h') (ho : s.heap.get? a = some o) (hq : soft o) (hb : B.heap.objs.size ≤ a) (h0 : s₀.heap.objs.size ≤ a) (hn : F a = none) (t : Tok := s.toks) :
    Ext B s₀ F₀ { s with heap := h', toks := t } F :=
  ⟨x.inv.same hs ho hq hb t, by show _ ≤ h'.objs.size; rw [hs.1]; exact x.size, fun b o' e q => (hs.2 b (Nat.ne_of_lt (Nat.lt_of_lt_of_le (Heap.lt_size e) h0))).trans (x.keep b o' e q), x.le, x.new, x.fin.same hs hn⟩

section
variable {w : World} {B s₀ s : Shared} {F₀ F : Fz} {env : Env} {vars : Vars} {A : Around}

theorem store'' {vars' : Vars} {x : Str} {r : Rp} {v : Value} {Q : Unit → Shared → Prop} (R : Rn B s₀ F₀ env vars F s) (hv : r.p F v) (ho : Own env s₀.heap.objs.size x) (hs : ∀ p ∈ vars', p ∈ vars ∧ p.1 ≠ x)
    (h : ∀ s', Rn B s₀ F₀ env ((x, r) :: vars') F s' → (∀ b o, s.heap.get? b = some o → b ≠ env.locals → (∀ v, o.data ≠ .cell v) → s'.heap.get? b = some o) → Q () s') : W w A (storeName env x v) Q s := by
  obtain ⟨m, hm⟩ := R.st.eok.loc
  have hmm := hm
  obtain ⟨oL, es, ep, eL, dL, _⟩ := hmm
  have sL : soft oL := soft_of fun vs q => by rw [dL] at q; cases q
  rcases ho with ⟨hl, hN⟩ | ⟨hc, c, hlk, hN⟩
  · refine wpAny_storeName_local hl hm (fun h' hn' hsb => h _ ⟨⟨?_, ?_, ?_, ?_⟩, ?_⟩ fun b o e k1 k2 => (hsb.2 b k1).trans e) (by rw [R.st.eok.kd]; rfl)
    · exact R.st.inv.same hsb eL sL R.st.eok.locB _
    · exact R.st.fin.same hsb R.st.eok.locF
    · exact ⟨R.st.eok.kd, R.st.eok.gl, R.st.eok.bi, ⟨_, hn'⟩, R.st.eok.locF, R.st.eok.locB, fun y c hy => let ⟨⟨u, hu⟩, f, b⟩ := R.st.eok.cells y c hy; ⟨⟨u, hu.sameBut hsb (Ns.ne_cell hm hu)⟩, f, b⟩, R.st.eok.apart⟩
    · intro p hp
      rcases List.mem_cons.mp hp with rfl | hp
      · exact ⟨v, hv, .inl ⟨hl, _, hn', by simp⟩⟩
      · obtain ⟨u, hu, k⟩ := R.st.vars p (hs p hp).1
        refine ⟨u, hu, k.imp (fun ⟨a, m', b, e⟩ => ⟨a, _, hn', ?_⟩) fun ⟨a, c, b, d⟩ => ⟨a, c, b, d.sameBut hsb (Ns.ne_cell hm d)⟩⟩
        show (if p.1 = x then some v else m p.1) = some u
        rw [if_neg (hs p hp).2, Ns.uniq hm b, e]
    · exact R.ext.same hsb eL sL R.st.eok.locB hN R.st.eok.locF _
  · obtain ⟨⟨u₀, hu₀⟩, fc, bc⟩ := R.st.eok.cells x c hlk
    have hce := hu₀
    obtain ⟨oc, ec, dc⟩ := hce
    have sc : soft oc := soft_of fun vs q => by rw [dc] at q; cases q
    refine wpAny_storeName_cell R.st.eok.kd hc hlk hu₀ fun h' hc' hsb => h _ ⟨⟨?_, ?_, ?_, ?_⟩, ?_⟩ fun b o e k1 k2 => (hsb.2 b (by rintro rfl; rw [ec] at e; cases e; exact k2 _ dc)).trans e
    · exact R.st.inv.same hsb ec sc bc _
    · exact R.st.fin.same hsb fc
    · refine ⟨R.st.eok.kd, R.st.eok.gl, R.st.eok.bi, ⟨_, hm.sameBut hsb (Ns.ne_cell hm hu₀).symm⟩, R.st.eok.locF, R.st.eok.locB, fun y c' hy => ?_, R.st.eok.apart⟩
      obtain ⟨⟨u, hu⟩, f, b⟩ := R.st.eok.cells y c' hy
      by_cases e : c' = c
      · subst e; exact ⟨⟨_, hc'⟩, f, b⟩
      · exact ⟨⟨u, hu.sameBut hsb e⟩, f, b⟩
    · intro p hp
      rcases List.mem_cons.mp hp with rfl | hp
      · exact ⟨v, hv, .inr ⟨.inl hc, c, hlk, hc'⟩⟩
      · obtain ⟨u, hu, k⟩ := R.st.vars p (hs p hp).1
        refine ⟨u, hu, k.imp (fun ⟨a, m', b, e⟩ => ⟨a, m', b.sameBut hsb (Ns.ne_cell hm hu₀).symm, e⟩) fun ⟨a, c', b, d⟩ => ⟨a, c', b, d.sameBut hsb fun e => (hs p hp).2 (R.st.eok.apart p.1 x c (by rw [e] at b; exact b) hlk)⟩⟩
    · exact R.ext.same hsb ec sc bc hN fc _

theorem store' {vars' : Vars} {x : Str} {r : Rp} {v : Value} {Q : Unit → Shared → Prop} (R : Rn B s₀ F₀ env vars F s) (hv : r.p F v) (ho : Own env s₀.heap.objs.size x) (hs : ∀ p ∈ vars', p ∈ vars ∧ p.1 ≠ x)
    (h : ∀ s', Rn B s₀ F₀ env ((x, r) :: vars') F s' → (∀ b o, s.heap.get? b = some o → (∀ es n, o.data ≠ .dict es n) → (∀ v, o.data ≠ .cell v) → s'.heap.get? b = some o) → Q () s') : W w A (storeName env x v) Q s :=
  store'' R hv ho hs fun s' R' k => h s' R' fun b o e k1 k2 => k b o e (by
    obtain ⟨m, oL, es, ep, eL, dL, _⟩ := R.st.eok.loc
    rintro rfl; rw [eL] at e; cases e; exact k1 _ _ dL) k2
theorem store {vars' : Vars} {x : Str} {r : Rp} {v : Value} {Q : Unit → Shared → Prop} (R : Rn B s₀ F₀ env vars F s) (hv : r.p F v) (ho : Own env s₀.heap.objs.size x) (hs : ∀ p ∈ vars', p ∈ vars ∧ p.1 ≠ x)
    (h : ∀ s', Rn B s₀ F₀ env ((x, r) :: vars') F s' → Q () s') : W w A (storeName env x v) Q s := store' R hv ho hs fun s' R' _ => h s' R'

theorem Rn.weaken {vars' : Vars} (R : Rn B s₀ F₀ env vars F s) (h : ∀ p ∈ vars', ∃ q ∈ vars, q.1 = p.1 ∧ ∀ v, q.2.p F v → p.2.p F v) : Rn B s₀ F₀ env vars' F s :=
  ⟨⟨R.st.inv, R.st.fin, R.st.eok, fun p hp => let ⟨q, hq, e, k⟩ := h p hp; let ⟨v, hv, l⟩ := R.st.vars q hq; ⟨v, k v hv, e ▸ l⟩⟩, R.ext⟩
theorem Rn.of_ext {s' : Shared} {F' : Fz} (R : Rn B s₀ F₀ env vars F s) (x : Ext B s F s' F') : Rn B s₀ F₀ env vars F' s' := ⟨R.st.ext x, R.ext.trans x⟩

noncomputable abbrev valVars (l : List (Str × Value)) : Vars := l.map fun p => (p.1, rVal p.2)
theorem wp_binds (f : Str × Value → PUnit → Sem (ForInStep PUnit)) (hf : ∀ n v u, f (n, v) u = (do storeName env n v; pure (.yield ⟨⟩))) {Q : PUnit → Shared → Prop} :
    ∀ (binds done : List (Str × Value)) (s : Shared), Rn B s₀ F₀ env (valVars done) F s → (∀ p ∈ binds, Own env s₀.heap.objs.size p.1) → ((binds ++ done).map (·.1)).Nodup →
      (∀ s', Rn B s₀ F₀ env (valVars (binds.reverse ++ done)) F s' → Q ⟨⟩ s') → W w A (forIn binds ⟨⟩ f) Q s
  | [], done, s, R, _, _, h => by rw [List.forIn_nil]; exact wpAny_pure (h s (by simpa using R))
  | (n, v) :: r, done, s, R, ho, hn, h => by
    rw [List.forIn_cons, hf]
    refine wpAny_bind (wpAny_bind (store (vars' := valVars done) R (r := rVal v) rfl (ho _ (.head _)) (fun p hp => ⟨hp, ?_⟩) fun s' R' => wpAny_pure ?_))
    · rintro rfl
      obtain ⟨q, hq, rfl⟩ := List.mem_map.mp hp
      rw [List.cons_append, List.map_cons, List.nodup_cons] at hn
      exact hn.1 (List.mem_map.mpr ⟨q, List.mem_append_right _ hq, rfl⟩)
    · refine wp_binds f hf r ((n, v) :: done) s' R' (fun p hp => ho p (.tail _ hp)) ?_ fun s'' R'' => h s'' (by simpa using R'')
      have e : ((n, v) :: r ++ done).map (·.1) = n :: (r.map (·.1) ++ done.map (·.1)) := by simp
      rw [e] at hn
      have : (r ++ (n, v) :: done).map (·.1) = r.map (·.1) ++ n :: done.map (·.1) := by simp
      rw [this]
      exact (List.perm_middle.nodup_iff).mpr hn
end

theorem cellsFrom_app : ∀ (names : List (Str × NameKind)) (n : Nat) (acc : List (Str × Addr)), cellsFrom n names acc = cellsFrom n names [] ++ acc
  | [], _, _ => rfl
  | (y, k) :: r, n, acc => by
    unfold cellsFrom
    by_cases h : (k == .cell) = true
    · rw [if_pos h, if_pos h, cellsFrom_app r (n + 1) ((y, n) :: acc), cellsFrom_app r (n + 1) [(y, n)], List.append_assoc]; rfl
    · rw [if_neg h, if_neg h, cellsFrom_app r n acc]
theorem cellsFrom_own {h : Heap} {lo : Nat} (names : List (Str × NameKind)) (hl : lo ≤ h.objs.size) : CellsOk (pushCells h names) lo (cellsFrom h.objs.size names []) := cellsFrom_ok names h lo [] ⟨fun _ _ e => (nomatch e), .nil⟩ hl
theorem lookup_app {α : Type} {l l' : List (Str × α)} {x : Str} {c : α} (h : (l ++ l').lookup x = some c) : l.lookup x = some c ∨ l'.lookup x = some c := by
  rw [List.lookup_append] at h
  cases e : l.lookup x with
  | none => rw [e] at h; exact .inr h
  | some d => rw [e] at h; exact .inl h
theorem pushCells_size : ∀ (names : List (Str × NameKind)) (h : Heap), h.objs.size ≤ (pushCells h names).objs.size
  | [], _ => Nat.le_refl _
  | (_, k) :: r, h => by
    unfold pushCells
    split
    · exact Nat.le_trans (by simp) (pushCells_size r _)
    · exact pushCells_size r h
theorem own_cell {names : List (Str × NameKind)} {n : Nat} {cl : List (Str × Addr)} {x : Str} (h : names.lookup x = some .cell) : ∃ c, (cellsFrom n names cl).lookup x = some c ∧ n ≤ c := by
  have a : ((cellsFrom n names []).lookup x).isSome = true := cellsFrom_some names n [] (.inl h)
  obtain ⟨c, hc⟩ := Option.isSome_iff_exists.mp a
  refine ⟨c, by rw [cellsFrom_app, List.lookup_append, hc]; rfl, ?_⟩
  have key : ∀ (names : List (Str × NameKind)) (n : Nat) (y : Str) (c : Addr), (y, c) ∈ cellsFrom n names [] → n ≤ c := by
    intro names
    induction names with
    | nil => intro n y c h; cases h
    | cons p r ih =>
      intro n y c h
      obtain ⟨z, k⟩ := p
      unfold cellsFrom at h
      split at h
      · rw [cellsFrom_app] at h
        rcases List.mem_append.mp h with h | h
        · exact Nat.le_of_succ_le (ih _ _ _ h)
        · rw [List.mem_singleton] at h; cases h; exact Nat.le_refl _
      · exact ih _ _ _ h
  exact key names n x c (mem_of_lookup hc)

section
variable {w : World} {B s : Shared} {F : Fz} {A : Around}
theorem Ext.cells {B s : Shared} {F : Fz} (i : Inv B s) (f : F.In s.heap) (names : List (Str × NameKind)) : Ext B s F { s with heap := pushCells s.heap names } F :=
  ⟨i.sft (fun _ _ e _ => pushCells_keeps _ _ _ _ e) (fun _ _ e _ => pushCells_keeps _ _ _ _ e) (pushCells_size _ _) rfl i.gens, pushCells_size _ _, fun _ _ e _ => pushCells_keeps _ _ _ _ e, Fz.Le.refl _, fun _ _ e => .inl e, f.up fun _ _ e _ => pushCells_keeps _ _ _ _ e⟩

theorem wp_newEnv {scope : Scope} {cl : List (Str × Addr)} {binds : List (Str × Value)} {qual : Str} {func : Option Addr} {code : Value} {around : Option Env} {bi : Addr} {Q : Env → Shared → Prop}
    (i : Inv B s) (f : F.In s.heap) (hk : scope.kind = .function) (hb : (newEnv scope 0 mainGlobals [] qual func code around bi).builtins = builtinsNs)
    (hcl : ∀ x c, cl.lookup x = some c → (∃ v, s.heap.IsCell c v) ∧ F c = none ∧ B.heap.objs.size ≤ c) (hap : ∀ x y c, cl.lookup x = some c → cl.lookup y = some c → x = y)
    (hnd : (binds.map (·.1)).Nodup) (hbk : ∀ p ∈ binds, scope.names.lookup p.1 = some .local ∨ scope.names.lookup p.1 = some .cell)
    (h : ∀ s', Rn B s F (newEnv scope s.heap.objs.size mainGlobals (cellsFrom (s.heap.objs.size + 1) scope.names cl) qual func code around bi) (valVars binds.reverse) F s' →
      Q (newEnv scope s.heap.objs.size mainGlobals (cellsFrom (s.heap.objs.size + 1) scope.names cl) qual func code around bi) s') :
    W w A (newFunctionEnv scope mainGlobals cl binds qual func code around bi) Q s := by
  have key : ∀ (o : Obj) (env : Env), o.data = .dict #[] → (∃ c, o.cls = .type c) → env = newEnv scope s.heap.objs.size mainGlobals (cellsFrom (s.heap.objs.size + 1) scope.names cl) qual func code around bi →
      (∀ s', Rn B s F env (valVars binds.reverse) F s' → Q env s') →
      W w A (do
        let mut cells := cl
        for (name, kind) in scope.names do
          if kind == .cell then cells := (name, ← alloc { cls := .type "cell", data := .cell none }) :: cells
        let env : Env := match around with
          | some outer => { scope, locals := s.heap.objs.size, globals := mainGlobals, cells, qual, func, code := outer.code, frame := outer.frame, builtins := outer.builtins }
          | none => { scope, locals := s.heap.objs.size, globals := mainGlobals, cells, qual, func, code, frame := some s.heap.objs.size, builtins := bi }
        for (name, v) in binds do storeName env name v
        return env) Q { s with heap := s.heap.push o } := by
    intro o env hd hc he hQ
    refine wpAny_bind (wpAny_layCells _ (fun name kind cells => by cases hkc : kind == NameKind.cell <;> simp [hkc]) _ _ _ _ ?_)
    have x1 : Ext B s F { s with heap := s.heap.push o } F := Ext.push i f o
    have x2 := x1.trans (Ext.cells x1.inv x1.fin scope.names)
    have ok : CellsOk (pushCells (s.heap.push o) scope.names) (s.heap.objs.size + 1) (cellsFrom (s.heap.objs.size + 1) scope.names []) := by
      have := cellsFrom_own (h := s.heap.push o) (lo := s.heap.objs.size + 1) scope.names (by simp)
      simpa using this
    have hL : (pushCells (s.heap.push o) scope.names).Ns s.heap.objs.size fun _ => none := by
      have fr : o.isFreed = false := Obj.isFreed_of_dict hd
      exact ⟨o, #[], 0, pushCells_keeps _ _ _ _ (Heap.get?_push_size _ fr), hd, fun _ he => by simp at he, fun _ => rfl⟩
    have FN : ∀ a, s.heap.objs.size ≤ a → F a = none := fun a ha => Fz.none_of_in f ha
    have eo : EnvOK B env (pushCells (s.heap.push o) scope.names) F := by
      have ecells : env.cells = cellsFrom (s.heap.objs.size + 1) scope.names [] ++ cl := by rw [he, ← cellsFrom_app]; cases around <;> rfl
      have eloc : env.locals = s.heap.objs.size := by rw [he]; cases around <;> rfl
      refine ⟨?_, ?_, ?_, ?_, ?_, ?_, ?_, ?_⟩
      · rw [he]; cases around <;> exact hk
      · rw [he]; cases around <;> rfl
      · rw [he]; cases around <;> exact hb
      · rw [eloc]; exact ⟨_, hL⟩
      · rw [eloc]; exact FN _ (Nat.le_refl _)
      · rw [eloc]; exact i.size
      · intro y c hy
        rw [ecells] at hy
        rcases lookup_app hy with hy | hy
        · obtain ⟨a, b⟩ := ok.empty y c (mem_of_lookup hy)
          exact ⟨⟨_, a⟩, FN c (Nat.le_of_succ_le b), Nat.le_trans i.size (Nat.le_of_succ_le b)⟩
        · obtain ⟨⟨v, hv⟩, a, b⟩ := hcl y c hy
          exact ⟨⟨v, Cell.ext hv x2.keep⟩, a, b⟩
      · intro y z c hy hz
        rw [ecells] at hy hz
        have old : ∀ q, cl.lookup q = some c → c < s.heap.objs.size := fun q hq => let ⟨⟨v, hv⟩, _⟩ := hcl q c hq; hv.lt
        rcases lookup_app hy with hy | hy <;> rcases lookup_app hz with hz | hz
        · exact name_of_addr ok.apart (mem_of_lookup hy) (mem_of_lookup hz)
        · exact absurd (Nat.lt_of_lt_of_le (old z hz) (Nat.le_of_succ_le (ok.empty y c (mem_of_lookup hy)).2)) (Nat.lt_irrefl _)
        · exact absurd (Nat.lt_of_lt_of_le (old y hy) (Nat.le_of_succ_le (ok.empty z c (mem_of_lookup hz)).2)) (Nat.lt_irrefl _)
        · exact hap y z c hy hz
    have R : Rn B s F env (valVars []) F { s with heap := pushCells (s.heap.push o) scope.names } := ⟨⟨x2.inv, x2.fin, eo, fun p hp => (nomatch hp)⟩, x2⟩
    have fin : ∀ env', env' = env → W w A (do
        for (name, v) in binds do storeName env' name v
        return env') Q { s with heap := pushCells (s.heap.push o) scope.names } := by
      intro env' e'
      rw [e']
      refine wpAny_bind (wp_binds _ (fun _ _ _ => rfl) binds [] _ R (fun p hp => ?_) (by simpa using hnd) fun s' R' => wpAny_pure (hQ s' (by simpa using R')))
      have ekind : env.kindOf p.1 = scope.names.lookup p.1 := by rw [he]; cases around <;> rfl
      have ecells : env.cells = cellsFrom (s.heap.objs.size + 1) scope.names cl := by rw [he]; cases around <;> rfl
      have eloc : env.locals = s.heap.objs.size := by rw [he]; cases around <;> rfl
      rcases hbk p hp with e | e
      · exact .inl ⟨ekind.trans e, by rw [eloc]; exact Nat.le_refl _⟩
      · obtain ⟨c, a, b⟩ := own_cell (n := s.heap.objs.size + 1) (cl := cl) e
        exact .inr ⟨ekind.trans e, c, by rw [ecells]; exact a, Nat.le_of_succ_le b⟩
    rw [show ({ s with heap := s.heap.push o } : Shared).heap.objs.size = s.heap.objs.size + 1 from Heap.size_push ..]
    cases around with
    | none => exact fin _ he.symm
    | some outer => exact fin _ he.symm
  cases around with
  | none =>
    simp only [newFunctionEnv, Option.isSome_none, Bool.false_eq_true, if_false]
    exact wpAny_bind (wpAny_alloc (key _ _ rfl ⟨_, rfl⟩ rfl h))
  | some outer =>
    simp only [newFunctionEnv, Option.isSome_some, if_true]
    exact wpAny_bind (wpAny_alloc (key _ _ rfl ⟨_, rfl⟩ rfl h))
end
end Mine
end

section
open PySem PySem.W PyProof.Rows PySem.Calls
namespace Mine

noncomputable abbrev Ares (F : Fz) (vs : List Value) (rs : List Rp) : Prop := Are (fun r : Rp => r) F vs rs

/-- a def of the text's -/
noncomputable def FnAt (h : Heap) (a : Addr) (name qual : Str) (params : Arguments) (body : FuncBody) (scope : Scope) (cl : List (Str × Addr)) (dv kv : Value) : Prop :=
  ∃ o cd pm doc ct an, h.get? a = some o ∧ o.data = .func { name, qualname := qual, params, body, scope, globals := mainGlobals, closure := cl, defaults := dv, kwdefaults := kv, doc, pyModule := pm, annotations := an, code := cd, closureTuple := ct, builtins := builtinsNs } ∧ CodeOk h cd qual
noncomputable abbrev fdOf (name qual : Str) (params : Arguments) (body : FuncBody) (scope : Scope) (cl : List (Str × Addr)) (dv kv cd pm doc ct : Value) (an : Option Addr) : FuncData :=
  { name, qualname := qual, params, body, scope, globals := mainGlobals, closure := cl, defaults := dv, kwdefaults := kv, doc, pyModule := pm, annotations := an, code := cd, closureTuple := ct, builtins := builtinsNs }
theorem FnAt.ext {h h' : Heap} {a : Addr} {name qual : Str} {params : Arguments} {body : FuncBody} {scope : Scope} {cl : List (Str × Addr)} {dv kv : Value} (x : FnAt h a name qual params body scope cl dv kv)
    (k : ∀ b o, h.get? b = some o → ¬ IsTab o → h'.get? b = some o) : FnAt h' a name qual params body scope cl dv kv :=
  let ⟨o, cd, pm, doc, ct, an, e, d, c, oc, vs, t, e1, e2, e3, e4, e5⟩ := x
  ⟨o, cd, pm, doc, ct, an, k _ _ e (fun ⟨_, vs, q⟩ => by rw [d] at q; cases q), d, c, oc, vs, t, e1, k _ _ e2 (fun ⟨q, _⟩ => by rw [e3] at q; cases q), e3, e4, e5⟩
theorem Inv.fn {B s : Shared} (i : Inv B s) {a : Addr} {name qual : Str} {params : Arguments} {body : FuncBody} {scope : Scope} {cl : List (Str × Addr)} {dv kv : Value} (x : FnAt B.heap a name qual params body scope cl dv kv) :
    FnAt s.heap a name qual params body scope cl dv kv := x.ext fun b o e q => i.keep b o e fun h => q h.1

structure Gls (B : Shared) (gn bn : List (Str × Value)) : Prop where
  glob : ∃ mg mb, B.heap.Ns mainGlobals mg ∧ B.heap.Ns builtinsNs mb ∧ (∀ p ∈ gn, mg p.1 = some p.2) ∧ ∀ p ∈ bn, mg p.1 = none ∧ mb p.1 = some p.2
  lim : B.heap.NoLimit
theorem Inv.ns {B s : Shared} (i : Inv B s) {a : Addr} {m : Str → Option Value} (x : B.heap.Ns a m) : s.heap.Ns a m :=
  let ⟨o, es, ep, e, d, r⟩ := x; ⟨o, es, ep, i.keep _ _ e (fun ⟨⟨_, vs, q⟩, _⟩ => by rw [d] at q; cases q), d, r⟩
theorem Inv.lim {B s : Shared} (i : Inv B s) (x : B.heap.NoLimit) : s.heap.NoLimit := let ⟨mc, a, b⟩ := x; ⟨mc, i.ns a, b⟩

section
variable {w : World} {B : Shared} {n : Nat} {env : Env} {vars : Vars} {gn bn : List (Str × Value)}

/-- arguments by place -/
noncomputable def EvL (w : World) (B : Shared) (n : Nat) (env : Env) (vars : Vars) (es : List Expr) (rs : List Rp) : Prop :=
  (∀ pos, ∃ ts : List (Sem Value), backTo pos (starEach es env) = ts.map fun t => (false, t)) ∧
  ∀ A s F pos, Le A n → St B env vars F s → W w A (spliced (backTo pos (starEach es env))) (fun vs s' => ∃ F', Ext B s F s' F' ∧ Ares F' vs rs) s
theorem EvL.nil : EvL w B n env vars [] [] := ⟨fun _ => ⟨[], rfl⟩, fun A s F _ _ S => spliced_nil ⟨F, Ext.refl S.inv S.fin, Are.nil⟩⟩
theorem EvL.cons {e : Expr} {es : List Expr} {r : Rp} {rs : List Rp} (h : Ev w B n env vars e r) (k : EvL w B n env vars es rs) (hs : starEach (e :: es) env = (false, eval e env) :: starEach es env := by rfl) : EvL w B n env vars (e :: es) (r :: rs) := by
  refine ⟨fun pos => ?_, fun A s F pos hA S => ?_⟩
  · obtain ⟨ts, ht⟩ := k.1 pos
    refine ⟨eval e env :: ts, ?_⟩
    rw [hs]
    show (false, _) :: backTo pos (starEach es env) = _
    rw [ht]; rfl
  · rw [hs]
    refine spliced_cons ((h.go A s F hA S).mono fun v s₁ ⟨F₁, x₁, p₁⟩ => (k.2 A s₁ F₁ pos hA (S.ext x₁)).mono fun vs s₂ ⟨F₂, x₂, p₂⟩ => ⟨F₂, x₁.trans x₂, Are.cons (r.mono _ _ _ x₂.le p₁) p₂⟩)
theorem evalArgs_of {es : List Expr} {rs : List Rp} {f : Value} {A : Around} {s : Shared} {F : Fz} {pos : Pos} (h : EvL w B n env vars es rs) (hA : Le A n) (S : St B env vars F s) :
    W w A (evalArgs f true (backTo pos (starEach es env)) []) (fun a s' => a.kw = [] ∧ ∃ F', Ext B s F s' F' ∧ Ares F' a.pos rs) s := by
  have h2 := h.2 A s F pos hA S
  obtain ⟨ts, ht⟩ := h.1 pos
  rw [ht] at h2 ⊢
  cases ts with
  | nil =>
    unfold evalArgs
    show W w A (spliced [] >>= _) _ s
    refine wpAny_bind (W.mono h2 fun vs s' q => wpAny_holding ?_)
    exact wpAny_bind (wpAny_pure (wpAny_bind (wpAny_pure (wpAny_pure ⟨rfl, q⟩))))
  | cons t ts => exact evalArgs_plain (h2.mono fun vs s' q => ⟨rfl, q⟩)

/-- a callable by what it gives -/
structure Cal (w : World) (B : Shared) (n : Nat) (f : Value) (rs : List Rp) (r : Rp) : Prop where
  go : ∀ A s F vs, Le A n → Inv B s → F.In s.heap → Ares F vs rs → W w A (call f vs) (Gives B s F r) s
theorem Ev.callB {x : Str} {np pos : Pos} {es : List Expr} {rs : List Rp} {r : Rp} {id : String} (hf : Ev w B n env vars (.Name x np) (rVal (.builtin id))) (h : EvL w B n env vars es rs) (k : Cal w B n (.builtin id) rs r) :
    Ev w B n env vars (.Call (.Name x np) es [] pos) r := .mk fun A s F hA S => wpAny_Call_NameR ((hf.go A s F hA S).mono fun f s₁ ⟨F₁, x₁, e⟩ => by
  cases (show f = .builtin id from e)
  have ha := evalArgs_of (f := .builtin id) (pos := pos) h hA (S.ext x₁)
  obtain ⟨ts, ht⟩ := h.1 pos
  refine callWith_builtin (by rw [ht]; simp) (ha.mono fun a s₂ ⟨e, F₂, x₂, p⟩ => ?_)
  rw [e]
  exact (k.go A s₂ F₂ a.pos hA x₂.inv x₂.fin p).mono fun v s' g => g.from (x₁.trans x₂))
theorem Ev.callT {x : Str} {np pos : Pos} {es : List Expr} {rs : List Rp} {r : Rp} {T : String} (hf : Ev w B n env vars (.Name x np) (rVal (.type T))) (h : EvL w B n env vars es rs) (k : Cal w B n (.type T) rs r) :
    Ev w B n env vars (.Call (.Name x np) es [] pos) r := .mk fun A s F hA S => wpAny_Call_NameR ((hf.go A s F hA S).mono fun f s₁ ⟨F₁, x₁, e⟩ => by
  cases (show f = .type T from e)
  have ha := evalArgs_of (f := .type T) (pos := pos) h hA (S.ext x₁)
  obtain ⟨ts, ht⟩ := h.1 pos
  refine PySem.callWith_type (by rw [ht]; simp) (ha.mono fun a s₂ ⟨e, F₂, x₂, p⟩ => ?_)
  rw [e]
  exact (k.go A s₂ F₂ a.pos hA x₂.inv x₂.fin p).mono fun v s' g => g.from (x₁.trans x₂))
theorem Ev.callF {x : Str} {np pos : Pos} {es : List Expr} {rs : List Rp} {r : Rp} {a : Addr} {name qual : Str} {params : Arguments} {body : FuncBody} {scope : Scope} {cl : List (Str × Addr)} {dv kv : Value} (hf : Ev w B n env vars (.Name x np) (rVal (.ref a))) (h : EvL w B n env vars es rs)
    (fn : FnAt B.heap a name qual params body scope cl dv kv) (k : Cal w B n (.ref a) rs r) : Ev w B n env vars (.Call (.Name x np) es [] pos) r := .mk fun A s F hA S => wpAny_Call_NameR ((hf.go A s F hA S).mono fun f s₁ ⟨F₁, x₁, e⟩ => by
  cases (show f = .ref a from e)
  have ha := evalArgs_of (f := .ref a) (pos := pos) h hA (S.ext x₁)
  obtain ⟨o, cd, pm, doc, ct, an, ho, hd, _⟩ := fn
  refine callWith_function (o := o) (fd := fdOf name qual params body scope cl dv kv cd pm doc ct an) (ha.mono fun a s₂ ⟨e, F₂, x₂, p⟩ => ⟨⟨x₂.inv.keep _ _ ho (fun ⟨⟨_, vs, q⟩, _⟩ => by rw [hd] at q; cases q), hd⟩, ?_⟩)
  rw [e]
  exact (k.go A s₂ F₂ a.pos hA x₂.inv x₂.fin p).mono fun v s' g => g.from (x₁.trans x₂))

/-- the names' kinds, as the block's table says -/
structure CE (scope : Scope) (env : Env) : Prop where
  kd : ∀ x k, scope.names.lookup x = some k → k ≠ .free → env.kindOf x = some k
  fr : ∀ x, scope.names.lookup x = some .free → env.kindOf x = some .cell ∨ env.kindOf x = some .free
structure FE (scope : Scope) (N : Nat) (env : Env) : Prop where
  ce : CE scope env
  own : ∀ x, scope.names.lookup x = some .local ∨ scope.names.lookup x = some .cell → Own env N x
/-- the frame of a def's call -/
noncomputable abbrev envF (qual : Str) (scope : Scope) (cl : List (Str × Addr)) (N : Nat) (a : Addr) (cd : Value) : Env := newEnv scope N mainGlobals (cellsFrom (N + 1) scope.names cl) (qual ++ ".<locals>.") (some a) cd none builtinsNs

theorem envF_ok {qual : Str} {scope : Scope} {cl : List (Str × Addr)} {N : Nat} {a : Addr} {cd : Value} : FE scope N (envF qual scope cl N a cd) :=
  ⟨⟨fun _ _ h _ => h, fun _ h => .inr h⟩, fun x h => h.imp (fun e => ⟨e, Nat.le_refl _⟩) fun e => let ⟨c, a, b⟩ := own_cell (n := N + 1) (cl := cl) e; ⟨e, c, a, Nat.le_of_succ_le b⟩⟩

end
end Mine
end

section
open PySem PySem.W PyProof.Rows PySem.Calls
namespace Mine

/-! the heap never shrinks -/
theorem runs_size {M : Model} {Γ : Ctx} {p : Pos} {t : Sem PySem.Fin} {fs : List Frame} {s s' : Shared} {e : End} (h : Runs M Γ p t fs s e s') : s.heap.objs.size ≤ s'.heap.objs.size := by
  induction h <;> (try simp only [Shared.setGen, Heap.size_push, Heap.size_after_update] at *) <;> (lia)
theorem wakes_size {M : Model} {Γ : Ctx} {p : Pos} {g : Nat} {r : Resume} {s s' : Shared} {res : GenResult} (h : Wakes M Γ p g r s res s') : s.heap.objs.size ≤ s'.heap.objs.size := by
  unfold Wakes at h
  split at h
  · exact h.elim
  · split at h
    · obtain ⟨e₁, s₁, hr, _, _, rfl⟩ := h; exact (runs_size hr : (s.setGen g .running).heap.objs.size ≤ s₁.heap.objs.size)
    · rw [h.2]; exact Nat.le_refl _
    · rw [h.2]; exact Nat.le_refl _
  · obtain ⟨e₁, s₁, hr, _, _, rfl⟩ := h; exact (runs_size hr : (s.setGen g .running).heap.objs.size ≤ s₁.heap.objs.size)
  · rw [h.2]; exact Nat.le_refl _
  · rw [h.2]; exact Nat.le_refl _
theorem wp_size {α : Type} (M : Model) (Γ : Ctx) (n : Nat) (t : Sem α) : ∀ (Q : α → Pos → Shared → Prop) (E : Value → Pos → Shared → Prop) (p : Pos) (s : Shared), n ≤ s.heap.objs.size → Sem.wp M Γ t Q E p s →
    Sem.wp M Γ t (fun a p' s' => n ≤ s'.heap.objs.size ∧ Q a p' s') E p s := by
  induction t with
  | pure a => intro Q E p s hn h; exact ⟨hn, h⟩
  | raise e => intro Q E p s hn h; exact h
  | unsupported _ => intro Q E p s _ h; exact h
  | finish _ => intro Q E p s _ h; exact h
  | rule _ k ih => intro Q E p s hn h; exact ih () Q E p s hn h
  | «at» p' k ih => intro Q E p s hn h; exact ih () Q E p' s hn h
  | load a _ k ih => intro Q E p s hn h; obtain ⟨o, ho, h⟩ := h; exact ⟨o, ho, ih o Q E p s hn h⟩
  | update a _ f k ih => intro Q E p s hn h; exact ⟨h.1, ih () Q E p _ (by simpa using hn) h.2⟩
  | loadIfAlive a k ih => intro Q E p s hn h; exact ih _ Q E p s hn h
  | point _ k ih => intro Q E p s hn h; exact ih () Q E p s hn h
  | register _ _ => intro Q E p s _ h; exact h
  | alloc o k ih => intro Q E p s hn h; exact ih _ Q E p _ (by rw [Heap.size_push]; (exact Nat.le_succ_of_le hn)) h
  | fresh k ih => intro Q E p s hn h; exact ih _ Q E p _ hn h
  | ask k ih => intro Q E p s hn h; exact ih _ Q E p s hn h
  | choose src m k ih => intro Q E p s hn h; exact ⟨h.1, ih _ Q E p _ hn h.2⟩
  | os q _ k ih => intro Q E p s hn h; exact ih _ Q E p _ hn h
  | call c hd _ _ k ih => intro Q E p s hn h; obtain ⟨r, s', hr, h⟩ := h; exact ⟨r, s', hr, ih r Q E p s' (Nat.le_trans hn (runs_size hr)) h⟩
  | handled own k ih => intro Q E p s hn h; exact ih _ Q E p s hn h
  | genState g k ih => intro Q E p s hn h; obtain ⟨st, hs, h⟩ := h; exact ⟨st, hs, ih _ Q E p s hn h⟩
  | newGen c k ih => intro Q E p s hn h; exact ih _ Q E p _ hn h
  | resume g r _ k ih => intro Q E p s hn h; obtain ⟨res, s', hw, h⟩ := h; exact ⟨res, s', hw, ih res Q E p s' (Nat.le_trans hn (wakes_size hw)) h⟩
  | yield _ _ _ _ => intro Q E p s _ h; exact h
  | stack k ih => intro Q E p s hn h; exact ih _ Q E p s hn h
  | fork _ _ => intro Q E p s _ h; exact h
  | thread k ih => intro Q E p s hn h; exact ih _ Q E p s hn h
  | await _ _ _ _ _ => intro Q E p s _ h; exact h
theorem W.size {w : World} {α : Type} {A : Around} {t : Sem α} {Q : α → Shared → Prop} {s : Shared} (h : W w A t (fun a s' => s.heap.objs.size ≤ s'.heap.objs.size → Q a s') s) : W w A t Q s :=
  fun Γ p hΓ => Sem.wp_mono _ Γ t (fun a _ s' q => q.2 q.1) (fun _ _ _ q => q) p s (wp_size _ Γ s.heap.objs.size t _ _ p s (Nat.le_refl _) (h Γ p hΓ))

/-! one of the call's own objects changes -/
structure Soft (B : Shared) (F : Fz) (s : Shared) (a : Addr) (o : Obj) : Prop where
  at_ : s.heap.get? a = some o
  soft : soft o
  dict : ∀ es n, o.data ≠ .dict es n
  cell : ∀ v, o.data ≠ .cell v
  base : B.heap.objs.size ≤ a
  out : F a = none
section
variable {B s₀ s : Shared} {F₀ F : Fz} {env : Env} {vars : Vars} {a : Addr} {o : Obj} {h' : Heap}
theorem Inv.but (i : Inv B s) (p : Soft B F s a o) (hk : ∀ b o, b ≠ a → s.heap.get? b = some o → h'.get? b = some o) (hz : s.heap.objs.size ≤ h'.objs.size) (t : Tok) : Inv B { s with heap := h', toks := t } :=
  i.sft (fun b o' e hlt => hk b o' (Nat.ne_of_lt (Nat.lt_of_lt_of_le hlt p.base)) e) (fun b o' e q => hk b o' (by rintro rfl; rw [p.at_] at e; cases e; exact p.soft q) e) hz rfl i.gens
theorem St.but (S : St B env vars F s) (p : Soft B F s a o) (hk : ∀ b o, b ≠ a → s.heap.get? b = some o → h'.get? b = some o) (hz : s.heap.objs.size ≤ h'.objs.size) (t : Tok) : St B env vars F { s with heap := h', toks := t } := by
  have nsk : ∀ {b m}, s.heap.Ns b m → h'.Ns b m := fun {b m} hm => by
    obtain ⟨ob, es, ep, e, d, r⟩ := hm
    exact ⟨ob, es, ep, hk _ _ (by rintro rfl; rw [p.at_] at e; cases e; exact p.dict _ _ d) e, d, r⟩
  have ck : ∀ {c v}, s.heap.IsCell c v → h'.IsCell c v := fun {c v} hm => by
    obtain ⟨ob, e, d⟩ := hm
    exact ⟨ob, hk _ _ (by rintro rfl; rw [p.at_] at e; cases e; exact p.cell _ d) e, d⟩
  refine ⟨S.inv.but p hk hz t, fun b o' e => ⟨hk b o' (by rintro rfl; rw [p.out] at e; cases e) (S.fin b o' e).1, (S.fin b o' e).2⟩, ⟨S.eok.kd, S.eok.gl, S.eok.bi, let ⟨m, hm⟩ := S.eok.loc; ⟨m, nsk hm⟩, S.eok.locF, S.eok.locB, fun x c hx => let ⟨⟨v, hv⟩, f, b⟩ := S.eok.cells x c hx; ⟨⟨v, ck hv⟩, f, b⟩, S.eok.apart⟩, fun q hq => ?_⟩
  obtain ⟨v, hv, k⟩ := S.vars q hq
  exact ⟨v, hv, k.imp (fun ⟨a, m, b, c⟩ => ⟨a, m, nsk b, c⟩) fun ⟨a, c, b, d⟩ => ⟨a, c, b, ck d⟩⟩
theorem Ext.but (x : Ext B s₀ F₀ s F) (p : Soft B F s a o) (h0 : s₀.heap.objs.size ≤ a) (hk : ∀ b o, b ≠ a → s.heap.get? b = some o → h'.get? b = some o) (hz : s.heap.objs.size ≤ h'.objs.size) (t : Tok) : Ext B s₀ F₀ { s with heap := h', toks := t } F :=
  ⟨x.inv.but p hk hz t, Nat.le_trans x.size hz, fun b o' e q => hk b o' (Nat.ne_of_lt (Nat.lt_of_lt_of_le (Heap.lt_size e) h0)) (x.keep b o' e q), x.le, x.new, fun b o' e => ⟨hk b o' (by rintro rfl; rw [p.out] at e; cases e) (x.fin b o' e).1, (x.fin b o' e).2⟩⟩
theorem Rn.but (R : Rn B s₀ F₀ env vars F s) (p : Soft B F s a o) (h0 : s₀.heap.objs.size ≤ a) (hk : ∀ b o, b ≠ a → s.heap.get? b = some o → h'.get? b = some o) (hz : s.heap.objs.size ≤ h'.objs.size) (t : Tok) : Rn B s₀ F₀ env vars F { s with heap := h', toks := t } :=
  ⟨R.st.but p hk hz t, R.ext.but p h0 hk hz t⟩
theorem Rn.rebase {s₁ : Shared} {F₁ : Fz} (R : Rn B s₁ F₁ env vars F s) (x : Ext B s₀ F₀ s₁ F₁) : Rn B s₀ F₀ env vars F s := ⟨R.st, x.trans R.ext⟩
end

/-! what is looped over -/
structure Src (w : World) (I : Addr) (fp : List Addr) (F : Fz) (rs : List Rp) (Sn : Nat → Heap → Prop) : Prop where
  walks : ∀ A : Around, A.handled = none → Walks PG w A I fp [I] rs.length (fun i v => ∃ r, rs[i]? = some r ∧ r.p F v) Sn
  obj : ∀ i h, Sn i h → ∃ o vs, h.get? I = some o ∧ o.data = .fields vs ∧ soft o
  fro : ∀ b ∈ fp, b = I ∨ ∃ o, F b = some o
structure Iterable (w : World) (B : Shared) (n : Nat) (r : Rp) (rs : List Rp) : Prop where
  go : ∀ A s F v, Le A n → Inv B s → F.In s.heap → r.p F v →
  W w A (pyIter v) (fun it s' => ∃ o fp Sn, o.isFreed = false ∧ it = .ref s.heap.objs.size ∧ s' = { s with heap := s.heap.push o } ∧ Src w s.heap.objs.size fp F rs Sn ∧ Sn 0 s'.heap) s
end Mine
end

section
open PySem PySem.W PyProof.Rows PySem.Calls
namespace Mine

/-! closing over -/
theorem closure_of {scope : Scope} {env : Env} (h : ∀ x, (x, NameKind.free) ∈ scope.names → ∃ c, env.cells.lookup x = some c) :
    ∃ cl, closureFor scope env = pure cl ∧ (∀ x c, (x, c) ∈ cl → (x, NameKind.free) ∈ scope.names ∧ env.cells.lookup x = some c) ∧ ∀ x c, (x, NameKind.free) ∈ scope.names → env.cells.lookup x = some c → (x, c) ∈ cl := by
  unfold closureFor
  have key : ∀ (names : List (Str × NameKind)) (acc : List (Str × Addr)), (∀ x, (x, NameKind.free) ∈ names → ∃ c, env.cells.lookup x = some c) →
      ∃ cl, (do
        let mut cs := acc
        for (name, kind) in names do
          if kind == .free then cs := (name, ← cellOf env name) :: cs
        return cs : Sem (List (Str × Addr))) = pure cl ∧ (∀ x c, (x, c) ∈ cl → (x, c) ∈ acc ∨ ((x, NameKind.free) ∈ names ∧ env.cells.lookup x = some c)) ∧ (∀ x c, (x, c) ∈ acc → (x, c) ∈ cl) ∧ ∀ x c, (x, NameKind.free) ∈ names → env.cells.lookup x = some c → (x, c) ∈ cl := by
    intro names
    induction names with
    | nil => intro acc _; exact ⟨acc, rfl, fun _ _ h => .inl h, fun _ _ h => h, fun _ _ h => (nomatch h)⟩
    | cons p r ih =>
      intro acc hf
      obtain ⟨y, k⟩ := p
      by_cases hk : k = .free
      · subst hk
        obtain ⟨c, hc⟩ := hf y (.head _)
        obtain ⟨cl, e, a1, a2, a3⟩ := ih ((y, c) :: acc) fun x hx => hf x (.tail _ hx)
        refine ⟨cl, ?_, fun x d hd => ?_, fun x d hd => a2 x d (.tail _ hd), fun x d hd he => ?_⟩
        · rw [← e]
          have : cellOf env y = pure c := by unfold cellOf; rw [hc]
          dsimp only
          rw [List.forIn_cons]
          simp only [beq_self_eq_true, if_true, this]
          rfl
        · rcases a1 x d hd with h | ⟨h, h'⟩
          · rcases List.mem_cons.mp h with h | h
            · cases h; exact .inr ⟨.head _, hc⟩
            · exact .inl h
          · exact .inr ⟨.tail _ h, h'⟩
        · rcases List.mem_cons.mp hd with h | h
          · cases h; rw [hc] at he; cases he; exact a2 _ _ (.head _)
          · exact a3 x d h he
      · obtain ⟨cl, e, a1, a2, a3⟩ := ih acc fun x hx => hf x (.tail _ hx)
        refine ⟨cl, ?_, fun x d hd => (a1 x d hd).imp id fun ⟨h, h'⟩ => ⟨.tail _ h, h'⟩, a2, fun x d hd he => ?_⟩
        · rw [← e]
          dsimp only
          rw [List.forIn_cons]
          have : (k == NameKind.free) = false := by simpa using hk
          simp only [this, Bool.false_eq_true, if_false]
          rfl
        · rcases List.mem_cons.mp hd with h | h
          · cases h; exact absurd rfl hk
          · exact a3 x d h he
  obtain ⟨cl, e, a1, a2, a3⟩ := key scope.names [] h
  exact ⟨cl, e, fun x c hc => (a1 x c hc).elim (fun h => (nomatch h)) id, a3⟩
theorem lookup_of_mem {α : Type} : ∀ {l : List (Str × α)} {x : Str} {c : α}, (x, c) ∈ l → (∀ d, (x, d) ∈ l → d = c) → l.lookup x = some c
  | [], _, _, h, _ => (nomatch h)
  | (y, d) :: r, x, c, h, u => by
    rw [List.lookup_cons]
    cases e : x == y with
    | true =>
      have : x = y := by simpa using e
      subst this
      rw [u d (.head _)]
    | false =>
      have ne : x ≠ y := by simpa using e
      rcases List.mem_cons.mp h with h | h
      · cases h; exact absurd rfl ne
      · exact lookup_of_mem h fun d hd => u d (.tail _ hd)
theorem lookup_none {α : Type} {l : List (Str × α)} {x : Str} (h : ∀ d, (x, d) ∉ l) : l.lookup x = none := by
  cases e : l.lookup x with
  | none => rfl
  | some c => exact absurd (mem_of_lookup e) (h c)

theorem lookup_relabel {env : Env} : ∀ (names : List (Str × NameKind)) (x : Str),
    (names.map fun (n, k) => if (k == NameKind.free && env.scope.kind == .function && env.kindOf n == some .cell) then (n, NameKind.cell) else (n, k)).lookup x =
      (names.lookup x).map fun k => if (k == NameKind.free && env.scope.kind == .function && env.kindOf x == some .cell) then .cell else k
  | [], _ => rfl
  | (n, k) :: r, x => by
    have ih := @lookup_relabel env r x
    show List.lookup x ((if (k == NameKind.free && env.scope.kind == .function && env.kindOf n == some .cell) = true then (n, NameKind.cell) else (n, k)) :: _) = _
    cases hx : x == n with
    | true =>
      have : x = n := by simpa using hx
      subst this
      simp only [List.lookup_cons, beq_self_eq_true]
      split <;> (rename_i hq; simp only [List.lookup_cons, beq_self_eq_true, Option.map_some]; first | rw [if_pos hq] | rw [if_neg hq])
    | false =>
      split <;> simp only [List.lookup_cons, hx] <;> exact ih

noncomputable def CF (env : Env) (x : Str) : Prop := env.kindOf x = some .cell ∨ env.kindOf x = some .free
theorem CE.cf {scope : Scope} {env : Env} (C : CE scope env) {x : Str} (h : scope.names.lookup x = some .cell ∨ scope.names.lookup x = some .free) : CF env x :=
  h.elim (fun h => .inl (C.kd _ _ h (by intro e; cases e))) fun h => C.fr _ h
/-- what a block closes over, with what is known of it -/
inductive Cap (env : Env) (vars : Vars) : Vars → Prop
  | nil : Cap env vars []
  | cons {x r l} : Has vars x r → CF env x → Cap env vars l → Cap env vars ((x, r) :: l)
theorem Cap.mem {env : Env} {vars l : Vars} (h : Cap env vars l) : ∀ p ∈ l, p ∈ vars ∧ CF env p.1 := by
  induction h with
  | nil => intro p hp; cases hp
  | cons a b _ ih =>
    intro p hp
    rcases List.mem_cons.mp hp with rfl | hp
    · exact ⟨a.mem, b⟩
    · exact ih p hp

/-- a block's own table: a function's, each name once -/
noncomputable def scOk (scope : Scope) : Bool := scope.kind == .function && (scope.names.map (·.1)).Nodup
noncomputable def frees (scope : Scope) : List Str := (scope.names.filter fun p => p.2 == .free).map (·.1)
theorem nodup_lookup {α : Type} : ∀ {l : List (Str × α)} {x : Str} {c : α}, (l.map (·.1)).Nodup → (x, c) ∈ l → l.lookup x = some c
  | (y, d) :: r, x, c, hn, h => by
    rw [List.map_cons, List.nodup_cons] at hn
    rw [List.lookup_cons]
    rcases List.mem_cons.mp h with h | hr
    · cases h; simp
    · have ne : x ≠ y := by rintro rfl; exact hn.1 (List.mem_map.mpr ⟨_, hr, rfl⟩)
      have : (x == y) = false := by simpa using ne
      rw [this]
      exact nodup_lookup hn.2 hr

section
variable {w : World} {B : Shared} {n : Nat} {env : Env} {vars : Vars}
/-- the inner block's frame -/
noncomputable abbrev cenvOf (scope : Scope) (cl : List (Str × Addr)) (N : Nat) (env : Env) : Env := compEnvC scope (cellsFrom (N + 1) scope.names cl) N env

theorem cenv_fe {scope : Scope} {cl : List (Str × Addr)} {N : Nat} : FE scope N (cenvOf scope cl N env) := by
  have kk : ∀ x, (cenvOf scope cl N env).kindOf x = (scope.names.lookup x).map fun k => if (k == NameKind.free && env.scope.kind == .function && env.kindOf x == some .cell) then .cell else k := fun x => lookup_relabel _ _
  refine ⟨⟨fun x k h hk => ?_, fun x h => ?_⟩, fun x h => ?_⟩
  · rw [kk, h]
    simp only [Option.map_some]
    rw [if_neg (by simp [hk])]
  · rw [kk, h]
    simp only [Option.map_some]
    split
    · exact .inl rfl
    · exact .inr rfl
  · rcases h with h | h
    · refine .inl ⟨?_, Nat.le_refl _⟩
      rw [kk, h]; rfl
    · obtain ⟨c, a, b⟩ := own_cell (n := N + 1) (cl := cl) h
      refine .inr ⟨?_, c, a, Nat.le_of_succ_le b⟩
      rw [kk, h]; rfl

theorem own_none {scope : Scope} {n : Nat} {x : Str} (h : scope.names.lookup x = some .free) (hn : (scope.names.map (·.1)).Nodup) : (cellsFrom n scope.names []).lookup x = none := by
  refine lookup_none fun d hd => ?_
  have key : ∀ (names : List (Str × NameKind)) (n : Nat) (y : Str) (c : Addr), (y, c) ∈ cellsFrom n names [] → (y, NameKind.cell) ∈ names := by
    intro names
    induction names with
    | nil => intro n y c h; cases h
    | cons p r ih =>
      intro n y c h
      obtain ⟨z, k⟩ := p
      unfold cellsFrom at h
      split at h
      · rename_i hk
        have hk' : k = .cell := by simpa using hk
        subst hk'
        rw [cellsFrom_app] at h
        rcases List.mem_append.mp h with h | h
        · exact .tail _ (ih _ _ _ h)
        · rw [List.mem_singleton] at h; cases h; exact .head _
      · exact .tail _ (ih _ _ _ h)
  have := nodup_lookup hn (key _ _ _ _ hd)
  rw [h] at this; cases this

/-- entering an inner block -/
theorem enter {scope : Scope} {cap : Vars} {A : Around} {s : Shared} {F : Fz} {s0 : Shared} {F0 : Fz} (S0 : St B env vars F0 s0) (x0 : Ext B s0 F0 s F) (ok : scOk scope = true) (hf : frees scope = cap.map (·.1)) (hc : Cap env vars cap) :
    ∃ cl, closureFor scope env = pure cl ∧ ∀ {Q : Env → Shared → Prop}, (∀ s', Rn B s F (cenvOf scope cl s.heap.objs.size env) cap F s' → Q (newEnv scope s.heap.objs.size mainGlobals (cellsFrom (s.heap.objs.size + 1) scope.names cl) env.qual none .none (some env) 0) s') →
      W w A (newFunctionEnv scope env.globals cl [] env.qual none .none (some env)) Q s := by
  have S := S0.ext x0
  simp only [scOk, Bool.and_eq_true, beq_iff_eq, decide_eq_true_eq] at ok
  obtain ⟨hk, hnd⟩ := ok
  have inF : ∀ x, (x, NameKind.free) ∈ scope.names ↔ x ∈ cap.map (·.1) := fun x => by
    rw [← hf]; unfold frees
    simp [List.mem_map, List.mem_filter]
  have cellAt : ∀ x ∈ cap.map (·.1), ∃ c, env.cells.lookup x = some c := fun x hx => by
    obtain ⟨p, hp, rfl⟩ := List.mem_map.mp hx
    obtain ⟨a, b⟩ := hc.mem p hp
    obtain ⟨v, _, k | ⟨_, c, e, _⟩⟩ := S.vars p a
    · rcases b with b | b <;> (rw [k.1] at b; cases b)
    · exact ⟨c, e⟩
  obtain ⟨cl, e, a1, a2⟩ := closure_of (scope := scope) (env := env) fun x hx => cellAt x ((inF x).mp hx)
  have a3 : ∀ x c, cl.lookup x = some c → (x, NameKind.free) ∈ scope.names ∧ env.cells.lookup x = some c := fun x c h => a1 x c (mem_of_lookup h)
  refine ⟨cl, e, fun {Q} hQ => ?_⟩
  rw [S.eok.gl]
  refine wp_newEnv S.inv S.fin hk S.eok.bi (fun x c h => S.eok.cells x c (a3 x c h).2) (fun x y c hx hy => S.eok.apart x y c (a3 x c hx).2 (a3 y c hy).2) (by simp) (fun p hp => (nomatch hp)) fun s' R => hQ s' ⟨⟨R.st.inv, R.st.fin, ?_, fun p hp => ?_⟩, R.ext⟩
  · exact ⟨hk, S.eok.gl, R.st.eok.bi, R.st.eok.loc, R.st.eok.locF, R.st.eok.locB, R.st.eok.cells, R.st.eok.apart⟩
  · obtain ⟨a, b⟩ := hc.mem p hp
    have hin : (p.1, NameKind.free) ∈ scope.names := (inF _).mpr (List.mem_map.mpr ⟨p, hp, rfl⟩)
    have hlk := nodup_lookup hnd hin
    obtain ⟨v, hv, k | ⟨_, c, ec, hcell⟩⟩ := S.vars p a
    · rcases b with b | b <;> (rw [k.1] at b; cases b)
    · refine ⟨v, hv, .inr ⟨cenv_fe.ce.cf (.inr hlk), c, ?_, Cell.ext hcell R.ext.keep⟩⟩
      show (cellsFrom _ scope.names cl).lookup p.1 = some c
      rw [cellsFrom_app, List.lookup_append, own_none hlk hnd]
      show cl.lookup p.1 = some c
      exact lookup_of_mem (a2 _ _ hin ec) fun d hd => by have := (a1 _ _ hd).2; rw [ec] at this; cases this; rfl
end
end Mine
end

section
open PySem PySem.W PyProof.Rows PySem.Calls
namespace Mine

structure Tests (w : World) (B : Shared) (n : Nat) (env : Env) (vars : Vars) (ifs : List Expr) (b : Bool) : Prop where
  go : ∀ A s F, Le A n → St B env vars F s →
  W w A (forIn ifs true fun c r => if r = true then do let ok ← isTrue c env (eval c env); pure (ForInStep.yield ok) else pure (ForInStep.yield r)) (fun ok s' => ok = b ∧ ∃ F', Ext B s F s' F') s
theorem Tests.nil {w : World} {B : Shared} {n : Nat} {env : Env} {vars : Vars} : Tests w B n env vars [] true := .mk fun A s F _ S => wpAny_tests_nil ⟨rfl, F, Ext.refl S.inv S.fin⟩
theorem Tests.one {w : World} {B : Shared} {n : Nat} {env : Env} {vars : Vars} {c : Expr} {b : Bool} (h : EvT w B n env vars c b) : Tests w B n env vars [c] b := .mk fun A s F hA S => wpAny_tests_one (h.go A s F hA S)

theorem Soft.ext {B s s' : Shared} {F F' : Fz} {a : Addr} {o : Obj} (p : Soft B F s a o) (x : Ext B s F s' F') : Soft B F' s' a o :=
  ⟨x.keep _ _ p.at_ (soft.ntab p.soft), p.soft, p.dict, p.cell, p.base, x.noneAt p.at_ p.soft p.out⟩
theorem Soft.keep {B s s' : Shared} {F : Fz} {a : Addr} {o : Obj} (p : Soft B F s a o) (k : ∀ b o, s.heap.get? b = some o → (∀ es n, o.data ≠ .dict es n) → (∀ v, o.data ≠ .cell v) → s'.heap.get? b = some o) : Soft B F s' a o :=
  ⟨k _ _ p.at_ p.dict p.cell, p.soft, p.dict, p.cell, p.base, p.out⟩
theorem Soft.fields {B s : Shared} {F : Fz} {a : Addr} {o : Obj} {vs : Array Value} (h : s.heap.get? a = some o) (hd : o.data = .fields vs) (hs : Mine.soft o) (hb : B.heap.objs.size ≤ a) (ho : F a = none) : Soft B F s a o :=
  ⟨h, hs, (fun _ _ e => by rw [hd] at e; cases e), (fun _ e => by rw [hd] at e; cases e), hb, ho⟩
theorem Soft.lst {B s : Shared} {F : Fz} {a : Addr} {vs : List Value} {n : Nat} (h : s.heap.get? a = some (lst vs n)) (hb : B.heap.objs.size ≤ a) (ho : F a = none) : Soft B F s a (Mine.lst vs n) :=
  ⟨h, soft_of (fun _ e => (nomatch e)), fun _ _ e => (nomatch e), fun _ e => (nomatch e), hb, ho⟩
theorem Src.keep {w : World} {I : Addr} {fp : List Addr} {F : Fz} {rs : List Rp} {Sn : Nat → Heap → Prop} (S : Src w I fp F rs Sn) {i : Nat} {h h' : Heap} (st : Sn i h) (f : F.In h) (f' : F.In h') (hI : ∀ o, h.get? I = some o → h'.get? I = some o) : Sn i h' :=
  (S.walks { handled := none, depth := 0, frames := none, guards := none, units := 0 } rfl).frame i h h' st fun b hb o e => (S.fro b hb).elim (fun k => by subst k; exact hI o e) fun ⟨o', e'⟩ => by
    have := (f b o' e').1
    rw [this] at e; cases e
    exact (f' b _ e').1
theorem Src.keeps {w : World} {I : Addr} {fp : List Addr} {F F' : Fz} {rs : List Rp} {Sn : Nat → Heap → Prop} (S : Src w I fp F rs Sn) {i : Nat} {B s s' : Shared} {F₁ : Fz} (st : Sn i s.heap) (l : F.Le F₁) (f : F₁.In s.heap) (x : Ext B s F₁ s' F') : Sn i s'.heap := by
  obtain ⟨o, vs, e, d, q⟩ := S.obj i _ st
  exact S.keep st (fun a o e => f a o (l a o e)) (fun a o e => x.fin a o (x.le a o (l a o e))) fun o' e' => by rw [e] at e'; cases e'; exact x.keep _ _ e (soft.ntab q)

section
variable {w : World} {B : Shared} {n : Nat}

/-- one step of the walk -/
theorem next_item {s₀ s : Shared} {F₀ F₁ F : Fz} {env : Env} {vars : Vars} {A : Around} {I : Addr} {fp : List Addr} {rs : List Rp} {Sn : Nat → Heap → Prop} {Q : Option Value → Shared → Prop} {i : Nat} {r : Rp} (hA : Le A n)
    (R : Rn B s₀ F₀ env vars F s) (S : Src w I fp F₁ rs Sn) (l : F₁.Le F) (st : Sn i s.heap) (hr : rs[i]? = some r) (hI : s₀.heap.objs.size ≤ I) (hB : B.heap.objs.size ≤ I) (hF : F I = none)
    (h : ∀ v s', Rn B s₀ F₀ env vars F s' → Sn (i + 1) s'.heap → r.p F v → (∀ b o, b ≠ I → s.heap.get? b = some o → s'.heap.get? b = some o) → Q (some v) s') : W w A (pyNext (.ref I)) Q s := by
  have hi : i < rs.length := (List.getElem?_eq_some_iff.mp hr).1
  refine W.size ((S.walks A hA.handled).item i s _ _ hi st fun v h' tk hv st' hk hz => ?_)
  obtain ⟨o, vs, e, d, q⟩ := S.obj i _ st
  obtain ⟨r', e', p'⟩ := hv
  rw [hr] at e'; cases e'
  have k : ∀ b o, b ≠ I → s.heap.get? b = some o → h'.get? b = some o := fun b o hb e => hk b o (by simpa using hb) e
  exact h v _ (R.but (Soft.fields e d q hB hF) hI k hz tk) st' (r.mono _ _ _ l p') k
theorem next_done {s₀ s : Shared} {F₀ F₁ F : Fz} {env : Env} {vars : Vars} {A : Around} {I : Addr} {fp : List Addr} {rs : List Rp} {Sn : Nat → Heap → Prop} {Q : Option Value → Shared → Prop} (hA : Le A n)
    (R : Rn B s₀ F₀ env vars F s) (S : Src w I fp F₁ rs Sn) (l : F₁.Le F) (st : Sn rs.length s.heap) (hI : s₀.heap.objs.size ≤ I) (hB : B.heap.objs.size ≤ I) (hF : F I = none)
    (h : ∀ s', Rn B s₀ F₀ env vars F s' → (∀ b o, b ≠ I → s.heap.get? b = some o → s'.heap.get? b = some o) → Q none s') : W w A (pyNext (.ref I)) Q s := by
  refine W.size ((S.walks A hA.handled).done s _ _ st fun h' tk hk hz => ?_)
  obtain ⟨o, vs, e, d, q⟩ := S.obj _ _ st
  have k : ∀ b o, b ≠ I → s.heap.get? b = some o → h'.get? b = some o := fun b o hb e => hk b o (by simpa using hb) e
  exact h _ (R.but (Soft.fields e d q hB hF) hI k hz tk) k

theorem ne_of_get {h : Heap} {a b : Addr} {o o' : Obj} (ha : h.get? a = some o) (hb : h.get? b = some o') (k : o.data ≠ o'.data) : a ≠ b := by
  rintro rfl
  rw [ha] at hb; cases hb
  exact k rfl

/-- the list grows by one -/
theorem push_list {s₀ s : Shared} {F₀ F : Fz} {env : Env} {vars : Vars} {A : Around} {D : Addr} {ys : List Value} {m : Nat} {v : Value} {Q : Value → Shared → Prop} (R : Rn B s₀ F₀ env vars F s) (p : Soft B F s D (lst ys m)) (h0 : s₀.heap.objs.size ≤ D) (hz : ys.length ≤ sizeLine)
    (h : ∀ s' m', Rn B s₀ F₀ env vars F s' → Soft B F s' D (lst (ys ++ [v]) m') → (∀ b o, b ≠ D → s.heap.get? b = some o → s'.heap.get? b = some o) → Q .none s') : W w A (call (.builtin "list.append") [.ref D, v]) Q s := by
  refine W.size (wpAny_list_append_plain (items := ys.toArray) ⟨m, p.at_⟩ (fun h' hp hs hz => ?_) (by simpa using hz))
  obtain ⟨m', e⟩ := hp
  have k : ∀ b o, b ≠ D → s.heap.get? b = some o → h'.get? b = some o := fun b o hb e => (hs.2 b hb).trans e
  exact h { s with heap := h' } m' (R.but p h0 k hz s.toks) (Soft.lst (by rw [show lst (ys ++ [v]) m' = ({ cls := .type "list", data := .seq (ys.toArray.push v) m' } : Obj) by simp [Mine.lst]]; exact e) p.base p.out) k

theorem comp_loop {α : Type} {elt iter : Expr} {x : Str} {px : Pos} {ifs : List Expr} {scope : Scope} {pos : Pos} {cenv : Env} {cap : Vars} {xs : List α} {f g : α → Rp} {p : α → Bool} {A : Around} {s₀ s : Shared} {F₀ F : Fz} {I D : Addr} {fp : List Addr} {Sn : Nat → Heap → Prop} {m : Nat} {R : Result → Shared → Prop}
    (hA : Le A n) (r : Rn B s₀ F₀ cenv cap F s) (S : Src w I fp F (xs.map f) Sn) (st : Sn 0 s.heap) (hI : s₀.heap.objs.size ≤ I) (hBI : B.heap.objs.size ≤ I) (hFI : F I = none) (pD : Soft B F s D (lst [] m)) (hD : s₀.heap.objs.size ≤ D)
    (hz : xs.length ≤ sizeLine) (hx : Own cenv s₀.heap.objs.size x) (hcx : ∀ p ∈ cap, p.1 ≠ x)
    (ht : ∀ a ∈ xs, Tests w B n cenv ((x, f a) :: cap) ifs (p a)) (he : ∀ a ∈ xs, p a = true → Ev w B n cenv ((x, f a) :: cap) elt (g a))
    (hR : ∀ s' F' ys m', Rn B s₀ F₀ cenv cap F' s' → Soft B F' s' D (lst ys m') → Are g F' ys (xs.filter p) → R (.ok .next) s') :
    WC w A (.compLoop (.ListComp elt [⟨.Name x px, iter, ifs, 0⟩] scope pos) 0 (.ref I) (.ref D) cenv) R s := by
  refine codeAny_compLoop_tests (fun k s' => ∃ F' i ys m', k = xs.length + 1 - i ∧ i ≤ xs.length ∧ F.Le F' ∧ F' I = none ∧ Rn B s₀ F₀ cenv cap F' s' ∧ Soft B F' s' D (lst ys m') ∧ Sn i s'.heap ∧ Are g F' ys ((xs.take i).filter p)) ?_ (xs.length + 1)
    ⟨F, 0, [], m, rfl, Nat.zero_le _, Fz.Le.refl _, hFI, r, pD, st, by simpa using Are.nil⟩
  rintro k s₁ ⟨F₁, i, ys, m₁, rfl, hi, l₁, hFI₁, r₁, p₁, st₁, are₁⟩
  by_cases hlt : i < xs.length
  · have hget : xs[i]? = some xs[i] := List.getElem?_eq_getElem hlt
    have hmem : xs[i] ∈ xs := List.getElem_mem hlt
    generalize xs[i] = a at hget hmem
    refine W.toE (next_item hA r₁ S l₁ st₁ (by rw [List.getElem?_map, hget]; rfl) hI hBI hFI₁ fun v s₂ r₂ st₂ hv k₂ => ?_)
    obtain ⟨oI, vs, eI, dI, qI⟩ := S.obj _ _ st₁
    have neD : D ≠ I := ne_of_get p₁.at_ eI (by rw [dI]; intro e; cases e)
    have p₂ : Soft B F₁ s₂ D (lst ys m₁) := ⟨k₂ _ _ neD p₁.at_, p₁.soft, p₁.dict, p₁.cell, p₁.base, p₁.out⟩
    refine W.toE (wpAny_assign_Name (store' (vars' := cap) r₂ hv hx (fun q hq => ⟨hq, hcx q hq⟩) fun s₃ r₃ k₃ => ?_))
    have st₃ : Sn (i + 1) s₃.heap := by
      obtain ⟨o, vs, e, d, q⟩ := S.obj _ _ st₂
      exact S.keep st₂ (fun a o e => r₂.st.fin a o (l₁ a o e)) (fun a o e => r₃.st.fin a o (l₁ a o e)) fun o' e' => k₃ _ _ e' (by rw [e] at e'; cases e'; rw [d]; intro _ _ h; cases h) (by rw [e] at e'; cases e'; rw [d]; intro _ h; cases h)
    have p₃ := p₂.keep k₃
    refine W.toE ((((ht a hmem).go A s₃ F₁ hA r₃.st)).mono fun ok s₄ ⟨eok, F₄, x₄⟩ => ?_)
    subst eok
    have r₄ := (r₃.of_ext x₄)
    have st₄ := S.keeps st₃ l₁ r₃.st.fin x₄
    have p₄ := p₃.ext x₄
    have hFI₄ : F₄ I = none := by
      obtain ⟨o, vs, e, d, q⟩ := S.obj _ _ st₃
      exact x₄.noneAt e q hFI₁
    have htake : (xs.take (i + 1)).filter p = (xs.take i).filter p ++ (if p a then [a] else []) := take_succ_filter p xs i a hget
    cases hp : p a with
    | false =>
      simp only [Bool.false_eq_true, if_false]
      refine ⟨xs.length + 1 - (i + 1), turn_lt hlt, F₄, i + 1, ys, m₁, rfl, hlt, l₁.trans x₄.le, hFI₄, ⟨r₄.st.sub fun q hq => .tail _ hq, r₄.ext⟩, p₄, st₄, ?_⟩
      rw [htake, hp]
      simpa using are₁.mono x₄.le
    | true =>
      simp only [if_true]
      refine W.toE (((he a hmem hp).go A s₄ F₄ hA r₄.st).mono fun y s₅ ⟨F₅, x₅, py⟩ => ?_)
      have r₅ := r₄.of_ext x₅
      have st₅ := S.keeps st₄ (l₁.trans x₄.le) r₄.st.fin x₅
      have p₅ := p₄.ext x₅
      have hFI₅ : F₅ I = none := by
        obtain ⟨o, vs, e, d, q⟩ := S.obj _ _ st₄
        exact x₅.noneAt e q hFI₄
      have hlen : ys.length ≤ sizeLine := by
        have e1 := are₁.1
        have e2 : ((xs.take i).filter p).length ≤ (xs.take i).length := List.length_filter_le _ _
        have e3 : (xs.take i).length ≤ xs.length := by rw [List.length_take]; (lia)
        (lia)
      refine W.toE (push_list r₅ p₅ hD hlen fun s₆ m₆ r₆ p₆ k₆ => ?_)
      refine ⟨xs.length + 1 - (i + 1), turn_lt hlt, F₅, i + 1, ys ++ [y], m₆, rfl, hlt, (l₁.trans x₄.le).trans x₅.le, hFI₅, ⟨r₆.st.sub fun q hq => .tail _ hq, r₆.ext⟩, p₆, ?_, ?_⟩
      · exact S.keep st₅ (fun a o e => x₅.fin a o (x₅.le _ _ (x₄.le _ _ (l₁ a o e)))) (fun a o e => r₆.st.fin a o (x₅.le _ _ (x₄.le _ _ (l₁ a o e)))) fun o e => k₆ _ _ (Ne.symm neD) e
      · rw [htake, hp]
        exact (are₁.mono (x₄.le.trans x₅.le)).append (Are.cons py Are.nil)
  · have hin : i = xs.length := by (lia)
    subst hin
    refine W.toE (next_done hA r₁ S l₁ (by simpa using st₁) hI hBI hFI₁ fun s₂ r₂ k₂ => ?_)
    obtain ⟨oI, vs, eI, dI, qI⟩ := S.obj _ _ st₁
    have neD : D ≠ I := ne_of_get p₁.at_ eI (by rw [dI]; intro e; cases e)
    rw [List.take_length] at are₁
    exact hR s₂ F₁ ys m₁ r₂ ⟨k₂ _ _ neD p₁.at_, p₁.soft, p₁.dict, p₁.cell, p₁.base, p₁.out⟩ are₁
end
end Mine
end

section
open PySem PySem.W PyProof.Rows PySem.Calls
namespace Mine

section
variable {w : World} {B : Shared} {n : Nat} {env : Env} {vars : Vars}

theorem cenv_eq {scope : Scope} {cl : List (Str × Addr)} {N : Nat} {b : Addr} (h : env.globals = mainGlobals) : { newEnv scope N mainGlobals (cellsFrom (N + 1) scope.names cl) env.qual none .none (some env) b with scope := relabel scope env } = cenvOf scope cl N env := by
  unfold cenvOf compEnvC newEnv
  rw [h]

theorem comp_block {α : Type} {elt iter : Expr} {x : Str} {px : Pos} {ifs : List Expr} {scope : Scope} {pos : Pos} {cap : Vars} {xs : List α} {f g : α → Rp} {p : α → Bool} {A : Around} {s s₁ : Shared} {F₀ F : Fz} {rI : Rp} {xv : Value} {cl : List (Str × Addr)} {RR : Value → Addr → Result → Shared → Prop}
    (hA : Le A n) (S : St B env vars F₀ s) (x₁ : Ext B s F₀ s₁ F) (it : Iterable w B n rI (xs.map f)) (hv : rI.p F xv) (ok : scOk scope = true) (hf : frees scope = cap.map (·.1)) (hc : Cap env vars cap) (hcl : closureFor scope env = pure cl)
    (hz : xs.length ≤ sizeLine) (hxl : scope.names.lookup x = some .local ∨ scope.names.lookup x = some .cell)
    (hb : ∀ N cenv, FE scope N cenv → (∀ a ∈ xs, Tests w B n cenv ((x, f a) :: cap) ifs (p a)) ∧ ∀ a ∈ xs, p a = true → Ev w B n cenv ((x, f a) :: cap) elt (g a))
    (hR : ∀ D C s' F', Ext B s₁ F s' F' → (rList g (xs.filter p)).p F' (.ref D) → (∃ m, s'.heap.Ns C m) → F' C = none → s₁.heap.objs.size ≤ C → B.heap.objs.size ≤ C → RR (.ref D) C (.ok .next) s') :
    W w A (pyIter xv) (fun it s₂ => W w A (newList []) (fun acc s₃ => W w A (newFunctionEnv scope env.globals cl [] env.qual none .none (some env)) (fun cenv s₄ =>
      WC w A (.compStart (.ListComp elt [⟨.Name x px, iter, ifs, 0⟩] scope pos) 0 it acc { cenv with scope := relabel scope env }) (RR acc cenv.locals) s₄) s₃) s₂) s₁ := by
  have S₁ := S.ext x₁
  refine (it.go A s₁ F xv hA S₁.inv S₁.fin hv).mono fun itv s₂ ⟨o, fp, Sn, ofr, eit, es, src, st⟩ => ?_
  subst eit
  have hI₂ : s₂.heap.objs.size = s₁.heap.objs.size + 1 := by rw [es]; simp
  have x₂ : Ext B s₁ F s₂ F := by rw [es]; exact Ext.push S₁.inv S₁.fin o
  have i₂ : Inv B s₂ := x₂.inv
  refine wpAny_newObj_type ?_
  generalize hs₃ : ({ s₂ with heap := s₂.heap.push { cls := .type "list", dict := none, data := .seq ([] : List Value).toArray } } : Shared) = s₃
  have x₃ : Ext B s₂ F s₃ F := by rw [← hs₃]; exact Ext.push x₂.inv x₂.fin _
  have x₁₃ := x₂.trans x₃
  obtain ⟨cl', e', en⟩ := enter (w := w) (A := A) S (x₁.trans x₁₃) ok hf hc
  have ecl : cl = cl' := by rw [hcl] at e'; injection e'
  subst ecl
  refine en fun s₄ r => ?_
  show WC w A (.compStart _ 0 _ _ { newEnv scope s₃.heap.objs.size mainGlobals (cellsFrom (s₃.heap.objs.size + 1) scope.names cl) env.qual none .none (some env) 0 with scope := relabel scope env }) (RR _ s₃.heap.objs.size) s₄
  rw [cenv_eq S.eok.gl]
  have fe := cenv_fe (env := env) (scope := scope) (cl := cl) (N := s₃.heap.objs.size)
  obtain ⟨bt, be⟩ := hb _ _ fe
  have src₃ := src
  have getD : s₃.heap.get? s₂.heap.objs.size = some (lst [] 0) := by rw [← hs₃]; exact Heap.get?_push_size _ rfl
  have sD : s₃.heap.objs.size = s₂.heap.objs.size + 1 := by rw [← hs₃]; simp
  have FN : ∀ a, s₁.heap.objs.size ≤ a → F a = none := fun a ha => Fz.none_of_in S₁.fin ha
  have bs : B.heap.objs.size ≤ s₁.heap.objs.size := S₁.inv.size
  have p₃ : Soft B F s₃ s₂.heap.objs.size (lst [] 0) := Soft.lst getD (by (lia)) (FN _ (by (lia)))
  have r' : Rn B s₁ F (cenvOf scope cl s₃.heap.objs.size env) cap F s₄ := r.rebase x₁₃
  have st₄ : Sn 0 s₄.heap := src.keeps st (Fz.Le.refl _) x₂.fin (x₃.trans r.ext)
  have loop : WC w A (.compLoop (.ListComp elt [⟨.Name x px, iter, ifs, 0⟩] scope pos) 0 (.ref s₁.heap.objs.size) (.ref s₂.heap.objs.size) (cenvOf scope cl s₃.heap.objs.size env)) (RR (.ref s₂.heap.objs.size) s₃.heap.objs.size) s₄ := by
    refine comp_loop hA r' src st₄ (Nat.le_refl _) bs (FN _ (Nat.le_refl _)) (p₃.ext r.ext) (by (lia)) hz ?_ ?_ bt be fun s' F' ys m' R' pD are => ?_
    · have := fe.own x hxl
      rcases this with ⟨a, b⟩ | ⟨a, c, b, d⟩
      · exact .inl ⟨a, by show s₁.heap.objs.size ≤ _; (lia)⟩
      · exact .inr ⟨a, c, b, Nat.le_trans (by (lia)) d⟩
    · intro q hq e
      simp only [scOk, Bool.and_eq_true, beq_iff_eq, decide_eq_true_eq] at ok
      have : q.1 ∈ frees scope := by rw [hf]; exact List.mem_map.mpr ⟨q, hq, rfl⟩
      unfold frees at this
      obtain ⟨z, hz, ez⟩ := List.mem_map.mp this
      obtain ⟨hz1, hz2⟩ := List.mem_filter.mp hz
      have := nodup_lookup ok.2 (show (x, z.2) ∈ scope.names from by rw [← e, ← ez]; exact hz1)
      have k2 : z.2 = .free := by simpa using hz2
      rw [k2] at this
      rcases hxl with h | h <;> (rw [h] at this; cases this)
    · have fz := R'.ext.freeze (a := s₂.heap.objs.size) (by (lia)) pD.at_ pD.out
      have hl := R'.st.eok.loc
      have hlF := R'.st.eok.locF
      have ne : (s₃.heap.objs.size : Addr) ≠ s₂.heap.objs.size := by rw [sD]; exact Nat.succ_ne_self _
      refine hR _ _ s' _ fz ⟨_, ys, m', rfl, Fz.put_self .., are.mono (Fz.le_put pD.out)⟩ hl ?_ (by (lia)) (by (lia))
      show (if _ then _ else _) = none
      rw [if_neg ne]; exact hlF
  exact codeAny_compStart_list loop (W.toE ((src.walks A hA.handled).self 0 s₄ _ _ st₄ loop))

theorem Ev.comp {α : Type} {elt iter : Expr} {x : Str} {px : Pos} {ifs : List Expr} {scope : Scope} {pos : Pos} {xs : List α} {f g : α → Rp} {p : α → Bool} {rI : Rp} (cap : Vars)
    (hi : Ev w B n env vars iter rI) (it : Iterable w B n rI (xs.map f)) (ok : scOk scope = true) (hf : frees scope = cap.map (·.1)) (hc : Cap env vars cap)
    (hz : xs.length ≤ sizeLine) (hxl : scope.names.lookup x = some .local ∨ scope.names.lookup x = some .cell)
    (hb : ∀ N cenv, FE scope N cenv → (∀ a ∈ xs, Tests w B n cenv ((x, f a) :: cap) ifs (p a)) ∧ ∀ a ∈ xs, p a = true → Ev w B n cenv ((x, f a) :: cap) elt (g a))
    (hs : ∀ x, foldedSetIterable iter env x = pure x := by intro _; rfl) : Ev w B n env vars (.ListComp elt [⟨.Name x px, iter, ifs, 0⟩] scope pos) (rList g (xs.filter p)) := .mk fun A s F hA S => by
  rw [eval_ListComp]
  have okk := ok
  simp only [scOk, Bool.and_eq_true, beq_iff_eq, decide_eq_true_eq] at okk
  obtain ⟨cl, ecl, _⟩ := enter (w := w) (A := A) S (Ext.refl S.inv S.fin) ok hf hc
  refine wpAny_comprehension_free (use := Option.none) rfl hs ecl okk.1 (fun y hy e => e ▸ nodup_lookup okk.2 hy) ((hi.go A s F hA S).mono fun xv s₁ ⟨F₁, x₁, hv⟩ => ?_)
  refine comp_block (RR := fun acc C => compPost (model PG w) A _ Option.none _ acc C) hA S x₁ it hv ok hf hc ecl hz hxl hb fun D C s' F' x' hr ⟨m, hm⟩ hC hC1 hC2 => ⟨m, hm, fun h' hs' => ?_⟩
  obtain ⟨o, es, ep, e, d, _⟩ := id hm
  refine ⟨F', ?_, hr⟩
  exact (x₁.trans x').same hs' e (soft_of fun _ q => by rw [d] at q; cases q) hC2 (Nat.le_trans x₁.size hC1) hC _

end
end Mine
end

section
open PySem PySem.W PyProof.Rows PySem.Calls
namespace Mine

/-- what is said of an object of the call's own that still changes -/
structure Mo where
  p : Fz → Obj → Prop
  mono : ∀ F F' o, F.Le F' → p F o → p F' o
noncomputable abbrev rL (rs : List Rp) : Rp := rList (fun r : Rp => r) rs
noncomputable def mList (rs : List Rp) : Mo := ⟨fun F o => ∃ ys k, o = lst ys k ∧ Ares F ys rs, fun _ _ _ l ⟨ys, k, e, h⟩ => ⟨ys, k, e, h.mono l⟩⟩
noncomputable def mObj (o : Obj) : Mo := ⟨fun _ o' => o' = o, fun _ _ _ _ h => h⟩
noncomputable abbrev Mss := List (Addr × Mo)
structure Ms (B s₀ : Shared) (ms : Mss) (F : Fz) (s : Shared) : Prop where
  nd : (ms.map (·.1)).Nodup
  at_ : ∀ q ∈ ms, s₀.heap.objs.size ≤ q.1 ∧ ∃ o, Soft B F s q.1 o ∧ q.2.p F o
theorem Ms.nil {B s₀ : Shared} {F : Fz} {s : Shared} : Ms B s₀ [] F s := ⟨List.nodup_nil, fun _ h => (nomatch h)⟩
theorem Ms.ext {B s₀ : Shared} {ms : Mss} {F F' : Fz} {s s' : Shared} (M : Ms B s₀ ms F s) (x : Ext B s F s' F') : Ms B s₀ ms F' s' :=
  ⟨M.nd, fun q hq => let ⟨a, o, p, m⟩ := M.at_ q hq; ⟨a, o, p.ext x, q.2.mono _ _ _ x.le m⟩⟩
theorem Ms.keep {B s₀ : Shared} {ms : Mss} {F : Fz} {s s' : Shared} (M : Ms B s₀ ms F s) (k : ∀ b o, s.heap.get? b = some o → (∀ es n, o.data ≠ .dict es n) → (∀ v, o.data ≠ .cell v) → s'.heap.get? b = some o) : Ms B s₀ ms F s' :=
  ⟨M.nd, fun q hq => let ⟨a, o, p, m⟩ := M.at_ q hq; ⟨a, o, p.keep k, m⟩⟩
theorem Ms.tail {B s₀ : Shared} {q : Addr × Mo} {ms : Mss} {F : Fz} {s : Shared} (M : Ms B s₀ (q :: ms) F s) : Ms B s₀ ms F s := ⟨(List.nodup_cons.mp M.nd).2, fun p hp => M.at_ p (.tail _ hp)⟩
/-- one of them has changed -/
theorem Ms.but {B s₀ : Shared} {a : Addr} {m m' : Mo} {ms : Mss} {F : Fz} {s s' : Shared} {o' : Obj} (M : Ms B s₀ ((a, m) :: ms) F s) (k : ∀ b o, b ≠ a → s.heap.get? b = some o → s'.heap.get? b = some o) (p : Soft B F s' a o') (hm : m'.p F o') : Ms B s₀ ((a, m') :: ms) F s' :=
  ⟨M.nd, fun q hq => by
    rcases List.mem_cons.mp hq with rfl | hq
    · exact ⟨(M.at_ (a, m) (.head _)).1, o', p, hm⟩
    · obtain ⟨x, o, y, z⟩ := M.at_ q (.tail _ hq)
      have ne : q.1 ≠ a := fun e => by
        have := (List.nodup_cons.mp M.nd).1
        exact this (List.mem_map.mpr ⟨q, hq, e⟩)
      exact ⟨x, o, ⟨k _ _ ne y.at_, y.soft, y.dict, y.cell, y.base, y.out⟩, z⟩⟩
theorem Ms.perm {B s₀ : Shared} {ms ms' : Mss} {F : Fz} {s : Shared} (M : Ms B s₀ ms F s) (h : ms.Perm ms') : Ms B s₀ ms' F s := ⟨((h.map (·.1)).nodup_iff).mp M.nd, fun q hq => M.at_ q (h.mem_iff.mpr hq)⟩
theorem Ms.push {B s₀ : Shared} {ms : Mss} {F : Fz} {s : Shared} {a : Addr} {m : Mo} {o : Obj} (M : Ms B s₀ ms F s) (hn : ∀ q ∈ ms, q.1 ≠ a) (h0 : s₀.heap.objs.size ≤ a) (p : Soft B F s a o) (hm : m.p F o) : Ms B s₀ ((a, m) :: ms) F s :=
  ⟨by rw [List.map_cons, List.nodup_cons]; exact ⟨fun h => let ⟨q, a, b⟩ := List.mem_map.mp h; hn q a b, M.nd⟩, fun q hq => by
    rcases List.mem_cons.mp hq with rfl | hq
    · exact ⟨h0, o, p, hm⟩
    · exact M.at_ q hq⟩
theorem Ms.lt {B s₀ : Shared} {ms : Mss} {F : Fz} {s : Shared} (M : Ms B s₀ ms F s) : ∀ q ∈ ms, q.1 < s.heap.objs.size := fun q hq => let ⟨_, o, p, _⟩ := M.at_ q hq; Heap.lt_size p.at_

section
variable {w : World} {B : Shared} {n : Nat} {env : Env} {vars : Vars} {ms : Mss}

/-- the expression's value, with some objects still changing about it -/
structure EvM (w : World) (B s₀ : Shared) (n : Nat) (env : Env) (vars : Vars) (ms : Mss) (e : Expr) (r : Rp) : Prop where
  go : ∀ A s F, Le A n → St B env vars F s → Ms B s₀ ms F s → W w A (eval e env) (Gives B s F r) s
structure EvTM (w : World) (B s₀ : Shared) (n : Nat) (env : Env) (vars : Vars) (ms : Mss) (e : Expr) (b : Bool) : Prop where
  go : ∀ A s F, Le A n → St B env vars F s → Ms B s₀ ms F s → W w A (isTrue e env (eval e env)) (fun c s' => c = b ∧ ∃ F', Ext B s F s' F') s
theorem Ev.m {e : Expr} {r : Rp} {s₀ : Shared} (h : Ev w B n env vars e r) : EvM w B s₀ n env vars ms e r := .mk fun A s F hA S _ => h.go A s F hA S
theorem EvT.m {e : Expr} {b : Bool} {s₀ : Shared} (h : EvT w B n env vars e b) : EvTM w B s₀ n env vars ms e b := .mk fun A s F hA S _ => h.go A s F hA S

/-- the statements, from a turn of the walk on -/
structure Xs (w : World) (B s₀ : Shared) (F₀ : Fz) (n : Nat) (env : Env) (vars : Vars) (ms : Mss) (sts : List Stmt) (Q : Flow → Shared → Prop) : Prop where
  go : ∀ A s F, Le A n → Rn B s₀ F₀ env vars F s → Ms B s₀ ms F s → W w A (execs sts env) Q s
/-- the block comes back by a value of which r holds -/
noncomputable def Back (B s₀ : Shared) (F₀ : Fz) (r : Rp) (f : Flow) (s' : Shared) : Prop := ∃ v, f = .ret v ∧ Gives B s₀ F₀ r v s'
/-- it stands so -/
noncomputable def At (B s₀ : Shared) (F₀ : Fz) (env : Env) (vars : Vars) (ms : Mss) (s' : Shared) : Prop := ∃ F', Rn B s₀ F₀ env vars F' s' ∧ Ms B s₀ ms F' s'
/-- it goes on -/
noncomputable abbrev On (B s₀ : Shared) (F₀ : Fz) (env : Env) (vars : Vars) (ms : Mss) (f : Flow) (s' : Shared) : Prop := f = .next ∧ At B s₀ F₀ env vars ms s'
variable {s₀ : Shared} {F₀ : Fz} {Q : Flow → Shared → Prop}
theorem Xs.retM {e : Expr} {pos : Pos} {rest : List Stmt} {r : Rp} (h : EvM w B s₀ n env vars ms e r) : Xs w B s₀ F₀ n env vars ms (.Return (some e) pos :: rest) (Back B s₀ F₀ r) := .mk fun A s F hA R M =>
  wpAny_execs_cons (wpAny_Return_some ((h.go A s F hA R.st M).mono fun v s' g => ⟨v, rfl, g.from R.ext⟩))
theorem Xs.ret {e : Expr} {pos : Pos} {rest : List Stmt} {r : Rp} (h : Ev w B n env vars e r) : Xs w B s₀ F₀ n env vars ms (.Return (some e) pos :: rest) (Back B s₀ F₀ r) := Xs.retM h.m
theorem Xs.assignM {x : Str} {p pos : Pos} {e : Expr} {rest : List Stmt} {r : Rp} {vars' : Vars} (h : EvM w B s₀ n env vars ms e r) (ho : Own env s₀.heap.objs.size x) (hv : ∀ p ∈ vars', p ∈ vars ∧ p.1 ≠ x)
    (k : Xs w B s₀ F₀ n env ((x, r) :: vars') ms rest Q) (hs : swapsWith e (some (.Name x p)) pos.line env = pure false := by rfl) : Xs w B s₀ F₀ n env vars ms (.Assign [.Name x p] e pos :: rest) Q := .mk fun A s F hA R M =>
  wpAny_execs_cons (wpAny_Assign_Name ((h.go A s F hA R.st M).mono fun v s₁ ⟨F₁, x₁, q⟩ => store' (R.of_ext x₁) q ho hv fun s' R' k' => k.go A s' F₁ hA R' ((M.ext x₁).keep k')) hs)
theorem Xs.assign {x : Str} {p pos : Pos} {e : Expr} {rest : List Stmt} {r : Rp} {vars' : Vars} (h : Ev w B n env vars e r) (ho : Own env s₀.heap.objs.size x) (hv : ∀ p ∈ vars', p ∈ vars ∧ p.1 ≠ x)
    (k : Xs w B s₀ F₀ n env ((x, r) :: vars') ms rest Q) (hs : swapsWith e (some (.Name x p)) pos.line env = pure false := by rfl) : Xs w B s₀ F₀ n env vars ms (.Assign [.Name x p] e pos :: rest) Q := Xs.assignM h.m ho hv k hs
theorem Xs.if_no {t : Expr} {body : List Stmt} {pos : Pos} {rest : List Stmt} (h : EvTM w B s₀ n env vars ms t false) (k : Xs w B s₀ F₀ n env vars ms rest Q) : Xs w B s₀ F₀ n env vars ms (.If t body [] pos :: rest) Q := .mk fun A s F hA R M =>
  wpAny_execs_cons (wpAny_If ((h.go A s F hA R.st M).mono fun c s₁ ⟨e, F₁, x₁⟩ => by subst e; exact wpAny_execs_nil (k.go A s₁ F₁ hA (R.of_ext x₁) (M.ext x₁))))
/-- the branch taken goes on to the rest, or leaves -/
theorem Xs.if_ {t : Expr} {body orelse : List Stmt} {pos : Pos} {rest : List Stmt} {b : Bool} {vars' : Vars} {ms' : Mss} (h : EvTM w B s₀ n env vars ms t b)
    (h1 : b = true → Xs w B s₀ F₀ n env vars ms body fun f s' => On B s₀ F₀ env vars' ms' f s' ∨ (f ≠ .next ∧ Q f s')) (h2 : b = false → Xs w B s₀ F₀ n env vars ms orelse fun f s' => On B s₀ F₀ env vars' ms' f s' ∨ (f ≠ .next ∧ Q f s'))
    (k : Xs w B s₀ F₀ n env vars' ms' rest Q) : Xs w B s₀ F₀ n env vars ms (.If t body orelse pos :: rest) Q := .mk fun A s F hA R M =>
  wpAny_execs_cons (wpAny_If ((h.go A s F hA R.st M).mono fun c s₁ ⟨e, F₁, x₁⟩ => by
    subst e
    have go : ∀ f s', (On B s₀ F₀ env vars' ms' f s' ∨ (f ≠ .next ∧ Q f s')) → (match f with | .next => W w A (execs rest env) Q s' | f => Q f s') := by
      rintro f s' (⟨rfl, F', R', M'⟩ | ⟨hn, q⟩)
      · exact k.go A s' F' hA R' M'
      · cases f <;> first | exact absurd rfl hn | exact q
    cases c with
    | true => exact ((h1 rfl).go A s₁ F₁ hA (R.of_ext x₁) (M.ext x₁)).mono go
    | false => exact ((h2 rfl).go A s₁ F₁ hA (R.of_ext x₁) (M.ext x₁)).mono go))
theorem Xs.nil : Xs w B s₀ F₀ n env vars ms [] (On B s₀ F₀ env vars ms) := .mk fun A s F hA R M => wpAny_execs_nil ⟨rfl, F, R, M⟩
theorem Xs.sub {sts : List Stmt} {vars' : Vars} (h : Xs w B s₀ F₀ n env vars' ms sts Q) (k : ∀ p ∈ vars', ∃ q ∈ vars, q.1 = p.1 ∧ ∀ F v, q.2.p F v → p.2.p F v) : Xs w B s₀ F₀ n env vars ms sts Q := .mk fun A s F hA R M =>
  h.go A s F hA (R.weaken fun p hp => let ⟨q, a, b, c⟩ := k p hp; ⟨q, a, b, fun v => c F v⟩) M
theorem Xs.drop {sts : List Stmt} {q : Addr × Mo} (h : Xs w B s₀ F₀ n env vars ms sts Q) : Xs w B s₀ F₀ n env vars (q :: ms) sts Q := .mk fun A s F hA R M => h.go A s F hA R M.tail
theorem Xs.imp {sts : List Stmt} {Q' : Flow → Shared → Prop} (h : Xs w B s₀ F₀ n env vars ms sts Q) (k : ∀ f s, Q f s → Q' f s) : Xs w B s₀ F₀ n env vars ms sts Q' := .mk fun A s F hA R M => (h.go A s F hA R M).mono k
/-- the comprehension's list goes straight into a name of the block's -/
theorem Xs.comp {α : Type} {elt iter : Expr} {x y : Str} {px py spos : Pos} {ifs : List Expr} {scope : Scope} {pos : Pos} {xs : List α} {f g : α → Rp} {p : α → Bool} {rI : Rp} {rest : List Stmt} {vars' : Vars} (cap : Vars)
    (hi : Ev w B n env vars iter rI) (it : Iterable w B n rI (xs.map f)) (ok : scOk scope = true) (hf : frees scope = cap.map (·.1)) (hc : Cap env vars cap)
    (hz : xs.length ≤ sizeLine) (hxl : scope.names.lookup x = some .local ∨ scope.names.lookup x = some .cell)
    (hb : ∀ N cenv, FE scope N cenv → (∀ a ∈ xs, Tests w B n cenv ((x, f a) :: cap) ifs (p a)) ∧ ∀ a ∈ xs, p a = true → Ev w B n cenv ((x, f a) :: cap) elt (g a))
    (ho : Own env s₀.heap.objs.size y) (hv' : ∀ p ∈ vars', p ∈ vars ∧ p.1 ≠ y) (k : Xs w B s₀ F₀ n env ((y, rList g (xs.filter p)) :: vars') ms rest Q)
    (hsw : swapsWith (.ListComp elt [⟨.Name x px, iter, ifs, 0⟩] scope pos) (some (.Name y py)) spos.line env = pure true)
    (hs : ∀ x, foldedSetIterable iter env x = pure x := by intro _; rfl) : Xs w B s₀ F₀ n env vars ms (.Assign [.Name y py] (.ListComp elt [⟨.Name x px, iter, ifs, 0⟩] scope pos) spos :: rest) Q := .mk fun A s F hA R M => by
  refine wpAny_execs_cons ?_
  rw [exec_Assign_Name_used _ _ _ _ hsw]
  refine wpAny_bind (wpAny_standAt (wpAny_bind ?_))
  show wpAny _ A (do let _ ← comprehension (.ListComp elt [⟨.Name x px, iter, ifs, 0⟩] scope pos) scope env _ (newList []) false (eval iter env) (some (PySem.assign (.Name y py) env))) _ _ s
  have okk := ok
  simp only [scOk, Bool.and_eq_true, beq_iff_eq, decide_eq_true_eq] at okk
  obtain ⟨cl, ecl, _⟩ := enter (w := w) (A := A) R.st (Ext.refl R.st.inv R.st.fin) ok hf hc
  refine wpAny_bind (wpAny_mono (wpAny_comprehension_free (use := some (PySem.assign (.Name y py) env)) (Q := fun _ s' => wpAny (model PG w) A (execs rest env) Q (fun _ _ => False) s') rfl hs ecl okk.1 (fun y hy e => e ▸ nodup_lookup okk.2 hy)
    ((hi.go A s F hA R.st).mono fun xv s₁ ⟨F₁, x₁, hv⟩ => ?_)) (fun _ s' hq => wpAny_pure (wpAny_pure hq)) fun _ _ e => e)
  refine comp_block (RR := fun acc C => compPost (model PG w) A _ (some (PySem.assign (.Name y py) env)) _ acc C) hA R.st x₁ it hv ok hf hc ecl hz hxl hb fun D C s' F' x' hr ⟨m, hm⟩ hC hC1 hC2 => ?_
  show wpAny _ A (PySem.assign (.Name y py) env (.ref D)) _ _ _
  have R' := (R.of_ext x₁).of_ext x'
  obtain ⟨mL, hL⟩ := R.st.eok.loc
  have hCl : C ≠ env.locals := fun e => by subst e; exact absurd (Nat.lt_of_lt_of_le hL.lt (Nat.le_trans x₁.size hC1)) (Nat.lt_irrefl _)
  refine wpAny_assign_Name (store'' R' hr ho hv' fun s₂ R₂ k₂ => ?_)
  obtain ⟨o, es, ep, e, d, z⟩ := id hm
  have e₂ := k₂ C o e hCl fun v q => by rw [d] at q; cases q
  refine ⟨m, ⟨o, es, ep, e₂, d, z⟩, fun h' hs' => ?_⟩
  have hC0 : s.heap.objs.size ≤ C := Nat.le_trans x₁.size hC1
  have old : ∀ b o', s.heap.get? b = some o' → b ≠ C := fun b o' e' => Nat.ne_of_lt (Nat.lt_of_lt_of_le (Heap.lt_size e') hC0)
  have sC : soft o := soft_of fun _ q => by rw [d] at q; cases q
  refine k.go A _ F' hA ⟨⟨R₂.st.inv.same hs' e₂ sC hC2 _, R₂.st.fin.same hs' hC, ?_, fun p hp => ?_⟩, R₂.ext.same hs' e₂ sC hC2 (Nat.le_trans R.ext.size hC0) hC _⟩ ?_
  · obtain ⟨m₂, hm₂⟩ := R₂.st.eok.loc
    refine ⟨R₂.st.eok.kd, R₂.st.eok.gl, R₂.st.eok.bi, ⟨m₂, hm₂.sameBut hs' (Ne.symm hCl)⟩, R₂.st.eok.locF, R₂.st.eok.locB, fun y c hy => ?_, R₂.st.eok.apart⟩
    obtain ⟨⟨u, hu⟩, f, b⟩ := R₂.st.eok.cells y c hy
    obtain ⟨⟨u', hu'⟩, _⟩ := R.st.eok.cells y c hy
    exact ⟨⟨u, hu.sameBut hs' (let ⟨_, e', _⟩ := hu'; old _ _ e')⟩, f, b⟩
  · obtain ⟨v, hv, q⟩ := R₂.st.vars p hp
    refine ⟨v, hv, q.imp (fun ⟨a, m', b, c⟩ => ⟨a, m', b.sameBut hs' (Ne.symm hCl), c⟩) fun ⟨a, c, b, dd⟩ => ⟨a, c, b, dd.sameBut hs' ?_⟩⟩
    obtain ⟨⟨u', hu'⟩, _⟩ := R.st.eok.cells p.1 c b
    exact let ⟨_, e', _⟩ := hu'; old _ _ e'
  · have M₂ := ((M.ext x₁).ext x').keep (s' := s₂) fun b o e k1 k2 => k₂ b o e (by rintro rfl; obtain ⟨m₃, o₃, _, _, e₃, d₃, _⟩ := R'.st.eok.loc; rw [e₃] at e; cases e; exact k1 _ _ d₃) k2
    refine M₂.keep fun b o₂ e9 k1 _ => (hs'.2 b ?_).trans e9
    rintro rfl
    rw [e₂] at e9; cases e9
    exact k1 _ _ d

end
section
variable {w : World} {B : Shared} {n : Nat}
theorem call_def {a : Addr} {name qual : Str} {params : Arguments} {body : List Stmt} {scope : Scope} {cl : List (Str × Addr)} {dv kv : Value} {A : Around} {s : Shared} {F : Fz} {vs : List Value} {kw : List (Str × Value)} {binds : List (Str × Value)} {r : Rp}
    (hA : Le A n) (hn : n ≤ 55) (i : Inv B s) (f : F.In s.heap) (hl : B.heap.NoLimit) (fn : FnAt s.heap a name qual params (.stmts body) scope cl dv kv)
    (hcl : ∀ x c, cl.lookup x = some c → (∃ v, s.heap.IsCell c v) ∧ F c = none ∧ B.heap.objs.size ≤ c) (hap : ∀ x y c, cl.lookup x = some c → cl.lookup y = some c → x = y)
    (hbind : ∀ cd pm doc ct an, BindsTo s (fdOf name qual params (.stmts body) scope cl dv kv cd pm doc ct an) ⟨vs, kw⟩ binds) (hnd : (binds.map (·.1)).Nodup) (hbk : ∀ p ∈ binds, scope.names.lookup p.1 = some .local ∨ scope.names.lookup p.1 = some .cell)
    (hk : scope.kind = .function) (hco : scope.isCoroutine = false) (hgen : scope.isGenerator = false)
    (pars pc : Vars) (hp : ∀ p ∈ pars, ∃ v, (p.1, v) ∈ binds ∧ p.2.p F v)
    (hpc : ∀ p ∈ pc, ∃ c v, (cellsFrom (s.heap.objs.size + 1) scope.names cl).lookup p.1 = some c ∧ s.heap.IsCell c (some v) ∧ p.2.p F v ∧ scope.names.lookup p.1 = some .free)
    (h : ∀ cd env, env = envF qual scope cl s.heap.objs.size a cd → FE scope s.heap.objs.size env → Xs w B s F (n + 1) env (pars ++ pc) [] body (Back B s F r)) : W w A (call (.ref a) vs kw) (Gives B s F r) s := by
  obtain ⟨o, cd, pm, doc, ct, an, ho, hd, hc⟩ := fn
  refine wpAny_call (codeAny_call_function (hA.room (by (exact Nat.le_trans hn (by decide)))) ho hd hco hgen rfl hc.rec (hbind cd pm doc ct an _ _ _ _ ?_))
  refine W.toE (wp_newEnv i f hk rfl hcl hap hnd hbk fun s₁ R => ⟨R.st.inv.lim hl, codeAny_func (W.toE (((h cd _ rfl envF_ok).go _ s₁ F (hA.deeper _) ⟨⟨R.st.inv, R.st.fin, R.st.eok, fun p hpp => ?_⟩, R.ext⟩ Ms.nil).mono ?_))⟩)
  · rcases List.mem_append.mp hpp with hpp | hpp
    · obtain ⟨v, hv, hq⟩ := hp p hpp
      obtain ⟨u, hu, k⟩ := R.st.vars (p.1, rVal v) (List.mem_map.mpr ⟨(p.1, v), List.mem_reverse.mpr hv, rfl⟩)
      cases (show u = v from hu)
      exact ⟨v, hq, k⟩
    · obtain ⟨c, v, a1, a2, a3, a4⟩ := hpc p hpp
      exact ⟨v, a3, .inr ⟨.inr a4, c, a1, Cell.ext a2 R.ext.keep⟩⟩
  · rintro fl s' ⟨v, rfl, g⟩
    exact g
/-- a def of the top: nothing closed over -/
theorem call_top {a : Addr} {name qual : Str} {params : Arguments} {body : List Stmt} {scope : Scope} {dv kv : Value} {A : Around} {s : Shared} {F : Fz} {vs : List Value} {kw : List (Str × Value)} {binds : List (Str × Value)} {r : Rp}
    (hA : Le A n) (hn : n ≤ 55) (i : Inv B s) (f : F.In s.heap) (hl : B.heap.NoLimit) (fn : FnAt B.heap a name qual params (.stmts body) scope [] dv kv)
    (hbind : ∀ cd pm doc ct an, BindsTo s (fdOf name qual params (.stmts body) scope [] dv kv cd pm doc ct an) ⟨vs, kw⟩ binds) (hnd : (binds.map (·.1)).Nodup) (hbk : ∀ p ∈ binds, scope.names.lookup p.1 = some .local ∨ scope.names.lookup p.1 = some .cell)
    (hk : scope.kind = .function) (hco : scope.isCoroutine = false) (hgen : scope.isGenerator = false) (pars : Vars) (hp : ∀ p ∈ pars, ∃ v, (p.1, v) ∈ binds ∧ p.2.p F v)
    (h : ∀ cd env, env = envF qual scope [] s.heap.objs.size a cd → FE scope s.heap.objs.size env → Xs w B s F (n + 1) env pars [] body (Back B s F r)) : W w A (call (.ref a) vs kw) (Gives B s F r) s :=
  call_def hA hn i f hl (i.fn fn) (fun _ _ e => (nomatch e)) (fun _ _ _ e => (nomatch e)) hbind hnd hbk hk hco hgen pars [] hp (fun _ e => (nomatch e)) fun cd env e fe => by rw [List.append_nil]; exact h cd env e fe
end
end Mine
end

section
open PySem PySem.W PyProof.Rows PySem.Calls
namespace Mine

theorem soft_cls {o : Obj} {T : String} (h : o.cls = .type T) (k : T ≠ "code") : soft o := fun ⟨a, _⟩ => by
  rcases a with a | a
  · rw [h] at a; cases a
  · rw [h] at a; cases a; exact k rfl
noncomputable def rRange (a b c : Int) : Rp := ⟨fun F v => ∃ r t u k, v = .ref r ∧ F r = some { cls := .type "range", dict := none, data := .fields #[.int a t, .int b u, .int c k], slots := #[] }, fun _ _ _ l ⟨r, t, u, k, e, h⟩ => ⟨r, t, u, k, e, l _ _ h⟩⟩
section
variable {w : World} {B : Shared} {n : Nat}

theorem Iterable.mk' {rs : List Rp} {r : Rp} (h : ∀ A s F v, Le A n → Inv B s → F.In s.heap → r.p F v → ∃ o fp Sn, o.isFreed = false ∧ Src w s.heap.objs.size fp F rs Sn ∧ Sn 0 (s.heap.push o) ∧
      ∀ Q : Value → Shared → Prop, Q (.ref s.heap.objs.size) { s with heap := s.heap.push o } → W w A (pyIter v) Q s) : Iterable w B n r rs := .mk fun A s F v hA i fi p =>
  let ⟨o, fp, Sn, a, b, c, k⟩ := h A s F v hA i fi p; k _ ⟨o, fp, Sn, a, rfl, rfl, b, c⟩
theorem Iterable.list {α : Type} {f : α → Rp} {xs : List α} : Iterable w B n (rList f xs) (xs.map f) := Iterable.mk' fun A s F v hA i fi ⟨a, vs, k, e, g, are⟩ => by
  subst e
  have hl : s.heap.IsList a vs.toArray := ⟨_, (fi _ _ g).1, rfl, k, rfl⟩
  have ha := Heap.lt_size ((fi _ _ g).1)
  refine ⟨_, [s.heap.objs.size, a], (fun j h => h.IsListIter s.heap.objs.size a j ∧ h.IsList a vs.toArray), rfl, ⟨fun A' hA' => ?_, fun j h st => ?_, fun b hb => ?_⟩, ⟨⟨_, Heap.get?_push_size _ rfl, rfl, rfl⟩, ⟨_, Heap.get?_push_of_some _ ((fi _ _ g).1), rfl, k, rfl⟩⟩, fun Q hQ => wpAny_pyIter_list hl hQ⟩
  · have W := Walks.list (prog := PG) (w := w) hA' s.heap.objs.size a (Nat.ne_of_lt ha) vs.toArray
    have hsz : vs.toArray.size = (xs.map f).length := by simp [are.1]
    rw [← hsz]
    refine W.weaken fun j u hu => ?_
    have hj : vs[j]? = some u := by simpa using hu
    have hlt : j < xs.length := by rw [← are.1]; exact (List.getElem?_eq_some_iff.mp hj).1
    obtain ⟨u', hu', p⟩ := are.get (List.getElem?_eq_getElem hlt)
    rw [hj] at hu'; cases hu'
    exact ⟨f xs[j], by rw [List.getElem?_map, List.getElem?_eq_getElem hlt]; rfl, p⟩
  · obtain ⟨⟨o, e, c, d⟩, _⟩ := st
    exact ⟨o, _, e, d, soft_cls c (by decide)⟩
  · rcases List.mem_cons.mp hb with h | h
    · exact .inl h
    · rw [List.mem_singleton.mp h]; exact .inr ⟨_, g⟩
theorem Iterable.range {a b c : Int} {m : Nat} (hm : Builtin.Range.rangeSize a b c = m) (hs : Builtin.Range.small a b c = true) : Iterable w B n (rRange a b c) ((List.range m).map fun i : Nat => rInt (a + i * c)) := Iterable.mk' fun A s F v hA i fi ⟨r, t, u, k, e, g⟩ => by
  subst e
  refine ⟨_, [s.heap.objs.size], (fun j h => IsRangeIter h s.heap.objs.size (a + (j : Nat) * c) ((m : Int) - (j : Nat)) c), rfl, ⟨fun A' hA' => ?_, fun j h st => ⟨_, _, st, rfl, soft_cls rfl (by decide)⟩, fun b hb => .inl (List.mem_singleton.mp hb)⟩, ?_, fun Q hQ => wpAny_pyIter_range ((fi _ _ g).1) hs hQ⟩
  · have W := Walks.range (prog := PG) (w := w) hA' s.heap.objs.size a c m
    have e : ((List.range m).map fun i : Nat => rInt (a + i * c)).length = m := by simp
    rw [e]
    have W' : Walks PG w A' s.heap.objs.size [s.heap.objs.size] [s.heap.objs.size] m (fun i v => i < m ∧ ∃ t, v = .int (a + i * c) t) (fun j h => IsRangeIter h s.heap.objs.size (a + (j : Nat) * c) ((m : Int) - (j : Nat)) c) :=
      ⟨W.sub, W.frame, fun i s Q E hi st hQ => W.item i s Q E hi st fun v h' tk p => hQ v h' tk ⟨hi, p⟩, W.done, W.self⟩
    refine W'.weaken fun j u hu => ?_
    obtain ⟨hj, t, hu⟩ := hu
    exact ⟨rInt (a + j * c), by rw [List.getElem?_map, List.getElem?_range hj]; rfl, t, hu⟩
  · rw [hm]
    have : (Heap.push s.heap { cls := .type "range_iterator", data := .fields #[rawInt a, rawInt (m : Int), rawInt c] }).get? s.heap.objs.size = some { cls := .type "range_iterator", dict := none, data := .fields #[rawInt a, rawInt (m : Int), rawInt c], slots := #[] } := Heap.get?_push_size _ rfl
    simpa [IsRangeIter] using this
/-- range(m) -/
theorem Iterable.range1 {m : Nat} (h : m < 2 ^ 62) : Iterable w B n (rRange 0 m 1) ((List.range m).map fun i : Nat => rInt i) := by
  have e : ((List.range m).map fun i : Nat => rInt i) = (List.range m).map fun i : Nat => rInt (0 + i * 1) := by simp
  rw [e]
  refine Iterable.range ?_ (small_one (by decide) (by decide) (by (lia)) (by (lia)))
  rw [rangeSize_one]
  split <;> (lia)
theorem Iterable.str {x : Str} : Iterable w B n (rStr x) (x.cps.toList.map fun c => rStr ⟨#[c]⟩) := Iterable.mk' fun A s F v hA i fi ⟨t, e⟩ => by
  subst e
  have len : (x.cps.toList.map fun c => rStr ⟨#[c]⟩).length = x.cps.size := by simp
  have sign : ∀ (j : Nat) (u : Value), SignAt x j u → ∃ r : Rp, (x.cps.toList.map fun c => rStr ⟨#[c]⟩)[j]? = some r ∧ r.p F u := fun j u ⟨c, k, hc, hu⟩ => ⟨rStr ⟨#[c]⟩, by rw [List.getElem?_map]; simp [hc], k, hu⟩
  cases ha : x.cps.all (· < 128)
  · refine ⟨_, [s.heap.objs.size], (fun j h => h.IsStrIter s.heap.objs.size "str_iterator" x t j), rfl, ⟨fun A' hA' => ?_, fun j h ⟨o, e, c, d⟩ => ⟨o, _, e, d, soft_cls c (by decide)⟩, fun b hb => .inl (List.mem_singleton.mp hb)⟩, ⟨_, Heap.get?_push_size _ rfl, rfl, rfl⟩, fun Q hQ => wpAny_pyIter_wide ha hQ⟩
    rw [len]
    exact (Walks.strWide (prog := PG) (w := w) hA' s.heap.objs.size x t).weaken sign
  · refine ⟨_, [s.heap.objs.size], (fun j h => h.IsStrIter s.heap.objs.size "str_ascii_iterator" x t j), rfl, ⟨fun A' hA' => ?_, fun j h ⟨o, e, c, d⟩ => ⟨o, _, e, d, soft_cls c (by decide)⟩, fun b hb => .inl (List.mem_singleton.mp hb)⟩, ⟨_, Heap.get?_push_size _ rfl, rfl, rfl⟩, fun Q hQ => wpAny_pyIter_ascii ha hQ⟩
    rw [len]
    exact (Walks.strAscii (prog := PG) (w := w) hA' s.heap.objs.size x t).weaken sign
theorem Iterable.bytes {b : Array UInt8} : Iterable w B n (rBytes b) (b.toList.map fun c => rInt c.toNat) := Iterable.mk' fun A s F v hA i fi ⟨t, e⟩ => by
  subst e
  refine ⟨_, [s.heap.objs.size], (fun j h => KBw.IsBytesIter h s.heap.objs.size b t j), rfl, ⟨fun A' hA' => ?_, fun j h ⟨o, e, c, d⟩ => ⟨o, _, e, d, soft_cls c (by decide)⟩, fun b hb => .inl (List.mem_singleton.mp hb)⟩, ⟨_, Heap.get?_push_size _ rfl, rfl, rfl⟩, fun Q hQ => KBw.pyIter_bytes hQ⟩
  have W := KBw.walks (prog := PG) (w := w) hA' s.heap.objs.size b t
  have e : (b.toList.map fun c => rInt c.toNat).length = b.size := by simp
  rw [e]
  refine W.weaken fun j u ⟨c, k, hc, hu⟩ => ⟨rInt c.toNat, ?_, k, hu⟩
  rw [List.getElem?_map]
  simp [hc]

/-! range() -/
theorem Cal.range1 {m : Int} : Cal w B n (.type "range") [rInt m] (rRange 0 m 1) := .mk fun A s F vs hA i f are => by
  obtain ⟨v, vs', rfl, ⟨t, rfl⟩, r⟩ := are.cons_inv
  rw [r.nil_inv]
  refine call_range_1 ?_
  have x := Ext.push i f { cls := .type "range", data := .fields #[.int 0 s.toks, .int m t, .int 1 (s.toks + 1)] } (s.toks + 1 + 1)
  exact ⟨_, x.freeze (Nat.le_refl _) (Heap.get?_push_size _ rfl) (Fz.none_of_in f (Nat.le_refl _)), _, _, _, _, rfl, Fz.put_self ..⟩
theorem Cal.range2 {a b : Int} : Cal w B n (.type "range") [rInt a, rInt b] (rRange a b 1) := .mk fun A s F vs hA i f are => by
  obtain ⟨v, vs', rfl, ⟨t, rfl⟩, r⟩ := are.cons_inv
  obtain ⟨v, vs', rfl, ⟨u, rfl⟩, r'⟩ := r.cons_inv
  have e := r'.nil_inv
  subst e
  refine call_range_2 ?_
  have x := Ext.push i f { cls := .type "range", data := .fields #[.int a t, .int b u, .int 1 s.toks] } (s.toks + 1)
  exact ⟨_, x.freeze (Nat.le_refl _) (Heap.get?_push_size _ rfl) (Fz.none_of_in f (Nat.le_refl _)), _, _, _, _, rfl, Fz.put_self ..⟩
end
end Mine
end

section
open PySem PySem.W PyProof.Rows PySem.Calls
namespace Mine

noncomputable def flat (r : Rp) : Prop := ∀ F F' v, r.p F v → r.p F' v
theorem flat.int {i : Int} : flat (rInt i) := fun _ _ _ h => h
theorem flat.str {x : Str} : flat (rStr x) := fun _ _ _ h => h
theorem flat.val {x : Value} : flat (rVal x) := fun _ _ _ h => h
theorem flat.bytes {x : Array UInt8} : flat (rBytes x) := fun _ _ _ h => h
noncomputable def Fz.del (F : Fz) (a : Addr) : Fz := fun b => if b = a then none else F b

section
variable {w : World} {B : Shared} {n : Nat} {env : Env} {vars : Vars} {ms : Mss} {s₀ : Shared} {F₀ : Fz}

theorem Ext.thaw {s s' : Shared} {F F' : Fz} {a : Addr} {o : Obj} (x : Ext B s (F.put a o) s' F') (hn : F a = none) : Ext B s F s' (F'.del a) where
  inv := x.inv
  size := x.size
  keep := x.keep
  le b o' e := by
    have ne : b ≠ a := by rintro rfl; rw [hn] at e; cases e
    unfold Fz.del
    rw [if_neg ne]
    refine x.le b o' ?_
    unfold Fz.put
    rw [if_neg ne]; exact e
  new b o' e := by
    unfold Fz.del at e
    split at e
    · cases e
    · rename_i ne
      rcases x.new b o' e with h | h
      · unfold Fz.put at h
        rw [if_neg ne] at h
        exact .inl h
      · exact .inr h
  fin b o' e := by
    unfold Fz.del at e
    split at e
    · cases e
    · exact x.fin b o' e

/-- a list that still changes, taken for frozen while it is read -/
theorem St.frozen {s : Shared} {F : Fz} {x : Str} {a : Addr} {rs : List Rp} (S : St B env vars F s) (M : Ms B s₀ ms F s) (hx : (x, rVal (.ref a)) ∈ vars) (hm : (a, mList rs) ∈ ms) :
    ∃ o, F a = none ∧ St B env ((x, rL rs) :: vars) (F.put a o) s := by
  obtain ⟨_, o, so, ys, k, e, are⟩ := M.at_ _ hm
  subst e
  have hn := so.out
  have le := Fz.le_put (F := F) (o := lst ys k) hn
  have put_ne : ∀ b, b ≠ a → F b = none → F.put a (lst ys k) b = none := fun b ne h => by unfold Fz.put; rw [if_neg ne]; exact h
  have vs : ∀ p ∈ vars, Loads env s.heap (F.put a (lst ys k)) p.1 p.2 := fun p hp => let ⟨v, hv, q⟩ := S.vars p hp; ⟨v, p.2.mono _ _ _ le hv, q⟩
  refine ⟨lst ys k, hn, S.inv, fun b o e => ?_, ⟨S.eok.kd, S.eok.gl, S.eok.bi, S.eok.loc, ?_, S.eok.locB, fun y c hy => ?_, S.eok.apart⟩, fun p hp => ?_⟩
  · unfold Fz.put at e
    split at e
    · rename_i h; subst h; cases e; exact ⟨so.at_, so.soft.ntab⟩
    · exact S.fin b o e
  · obtain ⟨m, ol, es, ep, e, d, _⟩ := S.eok.loc
    exact put_ne _ (ne_of_get e so.at_ (by rw [d]; intro h; cases h)) S.eok.locF
  · obtain ⟨⟨v, hv⟩, f, b⟩ := S.eok.cells y c hy
    obtain ⟨oc, e, d⟩ := id hv
    exact ⟨⟨v, hv⟩, put_ne _ (ne_of_get e so.at_ (by rw [d]; intro h; cases h)) f, b⟩
  · rcases List.mem_cons.mp hp with rfl | hp
    · obtain ⟨v, hv, q⟩ := vs _ hx
      cases (show v = .ref a from hv)
      exact ⟨_, ⟨a, ys, k, rfl, Fz.put_self .., are.mono le⟩, q⟩
    · exact vs p hp
theorem EvM.thaw {e : Expr} {r : Rp} {x : Str} {a : Addr} {rs : List Rp} (hx : (x, rVal (.ref a)) ∈ vars) (hm : (a, mList rs) ∈ ms) (h : Ev w B n env ((x, rL rs) :: vars) e r) (hr : flat r) : EvM w B s₀ n env vars ms e r := .mk fun A s F hA S M => by
  obtain ⟨o, hn, S'⟩ := S.frozen M hx hm
  exact (h.go A s _ hA S').mono fun v s' ⟨F', x, p⟩ => ⟨F'.del a, x.thaw hn, hr _ _ _ p⟩
theorem EvTM.thaw {e : Expr} {b : Bool} {x : Str} {a : Addr} {rs : List Rp} (hx : (x, rVal (.ref a)) ∈ vars) (hm : (a, mList rs) ∈ ms) (h : EvT w B n env ((x, rL rs) :: vars) e b) : EvTM w B s₀ n env vars ms e b := .mk fun A s F hA S M => by
  obtain ⟨o, hn, S'⟩ := S.frozen M hx hm
  exact (h.go A s _ hA S').mono fun c s' ⟨e, F', x⟩ => ⟨e, F'.del a, x.thaw hn⟩
/-- a list that changes no more -/
theorem EvM.freeze {x : Str} {pos : Pos} {a : Addr} {rs : List Rp} (hx : Has vars x (rVal (.ref a))) (hm : (a, mList rs) ∈ ms) (hd : (x == ("__debug__" : Str)) = false := by decide) (hc : (x == ("__classdict__" : Str)) = false := by decide) {s₀ : Shared} {F₀ : Fz} {rest : List Stmt} {rpos : Pos} :
    Xs w B s₀ F₀ n env vars ms (.Return (some (.Name x pos)) rpos :: rest) (Back B s₀ F₀ (rL rs)) := .mk fun A s F hA R M => by
  refine wpAny_execs_cons (wpAny_Return_some (loads_name R.st hx (fun v hv => ?_) hd hc))
  cases (show v = .ref a from hv)
  obtain ⟨h0, o, so, ys, k, e, are⟩ := M.at_ _ hm
  subst e
  exact ⟨_, rfl, _, R.ext.freeze h0 so.at_ so.out, a, ys, k, rfl, Fz.put_self .., are.mono (Fz.le_put so.out)⟩

/-- a list that the expression makes -/
structure EvN (w : World) (B : Shared) (n : Nat) (env : Env) (vars : Vars) (e : Expr) (rs : List Rp) : Prop where
  go : ∀ A s F, Le A n → St B env vars F s →
  W w A (eval e env) (fun v s' => ∃ F' a ys k, v = .ref a ∧ Ext B s F s' F' ∧ s.heap.objs.size ≤ a ∧ Soft B F' s' a (lst ys k) ∧ Ares F' ys rs) s
theorem EvN.ev {e : Expr} {rs : List Rp} (h : EvN w B n env vars e rs) : Ev w B n env vars e (rL rs) := .mk fun A s F hA S => (h.go A s F hA S).mono fun v s' ⟨F', a, ys, k, e, x, ha, so, are⟩ =>
  ⟨_, x.freeze ha so.at_ so.out, a, ys, k, e, Fz.put_self .., are.mono (Fz.le_put so.out)⟩
theorem EvN.list {es : List Expr} {rs : List Rp} {pos : Pos} (h : EvL w B n env vars es rs) (hz : rs.length ≤ sizeLine := by first | decide | simp [sizeLine]) : EvN w B n env vars (.List es pos) rs := .mk fun A s F hA S =>
  wpAny_List_spliced ((h.2 A s F pos hA S).mono fun vs s₁ ⟨F₁, x₁, are⟩ => ⟨by rw [are.1]; exact hz, F₁, s₁.heap.objs.size, vs, 0, rfl, x₁.trans (Ext.push x₁.inv x₁.fin _), x₁.size,
    Soft.lst (Heap.get?_push_size _ rfl) x₁.inv.size (Fz.none_of_in x₁.fin (Nat.le_refl _)), are⟩)
theorem Ev.list {es : List Expr} {rs : List Rp} {pos : Pos} (h : EvL w B n env vars es rs) (hz : rs.length ≤ sizeLine := by first | decide | simp [sizeLine]) : Ev w B n env vars (.List es pos) (rL rs) := (EvN.list h hz).ev

variable {Q : Flow → Shared → Prop}
theorem Xs.newL {x : Str} {p pos : Pos} {e : Expr} {rest : List Stmt} {rs : List Rp} {vars' : Vars} (h : EvN w B n env vars e rs) (ho : Own env s₀.heap.objs.size x) (hv : ∀ p ∈ vars', p ∈ vars ∧ p.1 ≠ x)
    (k : ∀ a, Xs w B s₀ F₀ n env ((x, rVal (.ref a)) :: vars') ((a, mList rs) :: ms) rest Q) (hs : swapsWith e (some (.Name x p)) pos.line env = pure false := by rfl) : Xs w B s₀ F₀ n env vars ms (.Assign [.Name x p] e pos :: rest) Q := .mk fun A s F hA R M =>
  wpAny_execs_cons (wpAny_Assign_Name ((h.go A s F hA R.st).mono fun v s₁ ⟨F₁, a, ys, m, e, x₁, ha, so, are⟩ => by
    subst e
    refine store' (r := rVal (.ref a)) (R.of_ext x₁) rfl ho hv fun s' R' k' => (k a).go A s' F₁ hA R' ?_
    exact ((M.ext x₁).keep k').push (fun q hq => Nat.ne_of_lt (Nat.lt_of_lt_of_le (M.lt q hq) ha)) (Nat.le_trans R.ext.size ha) (so.keep k') ⟨ys, m, rfl, are⟩) hs)

/-! loops -/
theorem Le.mark {A : Around} {n : Nat} (h : Le A n) : Le (A.mark none) n := by rw [Around.mark_none]; exact h
/-- the walk over what is frozen since -/
theorem Rn.base {s : Shared} {F F₁ : Fz} (R : Rn B s₀ F₀ env vars F s) : Rn B s₀ F env vars F s :=
  ⟨R.st, R.ext.inv, R.ext.size, R.ext.keep, Fz.Le.refl _, fun _ _ e => .inl e, R.ext.fin⟩
theorem Ext.rebase {s s' : Shared} {F F' : Fz} (x : Ext B s₀ F₀ s F) (y : Ext B s₀ F s' F') : Ext B s₀ F₀ s' F' :=
  ⟨y.inv, y.size, y.keep, x.le.trans y.le, fun a o e => (y.new a o e).elim (x.new a o) .inr, y.fin⟩

theorem Xs.for_ {α : Type} {x : Str} {px pos : Pos} {iter : Expr} {body rest : List Stmt} {xs : List α} {f : α → Rp} {rI : Rp} {vs : Nat → Vars} {mss : Nat → Mss} (hi : EvM w B s₀ n env vars (mss 0) iter rI) (it : Iterable w B n rI (xs.map f))
    (h0 : ∀ p ∈ vs 0, p ∈ vars) (ho : Own env s₀.heap.objs.size x) (hv : ∀ i, ∀ p ∈ vs i, p.1 ≠ x)
    (step : ∀ F₁ i a q, xs[i]? = some a → Xs w B s₀ F₁ n env ((x, f a) :: vs i) (q :: mss i) body fun fl s' => (fl = .next ∨ fl = .cont) ∧ At B s₀ F₁ env (vs (i + 1)) (q :: mss (i + 1)) s')
    (k : Xs w B s₀ F₀ n env (vs xs.length) (mss xs.length) rest Q) (hs : ∀ x, foldedSetIterable iter env x = pure x := by intro _; rfl) : Xs w B s₀ F₀ n env vars (mss 0) (.For (.Name x px) iter body [] pos :: rest) Q := .mk fun A s F hA R M => by
  refine wpAny_execs_cons (wpAny_For ((hi.go A s F hA R.st M).mono fun v s₁ ⟨F₁, x₁, hvI⟩ => ?_) hs)
  have R₁ := R.of_ext x₁
  refine (it.go A s₁ F₁ v hA R₁.st.inv R₁.st.fin hvI).mono fun itv s₂ ⟨o, fp, Sn, ofr, eit, es, src, st⟩ => ?_
  subst eit
  have x₂ : Ext B s₁ F₁ s₂ F₁ := by rw [es]; exact Ext.push R₁.st.inv R₁.st.fin o
  have R₂ := R₁.of_ext x₂
  have M₂ := (M.ext x₁).ext x₂
  have hI0 : s₀.heap.objs.size ≤ s₁.heap.objs.size := R₁.ext.size
  have hBI : B.heap.objs.size ≤ s₁.heap.objs.size := R₁.st.inv.size
  have FI : F₁ s₁.heap.objs.size = none := Fz.none_of_in R₁.st.fin (Nat.le_refl _)
  have entry : ∀ {i F' s'}, Sn i s'.heap → F' s₁.heap.objs.size = none → ∃ o, Soft B F' s' s₁.heap.objs.size o := fun {i F' s'} st' hf => let ⟨o, us, e, d, q⟩ := src.obj i _ st'; ⟨o, Soft.fields e d q hBI hf⟩
  refine codeAny_forLoop (fun k s' => ∃ F' i o, k = xs.length + 1 - i ∧ i ≤ xs.length ∧ F₁.Le F' ∧ Rn B s₀ F₀ env (vs i) F' s' ∧ Ms B s₀ ((s₁.heap.objs.size, mObj o) :: mss i) F' s' ∧ Sn i s'.heap) ?_ (xs.length + 1) ?_
  · rintro k' s₃ ⟨F₃, i, oI, rfl, hi', l₃, R₃, M₃, st₃⟩
    have hFI : F₃ s₁.heap.objs.size = none := let ⟨_, _, so, _⟩ := M₃.at_ _ (.head _); so.out
    by_cases hlt : i < xs.length
    · have hget : xs[i]? = some xs[i] := List.getElem?_eq_getElem hlt
      generalize xs[i] = a at hget
      refine W.toE (next_item hA.mark R₃ src l₃ st₃ (by rw [List.getElem?_map, hget]; rfl) hI0 hBI hFI fun v s₄ R₄ st₄ hv' k₄ => ?_)
      obtain ⟨o₄, so₄⟩ := entry st₄ hFI
      have M₄ := M₃.but (m' := mObj o₄) k₄ so₄ rfl
      refine W.toE (wpAny_assign_Name (store' (vars' := vs i) R₄ hv' ho (fun q hq => ⟨hq, hv i q hq⟩) fun s₅ R₅ k₅ => ?_))
      have M₅ := M₄.keep k₅
      have st₅ : Sn (i + 1) s₅.heap := src.keep st₄ (fun a o e => R₄.st.fin a o (l₃ a o e)) (fun a o e => R₅.st.fin a o (l₃ a o e)) fun o' e' => k₅ _ _ e' (by rw [so₄.at_] at e'; cases e'; exact so₄.dict) (by rw [so₄.at_] at e'; cases e'; exact so₄.cell)
      refine W.toE (((step F₃ i a (s₁.heap.objs.size, mObj o₄) hget).go _ s₅ F₃ hA.mark (Rn.base (F₁ := F₃) R₅) M₅).mono fun fl s₆ ⟨hfl, F₆, R₆, M₆⟩ => ?_)
      have y := R₆.ext
      have R₆' : Rn B s₀ F₀ env (vs (i + 1)) F₆ s₆ := ⟨R₆.st, R₅.ext.rebase y⟩
      have st₆ : Sn (i + 1) s₆.heap := by
        obtain ⟨_, o₆, so₆, e₆⟩ := M₆.at_ _ (.head _)
        have e₆' : o₆ = o₄ := e₆
        subst e₆'
        refine src.keep st₅ (fun a o e => R₅.st.fin a o (l₃ a o e)) (fun a o e => R₆.st.fin a o (y.le _ _ (l₃ a o e))) fun o' e' => ?_
        obtain ⟨_, o₅, so₅, e₅⟩ := M₅.at_ _ (.head _)
        have e₅' : o₅ = o₆ := e₅
        subst e₅'
        rw [so₅.at_] at e'; cases e'
        exact so₆.at_
      rcases hfl with rfl | rfl <;> exact ⟨xs.length + 1 - (i + 1), turn_lt hlt, F₆, i + 1, o₄, rfl, hlt, l₃.trans y.le, R₆', M₆, st₆⟩
    · have hin : i = xs.length := by (lia)
      subst hin
      refine W.toE (next_done hA.mark R₃ src l₃ (by simpa using st₃) hI0 hBI hFI fun s₄ R₄ k₄ => ?_)
      refine W.toE (wpAny_execs_nil ?_)
      have M₄ : Ms B s₀ (mss xs.length) F₃ s₄ := ⟨M₃.tail.nd, fun q hq => by
        obtain ⟨h, o, so, z⟩ := M₃.tail.at_ q hq
        have ne : q.1 ≠ s₁.heap.objs.size := fun e => (List.nodup_cons.mp M₃.nd).1 (List.mem_map.mpr ⟨q, hq, e⟩)
        exact ⟨h, o, ⟨k₄ _ _ ne so.at_, so.soft, so.dict, so.cell, so.base, so.out⟩, z⟩⟩
      exact k.go A s₄ F₃ hA R₄ M₄
  · obtain ⟨o', so'⟩ := entry st FI
    refine ⟨F₁, 0, o', rfl, Nat.zero_le _, Fz.Le.refl _, ⟨R₂.st.sub h0, R₂.ext⟩, ?_, st⟩
    exact M₂.push (fun q hq => Nat.ne_of_lt ((M.ext x₁).lt q hq)) hI0 so' rfl

/-- a loop by a measure -/
theorem Xs.while_ {ι : Type} {test : Expr} {body rest : List Stmt} {pos : Pos} (vs : ι → Vars) (mss : ι → Mss) (μ : ι → Nat) (i₀ : ι) (hv : vars = vs i₀) (hm : ms = mss i₀) (t : ι → Bool) (nx : ι → ι)
    (test_ : ∀ i, EvTM w B s₀ n env (vs i) (mss i) test (t i))
    (step : ∀ i, t i = true → Xs w B s₀ F₀ n env (vs i) (mss i) body fun fl s' => ((fl = .next ∨ fl = .cont) ∧ μ (nx i) < μ i ∧ At B s₀ F₀ env (vs (nx i)) (mss (nx i)) s') ∨ (fl = .brk ∧ ∀ A, Le A n → W w A (execs rest env) Q s'))
    (k : ∀ i, t i = false → Xs w B s₀ F₀ n env (vs i) (mss i) rest Q) : Xs w B s₀ F₀ n env vars ms (.While test body [] pos :: rest) Q := .mk fun A s F hA R M => by
  subst hv; subst hm
  refine wpAny_execs_cons (wpAny_While (codeAny_whileLoop (fun m s' => ∃ i, m = μ i ∧ At B s₀ F₀ env (vs i) (mss i) s') ?_ (μ i₀) ⟨i₀, rfl, F, R, M⟩))
  rintro m s₁ ⟨i, rfl, F₁, R₁, M₁⟩
  refine W.toE (((test_ i).go _ s₁ F₁ hA.mark R₁.st M₁).mono fun b s₂ ⟨e, F₂, x₂⟩ => ?_)
  subst e
  cases hb : t i with
  | true =>
    simp only [if_true]
    refine W.toE (((step i hb).go _ s₂ F₂ hA.mark (R₁.of_ext x₂) (M₁.ext x₂)).mono fun fl s₃ h => ?_)
    rcases h with ⟨rfl | rfl, hμ, at_⟩ | ⟨rfl, h⟩
    · exact ⟨_, hμ, nx i, rfl, at_⟩
    · exact ⟨_, hμ, nx i, rfl, at_⟩
    · exact h A hA
  | false =>
    simp only [Bool.false_eq_true, if_false]
    exact W.toE (wpAny_execs_nil ((k i hb).go A s₂ F₂ hA (R₁.of_ext x₂) (M₁.ext x₂)))
end
end Mine
end

section
open PySem PySem.W PyProof.Rows PySem.Calls
namespace Mine

/-! the text's own pieces, by their place in it -/
noncomputable def stAt (i : Nat) : Stmt := PG.main.body.getD i (.Pass ⟨0, 0, 0, 0⟩)
noncomputable def bodyAt (i : Nat) : List Stmt := match stAt i with | .FunctionDef _ _ b _ _ _ _ _ _ _ => b | _ => []
noncomputable def argsAt (i : Nat) : Arguments := match stAt i with | .FunctionDef _ a _ _ _ _ _ _ _ _ => a | _ => ⟨[], [], none, [], [], none, []⟩
noncomputable def scopeAt (i : Nat) : Scope := match stAt i with | .FunctionDef _ _ _ _ _ _ s _ _ _ => s | _ => PG.main.scope

noncomputable def GlobAt (B : Shared) (x : Str) (v : Value) : Prop := ∃ mg, B.heap.Ns mainGlobals mg ∧ mg x = some v
noncomputable def BltAt (B : Shared) (x : Str) (v : Value) : Prop := ∃ mg mb, B.heap.Ns mainGlobals mg ∧ B.heap.Ns builtinsNs mb ∧ mg x = none ∧ mb x = some v
/-- a def of the top -/
noncomputable abbrev Df (B : Shared) (a : Addr) (name : Str) (i : Nat) (dv kv : Value) : Prop := FnAt B.heap a name name (argsAt i) (.stmts (bodyAt i)) (scopeAt i) [] dv kv

section
variable {w : World} {B : Shared} {n : Nat} {env : Env} {vars : Vars}
theorem Ev.g {x : Str} {v : Value} {pos : Pos} (G : GlobAt B x v) (hk : env.kindOf x = some .globalImplicit) (hd : (x == ("__debug__" : Str)) = false := by decide) : Ev w B n env vars (.Name x pos) (rVal v) := .mk fun A s F hA S => by
  obtain ⟨mg, g, h⟩ := G
  refine Name_function_global S.eok.kd hk (loadGlobal_global (mg := mg) ?_ h ⟨F, Ext.refl S.inv S.fin, rfl⟩) hd
  rw [S.eok.gl]; exact S.inv.ns g
theorem Ev.b {x : Str} {v : Value} {pos : Pos} (G : BltAt B x v) (hk : env.kindOf x = some .globalImplicit) (hd : (x == ("__debug__" : Str)) = false := by decide) : Ev w B n env vars (.Name x pos) (rVal v) := .mk fun A s F hA S => by
  obtain ⟨mg, mb, g, b, h, h'⟩ := G
  refine Name_function_global S.eok.kd hk (loadGlobal_builtin (mg := mg) (mb := mb) ?_ h ?_ h' ⟨F, Ext.refl S.inv S.fin, rfl⟩) hd
  · rw [S.eok.gl]; exact S.inv.ns g
  · rw [S.eok.bi]; exact S.inv.ns b
end

section
variable {w : World} {B : Shared} {n : Nat} {env : Env} {vars : Vars} {scope : Scope} {N : Nat}
theorem Ev.gg {x : Str} {v : Value} {pos : Pos} (fe : FE scope N env) (G : GlobAt B x v) (hk : scope.names.lookup x = some .globalImplicit := by decide +kernel) (hd : (x == ("__debug__" : Str)) = false := by decide) : Ev w B n env vars (.Name x pos) (rVal v) := Ev.g G (fe.ce.kd _ _ hk (by decide)) hd
theorem Ev.bb {x : Str} {v : Value} {pos : Pos} (fe : FE scope N env) (G : BltAt B x v) (hk : scope.names.lookup x = some .globalImplicit := by decide +kernel) (hd : (x == ("__debug__" : Str)) = false := by decide) : Ev w B n env vars (.Name x pos) (rVal v) := Ev.b G (fe.ce.kd _ _ hk (by decide)) hd
theorem FE.o {x : Str} (fe : FE scope N env) (h : scope.names.lookup x = some .local ∨ scope.names.lookup x = some .cell := by decide +kernel) : Own env N x := fe.own x h
theorem FE.cf {x : Str} (fe : FE scope N env) (h : scope.names.lookup x = some .cell ∨ scope.names.lookup x = some .free := by decide +kernel) : CF env x := fe.ce.cf h
/-- calls of built in callables and of the text's defs by their names -/
theorem Ev.cB {x : Str} {np pos : Pos} {es : List Expr} {rs : List Rp} {r : Rp} {id : String} (fe : FE scope N env) (G : BltAt B x (.builtin id)) (h : EvL w B n env vars es rs) (k : Cal w B n (.builtin id) rs r) (hk : scope.names.lookup x = some .globalImplicit := by decide +kernel) (hd : (x == ("__debug__" : Str)) = false := by decide) : Ev w B n env vars (.Call (.Name x np) es [] pos) r := Ev.callB (Ev.bb fe G hk hd) h k
theorem Ev.cT {x : Str} {np pos : Pos} {es : List Expr} {rs : List Rp} {r : Rp} {id : String} (fe : FE scope N env) (G : BltAt B x (.type id)) (h : EvL w B n env vars es rs) (k : Cal w B n (.type id) rs r) (hk : scope.names.lookup x = some .globalImplicit := by decide +kernel) (hd : (x == ("__debug__" : Str)) = false := by decide) : Ev w B n env vars (.Call (.Name x np) es [] pos) r := Ev.callT (Ev.bb fe G hk hd) h k
theorem Ev.cF {x : Str} {np pos : Pos} {es : List Expr} {rs : List Rp} {r : Rp} {a : Addr} {name : Str} {i : Nat} {dv kv : Value} (fe : FE scope N env) (G : GlobAt B x (.ref a)) (fn : Df B a name i dv kv) (h : EvL w B n env vars es rs) (k : Cal w B n (.ref a) rs r) (hk : scope.names.lookup x = some .globalImplicit := by decide +kernel) (hd : (x == ("__debug__" : Str)) = false := by decide) : Ev w B n env vars (.Call (.Name x np) es [] pos) r := Ev.callF (Ev.gg fe G hk hd) h fn k
/-- a comprehension of one clause -/
theorem Ev.lc {α : Type} {elt iter : Expr} {x : Str} {px : Pos} {ifs : List Expr} {sc : Scope} {pos : Pos} (xs : List α) (f g : α → Rp) (p : α → Bool) {rI : Rp} (cap : Vars)
    (hi : Ev w B n env vars iter rI) (it : Iterable w B n rI (xs.map f)) (hc : Cap env vars cap) (hb : ∀ N cenv, FE sc N cenv → (∀ a ∈ xs, Tests w B n cenv ((x, f a) :: cap) ifs (p a)) ∧ ∀ a ∈ xs, p a = true → Ev w B n cenv ((x, f a) :: cap) elt (g a))
    (hz : xs.length ≤ sizeLine) (ok : scOk sc = true := by decide +kernel) (hf : frees sc = cap.map (·.1) := by kernel_rfl) (hxl : sc.names.lookup x = some .local ∨ sc.names.lookup x = some .cell := by decide +kernel)
    (hs : ∀ x, foldedSetIterable iter env x = pure x := by intro _; rfl) : Ev w B n env vars (.ListComp elt [⟨.Name x px, iter, ifs, 0⟩] sc pos) (rList g (xs.filter p)) := Ev.comp cap hi it ok hf hc hz hxl hb hs
theorem Ev.lc0 {α : Type} {elt iter : Expr} {x : Str} {px : Pos} {sc : Scope} {pos : Pos} (xs : List α) (f g : α → Rp) {rI : Rp} (cap : Vars)
    (hi : Ev w B n env vars iter rI) (it : Iterable w B n rI (xs.map f)) (hc : Cap env vars cap) (hb : ∀ N cenv, FE sc N cenv → ∀ a ∈ xs, Ev w B n cenv ((x, f a) :: cap) elt (g a))
    (hz : xs.length ≤ sizeLine) (ok : scOk sc = true := by decide +kernel) (hf : frees sc = cap.map (·.1) := by kernel_rfl) (hxl : sc.names.lookup x = some .local ∨ sc.names.lookup x = some .cell := by decide +kernel)
    (hs : ∀ x, foldedSetIterable iter env x = pure x := by intro _; rfl) : Ev w B n env vars (.ListComp elt [⟨.Name x px, iter, [], 0⟩] sc pos) (rList g xs) := by
  have := Ev.lc (p := fun _ => true) xs f g cap hi it hc (fun N cenv fe => ⟨fun a _ => Tests.nil, fun a ha _ => hb N cenv fe a ha⟩) hz ok hf hxl hs (pos := pos) (px := px)
  rwa [show xs.filter (fun _ => true) = xs from List.filter_eq_self.mpr (by simp)] at this
end
end Mine
end

section
open PySem PySem.W PyProof.Rows PySem.Calls PySem.SeqAt PySem.MeetsSeq PySem.MeetsSeq2 PySem.MeetsSeq3 PySem.SeqRoads2
open PySem.AutoSeq1 (wpAny_loadPart')
namespace Mine

/-- two rows by their first places that differ, or by their lengths -/
noncomputable def lexB (c : Int → Int → Bool) (z : Nat → Nat → Bool) : List Int → List Int → Bool
  | x :: xs, y :: ys => if x == y then lexB c z xs ys else c x y
  | xs, ys => z xs.length ys.length
theorem lexB_drop {c : Int → Int → Bool} {z : Nat → Nat → Bool} (hz : ∀ m n k, z (m + k) (n + k) = z m n) : ∀ (i : Nat) (xs ys : List Int), i ≤ xs.length → i ≤ ys.length → (xs[i]? = none ∨ ys[i]? = none) → lexB c z (xs.drop i) (ys.drop i) = z xs.length ys.length := by
  intro i xs ys h1 h2 h
  have e : z xs.length ys.length = z (xs.length - i) (ys.length - i) := by
    rw [← hz (xs.length - i) (ys.length - i) i]
    congr 1 <;> (lia)
  rcases h with h | h
  · have : xs.drop i = [] := by simpa using h
    rw [this, e]
    have l : xs.length - i = 0 := by have := congrArg List.length this; simpa using this
    rw [l]
    cases hy : ys.drop i with
    | nil => rw [← List.length_drop, hy]; rfl
    | cons a r => rw [← List.length_drop, hy]; rfl
  · have : ys.drop i = [] := by simpa using h
    rw [this, e]
    have l : ys.length - i = 0 := by have := congrArg List.length this; simpa using this
    rw [l]
    cases hy : xs.drop i with
    | nil => rw [← List.length_drop, hy]; rfl
    | cons a r => rw [← List.length_drop, hy]; rfl
noncomputable def IntsIn (items : Array Value) (xs : List Int) : Prop := items.size = xs.length ∧ ∀ (i : Nat) x, xs[i]? = some x → ∃ t, items[i]? = some (.int x t)

theorem lt_loop (l b : Addr) (items items2 : Array Value) (n n2 : Nat) (dd dd2 : Option Addr) (sl sl2 : Array (Option Value)) (xs ys : List Int) (hx : IntsIn items xs) (hy : IntsIn items2 ys) (k : Nat) :
    ∀ i : Nat, xs.length - i = k → i ≤ xs.length → i ≤ ys.length → Meets (Builtin.«list.__eq__.loop» ⟨[.ref l, .ref b, rawInt i, rawInt 0], []⟩)
      (fun A R s => s.heap.get? l = some { cls := .type "list", dict := dd, data := .seq items n, slots := sl } ∧ s.heap.get? b = some { cls := .type "list", dict := dd2, data := .seq items2 n2, slots := sl2 } ∧
        R (.ok (.ret (.bool (lexB (fun a b => decide (a < b)) (fun m n => decide (m < n)) (xs.drop i) (ys.drop i))))) s) := by
  have fin : ∀ i : Nat, i ≤ xs.length → i ≤ ys.length → (xs[i]? = none ∨ ys[i]? = none) → Meets (Builtin.«list.__eq__.loop» ⟨[.ref l, .ref b, rawInt i, rawInt 0], []⟩)
      (fun A R s => s.heap.get? l = some { cls := .type "list", dict := dd, data := .seq items n, slots := sl } ∧ s.heap.get? b = some { cls := .type "list", dict := dd2, data := .seq items2 n2, slots := sl2 } ∧
        R (.ok (.ret (.bool (lexB (fun a b => decide (a < b)) (fun m n => decide (m < n)) (xs.drop i) (ys.drop i))))) s) := by
    intro i h1 h2 hn prog w A R s h
    obtain ⟨hp, g, d, tk, os⟩ := s; obtain ⟨hl, hb, h⟩ := h
    rw [lexB_drop (by intros; simp only [decide_eq_decide]; (lia)) i xs ys h1 h2 hn, ← hx.1, ← hy.1] at h
    wp_walk using wpAny_loadPart' hl, wpAny_loadPart' hb
    rcases hn with hn | hn
    · have hi1 : items[((i : Nat) : Int).toNat]? = none := by have := hx.1; simp at hn; simp; (lia)
      rw [hi1]
      wp_walk using wpAny_loadPart' hl, wpAny_loadPart' hb
      exact h
    · have hi2 : items2[((i : Nat) : Int).toNat]? = none := by have := hy.1; simp at hn; simp; (lia)
      rw [hi2]
      cases items[((i : Nat) : Int).toNat]? <;>
      · wp_walk using wpAny_loadPart' hl, wpAny_loadPart' hb
        exact h
  induction k with
  | zero => exact fun i hk h1 h2 => fin i h1 h2 (.inl (by simp; (lia)))
  | succ k ih =>
    intro i hk h1 h2
    by_cases hlt2 : i < ys.length
    · intro prog w A R s h
      obtain ⟨hp, g, d, tk, os⟩ := s; obtain ⟨hl, hb, h⟩ := h
      wp_walk using wpAny_loadPart' hl, wpAny_loadPart' hb
      have hlt : i < xs.length := by (lia)
      obtain ⟨t, ht⟩ := hx.2 i xs[i] (List.getElem?_eq_getElem hlt)
      obtain ⟨u, hu⟩ := hy.2 i ys[i] (List.getElem?_eq_getElem hlt2)
      have hi1 : items[((i : Nat) : Int).toNat]? = some (.int xs[i] t) := ht
      have hi2 : items2[((i : Nat) : Int).toNat]? = some (.int ys[i] u) := hu
      have hc : ((i : Int) + 1) = ((i + 1 : Nat) : Int) := by push_cast; rfl
      rw [List.drop_eq_getElem_cons hlt, List.drop_eq_getElem_cons hlt2] at h
      unfold lexB at h
      rw [hi1, hi2]
      refine wpAny_bind (EqAt.int_int xs[i] t ys[i] u prog w _ _ ?_)
      cases hb' : xs[i] == ys[i] with
      | true =>
        rw [hb'] at h
        wp_walk
        rw [hc]
        exact ⟨plainId_quiet plain_eq_loop _, codeAny_builtin entry_eq_loop (by
          rw [Around.under_plainId plain_eq_loop _]
          exact ih (i + 1) (by (lia)) (by (assumption)) (by (assumption)) prog w A R _ ⟨hl, hb, by simpa using h⟩)⟩
      | false =>
        rw [hb'] at h
        wp_walk using wpAny_loadPart' hl, wpAny_loadPart' hb
        rw [hi1, hi2]
        simp only [Bool.false_eq_true, if_false] at h
        dsimp only
        exact wpAny_bind (lt_int (a := xs[i]) (b := ys[i]) (wpAny_pure h))
    · exact fin i h1 h2 (.inr (by simp; (lia)))
theorem lt_lists {prog : Program} {w : World} {A : Around} {E : Value → Shared → Prop} {s : Shared} {l b : Addr} {items items2 : Array Value} {xs ys : List Int} {Q : Value → Shared → Prop} (hl : s.heap.IsList l items) (hb : s.heap.IsList b items2) (hx : IntsIn items xs) (hy : IntsIn items2 ys) (hu : A.units < cLine)
    (h : Q (.bool (lexB (fun a b => decide (a < b)) (fun m n => decide (m < n)) xs ys)) s) : wpAny (model prog w) A (compareOp .Lt (.ref l) (.ref b)) Q E s := by
  obtain ⟨⟨cls, dd, data, sl⟩, ho, hc, n, hd⟩ := id hl
  obtain ⟨⟨cls2, dd2, data2, sl2⟩, ho2, hc2, n2, hd2⟩ := id hb
  simp only at hc hd hc2 hd2
  subst hc hd hc2 hd2
  have meets : Meets (Builtin.«list.__lt__» ⟨[.ref l, .ref b], []⟩)
      (fun A R s => s.heap.get? l = some { cls := .type "list", dict := dd, data := .seq items n, slots := sl } ∧ s.heap.get? b = some { cls := .type "list", dict := dd2, data := .seq items2 n2, slots := sl2 } ∧
        R (.ok (.ret (.bool (lexB (fun a b => decide (a < b)) (fun m n => decide (m < n)) xs ys)))) s) := by
    intro prog w A R s h
    obtain ⟨hp, g, d, tk, os⟩ := s; obtain ⟨hl, hb, h⟩ := h
    have f3 := AutoSeq1.sub_list_list
    wp_walk using wpAny_loadPart' hl, wpAny_loadPart' hb
    exact ⟨plainId_quiet plain_eq_loop _, codeAny_builtin entry_eq_loop (by
      rw [Around.under_plainId plain_eq_loop _]
      exact lt_loop l b items items2 n n2 dd dd2 sl sl2 xs ys hx hy _ 0 rfl (Nat.zero_le _) (Nat.zero_le _) prog w A R _ ⟨hl, hb, h⟩)⟩
  exact richCompare_meets_room (op := .Lt) ⟨_, ho, rfl⟩ ⟨_, ho2, rfl⟩ F.slot_list_lt F.entry_list_lt (F.args_list_lt_2 _ _) meets
    ⟨ho, ho2, (fun x => nomatch x), h⟩ hu

theorem le_loop (l b : Addr) (items items2 : Array Value) (n n2 : Nat) (dd dd2 : Option Addr) (sl sl2 : Array (Option Value)) (xs ys : List Int) (hx : IntsIn items xs) (hy : IntsIn items2 ys) (k : Nat) :
    ∀ i : Nat, xs.length - i = k → i ≤ xs.length → i ≤ ys.length → Meets (Builtin.«list.__eq__.loop» ⟨[.ref l, .ref b, rawInt i, rawInt 1], []⟩)
      (fun A R s => s.heap.get? l = some { cls := .type "list", dict := dd, data := .seq items n, slots := sl } ∧ s.heap.get? b = some { cls := .type "list", dict := dd2, data := .seq items2 n2, slots := sl2 } ∧
        R (.ok (.ret (.bool (lexB (fun a b => decide (a ≤ b)) (fun m n => decide (m ≤ n)) (xs.drop i) (ys.drop i))))) s) := by
  have fin : ∀ i : Nat, i ≤ xs.length → i ≤ ys.length → (xs[i]? = none ∨ ys[i]? = none) → Meets (Builtin.«list.__eq__.loop» ⟨[.ref l, .ref b, rawInt i, rawInt 1], []⟩)
      (fun A R s => s.heap.get? l = some { cls := .type "list", dict := dd, data := .seq items n, slots := sl } ∧ s.heap.get? b = some { cls := .type "list", dict := dd2, data := .seq items2 n2, slots := sl2 } ∧
        R (.ok (.ret (.bool (lexB (fun a b => decide (a ≤ b)) (fun m n => decide (m ≤ n)) (xs.drop i) (ys.drop i))))) s) := by
    intro i h1 h2 hn prog w A R s h
    obtain ⟨hp, g, d, tk, os⟩ := s; obtain ⟨hl, hb, h⟩ := h
    rw [lexB_drop (by intros; simp only [decide_eq_decide]; (lia)) i xs ys h1 h2 hn, ← hx.1, ← hy.1] at h
    wp_walk using wpAny_loadPart' hl, wpAny_loadPart' hb
    rcases hn with hn | hn
    · have hi1 : items[((i : Nat) : Int).toNat]? = none := by have := hx.1; simp at hn; simp; (lia)
      rw [hi1]
      wp_walk using wpAny_loadPart' hl, wpAny_loadPart' hb
      exact h
    · have hi2 : items2[((i : Nat) : Int).toNat]? = none := by have := hy.1; simp at hn; simp; (lia)
      rw [hi2]
      cases items[((i : Nat) : Int).toNat]? <;>
      · wp_walk using wpAny_loadPart' hl, wpAny_loadPart' hb
        exact h
  induction k with
  | zero => exact fun i hk h1 h2 => fin i h1 h2 (.inl (by simp; (lia)))
  | succ k ih =>
    intro i hk h1 h2
    by_cases hlt2 : i < ys.length
    · intro prog w A R s h
      obtain ⟨hp, g, d, tk, os⟩ := s; obtain ⟨hl, hb, h⟩ := h
      wp_walk using wpAny_loadPart' hl, wpAny_loadPart' hb
      have hlt : i < xs.length := by (lia)
      obtain ⟨t, ht⟩ := hx.2 i xs[i] (List.getElem?_eq_getElem hlt)
      obtain ⟨u, hu⟩ := hy.2 i ys[i] (List.getElem?_eq_getElem hlt2)
      have hi1 : items[((i : Nat) : Int).toNat]? = some (.int xs[i] t) := ht
      have hi2 : items2[((i : Nat) : Int).toNat]? = some (.int ys[i] u) := hu
      have hc : ((i : Int) + 1) = ((i + 1 : Nat) : Int) := by push_cast; rfl
      rw [List.drop_eq_getElem_cons hlt, List.drop_eq_getElem_cons hlt2] at h
      unfold lexB at h
      rw [hi1, hi2]
      refine wpAny_bind (EqAt.int_int xs[i] t ys[i] u prog w _ _ ?_)
      cases hb' : xs[i] == ys[i] with
      | true =>
        rw [hb'] at h
        wp_walk
        rw [hc]
        exact ⟨plainId_quiet plain_eq_loop _, codeAny_builtin entry_eq_loop (by
          rw [Around.under_plainId plain_eq_loop _]
          exact ih (i + 1) (by (lia)) (by (assumption)) (by (assumption)) prog w A R _ ⟨hl, hb, by simpa using h⟩)⟩
      | false =>
        rw [hb'] at h
        wp_walk using wpAny_loadPart' hl, wpAny_loadPart' hb
        rw [hi1, hi2]
        simp only [Bool.false_eq_true, if_false] at h
        dsimp only
        exact wpAny_bind (le_int (a := xs[i]) (b := ys[i]) (wpAny_pure h))
    · exact fin i h1 h2 (.inr (by simp; (lia)))
theorem le_lists {prog : Program} {w : World} {A : Around} {E : Value → Shared → Prop} {s : Shared} {l b : Addr} {items items2 : Array Value} {xs ys : List Int} {Q : Value → Shared → Prop} (hl : s.heap.IsList l items) (hb : s.heap.IsList b items2) (hx : IntsIn items xs) (hy : IntsIn items2 ys) (hu : A.units < cLine)
    (h : Q (.bool (lexB (fun a b => decide (a ≤ b)) (fun m n => decide (m ≤ n)) xs ys)) s) : wpAny (model prog w) A (compareOp .LtE (.ref l) (.ref b)) Q E s := by
  obtain ⟨⟨cls, dd, data, sl⟩, ho, hc, n, hd⟩ := id hl
  obtain ⟨⟨cls2, dd2, data2, sl2⟩, ho2, hc2, n2, hd2⟩ := id hb
  simp only at hc hd hc2 hd2
  subst hc hd hc2 hd2
  have meets : Meets (Builtin.«list.__le__» ⟨[.ref l, .ref b], []⟩)
      (fun A R s => s.heap.get? l = some { cls := .type "list", dict := dd, data := .seq items n, slots := sl } ∧ s.heap.get? b = some { cls := .type "list", dict := dd2, data := .seq items2 n2, slots := sl2 } ∧
        R (.ok (.ret (.bool (lexB (fun a b => decide (a ≤ b)) (fun m n => decide (m ≤ n)) xs ys)))) s) := by
    intro prog w A R s h
    obtain ⟨hp, g, d, tk, os⟩ := s; obtain ⟨hl, hb, h⟩ := h
    have f3 := AutoSeq1.sub_list_list
    wp_walk using wpAny_loadPart' hl, wpAny_loadPart' hb
    exact ⟨plainId_quiet plain_eq_loop _, codeAny_builtin entry_eq_loop (by
      rw [Around.under_plainId plain_eq_loop _]
      exact le_loop l b items items2 n n2 dd dd2 sl sl2 xs ys hx hy _ 0 rfl (Nat.zero_le _) (Nat.zero_le _) prog w A R _ ⟨hl, hb, h⟩)⟩
  exact richCompare_meets_room (op := .LtE) ⟨_, ho, rfl⟩ ⟨_, ho2, rfl⟩ F.slot_list_le F.entry_list_le (F.args_list_le_2 _ _) meets
    ⟨ho, ho2, (fun x => nomatch x), h⟩ hu

theorem gt_loop (l b : Addr) (items items2 : Array Value) (n n2 : Nat) (dd dd2 : Option Addr) (sl sl2 : Array (Option Value)) (xs ys : List Int) (hx : IntsIn items xs) (hy : IntsIn items2 ys) (k : Nat) :
    ∀ i : Nat, xs.length - i = k → i ≤ xs.length → i ≤ ys.length → Meets (Builtin.«list.__eq__.loop» ⟨[.ref l, .ref b, rawInt i, rawInt 4], []⟩)
      (fun A R s => s.heap.get? l = some { cls := .type "list", dict := dd, data := .seq items n, slots := sl } ∧ s.heap.get? b = some { cls := .type "list", dict := dd2, data := .seq items2 n2, slots := sl2 } ∧
        R (.ok (.ret (.bool (lexB (fun a b => decide (a > b)) (fun m n => decide (m > n)) (xs.drop i) (ys.drop i))))) s) := by
  have fin : ∀ i : Nat, i ≤ xs.length → i ≤ ys.length → (xs[i]? = none ∨ ys[i]? = none) → Meets (Builtin.«list.__eq__.loop» ⟨[.ref l, .ref b, rawInt i, rawInt 4], []⟩)
      (fun A R s => s.heap.get? l = some { cls := .type "list", dict := dd, data := .seq items n, slots := sl } ∧ s.heap.get? b = some { cls := .type "list", dict := dd2, data := .seq items2 n2, slots := sl2 } ∧
        R (.ok (.ret (.bool (lexB (fun a b => decide (a > b)) (fun m n => decide (m > n)) (xs.drop i) (ys.drop i))))) s) := by
    intro i h1 h2 hn prog w A R s h
    obtain ⟨hp, g, d, tk, os⟩ := s; obtain ⟨hl, hb, h⟩ := h
    rw [lexB_drop (by intros; simp only [decide_eq_decide]; (lia)) i xs ys h1 h2 hn, ← hx.1, ← hy.1] at h
    wp_walk using wpAny_loadPart' hl, wpAny_loadPart' hb
    rcases hn with hn | hn
    · have hi1 : items[((i : Nat) : Int).toNat]? = none := by have := hx.1; simp at hn; simp; (lia)
      rw [hi1]
      wp_walk using wpAny_loadPart' hl, wpAny_loadPart' hb
      exact h
    · have hi2 : items2[((i : Nat) : Int).toNat]? = none := by have := hy.1; simp at hn; simp; (lia)
      rw [hi2]
      cases items[((i : Nat) : Int).toNat]? <;>
      · wp_walk using wpAny_loadPart' hl, wpAny_loadPart' hb
        exact h
  induction k with
  | zero => exact fun i hk h1 h2 => fin i h1 h2 (.inl (by simp; (lia)))
  | succ k ih =>
    intro i hk h1 h2
    by_cases hlt2 : i < ys.length
    · intro prog w A R s h
      obtain ⟨hp, g, d, tk, os⟩ := s; obtain ⟨hl, hb, h⟩ := h
      wp_walk using wpAny_loadPart' hl, wpAny_loadPart' hb
      have hlt : i < xs.length := by (lia)
      obtain ⟨t, ht⟩ := hx.2 i xs[i] (List.getElem?_eq_getElem hlt)
      obtain ⟨u, hu⟩ := hy.2 i ys[i] (List.getElem?_eq_getElem hlt2)
      have hi1 : items[((i : Nat) : Int).toNat]? = some (.int xs[i] t) := ht
      have hi2 : items2[((i : Nat) : Int).toNat]? = some (.int ys[i] u) := hu
      have hc : ((i : Int) + 1) = ((i + 1 : Nat) : Int) := by push_cast; rfl
      rw [List.drop_eq_getElem_cons hlt, List.drop_eq_getElem_cons hlt2] at h
      unfold lexB at h
      rw [hi1, hi2]
      refine wpAny_bind (EqAt.int_int xs[i] t ys[i] u prog w _ _ ?_)
      cases hb' : xs[i] == ys[i] with
      | true =>
        rw [hb'] at h
        wp_walk
        rw [hc]
        exact ⟨plainId_quiet plain_eq_loop _, codeAny_builtin entry_eq_loop (by
          rw [Around.under_plainId plain_eq_loop _]
          exact ih (i + 1) (by (lia)) (by (assumption)) (by (assumption)) prog w A R _ ⟨hl, hb, by simpa using h⟩)⟩
      | false =>
        rw [hb'] at h
        wp_walk using wpAny_loadPart' hl, wpAny_loadPart' hb
        rw [hi1, hi2]
        simp only [Bool.false_eq_true, if_false] at h
        dsimp only
        exact wpAny_bind (gt_int (a := xs[i]) (b := ys[i]) (wpAny_pure h))
    · exact fin i h1 h2 (.inr (by simp; (lia)))
theorem gt_lists {prog : Program} {w : World} {A : Around} {E : Value → Shared → Prop} {s : Shared} {l b : Addr} {items items2 : Array Value} {xs ys : List Int} {Q : Value → Shared → Prop} (hl : s.heap.IsList l items) (hb : s.heap.IsList b items2) (hx : IntsIn items xs) (hy : IntsIn items2 ys) (hu : A.units < cLine)
    (h : Q (.bool (lexB (fun a b => decide (a > b)) (fun m n => decide (m > n)) xs ys)) s) : wpAny (model prog w) A (compareOp .Gt (.ref l) (.ref b)) Q E s := by
  obtain ⟨⟨cls, dd, data, sl⟩, ho, hc, n, hd⟩ := id hl
  obtain ⟨⟨cls2, dd2, data2, sl2⟩, ho2, hc2, n2, hd2⟩ := id hb
  simp only at hc hd hc2 hd2
  subst hc hd hc2 hd2
  have meets : Meets (Builtin.«list.__gt__» ⟨[.ref l, .ref b], []⟩)
      (fun A R s => s.heap.get? l = some { cls := .type "list", dict := dd, data := .seq items n, slots := sl } ∧ s.heap.get? b = some { cls := .type "list", dict := dd2, data := .seq items2 n2, slots := sl2 } ∧
        R (.ok (.ret (.bool (lexB (fun a b => decide (a > b)) (fun m n => decide (m > n)) xs ys)))) s) := by
    intro prog w A R s h
    obtain ⟨hp, g, d, tk, os⟩ := s; obtain ⟨hl, hb, h⟩ := h
    have f3 := AutoSeq1.sub_list_list
    wp_walk using wpAny_loadPart' hl, wpAny_loadPart' hb
    exact ⟨plainId_quiet plain_eq_loop _, codeAny_builtin entry_eq_loop (by
      rw [Around.under_plainId plain_eq_loop _]
      exact gt_loop l b items items2 n n2 dd dd2 sl sl2 xs ys hx hy _ 0 rfl (Nat.zero_le _) (Nat.zero_le _) prog w A R _ ⟨hl, hb, h⟩)⟩
  exact richCompare_meets_room (op := .Gt) ⟨_, ho, rfl⟩ ⟨_, ho2, rfl⟩ F.slot_list_gt F.entry_list_gt (F.args_list_gt_2 _ _) meets
    ⟨ho, ho2, (fun x => nomatch x), h⟩ hu

theorem ge_loop (l b : Addr) (items items2 : Array Value) (n n2 : Nat) (dd dd2 : Option Addr) (sl sl2 : Array (Option Value)) (xs ys : List Int) (hx : IntsIn items xs) (hy : IntsIn items2 ys) (k : Nat) :
    ∀ i : Nat, xs.length - i = k → i ≤ xs.length → i ≤ ys.length → Meets (Builtin.«list.__eq__.loop» ⟨[.ref l, .ref b, rawInt i, rawInt 5], []⟩)
      (fun A R s => s.heap.get? l = some { cls := .type "list", dict := dd, data := .seq items n, slots := sl } ∧ s.heap.get? b = some { cls := .type "list", dict := dd2, data := .seq items2 n2, slots := sl2 } ∧
        R (.ok (.ret (.bool (lexB (fun a b => decide (a ≥ b)) (fun m n => decide (m ≥ n)) (xs.drop i) (ys.drop i))))) s) := by
  have fin : ∀ i : Nat, i ≤ xs.length → i ≤ ys.length → (xs[i]? = none ∨ ys[i]? = none) → Meets (Builtin.«list.__eq__.loop» ⟨[.ref l, .ref b, rawInt i, rawInt 5], []⟩)
      (fun A R s => s.heap.get? l = some { cls := .type "list", dict := dd, data := .seq items n, slots := sl } ∧ s.heap.get? b = some { cls := .type "list", dict := dd2, data := .seq items2 n2, slots := sl2 } ∧
        R (.ok (.ret (.bool (lexB (fun a b => decide (a ≥ b)) (fun m n => decide (m ≥ n)) (xs.drop i) (ys.drop i))))) s) := by
    intro i h1 h2 hn prog w A R s h
    obtain ⟨hp, g, d, tk, os⟩ := s; obtain ⟨hl, hb, h⟩ := h
    rw [lexB_drop (by intros; simp only [decide_eq_decide]; (lia)) i xs ys h1 h2 hn, ← hx.1, ← hy.1] at h
    wp_walk using wpAny_loadPart' hl, wpAny_loadPart' hb
    rcases hn with hn | hn
    · have hi1 : items[((i : Nat) : Int).toNat]? = none := by have := hx.1; simp at hn; simp; (lia)
      rw [hi1]
      wp_walk using wpAny_loadPart' hl, wpAny_loadPart' hb
      exact h
    · have hi2 : items2[((i : Nat) : Int).toNat]? = none := by have := hy.1; simp at hn; simp; (lia)
      rw [hi2]
      cases items[((i : Nat) : Int).toNat]? <;>
      · wp_walk using wpAny_loadPart' hl, wpAny_loadPart' hb
        exact h
  induction k with
  | zero => exact fun i hk h1 h2 => fin i h1 h2 (.inl (by simp; (lia)))
  | succ k ih =>
    intro i hk h1 h2
    by_cases hlt2 : i < ys.length
    · intro prog w A R s h
      obtain ⟨hp, g, d, tk, os⟩ := s; obtain ⟨hl, hb, h⟩ := h
      wp_walk using wpAny_loadPart' hl, wpAny_loadPart' hb
      have hlt : i < xs.length := by (lia)
      obtain ⟨t, ht⟩ := hx.2 i xs[i] (List.getElem?_eq_getElem hlt)
      obtain ⟨u, hu⟩ := hy.2 i ys[i] (List.getElem?_eq_getElem hlt2)
      have hi1 : items[((i : Nat) : Int).toNat]? = some (.int xs[i] t) := ht
      have hi2 : items2[((i : Nat) : Int).toNat]? = some (.int ys[i] u) := hu
      have hc : ((i : Int) + 1) = ((i + 1 : Nat) : Int) := by push_cast; rfl
      rw [List.drop_eq_getElem_cons hlt, List.drop_eq_getElem_cons hlt2] at h
      unfold lexB at h
      rw [hi1, hi2]
      refine wpAny_bind (EqAt.int_int xs[i] t ys[i] u prog w _ _ ?_)
      cases hb' : xs[i] == ys[i] with
      | true =>
        rw [hb'] at h
        wp_walk
        rw [hc]
        exact ⟨plainId_quiet plain_eq_loop _, codeAny_builtin entry_eq_loop (by
          rw [Around.under_plainId plain_eq_loop _]
          exact ih (i + 1) (by (lia)) (by (assumption)) (by (assumption)) prog w A R _ ⟨hl, hb, by simpa using h⟩)⟩
      | false =>
        rw [hb'] at h
        wp_walk using wpAny_loadPart' hl, wpAny_loadPart' hb
        rw [hi1, hi2]
        simp only [Bool.false_eq_true, if_false] at h
        dsimp only
        exact wpAny_bind (ge_int (a := xs[i]) (b := ys[i]) (wpAny_pure h))
    · exact fin i h1 h2 (.inr (by simp; (lia)))
theorem ge_lists {prog : Program} {w : World} {A : Around} {E : Value → Shared → Prop} {s : Shared} {l b : Addr} {items items2 : Array Value} {xs ys : List Int} {Q : Value → Shared → Prop} (hl : s.heap.IsList l items) (hb : s.heap.IsList b items2) (hx : IntsIn items xs) (hy : IntsIn items2 ys) (hu : A.units < cLine)
    (h : Q (.bool (lexB (fun a b => decide (a ≥ b)) (fun m n => decide (m ≥ n)) xs ys)) s) : wpAny (model prog w) A (compareOp .GtE (.ref l) (.ref b)) Q E s := by
  obtain ⟨⟨cls, dd, data, sl⟩, ho, hc, n, hd⟩ := id hl
  obtain ⟨⟨cls2, dd2, data2, sl2⟩, ho2, hc2, n2, hd2⟩ := id hb
  simp only at hc hd hc2 hd2
  subst hc hd hc2 hd2
  have meets : Meets (Builtin.«list.__ge__» ⟨[.ref l, .ref b], []⟩)
      (fun A R s => s.heap.get? l = some { cls := .type "list", dict := dd, data := .seq items n, slots := sl } ∧ s.heap.get? b = some { cls := .type "list", dict := dd2, data := .seq items2 n2, slots := sl2 } ∧
        R (.ok (.ret (.bool (lexB (fun a b => decide (a ≥ b)) (fun m n => decide (m ≥ n)) xs ys)))) s) := by
    intro prog w A R s h
    obtain ⟨hp, g, d, tk, os⟩ := s; obtain ⟨hl, hb, h⟩ := h
    have f3 := AutoSeq1.sub_list_list
    wp_walk using wpAny_loadPart' hl, wpAny_loadPart' hb
    exact ⟨plainId_quiet plain_eq_loop _, codeAny_builtin entry_eq_loop (by
      rw [Around.under_plainId plain_eq_loop _]
      exact ge_loop l b items items2 n n2 dd dd2 sl sl2 xs ys hx hy _ 0 rfl (Nat.zero_le _) (Nat.zero_le _) prog w A R _ ⟨hl, hb, h⟩)⟩
  exact richCompare_meets_room (op := .GtE) ⟨_, ho, rfl⟩ ⟨_, ho2, rfl⟩ F.slot_list_ge F.entry_list_ge (F.args_list_ge_2 _ _) meets
    ⟨ho, ho2, (fun x => nomatch x), h⟩ hu
end Mine
end

section
open PySem PySem.W PyProof.Rows PySem.Calls PySem.SeqAt
namespace Mine

noncomputable abbrev rNat (k : Nat) : Rp := rInt (k : Int)
section
variable {w : World} {B : Shared} {n : Nat} {env : Env} {vars : Vars}
theorem Ev.nat (k : Nat) {m : Nat} {pos : Pos} : Ev w B n env vars (.Constant (.int (k : Int)) m pos) (rNat k) := Ev.int
theorem Op2.eq {t : Value → Value → Sem Value} {r₁ r₂ r r' : Rp} (h : Op2 w B n t r₁ r₂ r) (e : r = r') : Op2 w B n t r₁ r₂ r' := e ▸ h
variable {a b : Nat}
theorem intBits_nat {k : Nat} (h : k < 2 ^ 63) : Builtin.Int.intBits (k : Int) ≤ 64 := intBits_le_64 (by (lia)) (by (lia))
theorem on_add : Op2 w B n (binaryOp .Add) (rNat a) (rNat b) (rNat (a + b)) := op_add.eq (by simp [rNat])
theorem on_sub (h : b ≤ a) : Op2 w B n (binaryOp .Sub) (rNat a) (rNat b) (rNat (a - b)) := op_sub.eq (by congr 1; (lia))
theorem on_mul (h : a < 2 ^ 63) : Op2 w B n (binaryOp .Mult) (rNat a) (rNat b) (rNat (a * b)) := (op_mul (.of_left (intBits_nat h))).eq (by simp [rNat])
theorem on_mod (h : b ≠ 0) : Op2 w B n (binaryOp .Mod) (rNat a) (rNat b) (rNat (a % b)) := (op_mod (by (lia))).eq (by rw [Int.fmod_eq_emod_of_nonneg _ (by (lia))]; rfl)
theorem on_div (h : b ≠ 0) (hb : b < 1073741824) : Op2 w B n (binaryOp .FloorDiv) (rNat a) (rNat b) (rNat (a / b)) := (op_div (by (lia)) (PyProof.noPylong_small (by (assumption)))).eq (by rw [Int.fdiv_eq_ediv_of_nonneg _ (by (lia))]; rfl)
theorem on_pow (h : a < 2 ^ 63) (hb : b < 1000) : Op2 w B n (binaryOp .Pow) (rNat a) (rNat b) (rNat (a ^ b)) := (op_pow (by (lia)) (by
  have := intBits_nat h
  have : (Builtin.Int.intBits (a : Int) : Int) * b ≤ 64 * 1000 := by
    have h1 : (Builtin.Int.intBits (a : Int) : Int) ≤ 64 := by (lia)
    calc (Builtin.Int.intBits (a : Int) : Int) * b ≤ 64 * b := Int.mul_le_mul_of_nonneg_right h1 (by (lia))
      _ ≤ 64 * 1000 := by (lia)
  (lia))).eq (by simp [rNat])
theorem cn_lt : Op2 w B n (compareOp .Lt) (rNat a) (rNat b) (rBool (decide (a < b))) := cmp_lt.eq (by congr 2; simp)
theorem cn_gt : Op2 w B n (compareOp .Gt) (rNat a) (rNat b) (rBool (decide (a > b))) := cmp_gt.eq (by congr 2; simp)
theorem cn_ge : Op2 w B n (compareOp .GtE) (rNat a) (rNat b) (rBool (decide (a ≥ b))) := cmp_ge.eq (by congr 2; simp)
theorem cn_eq : Op2 w B n (compareOp .Eq) (rNat a) (rNat b) (rBool (a == b)) := cmp_eq.eq (by
  have : ((a : Int) == (b : Int)) = (a == b) := by rw [Bool.eq_iff_iff, beq_iff_eq, beq_iff_eq]; (lia)
  rw [this])

/-! a list -/
theorem rList.get {α : Type} {f : α → Rp} {xs : List α} {F : Fz} {v : Value} {s : Shared} (h : (rList f xs).p F v) (i : F.In s.heap) : ∃ a vs k, v = .ref a ∧ s.heap.get? a = some (lst vs k) ∧ s.heap.IsList a vs.toArray ∧ Are f F vs xs :=
  let ⟨a, vs, k, e, g, r⟩ := h; ⟨a, vs, k, e, (i _ _ g).1, ⟨_, (i _ _ g).1, rfl, k, rfl⟩, r⟩
theorem rList.map {α β : Type} {f : β → Rp} {g : α → β} {xs : List α} {F : Fz} {v : Value} : (rList (fun x => f (g x)) xs).p F v ↔ (rList f (xs.map g)).p F v := by
  have key : ∀ vs, Are (fun x => f (g x)) F vs xs ↔ Are f F vs (xs.map g) := fun vs => by
    constructor
    · intro h
      refine Are.of_get (by simp [h.1]) fun i v y hv hy => ?_
      rw [List.getElem?_map] at hy
      cases hx : xs[i]? with
      | none => rw [hx] at hy; cases hy
      | some x =>
        rw [hx] at hy; cases hy
        obtain ⟨v', hv', p⟩ := h.get hx
        rw [hv] at hv'; cases hv'
        exact p
    · intro h
      refine Are.of_get (by simpa using h.1) fun i v x hv hx => ?_
      obtain ⟨v', hv', p⟩ := h.get (x := g x) (i := i) (by rw [List.getElem?_map, hx]; rfl)
      rw [hv] at hv'; cases hv'
      exact p
  exact ⟨fun ⟨a, vs, k, e, q, r⟩ => ⟨a, vs, k, e, q, (key vs).mp r⟩, fun ⟨a, vs, k, e, q, r⟩ => ⟨a, vs, k, e, q, (key vs).mpr r⟩⟩
theorem Ev.map {α β : Type} {f : β → Rp} {g : α → β} {xs : List α} {e : Expr} (h : Ev w B n env vars e (rList (fun x => f (g x)) xs)) : Ev w B n env vars e (rList f (xs.map g)) := h.imp fun _ _ => rList.map.mp
theorem Ev.unmap {α β : Type} {f : β → Rp} {g : α → β} {xs : List α} {e : Expr} (h : Ev w B n env vars e (rList f (xs.map g))) : Ev w B n env vars e (rList (fun x => f (g x)) xs) := h.imp fun _ _ => rList.map.mpr

/-- what is made anew -/
theorem made {s : Shared} {F : Fz} {r : Rp} {o : Obj} (i : Inv B s) (f : F.In s.heap) (ho : o.isFreed = false) (t : Tok) (k : ∀ F', F.Le F' → F' s.heap.objs.size = some o → r.p F' (.ref s.heap.objs.size)) (hq : ¬ IsTab o := by intro h; cases h.1) : Gives B s F r (.ref s.heap.objs.size) { s with heap := s.heap.push o, toks := t } :=
  have hn := Fz.none_of_in f (Nat.le_refl s.heap.objs.size)
  ⟨F.put s.heap.objs.size o, (Ext.push i f o t).freeze (Nat.le_refl _) (Heap.get?_push_size _ ho) hn hq, k _ (Fz.le_put hn) (Fz.put_self ..)⟩

theorem Cal.len_list {α : Type} {f : α → Rp} {xs : List α} (h : xs.length < 2 ^ 62) : Cal w B n (.builtin "len") [rList f xs] (rNat xs.length) := .mk fun A s F vs hA i fi are => by
  obtain ⟨v, vs', rfl, p, r⟩ := are.cons_inv
  rw [r.nil_inv]
  obtain ⟨a, us, k, rfl, g, l, q⟩ := rList.get p fi
  refine call_len_list l (by simp [q.1]; (lia)) ⟨F, Ext.tok i fi _, s.toks + 1, ?_⟩
  simp [q.1]
theorem Cal.len_str {x : Str} (h : x.length < 2 ^ 62) : Cal w B n (.builtin "len") [rStr x] (rNat x.length) := .mk fun A s F vs hA i fi are => by
  obtain ⟨v, vs', rfl, ⟨t, rfl⟩, r⟩ := are.cons_inv
  rw [r.nil_inv]
  exact PyProof.Rows.len_str (by (lia)) ⟨F, Ext.tok i fi _, _, rfl⟩
/-! subscripts -/
theorem Ev.sub {value slice : Expr} {pos : Pos} {r₁ r₂ r₃ : Rp} {T id : String} (h₁ : Ev w B n env vars value r₁) (h₂ : Ev w B n env vars slice r₂) (hT : ∀ F (s : Shared) v, r₁.p F v → F.In s.heap → s.TypeIs v T) (hl : typeLookup (.type T) "__getitem__" = pure (some (.builtin id)))
    (h₃ : Op2 w B n getItem r₁ r₂ r₃) (hs : ∀ o i, ∃ ops, subscripted slice false o i = operate ops (getItem o i) := by exact fun o i => ⟨_, rfl⟩) : Ev w B n env vars (.Subscript value slice pos) r₃ := .mk fun A s F hA S => by
  refine Subscript_ ((h₁.go A s F hA S).mono fun o s₁ ⟨F₁, x₁, p₁⟩ => (h₂.go A s₁ F₁ hA (S.ext x₁)).mono fun i s₂ ⟨F₂, x₂, p₂⟩ => ?_)
  have t := hT F₂ s₂ o (r₁.mono _ _ _ x₂.le p₁) x₂.fin
  obtain ⟨ops, hs⟩ := hs o i
  unfold subscriptTail
  rw [getitemInPython_of_ne t.not_modules]
  have fin : W w A (subscripted slice false o i) (fun r s₃ => W w A (letTemporaryGo value o r >>= fun _ => pure r) (Gives B s F r₃) s₃) s₂ := by
    rw [hs]
    refine wpAny_operating ((h₃.go A s₂ F₂ o i hA x₂.inv x₂.fin (r₁.mono _ _ _ x₂.le p₁) p₂).mono fun v s₃ g => wpAny_bind (wpAny_letTemporaryGo (wpAny_pure (g.from (x₁.trans x₂)))))
  refine wpAny_bind (wpAny_bind (wpAny_specialOf t hl ?_))
  first
    | exact wpAny_pure (wpAny_bind fin)
    | exact wpAny_bind (wpAny_pure (wpAny_bind fin))
    | exact wpAny_bind fin
theorem is_list {α : Type} {f : α → Rp} {xs : List α} : ∀ F (s : Shared) v, (rList f xs).p F v → F.In s.heap → s.TypeIs v "list" := fun F s v p i => by
  obtain ⟨a, vs, k, e, g, _⟩ := rList.get p i
  subst e
  exact ⟨_, g, rfl⟩
theorem is_str {x : Str} : ∀ F (s : Shared) v, (rStr x).p F v → F.In s.heap → s.TypeIs v "str" := fun F s v ⟨t, e⟩ i => by rw [e]; exact typeIs_str s x t
theorem it_list {α : Type} {f : α → Rp} {xs : List α} {i : Nat} {x : α} (hx : xs[i]? = some x) (hi : i < 2 ^ 62) : Op2 w B n getItem (rList f xs) (rNat i) (f x) := .mk fun A s F u v hA iv fi p ⟨t, e⟩ => by
  obtain ⟨a, us, k, rfl, g, l, q1⟩ := rList.get p fi
  subst e
  obtain ⟨y, hy, py⟩ := q1.get hx
  exact getItem_listL l (by (lia)) (by (lia)) (by simpa using hy) ⟨F, Ext.refl iv fi, py⟩
theorem it_list_neg {α : Type} {f : α → Rp} {xs : List α} {i : Int} {x : α} (h0 : i < 0) (h1 : -(xs.length : Int) ≤ i) (h2 : -(2 ^ 62) ≤ i) (hx : xs[(i + xs.length).toNat]? = some x) : Op2 w B n getItem (rList f xs) (rInt i) (f x) := .mk fun A s F u v hA iv fi p ⟨t, e⟩ => by
  obtain ⟨a, us, k, rfl, g, l, q1⟩ := rList.get p fi
  subst e
  obtain ⟨y, hy, py⟩ := q1.get hx
  refine wpAny_getItem_list_neg l h0 (by simp [q1.1]; (assumption)) (by (lia)) (x := y) ?_ ⟨F, Ext.refl iv fi, py⟩
  simpa [q1.1] using hy
theorem it_str {x : Str} {i : Nat} {c : Nat} (hx : x.cps[i]? = some c) (hi : i < 2 ^ 62) : Op2 w B n getItem (rStr x) (rNat i) (rStr ⟨#[c]⟩) := .mk fun A s F u v hA iv fi ⟨t, e⟩ ⟨t', e'⟩ => by
  subst e; subst e'
  refine PyProof.Rows.getItem_str (c := c) ?_ ?_ ⟨F, Ext.tok iv fi _, _, rfl⟩
  · have h1 : decide ((i : Int) < -(2 ^ 63 : Int)) = false := by simp only [decide_eq_false_iff_not]; (lia)
    have h2 : decide ((i : Int) ≥ 2 ^ 63) = false := by simp only [decide_eq_false_iff_not]; (lia)
    rw [h1, h2]; rfl
  · have hlt : i < x.length := by
      have := (Array.getElem?_eq_some_iff.mp hx).1
      exact this
    unfold seqIndex?
    have h1 : ¬ ((i : Int) < 0) := by (lia)
    simp only [h1, if_false]
    have h3 : (0 ≤ (i : Int)) ∧ ((i : Int) < (x.length : Int)) := ⟨by (lia), by (lia)⟩
    simp [h3, hx]

/-! slices -/
noncomputable def partOk : Option Int → Value → Prop
  | none, v => v = .none
  | some i, v => ∃ t, v = .int i t
noncomputable def rSlice (lo hi : Option Int) : Rp := ⟨fun F v => ∃ a vl vu, v = .ref a ∧ F a = some { cls := .type "slice", data := .fields #[vl, vu, .none] } ∧ partOk lo vl ∧ partOk hi vu, fun _ _ _ l ⟨a, vl, vu, e, g, r⟩ => ⟨a, vl, vu, e, l _ _ g, r⟩⟩
noncomputable def rOpt : Option Int → Rp
  | none => rNone
  | some i => rInt i
noncomputable def EvO (w : World) (B : Shared) (n : Nat) (env : Env) (vars : Vars) : Option Expr → Option Int → Prop
  | none, o => o = none
  | some e, o => ∃ i, o = some i ∧ Ev w B n env vars e (rInt i)
theorem EvO.part {x : Option Expr} {o : Option Int} {A : Around} {s : Shared} {F : Fz} (h : EvO w B n env vars x o) (hA : Le A n) (S : St B env vars F s) : W w A (evalPart x env) (fun v s' => ∃ F', Ext B s F s' F' ∧ partOk o v) s := by
  cases x with
  | none => rw [evalPart_none]; cases h; exact wpAny_pure ⟨F, Ext.refl S.inv S.fin, rfl⟩
  | some e =>
    rw [evalPart_some]
    obtain ⟨i, rfl, h⟩ := h
    exact (h.go A s F hA S).mono fun v s' ⟨F', x, p⟩ => ⟨F', x, p⟩
theorem Ev.slice {lo hi : Option Expr} {a b : Option Int} {pos : Pos} (h₁ : EvO w B n env vars lo a) (h₂ : EvO w B n env vars hi b) : Ev w B n env vars (.Slice lo hi Option.none pos) (rSlice a b) := .mk fun A s F hA S => by
  refine wpAny_Slice ((h₁.part hA S).mono fun v s₁ ⟨F₁, x₁, p₁⟩ => (h₂.part hA (S.ext x₁)).mono fun u s₂ ⟨F₂, x₂, p₂⟩ => ?_)
  rw [evalPart_none]
  refine wpAny_pure ?_
  exact (made x₂.inv x₂.fin rfl s₂.toks fun F' le e => ⟨_, _, _, rfl, e, p₁, p₂⟩ : Gives B s₂ F₂ (rSlice a b) _ _).from (x₁.trans x₂)
theorem EvO.no : EvO w B n env vars none none := rfl
theorem EvO.nat {e : Expr} {k : Nat} (h : Ev w B n env vars e (rNat k)) : EvO w B n env vars (some e) (some (k : Int)) := ⟨_, rfl, h⟩
theorem EvO.int {e : Expr} {k : Int} (h : Ev w B n env vars e (rInt k)) : EvO w B n env vars (some e) (some k) := ⟨_, rfl, h⟩
theorem isPart_of {o : Option Int} {v : Value} (h : partOk o v) : IsPart v o := by
  cases o with
  | none => cases (show v = .none from h); exact .none
  | some i => obtain ⟨t, e⟩ := h; rw [e]; exact .int ..
theorem Are.take {α : Type} {f : α → Rp} {F : Fz} {vs : List Value} {xs : List α} (h : Are f F vs xs) (k : Nat) : Are f F (vs.take k) (xs.take k) :=
  Are.of_get (by simp [h.1]) fun i v x hv hx => by
    rw [List.getElem?_take] at hv hx
    split at hx
    · rename_i hk
      rw [if_pos hk] at hv
      obtain ⟨v', hv', p⟩ := h.get hx
      rw [hv] at hv'; cases hv'
      exact p
    · cases hx
theorem Are.drop {α : Type} {f : α → Rp} {F : Fz} {vs : List Value} {xs : List α} (h : Are f F vs xs) (k : Nat) : Are f F (vs.drop k) (xs.drop k) :=
  Are.of_get (by simp [h.1]) fun i v x hv hx => by
    rw [List.getElem?_drop] at hv hx
    obtain ⟨v', hv', p⟩ := h.get hx
    rw [hv] at hv'; cases hv'
    exact p
noncomputable def cut {α : Type} (lo hi : Option Int) (xs : List α) : List α := (xs.drop (lo.elim 0 (clipAt xs.length))).take (hi.elim xs.length (clipAt xs.length) - lo.elim 0 (clipAt xs.length))
theorem it_cut {α : Type} {f : α → Rp} {xs : List α} {lo hi : Option Int} (hz : xs.length < 2 ^ 20) : Op2 w B n getItem (rList f xs) (rSlice lo hi) (rList f (cut lo hi xs)) := .mk fun A s F u v hA iv fi p ⟨sl, vl, vu, e, g, p1, p2⟩ => by
  obtain ⟨a, us, k, rfl, ga, l, q1⟩ := rList.get p fi
  subst e
  refine wpAny_getItem_list_slice l ⟨_, (fi _ _ g).1, rfl, rfl⟩ (isPart_of p1) (isPart_of p2) .none (by simp) (made iv fi rfl s.toks fun F' le e => ⟨_, cut lo hi us, 0, rfl, ?_, ?_⟩) (by have := q1.1; simp [sizeLine]; (lia))
  · rw [e, slicePick_plain]; simp [Mine.lst, cut]
  · unfold cut
    rw [← q1.1]
    exact ((q1.drop _).take _).mono le
theorem cut_to {α : Type} (k : Nat) (xs : List α) : cut none (some (k : Int)) xs = xs.take k := by
  unfold cut
  simp only [Option.elim, clipAt_nat, List.drop_zero, Nat.sub_zero]
  rcases Nat.le_total k xs.length with h | h
  · rw [Nat.min_eq_left h]
  · rw [Nat.min_eq_right h, List.take_of_length_le (Nat.le_refl _), List.take_of_length_le h]
theorem cut_from {α : Type} (k : Nat) (xs : List α) : cut (some (k : Int)) none xs = xs.drop k := by
  unfold cut
  simp only [Option.elim, clipAt_nat]
  rcases Nat.le_total k xs.length with h | h
  · rw [Nat.min_eq_left h, List.take_of_length_le (by simp)]
  · rw [Nat.min_eq_right h, List.drop_of_length_le h, List.drop_of_length_le (Nat.le_refl _)]; simp
theorem cut_mid {α : Type} (k m : Nat) (xs : List α) : cut (some (k : Int)) (some (m : Int)) xs = (xs.drop k).take (m - k) := by
  unfold cut
  simp only [Option.elim, clipAt_nat]
  rcases Nat.le_total k xs.length with h | h
  · rw [Nat.min_eq_left h]
    rcases Nat.le_total m xs.length with h' | h'
    · rw [Nat.min_eq_left h']
    · rw [Nat.min_eq_right h', List.take_of_length_le (by simp), List.take_of_length_le (by simp; (lia))]
  · rw [Nat.min_eq_right h, List.drop_of_length_le h, List.drop_of_length_le (Nat.le_refl _)]; simp
end
end Mine
end

section
open PySem PySem.W PyProof.Rows PySem.Calls PySem.SeqAt
namespace Mine

structure Tx (B : Shared) : Prop where
  lim : B.heap.NoLimit
  row : Df B 127 "_law_row" 23 .none .none
  range : BltAt B "range" (.type "range")
  len : BltAt B "len" (.builtin "len")
  sixes : Df B 132 "_law_sixes" 24 .none .none
  written : Df B 137 "_law_written" 25 .none .none
  compared : Df B 142 "_law_compared" 26 .none .none
  ordered : Df B 147 "_law_ordered" 27 .none .none
  front : Df B 154 "_law_front" 28 .none .none
  taken : Df B 159 "_law_taken" 29 .none .none
  keys : Df B 164 "_law_keys" 30 .none .none
  right : Df B 169 "_law_right" 31 .none .none
  g_row : GlobAt B "_law_row" (.ref 127)
  g_sixes : GlobAt B "_law_sixes" (.ref 132)
  g_written : GlobAt B "_law_written" (.ref 137)
  g_compared : GlobAt B "_law_compared" (.ref 142)
  g_ordered : GlobAt B "_law_ordered" (.ref 147)
  g_front : GlobAt B "_law_front" (.ref 154)
  g_taken : GlobAt B "_law_taken" (.ref 159)
  g_keys : GlobAt B "_law_keys" (.ref 164)
  g_right : GlobAt B "_law_right" (.ref 169)
  ctk : Df B 45 "cmp_to_key" 3 .none .none
  red : Df B 54 "reduce" 5 (.ref 47) .none
  buf : Df B 61 "_buffer" 7 .none .none
  tru : Df B 68 "_truth" 8 .none .none
  b2a : Df B 76 "b2a_base64" 10 .none (.ref 69)
  b64 : Df B 84 "b64encode" 12 (.ref 77) .none
  trans : Df B 96 "translate" 15 .none .none
  esc : Df B 108 "escape" 18 .none .none
  transU : Df B 115 "_translate" 20 .none .none
  joinp : Df B 122 "_join_translated_parts" 21 .none .none
  g_ctk : GlobAt B "cmp_to_key" (.ref 45)
  g_red : GlobAt B "reduce" (.ref 54)
  g_buf : GlobAt B "_buffer" (.ref 61)
  g_tru : GlobAt B "_truth" (.ref 68)
  g_b2a : GlobAt B "b2a_base64" (.ref 76)
  g_b64 : GlobAt B "b64encode" (.ref 84)
  g_trans : GlobAt B "translate" (.ref 96)
  g_esc : GlobAt B "escape" (.ref 108)
  g_transU : GlobAt B "_translate" (.ref 115)
  g_joinp : GlobAt B "_join_translated_parts" (.ref 122)
  g_map : GlobAt B "_special_chars_map" (.ref 98)
  map98 : ∀ w : World, ∃ f, B.heap.MapOf (PySem.intKind PG w) 98 f ∧ (∀ c : Nat, c ∈ "ABCDEFGHIJKLMNOPQRSTUVWXYZabcdefghijklmnopqrstuvwxyz0123456789+/".toList.map Char.toNat → c ≠ 43 → f c = none) ∧ ∃ u, f 43 = some (.str ⟨#[92, 43]⟩ u)
  isinst : BltAt B "isinstance" (.builtin "isinstance")
  str_ : BltAt B "str" (.type "str")
  obj_ : BltAt B "object" (.type "object")
  type_ : BltAt B "type" (.type "type")
  bytes_ : BltAt B "bytes" (.type "bytes")
  bool_ : BltAt B "bool" (.type "bool")
  b64tab : ∃ t, GlobAt B "_B64" (.bytes ("ABCDEFGHIJKLMNOPQRSTUVWXYZabcdefghijklmnopqrstuvwxyz0123456789+/".toList.map fun c => UInt8.ofNat c.toNat).toArray t)
  at77 : ∃ o n, B.heap.get? 77 = some o ∧ o.data = .seq #[.none] n
  at47 : ∃ o n, B.heap.get? 47 = some o ∧ o.data = .seq #[.ref 46] n

theorem AllT.one_or {w : World} {B : Shared} {n : Nat} {env : Env} {vars : Vars} {x : Expr} {a : Bool} (h : EvT w B n env vars x a) : AllT w B n env vars .Or [x] a := by
  have := AllT.or_cons (r := []) (b := false) h fun _ => AllT.or_nil
  rwa [Bool.or_false] at this
theorem AllT.one_and {w : World} {B : Shared} {n : Nat} {env : Env} {vars : Vars} {x : Expr} {a : Bool} (h : EvT w B n env vars x a) : AllT w B n env vars .And [x] a := by
  have := AllT.and_cons (r := []) (b := true) h fun _ => AllT.and_nil
  rwa [Bool.and_true] at this

/-- the octets of a number, the low one first -/
noncomputable def octs (v : Nat) : List Nat := ((List.range 3).filter fun k => k == 0 || decide (v / 256 ^ k > 0)).map fun k => v / 256 ^ k % 256
noncomputable def low (x : Int) : Nat := (x.fmod (2 ^ 24)).toNat
theorem low_eq (x : Int) : x.fmod (2 ^ (24 : Int).toNat) = (low x : Int) := by
  unfold low
  have : 0 ≤ x.fmod (2 ^ 24) := Int.fmod_nonneg_of_pos x (by decide)
  show x.fmod (2 ^ 24) = _
  (lia)

theorem row_body {w : World} {B s : Shared} {F : Fz} {n : Nat} {env : Env} {x : Int} (T : Tx B) (fe : FE (scopeAt 23) s.heap.objs.size env) : Xs w B s F n env [("number", rInt x)] [] (bodyAt 23) (Back B s F (rList rNat (octs (low x)))) := by
  refine Xs.assign (r := rNat (low x)) (vars' := []) (Ev.bin (Ev.name .here) (Ev.bin Ev.int Ev.int (op_pow (by decide) (by decide))) ((op_mod (by decide)).eq (by rw [low_eq]))) fe.o (fun p hp => (nomatch hp)) (Xs.ret ?_)
  refine Ev.map (Ev.lc (List.range 3) (fun i => rNat i) (fun k => rNat (low x / 256 ^ k % 256)) (fun k => k == 0 || decide (low x / 256 ^ k > 0)) [("value", rNat (low x))]
    (Ev.cT fe T.range (.cons (Ev.nat 3) .nil) Cal.range1) (Iterable.range1 (by decide)) (.cons .here fe.cf .nil) (fun N cenv ce => ?_) (by decide))
  have e : ∀ a ∈ List.range 3, ∀ V, Has V "value" (rNat (low x)) → Has V "k" (rNat a) → ∀ {p q r s t : Pos} {m : Nat}, Ev w B n cenv V (.BinOp (.Name "value" p) .FloorDiv (.BinOp (.Constant (.int 256) m q) .Pow (.Name "k" r) s) t) (rNat (low x / 256 ^ a)) := by
    intro a ha V h1 h2 p q r s t m
    have h3 : a < 3 := List.mem_range.mp ha
    have hp : 256 ^ a ≤ 256 ^ 2 := Nat.pow_le_pow_right (by decide) (by (exact Nat.le_of_lt_succ h3))
    exact Ev.bin (.name h1) (Ev.bin (Ev.nat 256) (.name h2) (on_pow (by decide) (by (exact Nat.lt_of_lt_of_le h3 (by decide))))) (on_div (Nat.pos_iff_ne_zero.mp (Nat.pow_pos (by decide))) (by (exact Nat.lt_of_le_of_lt hp (by decide))))
  refine ⟨fun a ha => .one (.bop (.or_cons (.cmp (.name .here) (Ev.nat 0) cn_eq .bool) fun _ => .one_or (.cmp (e a ha _ (.there .here) .here) (Ev.nat 0) cn_gt .bool))), fun a ha _ => .bin (e a ha _ (.there .here) .here) (Ev.nat 256) (on_mod (by decide))⟩
end Mine
end

section
open PySem PySem.W PyProof.Rows PySem.Calls PySem.SeqAt
namespace Mine

/-! where an assignment swaps -/
theorem blockKind_fn {env : Env} (h : env.scope.kind = .function) : env.blockKind = .function := by unfold Env.blockKind; rw [h]; rfl
theorem swaps_yes {elt : Expr} {gs : List Comprehension} {sc : Scope} {pos p : Pos} {x : Str} {line : Nat} {env : Env} (h : env.scope.kind = .function) (hx : env.kindOf x = some .local)
    (hp : (p.line == pos.line && !(sc.names.any fun (n, k) => n == x && (k == .local || k == .cell))) = true) : swapsWith (.ListComp elt gs sc pos) (some (.Name x p)) line env = pure true := by
  have e : swapsWith (.ListComp elt gs sc pos) (some (.Name x p)) line env = pure (env.blockKind == .function && env.kindOf x == some .local && p.line == pos.line && !(sc.names.any fun (n, k) => n == x && (k == .local || k == .cell))) := rfl
  rw [e, blockKind_fn h, hx]
  simp only [Bool.and_eq_true] at hp
  rw [hp.1, hp.2]; rfl
section
variable {w : World} {B : Shared} {n : Nat} {env : Env} {vars : Vars} {scope : Scope} {N : Nat} {s₀ : Shared} {F₀ : Fz} {ms : Mss} {Q : Flow → Shared → Prop}

theorem Xs.kd {sts : List Stmt} (h : env.scope.kind = .function → Xs w B s₀ F₀ n env vars ms sts Q) : Xs w B s₀ F₀ n env vars ms sts Q := .mk fun A s F hA R M => (h R.st.eok.kd).go A s F hA R M
/-- a comprehension into a name of the block's -/
theorem Xs.lc {α : Type} {elt iter : Expr} {x y : Str} {px py spos : Pos} {ifs : List Expr} {sc : Scope} {pos : Pos} (xs : List α) (f g : α → Rp) (p : α → Bool) {rI : Rp} {rest : List Stmt} {vars' : Vars} (cap : Vars)
    (fe : FE scope s₀.heap.objs.size env) (hi : Ev w B n env vars iter rI) (it : Iterable w B n rI (xs.map f)) (hc : Cap env vars cap)
    (hb : ∀ N cenv, FE sc N cenv → (∀ a ∈ xs, Tests w B n cenv ((x, f a) :: cap) ifs (p a)) ∧ ∀ a ∈ xs, p a = true → Ev w B n cenv ((x, f a) :: cap) elt (g a))
    (hz : xs.length ≤ sizeLine) (hv' : ∀ p ∈ vars', p ∈ vars ∧ p.1 ≠ y) (k : Xs w B s₀ F₀ n env ((y, rList g (xs.filter p)) :: vars') ms rest Q)
    (ok : scOk sc = true := by decide +kernel) (hf : frees sc = cap.map (·.1) := by kernel_rfl) (hxl : sc.names.lookup x = some .local ∨ sc.names.lookup x = some .cell := by decide +kernel)
    (hy : scope.names.lookup y = some .local := by decide +kernel) (hp : (py.line == pos.line && !(sc.names.any fun (n, k) => n == y && (k == .local || k == .cell))) = true := by decide +kernel)
    (hs : ∀ x, foldedSetIterable iter env x = pure x := by intro _; rfl) : Xs w B s₀ F₀ n env vars ms (.Assign [.Name y py] (.ListComp elt [⟨.Name x px, iter, ifs, 0⟩] sc pos) spos :: rest) Q :=
  Xs.kd fun kd => Xs.comp cap hi it ok hf hc hz hxl hb (fe.own _ (.inl hy)) hv' k (swaps_yes kd (fe.ce.kd _ _ hy (by decide)) hp) hs
theorem Xs.lc0 {α : Type} {elt iter : Expr} {x y : Str} {px py spos : Pos} {sc : Scope} {pos : Pos} (xs : List α) (f g : α → Rp) {rI : Rp} {rest : List Stmt} {vars' : Vars} (cap : Vars)
    (fe : FE scope s₀.heap.objs.size env) (hi : Ev w B n env vars iter rI) (it : Iterable w B n rI (xs.map f)) (hc : Cap env vars cap)
    (hb : ∀ N cenv, FE sc N cenv → ∀ a ∈ xs, Ev w B n cenv ((x, f a) :: cap) elt (g a))
    (hz : xs.length ≤ sizeLine) (hv' : ∀ p ∈ vars', p ∈ vars ∧ p.1 ≠ y) (k : Xs w B s₀ F₀ n env ((y, rList g xs) :: vars') ms rest Q)
    (ok : scOk sc = true := by decide +kernel) (hf : frees sc = cap.map (·.1) := by kernel_rfl) (hxl : sc.names.lookup x = some .local ∨ sc.names.lookup x = some .cell := by decide +kernel)
    (hy : scope.names.lookup y = some .local := by decide +kernel) (hp : (py.line == pos.line && !(sc.names.any fun (n, k) => n == y && (k == .local || k == .cell))) = true := by decide +kernel)
    (hs : ∀ x, foldedSetIterable iter env x = pure x := by intro _; rfl) : Xs w B s₀ F₀ n env vars ms (.Assign [.Name y py] (.ListComp elt [⟨.Name x px, iter, [], 0⟩] sc pos) spos :: rest) Q :=
  Xs.lc xs f g (fun _ => true) cap fe hi it hc (fun N cenv fe => ⟨fun a _ => Tests.nil, fun a ha _ => hb N cenv fe a ha⟩) hz hv' (by rwa [show xs.filter (fun _ => true) = xs from List.filter_eq_self.mpr (by simp)]) ok hf hxl hy hp hs

/-! calls of the text's defs -/
noncomputable def Binds (fd : Value → Value → Value → Value → Option Addr → FuncData) (a : Args) (b : List (Str × Value)) : Prop := ∀ (s : Shared) cd pm doc ct an, BindsTo s (fd cd pm doc ct an) a b
theorem Cal.def1 {a : Addr} {name : Str} {i : Nat} {dv kv : Value} {x : Str} {r₁ r : Rp} (fn : Df B a name i dv kv) (hl : B.heap.NoLimit) (hn : n ≤ 55)
    (hb : ∀ v, Binds (fdOf name name (argsAt i) (.stmts (bodyAt i)) (scopeAt i) [] dv kv) ⟨[v], []⟩ [(x, v)])
    (h : ∀ s F env, FE (scopeAt i) s.heap.objs.size env → Xs w B s F (n + 1) env [(x, r₁)] [] (bodyAt i) (Back B s F r))
    (hx : (scopeAt i).names.lookup x = some .local ∨ (scopeAt i).names.lookup x = some .cell := by decide +kernel)
    (hk : (scopeAt i).kind = .function := by rfl) (hco : (scopeAt i).isCoroutine = false := by rfl) (hgen : (scopeAt i).isGenerator = false := by rfl) : Cal w B n (.ref a) [r₁] r := .mk fun A s F vs hA iv fi are => by
  obtain ⟨v, vs', rfl, pv, q⟩ := are.cons_inv
  rw [q.nil_inv]
  refine call_top hA hn iv fi hl fn (fun cd pm doc ct an => hb v s cd pm doc ct an) (by simp) (fun p hp => ?_) hk hco hgen [(x, r₁)] (fun p hp => ?_) fun cd env _ fe => h s F env fe
  · rw [List.mem_singleton.mp hp]; exact hx
  · rw [List.mem_singleton.mp hp]; exact ⟨v, .head _, pv⟩
theorem Cal.def2 {a : Addr} {name : Str} {i : Nat} {dv kv : Value} {x y : Str} {r₁ r₂ r : Rp} (fn : Df B a name i dv kv) (hl : B.heap.NoLimit) (hn : n ≤ 55)
    (hb : ∀ v u, Binds (fdOf name name (argsAt i) (.stmts (bodyAt i)) (scopeAt i) [] dv kv) ⟨[v, u], []⟩ [(x, v), (y, u)])
    (h : ∀ s F env, FE (scopeAt i) s.heap.objs.size env → Xs w B s F (n + 1) env [(x, r₁), (y, r₂)] [] (bodyAt i) (Back B s F r)) (hne : x ≠ y := by decide)
    (hx : (scopeAt i).names.lookup x = some .local ∨ (scopeAt i).names.lookup x = some .cell := by decide +kernel) (hy : (scopeAt i).names.lookup y = some .local ∨ (scopeAt i).names.lookup y = some .cell := by decide +kernel)
    (hk : (scopeAt i).kind = .function := by rfl) (hco : (scopeAt i).isCoroutine = false := by rfl) (hgen : (scopeAt i).isGenerator = false := by rfl) : Cal w B n (.ref a) [r₁, r₂] r := .mk fun A s F vs hA iv fi are => by
  obtain ⟨v, vs', rfl, pv, q⟩ := are.cons_inv
  obtain ⟨u, vs'', rfl, p2, q2⟩ := q.cons_inv
  have e := q2.nil_inv
  subst e
  refine call_top hA hn iv fi hl fn (fun cd pm doc ct an => hb v u s cd pm doc ct an) (by simpa using hne) (fun p hp => ?_) hk hco hgen [(x, r₁), (y, r₂)] (fun p hp => ?_) fun cd env _ fe => h s F env fe
  · simp at hp; rcases hp with rfl | rfl
    · exact hx
    · exact hy
  · simp at hp; rcases hp with rfl | rfl
    · exact ⟨v, .head _, pv⟩
    · exact ⟨u, .tail _ (.head _), p2⟩

theorem aB_name {x : Str} {p : Pos} {attr : Str} {env : Env} {t : Sem Value} : attributeBase (.Name x p) attr env t = t := rfl
theorem aB_const {c : Const} {k : Nat} {p : Pos} {attr : Str} {env : Env} {t : Sem Value} : attributeBase (.Constant c k p) attr env t = t := rfl
theorem aB_sub {a b : Expr} {p : Pos} {attr : Str} {env : Env} {t : Sem Value} : attributeBase (.Subscript a b p) attr env t = t := rfl
theorem aB_call {b : Expr} {x : Str} {l : List Expr} {p q : Pos} {attr : Str} {env : Env} {t : Sem Value} : attributeBase (.Call (.Name x p) (b :: l) [] q) attr env t = t := rfl
/-! a method of a built in type -/
theorem Ev.meth {o : Expr} {attr : Str} {apos pos : Pos} {es : List Expr} {r₁ r : Rp} {rs : List Rp} {T id : String} (h₁ : Ev w B n env vars o r₁) (hT : ∀ F (s : Shared) v, r₁.p F v → F.In s.heap → s.TypeIs v T) (hd : ∀ F (s : Shared) v, r₁.p F v → F.In s.heap → ∀ a, v = .ref a → ∃ o, s.heap.get? a = some o ∧ o.dict = Option.none)
    (pa : PlainAttrs T) (slot : Slot T attr id) (hty : typeOf (.builtin id) = pure (.type "method_descriptor")) (hl : EvL w B n env vars es rs) (k : Cal w B n (.builtin id) (r₁ :: rs) r)
    (hbase : attributeBase o attr env (eval o env) = eval o env := by first | exact aB_name | exact aB_const | exact aB_sub | exact aB_call | rfl) (hfew : decide (es.length + 0 + 0 < 30) = true := by rfl) (hline : (apos.endLine == pos.line) = true := by rfl) : Ev w B n env vars (.Call (.Attribute o attr apos) es [] pos) r := .mk fun A s F hA S => by
  rw [arm_eval_Call, hbase]
  refine wpAny_bind ((h₁.go A s F hA S).mono fun v s₁ ⟨F₁, x₁, p₁⟩ => wpAny_bind (wpAny_standAt ?_))
  obtain ⟨ts, ht⟩ := hl.1 pos
  have ha := evalArgs_of (f := .builtin id) (pos := pos) hl hA (S.ext x₁)
  have hform : methodCallForm (es.length + ([] : List Keyword).length) (backTo pos (starEach es env)) (backToKw pos (keywordEach [] env)) = true := by
    have hk : backToKw pos (keywordEach [] env) = [] := rfl
    unfold methodCallForm
    rw [ht, hk]
    have hh : es.length < 30 := by simpa using hfew
    simpa using hh
  have hpos : methodCallPos true o env apos pos = pure pos := by unfold methodCallPos; simp [hline]
  unfold methodCall
  rw [hform]
  refine wpAny_bind (wpAny_holding (getMethod_builtin (hT _ _ _ p₁ x₁.fin) pa slot hty (hd _ _ _ p₁ x₁.fin) ?_))
  refine wpAny_bind (wpAny_of_eq hpos ?_)
  refine callWith_builtin (by rw [ht]; simp) (ha.mono fun a s₂ ⟨e, F₂, x₂, p⟩ => ?_)
  rw [e]
  exact (k.go A s₂ F₂ _ hA x₂.inv x₂.fin (Are.cons (r₁.mono _ _ _ x₂.le p₁) p)).mono fun v s' g => g.from (x₁.trans x₂)
theorem nd_str {x : Str} : ∀ F (s : Shared) v, (rStr x).p F v → F.In s.heap → ∀ a, v = .ref a → ∃ o, s.heap.get? a = some o ∧ o.dict = none := fun F s v ⟨t, e⟩ i a h => by rw [e] at h; cases h
theorem is_bytes {x : Array UInt8} : ∀ F (s : Shared) v, (rBytes x).p F v → F.In s.heap → s.TypeIs v "bytes" := fun F s v ⟨t, e⟩ i => by rw [e]; exact typeIs_bytes s x t
theorem nd_list {α : Type} {f : α → Rp} {xs : List α} : ∀ F (s : Shared) v, (rList f xs).p F v → F.In s.heap → ∀ a, v = .ref a → ∃ o, s.heap.get? a = some o ∧ o.dict = none := fun F s v p i a h => by
  obtain ⟨b, vs, k, e, g, _⟩ := rList.get p i
  rw [e] at h; cases h
  exact ⟨_, g, rfl⟩

/-! statements -/
theorem interactive_no {env : Env} (h : env.scope.kind = .function) : interactive env = false := by unfold interactive; rw [h]; rfl
/-- an expression for itself -/
theorem Xs.expr {e : Expr} {pos : Pos} {rest : List Stmt} (h : ∀ A s F, Le A n → Rn B s₀ F₀ env vars F s → Ms B s₀ ms F s → W w A (eval e env) (fun _ s' => W w A (execs rest env) Q s') s) (hs : swapsWith e none pos.line env = pure false := by rfl) : Xs w B s₀ F₀ n env vars ms (.Expr e pos :: rest) Q := .mk fun A s F hA R M =>
  wpAny_execs_cons (wpAny_Expr_any (h A s F hA R M) (interactive_no R.st.eok.kd) hs)
theorem Xs.assert_ {t : Expr} {msg : Option Expr} {pos : Pos} {rest : List Stmt} (h : EvTM w B s₀ n env vars ms t true) (k : Xs w B s₀ F₀ n env vars ms rest Q) : Xs w B s₀ F₀ n env vars ms (.Assert t msg pos :: rest) Q := .mk fun A s F hA R M =>
  wpAny_execs_cons (wpAny_Assert_holds ((h.go A s F hA R.st M).mono fun c s₁ ⟨e, F₁, x₁⟩ => ⟨e, k.go A s₁ F₁ hA (R.of_ext x₁) (M.ext x₁)⟩))
theorem Xs.aug {x : Str} {px pos : Pos} {op : Operator} {e : Expr} {rest : List Stmt} {r₁ r₂ r : Rp} {vars' : Vars} (hx : Has vars x r₁) (h : EvM w B s₀ n env vars ms e r₂) (h₃ : Op2 w B n (inplaceOp op) r₁ r₂ r) (ho : Own env s₀.heap.objs.size x) (hv : ∀ p ∈ vars', p ∈ vars ∧ p.1 ≠ x)
    (k : Xs w B s₀ F₀ n env ((x, r) :: vars') ms rest Q) : Xs w B s₀ F₀ n env vars ms (.AugAssign (.Name x px) op e pos :: rest) Q := .mk fun A s F hA R M => by
  refine wpAny_execs_cons (wpAny_AugAssign_Name ?_)
  obtain ⟨v, hv', kk⟩ := R.st.vars _ hx.mem
  have go : W w A (eval e env) (fun u s₂ => W w A (inplaceOp op v u) (fun r s₃ => W w A (storeName env x r) (fun _ s' => W w A (execs rest env) Q s') s₃) s₂) s := by
    refine (h.go A s F hA R.st M).mono fun u s₂ ⟨F₂, x₂, p₂⟩ => (h₃.go A s₂ F₂ v u hA x₂.inv x₂.fin (r₁.mono _ _ _ x₂.le hv') p₂).mono fun z s₃ ⟨F₃, x₃, p₃⟩ => ?_
    exact store' ((R.of_ext x₂).of_ext x₃) p₃ ho hv fun s' R' k' => k.go A s' F₃ hA R' (((M.ext x₂).ext x₃).keep k')
  rcases kk with ⟨kl, m, hm, hx'⟩ | ⟨kc | kf, c, hc', hcell⟩
  · exact wpAny_loadName_local R.st.eok.kd kl hm hx' go
  · exact wpAny_loadName_cell R.st.eok.kd kc hc' hcell go
  · rcases ho with ⟨a, _⟩ | ⟨a, _⟩ <;> (rw [a] at kf; cases kf)

/-! what is still known once a name is stored anew -/
inductive Keep (vars : Vars) (x : Str) : Vars → Prop
  | nil : Keep vars x []
  | cons {y r l} : Has vars y r → y ≠ x → Keep vars x l → Keep vars x ((y, r) :: l)
theorem Keep.mem {vars l : Vars} {x : Str} (h : Keep vars x l) : ∀ p ∈ l, p ∈ vars ∧ p.1 ≠ x := by
  induction h with
  | nil => intro p hp; cases hp
  | cons a b _ ih =>
    intro p hp
    rcases List.mem_cons.mp hp with rfl | hp
    · exact ⟨a.mem, b⟩
    · exact ih p hp
inductive Sub (vars : Vars) : Vars → Prop
  | nil : Sub vars []
  | cons {y r l} : Has vars y r → Sub vars l → Sub vars ((y, r) :: l)
theorem Sub.mem {vars l : Vars} (h : Sub vars l) : ∀ p ∈ l, p ∈ vars := by
  induction h with
  | nil => intro p hp; cases hp
  | cons a _ ih =>
    intro p hp
    rcases List.mem_cons.mp hp with rfl | hp
    · exact a.mem
    · exact ih p hp
noncomputable def nms (l : Vars) : List Str := l.map (·.1)
theorem nms_ne {l : Vars} {x : Str} (h : (nms l).contains x = false) : ∀ p ∈ l, p.1 ≠ x := fun p hp e => by
  have : x ∈ nms l := e ▸ List.mem_map.mpr ⟨p, hp, rfl⟩
  rw [List.contains_eq_mem] at h
  simp [this] at h

theorem Xs.set {x : Str} {p pos : Pos} {e : Expr} {rest : List Stmt} (r : Rp) (vars' : Vars) (fe : FE scope s₀.heap.objs.size env) (h : EvM w B s₀ n env vars ms e r)
    (k : Xs w B s₀ F₀ n env ((x, r) :: vars') ms rest Q) (hv : Keep vars x vars' := by k_asm) (ho : scope.names.lookup x = some .local ∨ scope.names.lookup x = some .cell := by decide +kernel)
    (hs : swapsWith e (some (.Name x p)) pos.line env = pure false := by rfl) : Xs w B s₀ F₀ n env vars ms (.Assign [.Name x p] e pos :: rest) Q := Xs.assignM h (fe.own _ ho) hv.mem k hs
theorem Xs.setL {x : Str} {p pos : Pos} {e : Expr} {rest : List Stmt} {rs : List Rp} (vars' : Vars) (fe : FE scope s₀.heap.objs.size env) (h : EvN w B n env vars e rs)
    (k : ∀ a, Xs w B s₀ F₀ n env ((x, rVal (.ref a)) :: vars') ((a, mList rs) :: ms) rest Q) (hv : Keep vars x vars' := by k_asm) (ho : scope.names.lookup x = some .local ∨ scope.names.lookup x = some .cell := by decide +kernel)
    (hs : swapsWith e (some (.Name x p)) pos.line env = pure false := by rfl) : Xs w B s₀ F₀ n env vars ms (.Assign [.Name x p] e pos :: rest) Q := Xs.newL h (fe.own _ ho) hv.mem k hs
theorem Xs.setLc {α : Type} {elt iter : Expr} {x y : Str} {px py spos : Pos} {sc : Scope} {pos : Pos} (xs : List α) (f g : α → Rp) {rI : Rp} {rest : List Stmt} (vars' : Vars) (cap : Vars)
    (fe : FE scope s₀.heap.objs.size env) (hi : Ev w B n env vars iter rI) (it : Iterable w B n rI (xs.map f)) (hc : Cap env vars cap)
    (hb : ∀ N cenv, FE sc N cenv → ∀ a ∈ xs, Ev w B n cenv ((x, f a) :: cap) elt (g a))
    (hz : xs.length ≤ sizeLine) (k : Xs w B s₀ F₀ n env ((y, rList g xs) :: vars') ms rest Q) (hv' : Keep vars y vars' := by k_asm)
    (ok : scOk sc = true := by decide +kernel) (hf : frees sc = cap.map (·.1) := by kernel_rfl) (hxl : sc.names.lookup x = some .local ∨ sc.names.lookup x = some .cell := by decide +kernel)
    (hy : scope.names.lookup y = some .local := by decide +kernel) (hp : (py.line == pos.line && !(sc.names.any fun (n, k) => n == y && (k == .local || k == .cell))) = true := by decide +kernel)
    (hs : ∀ x, foldedSetIterable iter env x = pure x := by intro _; rfl) : Xs w B s₀ F₀ n env vars ms (.Assign [.Name y py] (.ListComp elt [⟨.Name x px, iter, [], 0⟩] sc pos) spos :: rest) Q :=
  Xs.lc0 xs f g cap fe hi it hc hb hz hv'.mem k ok hf hxl hy hp hs
theorem Xs.each {α : Type} {x : Str} {px pos : Pos} {iter : Expr} {body rest : List Stmt} (xs : List α) (f : α → Rp) {rI : Rp} (vs : Nat → Vars) (mss : Nat → Mss) (fe : FE scope s₀.heap.objs.size env) (hm : ms = mss 0) (hi : EvM w B s₀ n env vars ms iter rI) (it : Iterable w B n rI (xs.map f))
    (step : ∀ F₁ i a q, xs[i]? = some a → Xs w B s₀ F₁ n env ((x, f a) :: vs i) (q :: mss i) body fun fl s' => (fl = .next ∨ fl = .cont) ∧ At B s₀ F₁ env (vs (i + 1)) (q :: mss (i + 1)) s')
    (k : Xs w B s₀ F₀ n env (vs xs.length) (mss xs.length) rest Q) (h0 : Sub vars (vs 0)) (ho : scope.names.lookup x = some .local ∨ scope.names.lookup x = some .cell := by decide +kernel) (hv : ∀ i, (nms (vs i)).contains x = false := by intro _; kernel_rfl)
    (hs : ∀ x, foldedSetIterable iter env x = pure x := by intro _; rfl) : Xs w B s₀ F₀ n env vars ms (.For (.Name x px) iter body [] pos :: rest) Q := by
  subst hm
  exact Xs.for_ hi it h0.mem (fe.own _ ho) (fun i => nms_ne (hv i)) step k hs
theorem Ev.nm {x : Str} {r : Rp} {pos : Pos} (h : Has vars x r := by k_is) (hd : (x == ("__debug__" : Str)) = false := by decide) (hc : (x == ("__classdict__" : Str)) = false := by decide) : Ev w B n env vars (.Name x pos) r := Ev.name h hd hc
theorem Xs.next {F₁ : Fz} {q : Addr × Mo} {vs : Vars} {mss : Mss} (h : Sub vars vs) : Xs w B s₀ F₁ n env vars (q :: mss) [] fun fl s' => (fl = .next ∨ fl = .cont) ∧ At B s₀ F₁ env vs (q :: mss) s' := .mk fun A s F hA R M => wpAny_execs_nil ⟨.inl rfl, F, ⟨R.st.sub h.mem, R.ext⟩, M⟩

/-! two names at once -/
theorem swapped2 {x y : Str} {px py tp tp2 : Pos} {k k2 : Nat} {e₁ e₂ : Expr} (kd : env.scope.kind = .function) (hx : env.kindOf x = some .local) (hy : env.kindOf y = some .local) (h : ((py.line == px.line && x != y) && (!([e₁, e₂].any fun | .Starred .. => true | _ => false) && !([e₁, e₂].all (foldedForSure 8)) && !([e₁, e₂].all (constantsAlone 8)))) = true) :
    swappedStores [.Tuple [.Name x px, .Name y py] k tp] (.Tuple [e₁, e₂] k2 tp2) env = pure (some [x, y]) := by
  obtain ⟨h12, h345⟩ := Bool.and_eq_true_iff.mp h
  obtain ⟨h1, h2⟩ := Bool.and_eq_true_iff.mp h12
  obtain ⟨h34, h5⟩ := Bool.and_eq_true_iff.mp h345
  obtain ⟨h3, h4⟩ := Bool.and_eq_true_iff.mp h34
  have h2 := bne_iff_ne.mp h2
  have h3 := Bool.not_eq_true' _ ▸ h3
  have h4 := Bool.not_eq_true' _ ▸ h4
  have h5 := Bool.not_eq_true' _ ▸ h5
  have hn : ∀ f : Expr → Option Str, (∀ id pos, f (.Name id pos) = if env.kindOf id == some .local && pos.line == px.line then some id else none) → [Expr.Name x px, Expr.Name y py].filterMap f = [x, y] := fun f hf => by
    have h1' : py.line = px.line := by simpa using h1
    simp only [List.filterMap_cons, hf, hx, hy, List.filterMap_nil]
    simp [h1']
  have hd : ([x, y].eraseDups.length != 2) = false := by
    simp [List.eraseDups_cons, Ne.symm h2]
  have nt : ∀ {b : Bool}, b = false → ¬ (b = true) := fun h => by rw [h]; decide
  unfold swappedStores
  show (if (!(true) || false || env.blockKind != .function) = true then pure Option.none else
    if ([e₁, e₂].any _) = true then pure Option.none else
    if ((List.filterMap _ _).length != 2 || ((List.filterMap _ _).eraseDups.length != (List.filterMap _ _).length)) = true then pure Option.none else
    if [e₁, e₂].all (foldedForSure 8) = true then pure Option.none else
    if [e₁, e₂].all (constantsAlone 8) = true then _ else pure (some (List.filterMap _ _)) : Sem (Option (List Str))) = _
  rw [hn _ (fun _ _ => rfl), if_neg (by rw [blockKind_fn kd]; decide)]
  refine (if_neg (nt h3)).trans ?_
  rw [if_neg (nt (by show ((2 : Nat) != 2 || [x, y].eraseDups.length != 2) = false; rw [hd]; rfl)), if_neg (nt h4), if_neg (nt h5)]
theorem Xs.two {x y : Str} {px py tp tp2 pos : Pos} {k k2 : Nat} {e₁ e₂ : Expr} {rest : List Stmt} (r₁ r₂ : Rp) (vars' : Vars) (fe : FE scope s₀.heap.objs.size env) (h₁ : EvM w B s₀ n env vars ms e₁ r₁) (h₂ : EvM w B s₀ n env vars ms e₂ r₂)
    (kk : Xs w B s₀ F₀ n env ((x, r₁) :: (y, r₂) :: vars') ms rest Q) (hv : Keep vars y vars' := by k_asm) (hv2 : Keep ((y, r₂) :: vars') x ((y, r₂) :: vars') := by k_asm)
    (hs : ∀ p, backTo p (starEach [e₁, e₂] env) = [(false, eval e₁ env), (false, eval e₂ env)] := by intro _; rfl)
    (hx : scope.names.lookup x = some .local := by decide +kernel) (hy : scope.names.lookup y = some .local := by decide +kernel)
    (h : ((py.line == px.line && x != y) && (!([e₁, e₂].any fun | .Starred .. => true | _ => false) && !([e₁, e₂].all (foldedForSure 8)) && !([e₁, e₂].all (constantsAlone 8)))) = true := by decide +kernel)
    (hs1 : swapsWithSole [.Tuple [.Name x px, .Name y py] k tp] (.Tuple [e₁, e₂] k2 tp2) pos.line env = pure false := by rfl) :
    Xs w B s₀ F₀ n env vars ms (.Assign [.Tuple [.Name x px, .Name y py] k tp] (.Tuple [e₁, e₂] k2 tp2) pos :: rest) Q := .mk fun A s F hA R M => by
  refine wpAny_execs_cons (Assign_Tuple_swapped ?_ hs1 (swapped2 R.st.eok.kd (fe.ce.kd _ _ hx (by decide)) (fe.ce.kd _ _ hy (by decide)) h))
  refine wpAny_Tuple_spliced ?_
  rw [hs]
  refine spliced_cons ((h₁.go A s F hA R.st M).mono fun v s₁ ⟨F₁, x₁, p₁⟩ => spliced_cons ((h₂.go A s₁ F₁ hA (R.of_ext x₁).st (M.ext x₁)).mono fun u s₂ ⟨F₂, x₂, p₂⟩ => spliced_nil ⟨by simp [sizeLine], ?_⟩))
  have R₂ := (R.of_ext x₁).of_ext x₂
  have M₂ := (M.ext x₁).ext x₂
  have x₃ := Ext.push R₂.st.inv R₂.st.fin { cls := .type "tuple", data := .seq [v, u].toArray }
  generalize ho : ({ cls := .type "tuple", data := .seq [v, u].toArray } : Obj) = o at x₃ ⊢
  generalize hs₃ : ({ s₂ with heap := s₂.heap.push o } : Shared) = s₃ at x₃ ⊢
  have tup : IsTup s₃.heap s₂.heap.objs.size [v, u].toArray := by rw [← hs₃, ← ho]; exact ⟨_, Heap.get?_push_size _ rfl, rfl, 0, rfl⟩
  have un := unpackItems_tuple (prog := PG) (w := w) (A := A) (E := fun _ _ => False) (Q := fun items s' => s₃.heap.objs.size ≤ s'.heap.objs.size → wpAny (model PG w) A (assignInOrder ([x, y].reverse.map fun n => bindName env n) items.reverse) (fun _ s'' => W w A (execs rest env) Q s'') (fun _ _ => False) s') hA.handled tup
  refine W.size (un fun h' he hz => ?_)
  have x₄ : Ext B s₃ F₂ { s₃ with heap := h' } F₂ := by
    have kp : ∀ b o, s₃.heap.get? b = some o → h'.get? b = some o := fun b o e => he b o (Nat.ne_of_lt (Heap.lt_size e)) e
    exact ⟨x₃.inv.sft (fun b o e _ => kp b o e) (fun b o e _ => kp b o e) hz rfl x₃.inv.gens, hz, fun b o e _ => kp b o e, Fz.Le.refl _, fun _ _ e => .inl e, x₃.fin.up fun a o e _ => kp a o e⟩
  have x₅ := x₃.trans x₄
  have R₅ := R₂.of_ext x₅
  have M₅ := M₂.ext x₅
  have ea : assignInOrder ([x, y].reverse.map fun n => bindName env n) [v, u].toArray.toList.reverse = (holding [v] (bindName env y u) >>= fun _ => holding [] (bindName env x v) >>= fun _ => pure ()) := rfl
  rw [ea]
  refine wpAny_bind (wpAny_holding (wpAny_bindName (store' (r := r₂) R₅ p₂ (fe.own _ (.inl hy)) hv.mem fun s₆ R₆ k₆ => ?_)))
  refine wpAny_bind (wpAny_holding (wpAny_bindName (store' (r := r₁) R₆ (r₁.mono _ _ _ x₂.le p₁) (fe.own _ (.inl hx)) hv2.mem fun s₇ R₇ k₇ => ?_)))
  exact wpAny_pure (kk.go A s₇ F₂ hA R₇ ((M₅.keep k₆).keep k₇))
theorem Xs.twoL {x y : Str} {px py tp tp2 pos : Pos} {k k2 : Nat} {e₁ e₂ : Expr} {rest : List Stmt} {rs : List Rp} (r₂ : Rp) (vars' : Vars) (fe : FE scope s₀.heap.objs.size env) (h₁ : EvN w B n env vars e₁ rs) (h₂ : EvM w B s₀ n env vars ms e₂ r₂)
    (kk : ∀ a, Xs w B s₀ F₀ n env ((x, rVal (.ref a)) :: (y, r₂) :: vars') ((a, mList rs) :: ms) rest Q) (hv : Keep vars y vars' := by k_asm) (hv2 : Keep ((y, r₂) :: vars') x ((y, r₂) :: vars') := by k_asm)
    (hs : ∀ p, backTo p (starEach [e₁, e₂] env) = [(false, eval e₁ env), (false, eval e₂ env)] := by intro _; rfl)
    (hx : scope.names.lookup x = some .local := by decide +kernel) (hy : scope.names.lookup y = some .local := by decide +kernel)
    (h : ((py.line == px.line && x != y) && (!([e₁, e₂].any fun | .Starred .. => true | _ => false) && !([e₁, e₂].all (foldedForSure 8)) && !([e₁, e₂].all (constantsAlone 8)))) = true := by decide +kernel)
    (hs1 : swapsWithSole [.Tuple [.Name x px, .Name y py] k tp] (.Tuple [e₁, e₂] k2 tp2) pos.line env = pure false := by rfl) :
    Xs w B s₀ F₀ n env vars ms (.Assign [.Tuple [.Name x px, .Name y py] k tp] (.Tuple [e₁, e₂] k2 tp2) pos :: rest) Q := .mk fun A s F hA R M => by
  refine wpAny_execs_cons (Assign_Tuple_swapped ?_ hs1 (swapped2 R.st.eok.kd (fe.ce.kd _ _ hx (by decide)) (fe.ce.kd _ _ hy (by decide)) h))
  refine wpAny_Tuple_spliced ?_
  rw [hs]
  refine spliced_cons ((h₁.go A s F hA R.st).mono fun v s₁ ⟨F₁, a, ys, m, ev, x₁, ha, so, are⟩ => spliced_cons ((h₂.go A s₁ F₁ hA (R.of_ext x₁).st (M.ext x₁)).mono fun u s₂ ⟨F₂, x₂, p₂⟩ => spliced_nil ⟨by simp [sizeLine], ?_⟩))
  have R₂ := (R.of_ext x₁).of_ext x₂
  have M₂ := (M.ext x₁).ext x₂
  have x₃ := Ext.push R₂.st.inv R₂.st.fin { cls := .type "tuple", data := .seq [v, u].toArray }
  generalize ho : ({ cls := .type "tuple", data := .seq [v, u].toArray } : Obj) = o at x₃ ⊢
  generalize hs₃ : ({ s₂ with heap := s₂.heap.push o } : Shared) = s₃ at x₃ ⊢
  have tup : IsTup s₃.heap s₂.heap.objs.size [v, u].toArray := by rw [← hs₃, ← ho]; exact ⟨_, Heap.get?_push_size _ rfl, rfl, 0, rfl⟩
  have un := unpackItems_tuple (prog := PG) (w := w) (A := A) (E := fun _ _ => False) (Q := fun items s' => s₃.heap.objs.size ≤ s'.heap.objs.size → wpAny (model PG w) A (assignInOrder ([x, y].reverse.map fun n => bindName env n) items.reverse) (fun _ s'' => W w A (execs rest env) Q s'') (fun _ _ => False) s') hA.handled tup
  refine W.size (un fun h' he hz => ?_)
  have x₄ : Ext B s₃ F₂ { s₃ with heap := h' } F₂ := by
    have kp : ∀ b o, s₃.heap.get? b = some o → h'.get? b = some o := fun b o e => he b o (Nat.ne_of_lt (Heap.lt_size e)) e
    exact ⟨x₃.inv.sft (fun b o e _ => kp b o e) (fun b o e _ => kp b o e) hz rfl x₃.inv.gens, hz, fun b o e _ => kp b o e, Fz.Le.refl _, fun _ _ e => .inl e, x₃.fin.up fun a o e _ => kp a o e⟩
  have x₅ := x₃.trans x₄
  have R₅ := R₂.of_ext x₅
  have M₅ := M₂.ext x₅
  have ea : assignInOrder ([x, y].reverse.map fun n => bindName env n) [v, u].toArray.toList.reverse = (holding [v] (bindName env y u) >>= fun _ => holding [] (bindName env x v) >>= fun _ => pure ()) := rfl
  rw [ea]
  refine wpAny_bind (wpAny_holding (wpAny_bindName (store' (r := r₂) R₅ p₂ (fe.own _ (.inl hy)) hv.mem fun s₆ R₆ k₆ => ?_)))
  refine wpAny_bind (wpAny_holding (wpAny_bindName (store' (r := rVal (.ref a)) R₆ ev (fe.own _ (.inl hx)) hv2.mem fun s₇ R₇ k₇ => ?_)))
  exact wpAny_pure ((kk a).go A s₇ F₂ hA R₇ (((M₅.keep k₆).keep k₇).push (fun q hq => Nat.ne_of_lt (Nat.lt_of_lt_of_le (M.lt q hq) ha)) (Nat.le_trans R.ext.size ha) ((((so.ext x₂).ext x₅).keep k₆).keep k₇) ⟨ys, m, rfl, are.mono x₂.le⟩))

/-- any other expression as a test -/
theorem EvT.of {e : Expr} {b : Bool} (h : Ev w B n env vars e (rBool b)) (he : ∀ t, isTrue e env t = (do let v ← t; standAt e.pos; holding [v] (truthy v)) := by intro _; rfl) : EvT w B n env vars e b := .mk fun A s F hA S =>
  wpAny_isTrue_value ((h.go A s F hA S).mono fun v s₁ ⟨F₁, x₁, p⟩ => by cases (show v = .bool b from p); exact wpAny_truthy_bool ⟨rfl, F₁, x₁⟩) (he _)
/-- return x if t else c, x a list that still changes -/
theorem Xs.retIf {t c : Expr} {x : Str} {p p2 pos : Pos} {rest : List Stmt} {a : Addr} {rs : List Rp} (ht : EvTM w B s₀ n env vars ms t true) (hx : Has vars x (rVal (.ref a))) (hm : (a, mList rs) ∈ ms) (hd : (x == ("__debug__" : Str)) = false := by decide) (hc : (x == ("__classdict__" : Str)) = false := by decide) :
    Xs w B s₀ F₀ n env vars ms (.Return (some (.IfExp t (.Name x p) c p2)) pos :: rest) (Back B s₀ F₀ (rL rs)) := .mk fun A s F hA R M => by
  refine wpAny_execs_cons (wpAny_Return_some (wpAny_IfExp ((ht.go A s F hA R.st M).mono fun d s₁ ⟨e, F₁, x₁⟩ => ?_)))
  subst e
  have R₁ := R.of_ext x₁
  refine loads_name R₁.st hx (fun v hv => ?_) hd hc
  cases (show v = .ref a from hv)
  obtain ⟨h0, o, so, ys, k, e, are⟩ := (M.ext x₁).at_ _ hm
  subst e
  exact ⟨_, rfl, _, R₁.ext.freeze h0 so.at_ so.out, a, ys, k, rfl, Fz.put_self .., are.mono (Fz.le_put so.out)⟩
end
end Mine
end

section
open PySem PySem.W PyProof.Rows PySem.Calls PySem.SeqAt
local macro_rules | `(tactic| k_is) => `(tactic| first | (with_reducible exact Mine.Has.here) | (with_reducible refine Mine.Has.there ?_; k_is))
local macro_rules | `(tactic| k_asm) => `(tactic| first | (with_reducible exact Mine.Keep.nil) | (with_reducible exact Mine.Sub.nil) | (with_reducible refine Mine.Keep.cons ?_ ?_ ?_; (k_is); (decide); (k_asm)) | (with_reducible refine Mine.Sub.cons ?_ ?_; (k_is); (k_asm)))
namespace Mine

theorem row_cal {w : World} {B : Shared} {n : Nat} {x : Int} (T : Tx B) (hn : n ≤ 50) : Cal w B n (.ref 127) [rInt x] (rList rNat (octs (low x))) :=
  Cal.def1 (x := "number") T.row T.lim (by (exact Nat.le_trans hn (by decide))) (fun v s cd pm doc ct an => .of_eq rfl) fun s F env fe => row_body T fe

/-- a row that may be one -/
noncomputable def Row (xs : List Nat) : Prop := 1 ≤ xs.length ∧ xs.length ≤ 3 ∧ ∀ x ∈ xs, x < 256
noncomputable def num (xs : List Nat) : Nat := xs.foldl (fun a x => a * 256 + x) 0
theorem num_snoc (xs : List Nat) (x : Nat) : num (xs ++ [x]) = num xs * 256 + x := by simp [num]
theorem num_lt : ∀ (i : Nat) (xs : List Nat), (∀ x ∈ xs, x < 256) → num (xs.take i) < 256 ^ i
  | 0, xs, _ => by simp [num]
  | i + 1, xs, h => by
    have ih := num_lt i xs h
    rcases Nat.lt_or_ge i xs.length with hl | hl
    · rw [List.take_add_one, List.getElem?_eq_getElem hl]
      show num (xs.take i ++ [xs[i]]) < _
      rw [num_snoc, Nat.pow_succ]
      have := h xs[i] (List.getElem_mem hl)
      (lia)
    · rw [List.take_of_length_le (by (lia))]
      rw [List.take_of_length_le hl] at ih
      exact Nat.lt_of_lt_of_le ih (Nat.pow_le_pow_right (by decide) (by (exact Nat.le_add_right _ _)))
noncomputable def wide (xs : List Nat) : Nat := num xs * [16, 4, 1].getD (xs.length - 1) 0
noncomputable def sixes (xs : List Nat) : List Nat := (List.range (xs.length + 1)).map fun k => wide xs / 64 ^ (xs.length - k) % 64

theorem sixes_body {w : World} {B s : Shared} {F : Fz} {n : Nat} {env : Env} {xs : List Nat} (T : Tx B) (hx : Row xs) (fe : FE (scopeAt 24) s.heap.objs.size env) : Xs w B s F n env [("row", rList rNat xs)] [] (bodyAt 24) (Back B s F (rList rNat (sixes xs))) := by
  refine Xs.set _ [("row", rList rNat xs)] fe (Ev.nat 0).m ?_
  refine Xs.each xs rNat (fun i => [("number", rNat (num (xs.take i))), ("row", rList rNat xs)]) (fun _ => []) fe rfl (Ev.nm).m .list (fun F₁ i a q ha => ?_) ?_ (.cons .here (.cons (.there .here) .nil))
  · have hi : i < xs.length := (List.getElem?_eq_some_iff.mp ha).1
    have hb := num_lt i xs hx.2.2
    have hb2 : 256 ^ i ≤ 256 ^ 3 := Nat.pow_le_pow_right (by decide) (by have := hx.2.1; (exact Nat.le_trans (Nat.le_of_lt hi) this))
    refine Xs.set (rNat (num (xs.take (i + 1)))) [("row", rList rNat xs)] fe ((Ev.bin (.bin .nm (Ev.nat 256) (on_mul (by (lia)))) .nm on_add).eq ?_).m (Xs.next (by k_asm))
    rw [List.take_add_one, ha]
    exact congrArg _ (num_snoc _ _).symm
  have hb := num_lt xs.length xs hx.2.2
  have hb2 : 256 ^ xs.length ≤ 256 ^ 3 := Nat.pow_le_pow_right (by decide) hx.2.1
  rw [List.take_length] at *
  have h3l := hx.2.1
  have hl : xs.length < 2 ^ 62 := by (exact Nat.lt_of_le_of_lt h3l (by decide))
  refine Xs.set (rNat (wide xs)) [("row", rList rNat xs)] fe (Ev.bin .nm (Ev.sub (r₁ := rList rNat [16, 4, 1]) (T := "list") (Ev.imp (Ev.list (.cons (Ev.nat 16) (.cons (Ev.nat 4) (.cons (Ev.nat 1) .nil)))) fun F v h => (rList.map (f := fun r : Rp => r) (g := rNat)).mpr h)
    (Ev.bin (Ev.cB fe T.len (.cons .nm .nil) (Cal.len_list hl)) (Ev.nat 1) (on_sub hx.1)) is_list slot_list_getitem.lookup (it_list (x := [16, 4, 1].getD (xs.length - 1) 0) ?_ (by (exact Nat.lt_of_le_of_lt (Nat.sub_le _ _) hl)))) (on_mul (by (lia)))).m (Xs.ret ?_)
  · have := hx.2.1
    have := hx.1
    rw [List.getD_eq_getElem?_getD, List.getElem?_eq_getElem (by simp; (lia))]; rfl
  refine Ev.map (Ev.lc0 (List.range (xs.length + 1)) (fun i => rNat i) (fun k => rNat (wide xs / 64 ^ (xs.length - k) % 64)) [("number", rNat (wide xs)), ("row", rList rNat xs)]
    (Ev.cT fe T.range (.cons (Ev.bin (Ev.cB fe T.len (.cons .nm .nil) (Cal.len_list hl)) (Ev.nat 1) on_add) .nil) Cal.range1) (Iterable.range1 (by (lia))) (.cons .here fe.cf (.cons (.there .here) fe.cf .nil)) (fun N cenv ce a ha => ?_) (by have := hx.2.1; simp [sizeLine]; (exact Nat.le_trans h3l (by decide))))
  have h3 : a < xs.length + 1 := List.mem_range.mp ha
  have hp : 64 ^ (xs.length - a) ≤ 64 ^ 3 := Nat.pow_le_pow_right (by decide) (by have := hx.2.1; (exact Nat.le_trans (Nat.sub_le _ _) h3l))
  exact .bin (.bin .nm (.bin (Ev.nat 64) (.bin (Ev.cB ce T.len (.cons .nm .nil) (Cal.len_list hl)) .nm (on_sub (by (exact Nat.le_of_lt_succ h3)))) (on_pow (by decide) (by have := hx.2.1; (lia)))) (on_div (Nat.pos_iff_ne_zero.mp (Nat.pow_pos (by decide))) (by (exact Nat.lt_of_le_of_lt hp (by decide))))) (Ev.nat 64) (on_mod (by decide))
theorem sixes_cal {w : World} {B : Shared} {n : Nat} {xs : List Nat} (T : Tx B) (hn : n ≤ 50) (hx : Row xs) : Cal w B n (.ref 132) [rList rNat xs] (rList rNat (sixes xs)) :=
  Cal.def1 (x := "row") T.sixes T.lim (by (exact Nat.le_trans hn (by decide))) (fun v s cd pm doc ct an => .of_eq rfl) fun s F env fe => sixes_body T hx fe
end Mine
end

section
open PySem PySem.W PyProof.Rows PySem.Calls PySem.SeqAt
namespace Mine

/-- a str by its signs' numbers -/
noncomputable abbrev S (l : List Nat) : Str := ⟨l.toArray⟩
noncomputable abbrev rS (l : List Nat) : Rp := rStr (S l)
theorem S_len (l : List Nat) : (S l).length = l.length := by simp [Str.length, S]
theorem S_inj {a b : List Nat} : S a = S b ↔ a = b := by
  constructor
  · intro h; have := congrArg (fun s : Str => s.cps.toList) h; simpa [S] using this
  · rintro rfl; rfl
theorem S_of (x : Str) : x = S x.cps.toList := by cases x; simp [S]
theorem S_beq (a b : List Nat) : (S a == S b) = (a == b) := by rw [Bool.eq_iff_iff, beq_iff_eq, beq_iff_eq, S_inj]
theorem S_app (a b : List Nat) : S a ++ S b = S (a ++ b) := by
  show Str.append (S a) (S b) = _
  simp [Str.append, S]
section
variable {w : World} {B : Shared} {n : Nat} {env : Env} {vars : Vars}
theorem os_add {a b : List Nat} (h : a.length + b.length ≤ 16777216) : Op2 w B n (binaryOp .Add) (rS a) (rS b) (rS (a ++ b)) := .mk fun A s F u v hA i fi ⟨t, e⟩ ⟨t', e'⟩ => by
  subst e; subst e'
  refine PyProof.Rows.add_str (fun t' tk => ?_) (by rw [S_len, S_len]; simpa [sizeLine] using h)
  rw [S_app]
  exact ⟨F, Ext.tok i fi _, _, rfl⟩
theorem os_eq {a b : List Nat} : Op2 w B n (compareOp .Eq) (rS a) (rS b) (rBool (a == b)) := .mk fun A s F u v hA i fi ⟨t, e⟩ ⟨t', e'⟩ => by
  subst e; subst e'
  refine PyProof.Rows.eq_str ?_
  rw [S_beq]
  exact ⟨F, Ext.refl i fi, rfl⟩
theorem os_ne {a b : List Nat} : Op2 w B n (compareOp .NotEq) (rS a) (rS b) (rBool (a != b)) := .mk fun A s F u v hA i fi ⟨t, e⟩ ⟨t', e'⟩ => by
  subst e; subst e'
  refine PyProof.Rows.ne_str ?_
  show Gives _ _ _ _ (.bool (!(S a == S b))) _
  rw [S_beq]
  exact ⟨F, Ext.refl i fi, rfl⟩
theorem os_notin {a b : List Nat} : Op2 w B n (compareOp .NotIn) (rS b) (rS a) (rBool (!!(Builtin.Str.occurrences (S a) (S b) 0 (S a).length 1).isEmpty)) := .mk fun A s F u v hA i fi ⟨t, e⟩ ⟨t', e'⟩ => by
  subst e; subst e'
  exact PyProof.Rows.notIn_str ⟨F, Ext.refl i fi, rfl⟩
theorem os_mul {a : List Nat} {k : Nat} (h : a.length * k ≤ 16777216) (hk : k ≤ 16777216) : Op2 w B n (binaryOp .Mult) (rS a) (rNat k) (rS (List.replicate k a).flatten) := .mk fun A s F u v hA i fi ⟨t, e⟩ ⟨t', e'⟩ => by
  subst e; subst e'
  obtain ⟨h1, h2, h3⟩ := mulOk_of (x := S a) (n := (k : Int)) a.length k (by rw [S_len]; (exact Nat.le_refl _)) (by (lia)) (by (lia)) hk h
  refine P.mul_str h1 h2 h3 ?_
  have g : ∀ t' tk, Gives B s F (rS (List.replicate k a).flatten) (.str (S (List.replicate k a).flatten) t') { s with toks := tk } := fun t' tk => ⟨F, Ext.tok i fi _, _, rfl⟩
  have flat : ∀ (l : List (List Nat)) (acc : Array Nat), (l.map List.toArray).foldl (· ++ ·) acc = acc ++ l.flatten.toArray := by
    intro l
    induction l with
    | nil => intro acc; simp
    | cons x r ih => intro acc; simp [ih]
  split
  · have : k = 0 := by (lia)
    subst this
    exact ⟨by decide, g _ _⟩
  · split
    · rename_i h4 h5
      have : S (List.replicate k a).flatten = S a := by
        rcases Bool.or_eq_true _ _ ▸ h5 with h | h
        · have : k = 1 := by have := beq_iff_eq.mp h; (lia)
          subst this; simp
        · rw [S_len] at h
          have : a = [] := List.length_eq_zero_iff.mp (beq_iff_eq.mp h)
          subst this
          rw [S_inj]
          induction k <;> simp_all
      exact ⟨F, Ext.refl i fi, t, by rw [this]⟩
    · have e : (⟨(List.replicate (k : Int).toNat (S a).cps).foldl (· ++ ·) #[]⟩ : Str) = S (List.replicate k a).flatten := by
        have := flat (List.replicate k a) #[]
        simp only [List.map_replicate] at this
        simp [S, this]
      rw [e]
      refine ⟨?_, g _ _⟩
      rw [S_len]
      simp [sizeLine]
      rw [Nat.mul_comm]; exact h

/-! methods of str -/
theorem join_nil : ∀ (l : List (List Nat)), Str.join (S []) (l.map S) = S l.flatten
  | [] => rfl
  | [a] => by simp [Str.join]
  | a :: b :: r => by
    show S a ++ S [] ++ Str.join (S []) ((b :: r).map S) = _
    rw [join_nil (b :: r), S_app, S_app]; simp
theorem joined_nil : ∀ (l : List (List Nat)), Txt.join (S []) (l.map S) = S l.flatten
  | [] => rfl
  | [a] => by
    show Builtin.Str.glued (S []) [S a] = _
    rw [StrLaws.glued_eq_join]; exact join_nil [a]
  | a :: b :: r => by
    show Builtin.Str.glued (S []) ((a :: b :: r).map S) = _
    rw [StrLaws.glued_eq_join]; exact join_nil _
theorem strs_are {F : Fz} : ∀ {vs : List Value} {xs : List (List Nat)}, Are rS F vs xs → StrsAre vs (xs.map S)
  | _, [], h => by rw [h.nil_inv]; exact .nil
  | _, x :: xs, h => by
    obtain ⟨v, vs', rfl, ⟨t, rfl⟩, h'⟩ := h.cons_inv
    exact .cons _ t (strs_are h')
theorem Cal.join {l : List (List Nat)} (h : (l.map (·.length)).sum ≤ 16777216) : Cal w B n (.builtin "str.join") [rS [], rList rS l] (rS l.flatten) := .mk fun A s F vs hA i fi are => by
  obtain ⟨v, vs', rfl, ⟨t, rfl⟩, r⟩ := are.cons_inv
  obtain ⟨v, vs', rfl, p, r'⟩ := r.cons_inv
  have e := r'.nil_inv
  subst e
  obtain ⟨a, us, k, rfl, g, il, q⟩ := rList.get p fi
  refine join_list il (ys := l.map S) (strs_are q) ?_ fun t' k => ?_
  · rw [List.map_map]
    have : (l.map ((fun x : Str => x.length) ∘ S)) = l.map (·.length) := List.map_congr_left fun a _ => S_len a
    rw [this]; simpa [S_len] using h
  · rw [joined_nil]
    exact ⟨F, Ext.tok i fi _, _, rfl⟩
theorem Cal.find {a b : List Nat} : Cal w B n (.builtin "str.find") [rS a, rS b] (rInt (Txt.find (S a) (S b))) := .mk fun A s F vs hA i fi are => by
  obtain ⟨v, vs', rfl, ⟨t, rfl⟩, r⟩ := are.cons_inv
  obtain ⟨v, vs', rfl, ⟨u, rfl⟩, r'⟩ := r.cons_inv
  have e := r'.nil_inv
  subst e
  exact SC.find ⟨F, Ext.tok i fi _, _, rfl⟩
theorem Cal.isalnum {a : List Nat} : Cal w B n (.builtin "str.isalnum") [rS a] (rBool (Txt.isalnum (S a))) := .mk fun A s F vs hA i fi are => by
  obtain ⟨v, vs', rfl, ⟨t, rfl⟩, r⟩ := are.cons_inv
  rw [r.nil_inv]
  exact SC.isalnum ⟨F, Ext.refl i fi, rfl⟩
theorem Cal.len_S {a : List Nat} (h : a.length < 2 ^ 62) : Cal w B n (.builtin "len") [rS a] (rNat a.length) := by
  have := Cal.len_str (w := w) (B := B) (n := n) (x := S a) (by rw [S_len]; exact h)
  rwa [S_len] at this
theorem is_S {x : List Nat} : ∀ F (s : Shared) v, (rS x).p F v → F.In s.heap → s.TypeIs v "str" := is_str
theorem nd_S {x : List Nat} : ∀ F (s : Shared) v, (rS x).p F v → F.In s.heap → ∀ a, v = .ref a → ∃ o, s.heap.get? a = some o ∧ o.dict = none := nd_str
theorem is_sign {x : List Nat} {i c : Nat} (hx : x[i]? = some c) (hi : i < 2 ^ 62) : Op2 w B n getItem (rS x) (rNat i) (rS [c]) := it_str (by simpa [S] using hx) hi
/-- x[i] of a str -/
theorem Ev.sign {value slice : Expr} {pos : Pos} {x : List Nat} {i c : Nat} (h₁ : Ev w B n env vars value (rS x)) (h₂ : Ev w B n env vars slice (rNat i)) (hx : x[i]? = some c) (hi : i < 2 ^ 62)
    (hs : ∀ o i, ∃ ops, subscripted slice false o i = operate ops (getItem o i) := by exact fun o i => ⟨_, rfl⟩) : Ev w B n env vars (.Subscript value slice pos) (rS [c]) := Ev.sub (T := "str") h₁ h₂ is_S PySem.F.slot_str_getitem.lookup (is_sign hx hi) hs
/-- x[i] of a list -/
theorem Ev.item {α : Type} {f : α → Rp} {value slice : Expr} {pos : Pos} {x : List α} {i : Nat} {c : α} (h₁ : Ev w B n env vars value (rList f x)) (h₂ : Ev w B n env vars slice (rNat i)) (hx : x[i]? = some c) (hi : i < 2 ^ 62)
    (hs : ∀ o i, ∃ ops, subscripted slice false o i = operate ops (getItem o i) := by exact fun o i => ⟨_, rfl⟩) : Ev w B n env vars (.Subscript value slice pos) (f c) := Ev.sub (T := "list") h₁ h₂ is_list slot_list_getitem.lookup (it_list hx hi) hs
/-- a method of a str -/
theorem Ev.sM {o : Expr} {attr : Str} {apos pos : Pos} {es : List Expr} {x : List Nat} {r : Rp} {rs : List Rp} {id : String} (h₁ : Ev w B n env vars o (rS x)) (slot : Slot "str" attr id) (hty : typeOf (.builtin id) = pure (.type "method_descriptor")) (hl : EvL w B n env vars es rs) (k : Cal w B n (.builtin id) (rS x :: rs) r)
    (hbase : attributeBase o attr env (eval o env) = eval o env := by first | exact aB_name | exact aB_const | exact aB_sub | exact aB_call | rfl) (hfew : decide (es.length + 0 + 0 < 30) = true := by rfl) (hline : (apos.endLine == pos.line) = true := by rfl) : Ev w B n env vars (.Call (.Attribute o attr apos) es [] pos) r :=
  Ev.meth h₁ is_S nd_S PySem.F.plainAttrs_str slot hty hl k hbase hfew hline
theorem Ev.lit {x : Str} {l : List Nat} {k : Nat} {pos : Pos} (h : x.cps.toList = l := by rfl) : Ev w B n env vars (.Constant (.str x) k pos) (rS l) := by
  have := Ev.str (w := w) (B := B) (n := n) (env := env) (vars := vars) (x := x) (k := k) (pos := pos)
  rw [S_of x, h] at this
  rw [S_of x, h]; exact this
end
end Mine
end

section
open PySem PySem.W PyProof.Rows PySem.Calls PySem.SeqAt
local macro_rules | `(tactic| k_is) => `(tactic| first | (with_reducible exact Mine.Has.here) | (with_reducible refine Mine.Has.there ?_; k_is))
local macro_rules | `(tactic| k_asm) => `(tactic| first | (with_reducible exact Mine.Keep.nil) | (with_reducible exact Mine.Sub.nil) | (with_reducible refine Mine.Keep.cons ?_ ?_ ?_; (k_is); (decide); (k_asm)) | (with_reducible refine Mine.Sub.cons ?_ ?_; (k_is); (k_asm)))
namespace Mine

/-- the alphabet -/
noncomputable def al : List Nat := "ABCDEFGHIJKLMNOPQRSTUVWXYZabcdefghijklmnopqrstuvwxyz0123456789+/".toList.map Char.toNat
theorem al_len : al.length = 64 := by decide +kernel
noncomputable def sg (k : Nat) : Nat := al.getD k 0
theorem al_get {k : Nat} (h : k < 64) : al[k]? = some (sg k) := by
  unfold sg
  rw [List.getD_eq_getElem?_getD, List.getElem?_eq_getElem (by rw [al_len]; exact h)]; rfl
theorem al_lit : (Str.ofString "ABCDEFGHIJKLMNOPQRSTUVWXYZabcdefghijklmnopqrstuvwxyz0123456789+/").cps.toList = al := by decide +kernel
/-- a row's writing -/
noncomputable def writ (sx : List Nat) : List Nat := sx.map sg ++ List.replicate (4 - sx.length) 61
/-- sixes that may be some -/
noncomputable def Six (sx : List Nat) : Prop := 2 ≤ sx.length ∧ sx.length ≤ 4 ∧ ∀ k ∈ sx, k < 64
theorem flat_single {α β : Type} (f : α → β) (l : List α) : (l.map fun k => [f k]).flatten = l.map f := by induction l <;> simp_all
theorem flat_rep {α : Type} (k : Nat) (a : α) : (List.replicate k [a]).flatten = List.replicate k a := by induction k <;> simp_all [List.replicate_succ]

theorem written_body {w : World} {B s : Shared} {F : Fz} {n : Nat} {env : Env} {sx : List Nat} (T : Tx B) (hx : Six sx) (fe : FE (scopeAt 25) s.heap.objs.size env) : Xs w B s F n env [("sixes", rList rNat sx)] [] (bodyAt 25) (Back B s F (rS (writ sx))) := by
  have h4 := hx.2.1
  have e : writ sx = (sx.map fun k => [sg k]).flatten ++ (List.replicate (4 - sx.length) [61]).flatten := by rw [flat_single, flat_rep]; rfl
  rw [e]
  refine Xs.ret (Ev.bin (Ev.sM (Ev.lit (l := [])) PySem.F.slot_str_join PySem.F.type_str_join (.cons (Ev.map (Ev.lc0 sx rNat (fun k => rS [sg k]) [] .nm .list .nil (fun N cenv ce k hk => Ev.sign (Ev.lit al_lit) .nm (al_get (hx.2.2 k hk)) (by have := hx.2.2 k hk; (exact Nat.lt_of_lt_of_le this (by decide)))) (by simp [sizeLine]; (exact Nat.le_trans h4 (by decide))))) .nil) (Cal.join ?_))
    (Ev.bin (Ev.lit (l := [61])) (Ev.bin (Ev.nat 4) (Ev.cB fe T.len (.cons .nm .nil) (Cal.len_list (by (exact Nat.lt_of_le_of_lt h4 (by decide))))) (on_sub h4)) (os_mul (by simp; (lia)) (by (omega)))) (os_add ?_))
  · rw [List.map_map]
    have : (sx.map ((fun x : List Nat => x.length) ∘ fun k => [sg k])) = sx.map fun _ => 1 := rfl
    rw [this, List.map_const', List.sum_replicate_nat]; (lia)
  · rw [flat_single, flat_rep]; simp; (omega)
theorem written_cal {w : World} {B : Shared} {n : Nat} {sx : List Nat} (T : Tx B) (hn : n ≤ 50) (hx : Six sx) : Cal w B n (.ref 137) [rList rNat sx] (rS (writ sx)) :=
  Cal.def1 (x := "sixes") T.written T.lim (by (exact Nat.le_trans hn (by decide))) (fun v s cd pm doc ct an => .of_eq rfl) fun s F env fe => written_body T hx fe

/-! the comparison -/
noncomputable def place (c : Nat) : Int := Txt.find (S al) (S [c])
noncomputable def pls (a : List Nat) : List Int := a.map place
noncomputable def gtL (a b : List Int) : Bool := lexB (fun a b => decide (a > b)) (fun m n => decide (m > n)) a b
noncomputable def ltL (a b : List Int) : Bool := lexB (fun a b => decide (a < b)) (fun m n => decide (m < n)) a b
noncomputable def leL (a b : List Int) : Bool := lexB (fun a b => decide (a ≤ b)) (fun m n => decide (m ≤ n)) a b
noncomputable def geL (a b : List Int) : Bool := lexB (fun a b => decide (a ≥ b)) (fun m n => decide (m ≥ n)) a b
noncomputable def told (a b : List Nat) : Int := 7 * (if gtL (pls a) (pls b) = true then 1 else 0) - 5 * (if ltL (pls a) (pls b) = true then 1 else 0)
theorem ints_in {F : Fz} {vs : List Value} {xs : List Int} (h : Are rInt F vs xs) : IntsIn vs.toArray xs := ⟨by simp [h.1], fun i x hx => by
  obtain ⟨v, hv, t, e⟩ := h.get hx
  exact ⟨t, by simp [hv, e]⟩⟩
section
variable {w : World} {B : Shared} {n : Nat} {a b : List Int}
theorem ol_lt (hn : n ≤ 60) : Op2 w B n (compareOp .Lt) (rList rInt a) (rList rInt b) (rBool (ltL a b)) := .mk fun A s F u v hA i fi p q => by
  obtain ⟨x, us, k, rfl, g, l, q1⟩ := rList.get p fi
  obtain ⟨y, vs, m, rfl, g', l', q2⟩ := rList.get q fi
  exact lt_lists l l' (ints_in q1) (ints_in q2) (hA.unit hn) ⟨F, Ext.refl i fi, rfl⟩
theorem ol_gt (hn : n ≤ 60) : Op2 w B n (compareOp .Gt) (rList rInt a) (rList rInt b) (rBool (gtL a b)) := .mk fun A s F u v hA i fi p q => by
  obtain ⟨x, us, k, rfl, g, l, q1⟩ := rList.get p fi
  obtain ⟨y, vs, m, rfl, g', l', q2⟩ := rList.get q fi
  exact gt_lists l l' (ints_in q1) (ints_in q2) (hA.unit hn) ⟨F, Ext.refl i fi, rfl⟩
theorem ol_le (hn : n ≤ 60) : Op2 w B n (compareOp .LtE) (rList rInt a) (rList rInt b) (rBool (leL a b)) := .mk fun A s F u v hA i fi p q => by
  obtain ⟨x, us, k, rfl, g, l, q1⟩ := rList.get p fi
  obtain ⟨y, vs, m, rfl, g', l', q2⟩ := rList.get q fi
  exact le_lists l l' (ints_in q1) (ints_in q2) (hA.unit hn) ⟨F, Ext.refl i fi, rfl⟩
theorem ol_ge (hn : n ≤ 60) : Op2 w B n (compareOp .GtE) (rList rInt a) (rList rInt b) (rBool (geL a b)) := .mk fun A s F u v hA i fi p q => by
  obtain ⟨x, us, k, rfl, g, l, q1⟩ := rList.get p fi
  obtain ⟨y, vs, m, rfl, g', l', q2⟩ := rList.get q fi
  exact ge_lists l l' (ints_in q1) (ints_in q2) (hA.unit hn) ⟨F, Ext.refl i fi, rfl⟩
theorem op_mulb {a : Int} {b : Bool} : Op2 w B n (binaryOp .Mult) (rInt a) (rBool b) (rInt (a * if b = true then 1 else 0)) := .mk fun A s F u v hA i fi ⟨t, e⟩ e' => by
  subst e; cases (show v = .bool b from e')
  exact PySem.IntBool.mul_int_bool ⟨F, Ext.tok i fi _, _, rfl⟩
end
theorem compared_body {w : World} {B s : Shared} {F : Fz} {n : Nat} {env : Env} {a b : List Nat} (T : Tx B) (hn : n ≤ 60) (ha : a.length ≤ 4) (hb : b.length ≤ 4) (fe : FE (scopeAt 26) s.heap.objs.size env) : Xs w B s F n env [("a", rS a), ("b", rS b)] [] (bodyAt 26) (Back B s F (rInt (told a b))) := by
  refine Xs.set (rS al) [("a", rS a), ("b", rS b)] fe (Ev.lit al_lit).m ?_
  have it : ∀ x : List Nat, Iterable w B n (rS x) (x.map fun c => rS [c]) := fun x => by simpa [S] using Iterable.str (w := w) (B := B) (n := n) (x := S x)
  refine Xs.two (rList rInt (pls a)) (rList rInt (pls b)) [] fe
    (Ev.m (Ev.map (Ev.lc0 a (fun c => rS [c]) (fun c => rInt (place c)) [("signs", rS al)] (Ev.name (.there .here)) (it a) (.cons .here fe.cf .nil) (fun N cenv ce c hc => Ev.sM .nm PySem.F.slot_str_find PySem.F.type_str_find (.cons .nm .nil) Cal.find) (by simp [sizeLine]; (exact Nat.le_trans ha (by decide))))))
    (Ev.m (Ev.map (Ev.lc0 b (fun c => rS [c]) (fun c => rInt (place c)) [("signs", rS al)] (Ev.name (.there (.there .here))) (it b) (.cons .here fe.cf .nil) (fun N cenv ce c hc => Ev.sM .nm PySem.F.slot_str_find PySem.F.type_str_find (.cons .nm .nil) Cal.find) (by simp [sizeLine]; (exact Nat.le_trans hb (by decide))))))
    (Xs.ret (Ev.bin (Ev.bin Ev.int (Ev.cmp .nm .nm (ol_gt hn)) op_mulb) (Ev.bin Ev.int (Ev.cmp .nm .nm (ol_lt hn)) op_mulb) op_sub))
theorem compared_cal {w : World} {B : Shared} {n : Nat} {a b : List Nat} (T : Tx B) (hn : n ≤ 50) (ha : a.length ≤ 4) (hb : b.length ≤ 4) : Cal w B n (.ref 142) [rS a, rS b] (rInt (told a b)) :=
  Cal.def2 (x := "a") (y := "b") T.compared T.lim (by (exact Nat.le_trans hn (by decide))) (fun v u s cd pm doc ct an => .of_eq rfl) fun s F env fe => compared_body T (by (exact Nat.lt_of_le_of_lt hn (by decide))) ha hb fe
end Mine
end

section
open PySem PySem.W PyProof.Rows PySem.Calls PySem.SeqAt
namespace Mine

/-- two values of which these are said are equal just when b -/
noncomputable def Eqv (n : Nat) (r₁ r₂ : Rp) (b : Bool) : Prop := ∀ (A : Around) (s : Shared) (F : Fz) u v, Le A n → F.In s.heap → r₁.p F u → r₂.p F v → EqAt A s u v b
theorem Eqv.int {n : Nat} {a b : Int} : Eqv n (rInt a) (rInt b) (a == b) := fun A s F u v _ _ ⟨t, e⟩ ⟨t', e'⟩ => by subst e; subst e'; exact EqAt.int_int _ _ _ _
theorem Eqv.nat {n : Nat} {a b : Nat} : Eqv n (rNat a) (rNat b) (a == b) := by
  have : ((a : Int) == (b : Int)) = (a == b) := by rw [Bool.eq_iff_iff, beq_iff_eq, beq_iff_eq]; omega
  rw [← this]; exact Eqv.int
theorem Eqv.S {n : Nat} {a b : List Nat} : Eqv n (rS a) (rS b) (a == b) := fun A s F u v _ _ ⟨t, e⟩ ⟨t', e'⟩ => by subst e; subst e'; rw [← S_beq]; exact EqAt.str_str _ _ _ _
theorem Eqv.bool {n : Nat} {a b : Bool} : Eqv n (rBool a) (rBool b) (a == b) := fun A s F u v _ _ e e' => by
  cases (show u = .bool a from e); cases (show v = .bool b from e'); exact EqAt.bool_bool _ _
theorem zip_all {α β : Type} (e : α → β → Bool) : ∀ (xs : List α) (ys : List β), xs.length = ys.length → ((List.range xs.length).all fun j => match xs[j]?, ys[j]? with | some x, some y => e x y | _, _ => false) = (xs.zip ys).all fun q => e q.1 q.2
  | [], [], _ => rfl
  | x :: xs, y :: ys, h => by
    have ih := zip_all e xs ys (by simpa using h)
    rw [List.length_cons, List.range_succ_eq_map, List.all_cons, List.all_map, List.zip_cons_cons, List.all_cons, ← ih]
    rfl
/-- lists: by length and place for place -/
noncomputable def sameL {α β : Type} (e : α → β → Bool) (xs : List α) (ys : List β) : Bool := xs.length == ys.length && (xs.zip ys).all fun q => e q.1 q.2
theorem sameL_beq {α : Type} [BEq α] [LawfulBEq α] : ∀ (xs ys : List α), sameL (· == ·) xs ys = (xs == ys)
  | [], [] => rfl
  | [], _ :: _ => rfl
  | _ :: _, [] => rfl
  | x :: xs, y :: ys => by
    have ih := sameL_beq xs ys
    show (_ && _) = (x == y && xs == ys)
    rw [← ih]
    simp only [sameL, List.length_cons, List.zip_cons_cons, List.all_cons]
    cases x == y <;> cases h : xs.length == ys.length <;> simp_all
section
variable {α β : Type} {f : α → Rp} {g : β → Rp} {xs : List α} {ys : List β} {n : Nat} {A : Around} {s : Shared} {F : Fz} {u v : Value}
theorem rc_lists {e : α → β → Bool} (hA : Le A n) (hn : n ≤ 58) (i : F.In s.heap) (p : (rList f xs).p F u) (q : (rList g ys).p F v) (he : ∀ x ∈ xs, ∀ y ∈ ys, Eqv (n + 1) (f x) (g y) (e x y)) : RcAt A s u v (sameL e xs ys) ∧ RcNeAt A s u v (!(sameL e xs ys)) := by
  obtain ⟨a, us, k, rfl, ga, la, q1⟩ := rList.get p i
  obtain ⟨b, vs, m, rfl, gb, lb, q2⟩ := rList.get q i
  by_cases hl : xs.length = ys.length
  · have hz : us.toArray.size = vs.toArray.size := by simp [q1.1, q2.1, hl]
    have key : ∀ j (h1 : j < us.toArray.size) (h2 : j < vs.toArray.size), EqAt A.in1 s us.toArray[j] vs.toArray[j] (match xs[j]?, ys[j]? with | some x, some y => e x y | _, _ => false) := fun j h1 h2 => by
      have h1' : j < xs.length := by have := q1.1; simp at h1; omega
      have h2' : j < ys.length := by have := q2.1; simp at h2; omega
      obtain ⟨x', hx', px⟩ := q1.get (List.getElem?_eq_getElem h1')
      obtain ⟨y', hy', py⟩ := q2.get (List.getElem?_eq_getElem h2')
      rw [List.getElem?_eq_getElem h1', List.getElem?_eq_getElem h2']
      have ex : us.toArray[j] = x' := by simp at h1; rw [List.getElem?_eq_getElem h1] at hx'; simpa using hx'
      have ey : vs.toArray[j] = y' := by simp at h2; rw [List.getElem?_eq_getElem h2] at hy'; simpa using hy'
      rw [ex, ey]
      exact he _ (List.getElem_mem h1') _ (List.getElem_mem h2') A.in1 s F x' y' hA.in1 i px py
    have e1 : ((List.range us.toArray.size).all fun j => match xs[j]?, ys[j]? with | some x, some y => e x y | _, _ => false) = sameL e xs ys := by
      have : us.toArray.size = xs.length := by simp [q1.1]
      rw [this, zip_all e xs ys hl]
      unfold sameL
      rw [hl]; simp
    exact ⟨e1 ▸ RcAt.lists la lb hz (hA.unit (by (exact Nat.le_trans hn (by decide)))) key, e1 ▸ RcNeAt.lists la lb hz (hA.unit (by (exact Nat.le_trans hn (by decide)))) key⟩
  · have hz : (us.toArray.size != vs.toArray.size) = true := by simp [q1.1, q2.1, hl]
    have e1 : sameL e xs ys = false := by
      unfold sameL
      have : (xs.length == ys.length) = false := by simpa using hl
      rw [this]; rfl
    rw [e1]
    exact ⟨RcAt.lists_lengths la lb hz (hA.unit (by (exact Nat.le_trans hn (by decide)))), RcNeAt.lists_lengths la lb hz (hA.unit (by (exact Nat.le_trans hn (by decide))))⟩
theorem Are.inj {F : Fz} {vs : List Value} {xs : List Nat} : ∀ {ys : List Nat}, Are rNat F vs xs → Are rNat F vs ys → xs = ys := by
  induction xs generalizing vs with
  | nil => intro ys h k; have := h.nil_inv; subst this; have := k.1; exact (List.length_eq_zero_iff.mp this.symm).symm
  | cons x xs ih =>
    intro ys h k
    obtain ⟨v, vs', rfl, ⟨t, e⟩, h'⟩ := h.cons_inv
    cases ys with
    | nil => have := k.1; simp at this
    | cons y ys =>
      obtain ⟨v', vs'', e', ⟨t', e''⟩, k'⟩ := k.cons_inv
      cases e'
      rw [e] at e''
      injection e'' with h1 h2
      have : x = y := by (lia)
      rw [this, ih h' k']
theorem rows_inj {F : Fz} {v : Value} {xs ys : List Nat} (h : (rList rNat xs).p F v) (k : (rList rNat ys).p F v) : xs = ys := by
  obtain ⟨a, us, m, rfl, ga, q1⟩ := h
  obtain ⟨b, vs, m', e, gb, q2⟩ := k
  cases e
  rw [ga] at gb
  injection gb with gb
  have : us = vs := by
    have := congrArg Obj.data gb
    injection this with h1 h2
    have := congrArg Array.toList h1; simpa using this
  subst this
  exact q1.inj q2
theorem Eqv.row {a b : List Nat} (hn : n ≤ 57) : Eqv n (rList rNat a) (rList rNat b) (a == b) := fun A s F u v hA i p q => by
  by_cases huv : u = v
  · subst huv
    have := rows_inj p q
    subst this
    rw [beq_self_eq_true]
    exact EqAt.same _
  · have h := (rc_lists (e := fun a b : Nat => a == b) hA (by (exact Nat.le_succ_of_le hn)) i p q fun x _ y _ => Eqv.nat).1
    rw [sameL_beq] at h
    obtain ⟨a', us, k, rfl, ga, la, q1⟩ := rList.get p i
    obtain ⟨b', vs, m, rfl, gb, lb, q2⟩ := rList.get q i
    exact EqAt.of_refs (fun e => huv (by rw [e])) h
end
section
variable {w : World} {B : Shared} {n : Nat} {env : Env} {vars : Vars} {scope : Scope} {N : Nat} {s₀ : Shared} {F₀ : Fz} {ms : Mss} {Q : Flow → Shared → Prop}
theorem ol_eq {α β : Type} {f : α → Rp} {g : β → Rp} {xs : List α} {ys : List β} (e : α → β → Bool) (hn : n ≤ 58) (he : ∀ x ∈ xs, ∀ y ∈ ys, Eqv (n + 1) (f x) (g y) (e x y)) : Op2 w B n (compareOp .Eq) (rList f xs) (rList g ys) (rBool (sameL e xs ys)) := .mk fun A s F u v hA i fi p q =>
  (rc_lists hA hn fi p q he).1 PG w _ _ ⟨F, Ext.refl i fi, rfl⟩
theorem ol_ne {α β : Type} {f : α → Rp} {g : β → Rp} {xs : List α} {ys : List β} (e : α → β → Bool) (hn : n ≤ 58) (he : ∀ x ∈ xs, ∀ y ∈ ys, Eqv (n + 1) (f x) (g y) (e x y)) : Op2 w B n (compareOp .NotEq) (rList f xs) (rList g ys) (rBool (!(sameL e xs ys))) := .mk fun A s F u v hA i fi p q =>
  (rc_lists hA hn fi p q he).2 PG w _ _ ⟨F, Ext.refl i fi, rfl⟩
theorem ol_eqn {xs ys : List Nat} (hn : n ≤ 58) : Op2 w B n (compareOp .Eq) (rList rNat xs) (rList rNat ys) (rBool (xs == ys)) := (ol_eq (fun a b => a == b) hn fun _ _ _ _ => Eqv.nat).eq (by rw [sameL_beq])
theorem ol_nen {xs ys : List Nat} (hn : n ≤ 58) : Op2 w B n (compareOp .NotEq) (rList rNat xs) (rList rNat ys) (rBool (xs != ys)) := (ol_ne (fun a b => a == b) hn fun _ _ _ _ => Eqv.nat).eq (by rw [sameL_beq]; rfl)
theorem ol_neS {xs ys : List (List Nat)} (hn : n ≤ 58) : Op2 w B n (compareOp .NotEq) (rList rS xs) (rList rS ys) (rBool (xs != ys)) := (ol_ne (fun a b => a == b) hn fun _ _ _ _ => Eqv.S).eq (by rw [sameL_beq]; rfl)
theorem ol_neB {xs ys : List Bool} (hn : n ≤ 58) : Op2 w B n (compareOp .NotEq) (rList rBool xs) (rList rBool ys) (rBool (xs != ys)) := (ol_ne (fun a b => a == b) hn fun _ _ _ _ => Eqv.bool).eq (by rw [sameL_beq]; rfl)
theorem ol_notin {α : Type} {f : α → Rp} {xs : List α} {r : Rp} (e : α → Bool) (hn : n ≤ 58) (he : ∀ x ∈ xs, Eqv (n + 1) (f x) r (e x)) (hinj : ∀ x ∈ xs, ∀ y ∈ xs, ∀ F v, (f x).p F v → (f y).p F v → e x = e y) : Op2 w B n (compareOp .NotIn) r (rList f xs) (rBool (!xs.any e)) := .mk fun A s F u v hA i fi p q => by
  obtain ⟨a, us, k, rfl, ga, la, q1⟩ := rList.get q fi
  classical
  let d : Value → Bool := fun y => decide (∃ x ∈ xs, (f x).p F y ∧ e x = true)
  have hd : ∀ x ∈ xs, ∀ y, (f x).p F y → d y = e x := fun x hx y py => by
    cases hb : e x with
    | true => exact decide_eq_true ⟨x, hx, py, hb⟩
    | false =>
      refine decide_eq_false fun ⟨x', hx', px', h'⟩ => ?_
      rw [hinj x' hx' x hx F y px' py, hb] at h'; cases h'
  have any_eq : us.toArray.any d = xs.any e := by
    have : ∀ (us : List Value) (xs' : List α), (∀ x ∈ xs', x ∈ xs) → Are f F us xs' → us.any d = xs'.any e := by
      intro us
      induction us with
      | nil => intro xs' _ h; have h0 : xs' = [] := List.length_eq_zero_iff.mp h.1.symm; subst h0; rfl
      | cons y us ih =>
        intro xs' hx' h
        cases xs' with
        | nil => have := h.1; simp at this
        | cons x r =>
          obtain ⟨v', vs', e', pv, h'⟩ := h.cons_inv
          cases e'
          rw [List.any_cons, List.any_cons, hd x (hx' x (.head _)) _ pv, ih r (fun z hz => hx' z (.tail _ hz)) h']
    rw [List.any_toArray]
    exact this us xs (fun _ h => h) q1
  refine notIn_listAt d la (fun y hy => ?_) ?_
  · have hy' : y ∈ us := by simpa using hy
    obtain ⟨j, hj⟩ := List.mem_iff_getElem?.mp hy'
    have hlt : j < xs.length := by rw [← q1.1]; exact (List.getElem?_eq_some_iff.mp hj).1
    obtain ⟨y', hy2, py⟩ := q1.get (List.getElem?_eq_getElem hlt)
    rw [hj] at hy2; cases hy2
    rw [hd _ (List.getElem_mem hlt) _ py]
    exact he _ (List.getElem_mem hlt) A.in1 s F y u hA.in1 fi py p
  · rw [any_eq]
    exact ⟨F, Ext.refl i fi, rfl⟩
/-- rows.count(row) -/
theorem Cal.count {xs : List (List Nat)} {a : List Nat} (hn : n ≤ 50) : Cal w B n (.builtin "list.count") [rList (rList rNat) xs, rList rNat a] (rNat (xs.count a)) := .mk fun A s F vs hA i fi are => by
  obtain ⟨v, vs', rfl, p, r⟩ := are.cons_inv
  obtain ⟨u, vs', rfl, q, r'⟩ := r.cons_inv
  have e := r'.nil_inv
  subst e
  obtain ⟨l, us, k, rfl, ga, la, q1⟩ := rList.get p fi
  classical
  let d : Value → Bool := fun y => decide ((rList rNat a).p F y)
  have cnt : ∀ (us : List Value) (xs : List (List Nat)), Are (rList rNat) F us xs → us.countP d = xs.count a := by
    intro us
    induction us with
    | nil => intro xs h; have h0 : xs = [] := List.length_eq_zero_iff.mp h.1.symm; subst h0; rfl
    | cons y us ih =>
      intro xs h
      cases xs with
      | nil => have := h.1; simp at this
      | cons x r =>
        obtain ⟨v', vs', e', pv, h'⟩ := h.cons_inv
        cases e'
        rw [List.countP_cons, List.count_cons, ih r h']
        have : d y = (x == a) := by
          cases hb : x == a with
          | true => exact decide_eq_true (by rw [← beq_iff_eq.mp hb]; exact pv)
          | false => exact decide_eq_false fun h => by have := rows_inj pv h; subst this; simp at hb
        rw [this]
  refine call_meets PySem.F.slot_list_count ⟨_, ga, rfl⟩ PySem.F.entry_list_count (PySem.F.args_list_count_2 _ _) (list_countAt l us.toArray k none #[] u d) ⟨ga, fun y hy => ?_, ?_⟩
  · have hy' : y ∈ us := by simpa using hy
    obtain ⟨j, hj⟩ := List.mem_iff_getElem?.mp hy'
    have hlt : j < xs.length := by rw [← q1.1]; exact (List.getElem?_eq_some_iff.mp hj).1
    obtain ⟨y', hy2, py⟩ := q1.get (List.getElem?_eq_getElem hlt)
    rw [hj] at hy2; cases hy2
    have : d y = (xs[j] == a) := by
      cases hb : xs[j] == a with
      | true => exact decide_eq_true (by rw [← beq_iff_eq.mp hb]; exact py)
      | false => exact decide_eq_false fun h => by rw [rows_inj py h] at hb; simp at hb
    rw [this]
    exact Eqv.row (by (exact Nat.lt_of_le_of_lt hn (by decide))) A.in1 s F y u hA.in1 fi py q
  · have : us.toArray.toList.countP d = xs.count a := cnt us xs q1
    rw [this]
    exact ⟨F, Ext.tok i fi _, _, rfl⟩
end
end Mine
end

section
open PySem PySem.W PyProof.Rows PySem.Calls PySem.SeqAt
namespace Mine

theorem setItem_plain {w : World} {A : Around} {s : Shared} {l : Addr} {items : Array Value} {k : Int} {t : Tok} {v : Value} {Q : Unit → Shared → Prop} (hl : s.heap.PlainList l items) (h0 : 0 ≤ k) (hfit : k < 2 ^ 63) (hn : k < items.size)
    (hQ : ∀ h', h'.PlainList l (items.setIfInBounds k.toNat v) → Heap.SameBut l s.heap h' → Q () { s with heap := h' }) : W w A (setItem (.ref l) (.int k t) v) Q s := by
  obtain ⟨ne, ho⟩ := id hl
  have isl := hl.isList
  unfold setItem
  try with_reducible refine wpAny_holding ?_
  first | refine wpAny_bind (wpAny_pure ?_) | skip
  refine wpAny_bind (wpAny_sequenceKey isl.typeIs (by decide) ?_)
  refine wpAny_bind (wpAny_callSpecial?_slot (name := Str.ofString "__setitem__") isl.typeIs PySem.slot_list_setitem
    (wpAny_call_entry PySem.slot_list_setitem isl.typeIs PySem.entry_list_setitem ?_ (PySem.args_list_setitem _ _ _)))
  show wpAny _ _ (Builtin.List.listSubscript? (.int k t) >>= _) _ _ s
  refine wpAny_bind (wpAny_listSubscript_int (fitsIndex_of h0 hfit) ?_)
  clear hfit
  obtain ⟨j, rfl⟩ := Int.eq_ofNat_of_zero_le h0
  have hj : j < items.size := by (lia)
  have hx' : items[j]? = some items[j] := Array.getElem?_eq_getElem hj
  show wpAny _ _ ((seqItemAt l j >>= fun r => pure (r.map (j, ·))) >>= _) _ _ s
  refine wpAny_bind (wpAny_bind (wpAny_seqItemAt ho rfl (wpAny_pure ?_)))
  rw [hx']
  show wpAny _ _ (setSeqItemAt l j v >>= _) _ _ s
  have hfin : (s.heap.update l (Obj.mapSeq (·.setIfInBounds j v))).PlainList l (items.setIfInBounds j v) := ⟨_, Heap.get?_update_self _ ho rfl⟩
  refine wpAny_bind (wpAny_setSeqItemAt ho rfl ?_)
  first
    | exact wpAny_bind (wpAny_pure (wpAny_pure ⟨.none, rfl, wpAny_pure (hQ _ hfin (Heap.SameBut.update ..))⟩))
    | exact wpAny_pure ⟨.none, rfl, wpAny_pure (hQ _ hfin (Heap.SameBut.update ..))⟩
theorem mul_plain {w : World} {A : Around} {s : Shared} {a : Addr} {items : Array Value} {m : Nat} {k : Int} {t : Tok} {Q : Value → Shared → Prop} (g : s.heap.get? a = some { cls := .type "list", dict := none, data := .seq items m, slots := #[] })
    (h0 : -(2 ^ 63 : Int) ≤ k) (h1 : k < 2 ^ 63) (hz : items.size * k.toNat ≤ 2 ^ 24)
    (h : Q (.ref s.heap.objs.size) { s with heap := s.heap.push { cls := .type "list", data := .seq (List.foldl (fun x1 x2 => x1 ++ x2) #[] (List.replicate (if items.isEmpty = true then 0 else k.toNat) items)) } }) : W w A (binaryOp .Mult (.ref a) (.int k t)) Q s :=
  wpAny_binaryOp_repeat_ref (T := "list") (U := "int") (by decide) ⟨_, g, rfl⟩ (fun s' => typeIs_int s' _ _) noFill_list_mul PySem.F.fills_int_mul PySem.F.slot_int_rmul repeat_list PySem.F.slot_int_index.lookup
    (call_meets PySem.F.slot_int_rmul (typeIs_int s _ _) PySem.F.entry_int_rmul (PySem.F.args_int_rmul_2 _ _) (int___rmul___int_list _ _ a items m)
      ⟨g, rfl, ⟨_, g, rfl⟩, call_meets PySem.F.slot_list_mul ⟨_, g, rfl⟩ PySem.F.entry_list_mul (PySem.F.args_list_mul_2 _ _)
        (AutoListH.list___mul___list_int_3 a items m k t (by simp [Builtin.List.listFitsIndex]; (lia)) (by (lia)) (by simp [Builtin.List.listTooLong, sizeLine]; (assumption)))
        ⟨g, h⟩⟩)
theorem Are.set {α : Type} {f : α → Rp} {F : Fz} {vs : List Value} {xs : List α} {v : Value} {x : α} {k : Nat} (h : Are f F vs xs) (p : (f x).p F v) : Are f F (vs.set k v) (xs.set k x) :=
  Are.of_get (by simp [h.1]) fun i u y hu hy => by
    rw [List.getElem?_set] at hu hy
    split at hy
    · rename_i hk
      rw [if_pos hk] at hu
      split at hy
      · rename_i hlt
        rw [if_pos (by rw [h.1]; exact hlt)] at hu
        cases hu; cases hy
        exact p
      · cases hy
    · rename_i hk
      rw [if_neg hk] at hu
      obtain ⟨v', hv', p'⟩ := h.get hy
      rw [hu] at hv'; cases hv'
      exact p'
section
variable {w : World} {B : Shared} {n : Nat} {env : Env} {vars : Vars} {scope : Scope} {N : Nat} {s₀ : Shared} {F₀ : Fz} {ms : Mss} {Q : Flow → Shared → Prop}
/-- x[i] = e of a list that changes -/
theorem Xs.put {x : Str} {px p pos : Pos} {i e : Expr} {rest : List Stmt} {a : Addr} {rs : List Rp} {k : Nat} {r : Rp} (hx : Has vars x (rVal (.ref a))) (he : EvM w B s₀ n env vars ((a, mList rs) :: ms) e r) (hi : EvM w B s₀ n env vars ((a, mList rs) :: ms) i (rNat k)) (hk : k < rs.length) (hk2 : k < 2 ^ 62)
    (kk : Xs w B s₀ F₀ n env vars ((a, mList (rs.set k r)) :: ms) rest Q) (hd : (x == ("__debug__" : Str)) = false := by decide) (hc : (x == ("__classdict__" : Str)) = false := by decide) (hs : swapsWith e (some (.Subscript (.Name x px) i p)) pos.line env = pure false := by rfl) :
    Xs w B s₀ F₀ n env vars ((a, mList rs) :: ms) (.Assign [.Subscript (.Name x px) i p] e pos :: rest) Q := .mk fun A s F hA R M => by
  refine wpAny_execs_cons (wpAny_Assign_Subscript ((he.go A s F hA R.st M).mono fun v s₁ ⟨F₁, x₁, pv⟩ => ?_) hs)
  have R₁ := R.of_ext x₁
  have M₁ := M.ext x₁
  refine loads_name R₁.st hx (fun u hu => ?_) hd hc
  cases (show u = .ref a from hu)
  refine (hi.go A s₁ F₁ hA R₁.st M₁).mono fun iv s₂ ⟨F₂, x₂, t, ei⟩ => ?_
  subst ei
  have R₂ := R₁.of_ext x₂
  have M₂ := M₁.ext x₂
  obtain ⟨h0, o, so, ys, m, eo, are⟩ := M₂.at_ _ (.head _)
  subst eo
  refine W.size (setItem_plain (items := ys.toArray) ⟨m, so.at_⟩ (by (lia)) (by (lia)) (by have := are.1; simp; (lia)) fun h' hp hs' hz => ?_)
  obtain ⟨m', e'⟩ := hp
  have kp : ∀ b o, b ≠ a → s₂.heap.get? b = some o → h'.get? b = some o := fun b o hb e => (hs'.2 b hb).trans e
  have so' : Soft B F₂ { s₂ with heap := h' } a (lst (ys.set k v) m') := Soft.lst (by rw [show lst (ys.set k v) m' = ({ cls := .type "list", data := .seq (ys.toArray.setIfInBounds k v) m' } : Obj) by simp [Mine.lst]]; exact e') so.base so.out
  exact kk.go A { s₂ with heap := h' } F₂ hA (R₂.but so h0 kp hz s₂.toks) (M₂.but (m' := mList (rs.set k r)) kp so' ⟨_, m', rfl, are.set (r.mono _ _ _ x₂.le pv)⟩)
/-- [e] * k -/
theorem EvN.rep {es : List Expr} {p pos : Pos} {e : Expr} {k : Nat} {r : Rp} (h₁ : Ev w B n env vars (.List es p) (rL [r])) (h₂ : Ev w B n env vars e (rNat k)) (hk : k ≤ 1000000) : EvN w B n env vars (.BinOp (.List es p) .Mult e pos) (List.replicate k r) := .mk fun A s F hA S => by
  refine wpAny_BinOp ((h₁.go A s F hA S).mono fun u s₁ ⟨F₁, x₁, p₁⟩ => (h₂.go A s₁ F₁ hA (S.ext x₁)).mono fun v s₂ ⟨F₂, x₂, t, ev⟩ => ?_)
  subst ev
  obtain ⟨a, us, m, rfl, g, l, q⟩ := rList.get ((rL [r]).mono _ _ _ x₂.le p₁) x₂.fin
  obtain ⟨z, zs, rfl, pz, q'⟩ := q.cons_inv
  have e0 := q'.nil_inv
  subst e0
  refine mul_plain (items := [z].toArray) g (by (lia)) (by (lia)) (by simp; (exact Nat.le_trans hk (by decide))) ?_
  have fl : List.foldl (fun x1 x2 : Array Value => x1 ++ x2) #[] (List.replicate k #[z]) = (List.replicate k z).toArray := by
    have : ∀ (k : Nat) (acc : Array Value), List.foldl (fun x1 x2 : Array Value => x1 ++ x2) acc (List.replicate k #[z]) = acc ++ (List.replicate k z).toArray := by
      intro k
      induction k with
      | zero => intro acc; simp
      | succ k ih => intro acc; rw [List.replicate_succ, List.foldl_cons, ih]; apply Array.ext'; simp [List.replicate_succ]
    rw [this]; simp
  have hz : List.foldl (fun x1 x2 : Array Value => x1 ++ x2) #[] (List.replicate (if ([z].toArray).isEmpty = true then 0 else ((k : Nat) : Int).toNat) [z].toArray) = (List.replicate k z).toArray := by
    rw [← fl]; simp
  rw [hz]
  refine ⟨F₂, s₂.heap.objs.size, List.replicate k z, 0, rfl, (x₁.trans x₂).trans (Ext.push x₂.inv x₂.fin _), Nat.le_trans x₁.size x₂.size, Soft.lst (Heap.get?_push_size _ rfl) x₂.inv.size (Fz.none_of_in x₂.fin (Nat.le_refl _)), ?_⟩
  refine Are.of_get (by simp) fun i v x hv hx => ?_
  rw [List.getElem?_replicate] at hv hx
  split at hx
  · rename_i hk; rw [if_pos hk] at hv; cases hv; cases hx; exact pz
  · cases hx
/-- x.append(e) for itself -/
theorem Xs.app {x : Str} {px apos p pos : Pos} {e : Expr} {rest : List Stmt} {a : Addr} {rs : List Rp} {r : Rp} (hx : Has vars x (rVal (.ref a))) (he : EvM w B s₀ n env vars ((a, mList rs) :: ms) e r) (hz : rs.length ≤ 1000000)
    (kk : Xs w B s₀ F₀ n env vars ((a, mList (rs ++ [r])) :: ms) rest Q) (hd : (x == ("__debug__" : Str)) = false := by decide) (hc : (x == ("__classdict__" : Str)) = false := by decide) (hline : (apos.endLine == p.line) = true := by rfl)
    (hfew : ((backTo p (starEach [e] env)).all (fun x => !x.1) && (backToKw p (keywordEach [] env)).all (fun x => x.1.isSome) && decide (([e] : List Expr).length + ([] : List Keyword).length + (if ([] : List Keyword).isEmpty then 0 else 1) < 30)) = true := by rfl) (htrees : backTo p (starEach [e] env) = [(false, eval e env)] := by rfl) :
    Xs w B s₀ F₀ n env vars ((a, mList rs) :: ms) (.Expr (.Call (.Attribute (.Name x px) "append" apos) [e] [] p) pos :: rest) Q := Xs.expr fun A s F hA R M => by
  refine wpAny_Call_append aB_name hfew hline htrees (loads_name R.st hx (fun u hu => ?_) hd hc)
  cases (show u = .ref a from hu)
  obtain ⟨h0, o, so, ys, m, eo, are⟩ := M.at_ _ (.head _)
  subst eo
  refine ⟨a, ys.toArray, rfl, ⟨_, m, so.at_, rfl, rfl, rfl⟩, (he.go A s F hA R.st M).mono fun v s₁ ⟨F₁, x₁, pv⟩ => ?_⟩
  have R₁ := R.of_ext x₁
  have M₁ := M.ext x₁
  have so₁ := so.ext x₁
  refine W.toE (push_list R₁ so₁ h0 (by have := are.1; simp [sizeLine]; (lia)) fun s₂ m₂ R₂ so₂ k₂ => ?_)
  exact kk.go A s₂ F₁ hA R₂ (M₁.but (m' := mList (rs ++ [r])) k₂ so₂ ⟨_, m₂, rfl, (are.mono x₁.le).append (Are.cons pv Are.nil)⟩)
end
end Mine
end

section
open PySem PySem.W PyProof.Rows PySem.Calls PySem.SeqAt
local macro_rules | `(tactic| k_is) => `(tactic| first | (with_reducible exact Mine.Has.here) | (with_reducible refine Mine.Has.there ?_; k_is))
local macro_rules | `(tactic| k_asm) => `(tactic| first | (with_reducible exact Mine.Keep.nil) | (with_reducible exact Mine.Sub.nil) | (with_reducible refine Mine.Keep.cons ?_ ?_ ?_; (k_is); (decide); (k_asm)) | (with_reducible refine Mine.Sub.cons ?_ ?_; (k_is); (k_asm)))
namespace Mine

noncomputable def intsOf (a : List Nat) : List Int := a.map fun k : Nat => (k : Int)
noncomputable def ltN (a b : List Nat) : Bool := ltL (intsOf a) (intsOf b)
noncomputable def gtN (a b : List Nat) : Bool := gtL (intsOf a) (intsOf b)
noncomputable def leN (a b : List Nat) : Bool := leL (intsOf a) (intsOf b)
noncomputable def geN (a b : List Nat) : Bool := geL (intsOf a) (intsOf b)
section
variable {w : World} {B : Shared} {n : Nat} {a b : List Nat}
theorem Op2.pre {t : Value → Value → Sem Value} {r₁ r₂ r₁' r₂' r : Rp} (h : Op2 w B n t r₁' r₂' r) (k₁ : ∀ F v, r₁.p F v → r₁'.p F v) (k₂ : ∀ F v, r₂.p F v → r₂'.p F v) : Op2 w B n t r₁ r₂ r := .mk fun A s F u v hA i fi p q => h.go A s F u v hA i fi (k₁ _ _ p) (k₂ _ _ q)
theorem toInts {F : Fz} {v : Value} (h : (rList rNat a).p F v) : (rList rInt (intsOf a)).p F v := rList.map.mp h
theorem on_ltl (hn : n ≤ 60) : Op2 w B n (compareOp .Lt) (rList rNat a) (rList rNat b) (rBool (ltN a b)) := (ol_lt hn).pre (fun _ _ => toInts) fun _ _ => toInts
theorem on_gtl (hn : n ≤ 60) : Op2 w B n (compareOp .Gt) (rList rNat a) (rList rNat b) (rBool (gtN a b)) := (ol_gt hn).pre (fun _ _ => toInts) fun _ _ => toInts
theorem on_lel (hn : n ≤ 60) : Op2 w B n (compareOp .LtE) (rList rNat a) (rList rNat b) (rBool (leN a b)) := (ol_le hn).pre (fun _ _ => toInts) fun _ _ => toInts
theorem on_gel (hn : n ≤ 60) : Op2 w B n (compareOp .GtE) (rList rNat a) (rList rNat b) (rBool (geN a b)) := (ol_ge hn).pre (fun _ _ => toInts) fun _ _ => toInts
end
theorem ltN_irrefl (a : List Nat) : ltN a a = false := by
  unfold ltN ltL
  generalize intsOf a = l
  induction l with
  | nil => rfl
  | cons x r ih => simp only [lexB, beq_self_eq_true, if_true]; exact ih
noncomputable def at0 (rows : List (List Nat)) (k : Nat) : List Nat := rows.getD k []
theorem at0_get {rows : List (List Nat)} {k : Nat} (h : k < rows.length) : rows[k]? = some (at0 rows k) := by
  unfold at0
  rw [List.getD_eq_getElem?_getD, List.getElem?_eq_getElem h]; rfl
noncomputable def posR (rows : List (List Nat)) (k : Nat) : Nat := (rows.filter fun r => ltN r (at0 rows k)).length + (rows.take k).count (at0 rows k)
theorem posR_lt {rows : List (List Nat)} {k : Nat} (h : k < rows.length) : posR rows k < rows.length := by
  have hx : rows[k] = at0 rows k := by have := at0_get h; rw [List.getElem?_eq_getElem h] at this; simpa using this
  have split : rows = rows.take k ++ (at0 rows k :: rows.drop (k + 1)) := by
    rw [← hx, ← List.drop_eq_getElem_cons h, List.take_append_drop]
  have two : ∀ l : List (List Nat), (l.filter fun r => ltN r (at0 rows k)).length + l.count (at0 rows k) ≤ l.length := by
    intro l
    induction l with
    | nil => simp
    | cons y r ih =>
      rw [List.filter_cons, List.count_cons]
      by_cases hy : y == at0 rows k
      · have := beq_iff_eq.mp hy
        rw [this, ltN_irrefl]; simp; (first | lia | omega)
      · simp only [hy, Bool.false_eq_true, if_false]
        split <;> simp <;> (first | lia | omega)
  have t1 := two (rows.take k)
  have t2 : ((rows.drop (k + 1)).filter fun r => ltN r (at0 rows k)).length ≤ (rows.drop (k + 1)).length := List.length_filter_le _ _
  have e1 : (rows.filter fun r => ltN r (at0 rows k)).length = ((rows.take k).filter fun r => ltN r (at0 rows k)).length + ((rows.drop (k + 1)).filter fun r => ltN r (at0 rows k)).length := by
    generalize at0 rows k = x at split ⊢
    conv => lhs; rw [split]
    rw [List.filter_append, List.filter_cons, ltN_irrefl, List.length_append]; simp
  unfold posR
  rw [e1]
  simp only [List.length_take, List.length_drop] at *
  (first | lia | omega)
noncomputable def optR : Option (List Nat) → Rp
  | none => rNone
  | some r => rList rNat r
noncomputable def slots (rows : List (List Nat)) : Nat → List (Option (List Nat))
  | 0 => List.replicate rows.length none
  | i + 1 => (slots rows i).set (posR rows i) (some (at0 rows i))
theorem slots_len (rows : List (List Nat)) : ∀ i, (slots rows i).length = rows.length
  | 0 => by simp [slots]
  | i + 1 => by simp [slots, slots_len rows i]

theorem EvN.eq {w : World} {B : Shared} {n : Nat} {env : Env} {vars : Vars} {e : Expr} {rs rs' : List Rp} (h : EvN w B n env vars e rs) (k : rs = rs') : EvN w B n env vars e rs' := k ▸ h
theorem Xs.swap {w : World} {B s₀ : Shared} {F₀ : Fz} {n : Nat} {env : Env} {vars : Vars} {q m : Addr × Mo} {ms : Mss} {sts : List Stmt} {Q : Flow → Shared → Prop} (h : Xs w B s₀ F₀ n env vars (m :: q :: ms) sts Q) : Xs w B s₀ F₀ n env vars (q :: m :: ms) sts Q := .mk fun A s F hA R M => h.go A s F hA R (M.perm (.swap ..))
theorem Xs.nextP {w : World} {B s₀ : Shared} {F₀ : Fz} {n : Nat} {env : Env} {vars vs : Vars} {ms mss : Mss} (h : Sub vars vs) (hp : ms.Perm mss) : Xs w B s₀ F₀ n env vars ms [] fun fl s' => (fl = .next ∨ fl = .cont) ∧ At B s₀ F₀ env vs mss s' := .mk fun A s F hA R M => wpAny_execs_nil ⟨.inl rfl, F, ⟨R.st.sub h.mem, R.ext⟩, M.perm hp⟩
theorem ordered_body {w : World} {B s : Shared} {F : Fz} {n : Nat} {env : Env} {rows : List (List Nat)} (T : Tx B) (hn : n ≤ 45) (hz : rows.length ≤ 1000) (fe : FE (scopeAt 27) s.heap.objs.size env) : Xs w B s F n env [("rows", rList (rList rNat) rows)] [] (bodyAt 27) (Back B s F (rL ((slots rows rows.length).map optR))) := by
  refine Xs.setL (rs := (slots rows 0).map optR) [("rows", rList (rList rNat) rows)] fe (EvN.eq (EvN.rep (k := rows.length) (r := rNone) (Ev.list (.cons Ev.none .nil)) (Ev.cB fe T.len (.cons .nm .nil) (Cal.len_list (by (first | lia | omega)))) (by (first | lia | omega))) (by simp [slots, optR])) fun a => ?_
  refine Xs.each (List.range rows.length) (fun i => rNat i) (fun i => [("order", rVal (.ref a)), ("rows", rList (rList rNat) rows)]) (fun i => [(a, mList ((slots rows i).map optR))]) fe rfl
    (Ev.m (Ev.cT fe T.range (.cons (Ev.cB fe T.len (.cons .nm .nil) (Cal.len_list (by (first | lia | omega)))) .nil) Cal.range1)) (Iterable.range1 (by (first | lia | omega))) (fun F₁ i k q hk => ?_) ?_ (by k_asm)
  · have hki : k = i ∧ i < rows.length := by
      have h1 := (List.getElem?_eq_some_iff.mp hk).1
      rw [List.getElem?_range (by simpa using h1)] at hk
      cases hk
      exact ⟨rfl, by simpa using h1⟩
    obtain ⟨rfl, hlt⟩ := hki
    have hg := at0_get hlt
    refine Xs.swap (Xs.put (k := posR rows k) (r := rList rNat (at0 rows k)) (by k_is) (Ev.item .nm .nm hg (by (first | lia | omega))).m (Ev.m (Ev.bin
      (Ev.cB fe T.len (.cons (Ev.lc rows (rList rNat) (rList rNat) (fun r => ltN r (at0 rows k)) [("k", rNat k), ("rows", rList (rList rNat) rows)] .nm .list (.cons (by k_is) fe.cf (.cons (by k_is) fe.cf .nil))
        (fun N cenv ce => ⟨fun r hr => .one (.cmp .nm (Ev.item .nm .nm hg (by (first | lia | omega))) (on_ltl (by (first | lia | omega))) .bool), fun r hr _ => .nm⟩) (by simp [sizeLine]; (first | lia | omega))) .nil) (Cal.len_list (Nat.lt_of_le_of_lt (List.length_filter_le _ _) (by (first | lia | omega)))))
      (Ev.meth (T := "list") (Ev.eq (Ev.sub (T := "list") .nm (Ev.slice .no (.nat .nm)) is_list slot_list_getitem.lookup (it_cut (by (first | lia | omega)))) (congrArg _ (cut_to k rows))) is_list nd_list PySem.F.plainAttrs_list PySem.F.slot_list_count PySem.F.type_list_count (.cons (Ev.item .nm .nm hg (by (first | lia | omega))) .nil) (Cal.count (by (first | lia | omega))))
      on_add)) (by rw [List.length_map, slots_len]; exact posR_lt hlt) (by have := posR_lt hlt; (first | lia | omega)) ?_)
    have e : ((slots rows k).map optR).set (posR rows k) (rList rNat (at0 rows k)) = (slots rows (k + 1)).map optR := by
      show _ = ((slots rows k).set (posR rows k) (some (at0 rows k))).map optR
      rw [List.map_set]; rfl
    rw [e]
    exact Xs.nextP (by k_asm) (.swap ..)
  · rw [List.length_range]
    exact EvM.freeze .here (.head _)
theorem ordered_cal {w : World} {B : Shared} {n : Nat} {rows : List (List Nat)} (T : Tx B) (hn : n ≤ 44) (hz : rows.length ≤ 1000) : Cal w B n (.ref 147) [rList (rList rNat) rows] (rL ((slots rows rows.length).map optR)) :=
  Cal.def1 (x := "rows") T.ordered T.lim (by (first | lia | omega)) (fun v s cd pm doc ct an => .of_eq rfl) fun s F env fe => ordered_body T (by (first | lia | omega)) hz fe
end Mine
end

section
open PySem PySem.W PyProof.Rows PySem.Calls PySem.SeqAt
namespace Mine

noncomputable def TabObj (w : World) (o : Obj) (kvs : List (Str × Value)) : Prop := ∃ es ep, o.ExactDict ∧ o.data = .dict es ep ∧ KeysOf (PySem.strKind PG w) es ∧ Pairs (PySem.strKind PG w) es.toList kvs ∧ (kvs.map (·.1)).Nodup
noncomputable def rTab (w : World) (k₁ x₁ k₂ x₂ : List Nat) : Rp := ⟨fun F v => ∃ d o t u, v = .ref d ∧ F d = some o ∧ d ≠ sysModules ∧ TabObj w o [(S k₁, .str (S x₁) t), (S k₂, .str (S x₂) u)], fun _ _ _ l ⟨d, o, t, u, e, g, r⟩ => ⟨d, o, t, u, e, l _ _ g, r⟩⟩
section
variable {w : World} {B : Shared} {n : Nat} {env : Env} {vars : Vars}
theorem Ev.tab {k₁ x₁ k₂ x₂ : List Nat} {c₁ c₂ e₁ e₂ : Expr} {pos : Pos} {gx : Str} {gv : Value} (T : GlobAt B gx gv) (hk : k₁ ≠ k₂) (h₁ : Ev w B n env vars c₁ (rS k₁)) (h₂ : Ev w B n env vars e₁ (rS x₁)) (h₃ : Ev w B n env vars c₂ (rS k₂)) (h₄ : Ev w B n env vars e₂ (rS x₂)) :
    Ev w B n env vars (.Dict [some c₁, some c₂] [e₁, e₂] pos) (rTab w k₁ x₁ k₂ x₂) := .mk fun A s F hA S₀ => by
  have hd : s.heap.objs.size ≠ sysModules := by
    obtain ⟨mg, hm, _⟩ := T
    have h1 : mainGlobals < B.heap.objs.size := hm.lt
    have h2 := S₀.inv.size
    intro e
    rw [e] at h2
    exact absurd (Nat.lt_of_lt_of_le h1 h2) (by decide)
  refine wpAny_Dict_walk (knd := PySem.strKind PG w) rfl rfl (by simp) (by simp) ?_
  have x₀ := Ext.push S₀.inv S₀.fin { cls := .type "dict", data := .dict #[] }
  generalize hs : ({ s with heap := s.heap.push { cls := .type "dict", data := .dict #[] } } : Shared) = s₀ at x₀ ⊢
  have d₀ : s₀.heap.get? s.heap.objs.size = some { cls := .type "dict", data := .dict #[] } := by rw [← hs]; exact Heap.get?_push_size _ rfl
  have hF : F s.heap.objs.size = Option.none := Fz.none_of_in S₀.fin (Nat.le_refl _)
  refine pairTrees_cons_walk ((h₁.go A s₀ F hA (S₀.ext x₀)).mono fun v₁ s₁ ⟨F₁, y₁, t₁, p₁⟩ => (h₂.go A s₁ F₁ hA ((S₀.ext x₀).ext y₁)).mono fun u₁ s₂ ⟨F₂, y₂, t₂, p₂⟩ => ?_)
  have S₂ := ((S₀.ext x₀).ext y₁).ext y₂
  refine pairTrees_cons_walk ((h₃.go A s₂ F₂ hA S₂).mono fun v₂ s₃ ⟨F₃, y₃, t₃, p₃⟩ => (h₄.go A s₃ F₃ hA (S₂.ext y₃)).mono fun u₂ s₄ ⟨F₄, y₄, t₄, p₄⟩ => pairTrees_nil_walk ?_)
  subst p₁; subst p₂; subst p₃; subst p₄
  have y := ((y₁.trans y₂).trans y₃).trans y₄
  have nt : ¬ IsTab { cls := .type "dict", data := .dict #[] } := fun ⟨_, _, e⟩ => by cases e
  have d₄ := y.keep _ _ d₀ nt
  have hF₄ := y.noneAt d₀ (soft_of fun _ e => by cases e) hF
  refine ⟨[(S k₁, .str (S x₁) t₂), (S k₂, .str (S x₂) t₄)], ⟨by simp [PySem.strKind, Value.isStrOf], rfl, by simp [PySem.strKind, Value.isStrOf], rfl, trivial⟩, ⟨_, #[], 0, d₄, ⟨rfl, rfl, rfl⟩, rfl, fun e he => by simp at he, .nil, by simp⟩, fun h' hm hs' => ?_⟩
  have em : merged [] [(S k₁, Value.str (S x₁) t₂), (S k₂, Value.str (S x₂) t₄)] = [(S k₁, .str (S x₁) t₂), (S k₂, .str (S x₂) t₄)] := by
    have : S k₁ ≠ S k₂ := fun e => hk (S_inj.mp e)
    simp [merged, stored, this]
  rw [em] at hm
  obtain ⟨o, es, ep, g, ex, d, ks, ps, nd⟩ := hm
  have z := (x₀.trans y).same hs' d₄ (soft_of fun _ e => (nomatch e)) S₀.inv.size (Nat.le_refl _) hF₄ (s₄.toks + 2)
  exact ⟨_, z.freeze (Nat.le_refl _) g hF₄ (fun h => by have := h.1; rw [ex.1] at this; cases this), _, o, _, _, rfl, Fz.put_self .., hd, es, ep, ex, d, ks, ps, nd⟩
theorem tab_get {k₁ x₁ k₂ x₂ a b : List Nat} : Cal w B n (.builtin "dict.get") [rTab w k₁ x₁ k₂ x₂, rS a, rS b] (rS (if k₁ = a then x₁ else if k₂ = a then x₂ else b)) := .mk fun A s F vs hA i fi are => by
  obtain ⟨v, vs', rfl, ⟨d, o, t, u, rfl, g, hd, es, ep, ex, dd, ks, ps, nd⟩, r⟩ := are.cons_inv
  obtain ⟨v, vs', rfl, ⟨ta, rfl⟩, r'⟩ := r.cons_inv
  obtain ⟨v, vs'', rfl, ⟨tb, rfl⟩, r''⟩ := r'.cons_inv
  have e := r''.nil_inv
  subst e
  have hof : s.heap.DictOf (PySem.strKind PG w) d [(S k₁, .str (S x₁) t), (S k₂, .str (S x₂) u)] := ⟨o, es, ep, (fi _ _ g).1, ex, dd, ks, ps, nd⟩
  refine call_meetsIn PySem.F.slot_dict_get ⟨o, (fi _ _ g).1, ex.1⟩ PySem.F.entry_dict_get (PySem.F.args_dict_get_3 _ _ _) (meets_dict_get_default (PySem.strKind PG w) d (k := S a) (by simp [PySem.strKind, Value.isStrOf]) (by simpa using hd) (.str (S b) tb)) ⟨_, hof.mapOf, ?_⟩
  show Gives _ _ _ _ ((valueAt _ (S a)).getD _) _
  unfold valueAt
  refine ⟨F, Ext.tok i fi _, ?_⟩
  by_cases h1 : k₁ = a
  · subst h1; simp; exact ⟨t, rfl⟩
  · have h1' : ¬ S k₁ = S a := fun e => h1 (S_inj.mp e)
    rw [if_neg h1]
    by_cases h2 : k₂ = a
    · subst h2; simp [h1']; exact ⟨u, rfl⟩
    · have h2' : ¬ S k₂ = S a := fun e => h2 (S_inj.mp e)
      rw [if_neg h2]
      simp [h1', h2']
      exact ⟨tb, rfl⟩
theorem is_tab {k₁ x₁ k₂ x₂ : List Nat} : ∀ F (s : Shared) v, (rTab w k₁ x₁ k₂ x₂).p F v → F.In s.heap → s.TypeIs v "dict" := fun F s v ⟨d, o, t, u, e, g, hd, es, ep, ex, _⟩ i => by subst e; exact ⟨o, (i _ _ g).1, ex.1⟩
theorem nd_tab {k₁ x₁ k₂ x₂ : List Nat} : ∀ F (s : Shared) v, (rTab w k₁ x₁ k₂ x₂).p F v → F.In s.heap → ∀ a, v = .ref a → ∃ o, s.heap.get? a = some o ∧ o.dict = Option.none := fun F s v ⟨d, o, t, u, e, g, hd, es, ep, ex, _⟩ i a h => by
  rw [e] at h; cases h
  exact ⟨o, (i _ _ g).1, ex.2.1⟩

/-! cuts of a str -/
theorem it_scut {x : List Nat} {lo hi : Option Int} (hz : x.length ≤ 16777216) : Op2 w B n getItem (rS x) (rSlice lo hi) (rS (cut lo hi x)) := .mk fun A s F u v hA i fi ⟨t, e⟩ ⟨sl, vl, vu, e', g, p1, p2⟩ => by
  subst e; subst e'
  have part : ∀ (o : Option Int) v, partOk o v → ∃ l : Option (Int × Tok), v = partValue l ∧ l.map (·.1) = o := fun o v h => by
    cases o with
    | none => exact ⟨none, h, rfl⟩
    | some i => obtain ⟨t, e⟩ := h; exact ⟨some (i, t), e, rfl⟩
  obtain ⟨l, el, hl⟩ := part _ _ p1
  obtain ⟨r, er, hr⟩ := part _ _ p2
  subst el; subst er
  have idx : Builtin.Str.strSliceIndices lo hi 1 x.length = (List.range (hi.elim x.length (clipAt x.length) - lo.elim 0 (clipAt x.length))).map (lo.elim 0 (clipAt x.length) + ·) := by
    have key : Builtin.Str.strSliceIndices lo hi 1 x.length = sliceRange (sliceBounds lo hi none x.length).1 (sliceBounds lo hi none x.length).2.1 1 := by
      cases lo <;> cases hi <;> simp [Builtin.Str.strSliceIndices, sliceBounds]
    rw [key, sliceBounds_plain]
    exact sliceRange_one _ _
  have val : ((Builtin.Str.strSliceIndices lo hi 1 x.length).filterMap (x[·]?)) = cut lo hi x := by
    rw [idx]
    unfold cut
    have := pick_run x.toArray (lo.elim 0 (clipAt x.length)) (hi.elim x.length (clipAt x.length) - lo.elim 0 (clipAt x.length))
    simpa using this
  have cl : ∀ (i : Int), clipAt x.length i ≤ x.length := fun i => by have := clipAt_cast x.length i; omega
  have hb : hi.elim x.length (clipAt x.length) ≤ x.length := by cases hi with | none => exact Nat.le_refl _ | some i => exact cl i
  refine wpAny_getItem_str_slice (l := l) (u := r) (st := Option.none) ⟨_, (fi _ _ g).1, rfl, rfl⟩ rfl ?_
  unfold sliceMade slicePicked
  rw [hl, hr, S_len]
  have val' : (⟨((Builtin.Str.strSliceIndices lo hi 1 x.length).filterMap ((S x).cps[·]?)).toArray⟩ : Str) = S (cut lo hi x) := by
    rw [← val]; simp [S]
  split
  · rename_i h
    have hfull : (Builtin.Str.strSliceIndices lo hi 1 x.length).length = x.length := by simpa using h
    rw [idx] at hfull
    simp only [List.length_map, List.length_range] at hfull
    have : cut lo hi x = x := by
      unfold cut
      rw [hfull]
      by_cases h0 : x.length = 0
      · rw [List.length_eq_zero_iff.mp h0]; simp
      · have : lo.elim 0 (clipAt x.length) = 0 := by (lia)
        rw [this]; simp
    rw [this]
    exact ⟨F, Ext.refl i fi, t, rfl⟩
  · have e2 : (⟨((Builtin.Str.strSliceIndices lo hi ((Option.map (fun x : Int × Tok => x.1) Option.none).getD 1) x.length).filterMap ((S x).cps[·]?)).toArray⟩ : Str) = S (cut lo hi x) := val'
    rw [e2]
    refine ⟨?_, F, Ext.tok i fi _, _, rfl⟩
    rw [S_len]
    unfold cut
    simp [sizeLine]; omega
end
end Mine
end

section
open PySem PySem.W PyProof.Rows PySem.Calls PySem.SeqAt
local macro_rules | `(tactic| k_is) => `(tactic| first | (with_reducible exact Mine.Has.here) | (with_reducible refine Mine.Has.there ?_; k_is))
local macro_rules | `(tactic| k_asm) => `(tactic| first | (with_reducible exact Mine.Keep.nil) | (with_reducible exact Mine.Sub.nil) | (with_reducible refine Mine.Keep.cons ?_ ?_ ?_; (k_is); (decide); (k_asm)) | (with_reducible refine Mine.Sub.cons ?_ ?_; (k_is); (k_asm)))
namespace Mine

noncomputable def esc1 (c : Nat) : List Nat := if c = 43 then [92, 43] else [c]
noncomputable def esc (l : List Nat) : List Nat := l.flatMap esc1
noncomputable def tl : List Nat := [46, 42, 41, 92, 90]
/-- the expression for what begins with l -/
noncomputable def txt (l : List Nat) : List Nat := [40, 63, 115, 58] ++ (esc l ++ tl)
noncomputable def Sg (l : List Nat) : Prop := ∀ c ∈ l, c ∈ al
theorem esc_app (a b : List Nat) : esc (a ++ b) = esc a ++ esc b := by simp [esc]
theorem esc_len (l : List Nat) : (esc l).length ≤ 2 * l.length := by
  induction l with
  | nil => simp [esc]
  | cons c r ih =>
    have : esc (c :: r) = esc1 c ++ esc r := by simp [esc]
    rw [this, List.length_append, List.length_cons]
    have : (esc1 c).length ≤ 2 := by unfold esc1; split <;> simp
    omega
theorem txt_len (l : List Nat) : (txt l).length = 9 + (esc l).length := by simp [txt, tl]; omega
/-- where the i-th sign stands -/
noncomputable def kAt (l : List Nat) (i : Nat) : Nat := 4 + (esc (l.take i)).length
theorem drop_kAt (l : List Nat) (i : Nat) : (txt l).drop (kAt l i) = esc (l.drop i) ++ tl := by
  unfold kAt txt
  have : esc l = esc (l.take i) ++ esc (l.drop i) := by rw [← esc_app, List.take_append_drop]
  rw [this, Nat.add_comm, ← List.drop_drop]
  simp [List.append_assoc]
noncomputable def spec : List Nat := "()[]{}?*+|^$".toList.map Char.toNat
theorem spec_lit : (Str.ofString "()[]{}?*+|^$").cps.toList = spec := by decide +kernel
theorem al_facts : ∀ c ∈ al, c ≠ 46 ∧ c ≠ 92 ∧ (c ≠ 43 → (Builtin.Str.occurrences (S spec) (S [c]) 0 (S spec).length 1).isEmpty = true) := by decide +kernel
theorem spec92 : (Builtin.Str.occurrences (S spec) (S [92]) 0 (S spec).length 1).isEmpty = true := by decide +kernel
theorem spec46 : (Builtin.Str.occurrences (S spec) (S [46]) 0 (S spec).length 1).isEmpty = true := by decide +kernel
theorem nalnum43 : Txt.isalnum (S [43]) = false := by decide +kernel

theorem esc_drop {l : List Nat} {i : Nat} (hi : i < l.length) : esc (l.drop i) = esc1 l[i] ++ esc (l.drop (i + 1)) := by
  show (l.drop i).flatMap esc1 = _
  rw [List.drop_eq_getElem_cons hi, List.flatMap_cons]; rfl
theorem kAt_succ {l : List Nat} {i : Nat} (hi : i < l.length) : kAt l (i + 1) = kAt l i + (esc1 l[i]).length := by
  unfold kAt
  rw [List.take_add_one, List.getElem?_eq_getElem hi, esc_app]
  simp [esc]; omega
theorem drop_get {x D : List Nat} {k c : Nat} (h : x.drop k = c :: D) : x[k]? = some c ∧ k < x.length ∧ x.drop (k + 1) = D := by
  have h1 : (x.drop k)[0]? = some c := by rw [h]; rfl
  rw [List.getElem?_drop] at h1
  refine ⟨h1, (List.getElem?_eq_some_iff.mp h1).1, ?_⟩
  rw [← List.drop_drop, h]; rfl
section
variable {w : World} {B : Shared} {n : Nat} {env : Env} {vars : Vars}
/-- x[a:b] of a str -/
theorem Ev.scut {value : Expr} {lo hi : Option Expr} {p pos : Pos} {x y : List Nat} {a b : Option Int} (h : Ev w B n env vars value (rS x)) (h₁ : EvO w B n env vars lo a) (h₂ : EvO w B n env vars hi b) (hz : x.length ≤ 16777216) (e : cut a b x = y) : Ev w B n env vars (.Subscript value (.Slice lo hi Option.none p) pos) (rS y) :=
  Ev.eq (Ev.sub (T := "str") h (Ev.slice h₁ h₂) is_S PySem.F.slot_str_getitem.lookup (it_scut hz)) (by rw [e])
theorem front_body {s : Shared} {F : Fz} {l : List Nat} (T : Tx B) (hl : Sg l) (hz : l.length ≤ 1000) (fe : FE (scopeAt 28) s.heap.objs.size env) : Xs w B s F n env [("text", rS (txt l))] [] (bodyAt 28) (Back B s F (rL (l.map fun c => rS [c]))) := by
  have hx : (txt l).length ≤ 3000 := by rw [txt_len]; have := esc_len l; omega
  refine Xs.twoL (rs := []) (rNat 4) [("text", rS (txt l))] fe (EvN.list .nil) (Ev.nat 4).m fun a => ?_
  refine Xs.while_ (fun i => [("front", rVal (.ref a)), ("k", rNat (kAt l i)), ("text", rS (txt l))]) (fun i => [(a, mList ((l.take i).map fun c => rS [c]))]) (fun i => l.length - i) 0 rfl rfl (fun i => decide (i < l.length)) (· + 1) (fun i => ?_) (fun i hi => ?_) (fun i hi => ?_)
  · have key : ∀ {c : Nat} {D : List Nat}, (txt l).drop (kAt l i) = c :: D → ∀ {b : Bool}, (!!(Builtin.Str.occurrences (S spec) (S [c]) 0 (S spec).length 1).isEmpty && ((c :: D).take 2 != [46, 42] && !([c] == [92] && Txt.isalnum (S (D.take 1))))) = b →
        EvTM w B s n env [("front", rVal (.ref a)), ("k", rNat (kAt l i)), ("text", rS (txt l))] [(a, mList ((l.take i).map fun c => rS [c]))] (match bodyAt 28 with | [_, .While t _ _ _, _] => t | _ => .Constant .none 0 ⟨0, 0, 0, 0⟩) b := fun {c D} hD {b} hb => by
      obtain ⟨h1, h2, h3⟩ := drop_get hD
      subst hb
      refine EvT.m (EvT.ext (EvT.bop (.and_cons (.cmp .nm (Ev.cB fe T.len (.cons .nm .nil) (Cal.len_S (by (exact Nat.lt_of_le_of_lt hx (by decide))))) cn_lt .bool) fun _ => .and_cons (.cmp (Ev.sign .nm .nm h1 (by (omega))) (Ev.lit spec_lit) os_notin .bool) fun _ =>
        .and_cons (.cmp (Ev.scut (y := (c :: D).take 2) .nm (.nat .nm) (.nat (Ev.bin .nm (Ev.nat 2) on_add)) (by (exact Nat.le_trans hx (by decide))) (by rw [cut_mid, hD]; congr 1; omega)) (Ev.lit (l := [46, 42])) os_ne .bool) fun _ =>
        .one_and (.not (.bop (.and_cons (.cmp (Ev.sign .nm .nm h1 (by (omega))) (Ev.lit (l := [92])) os_eq .bool) fun _ => .one_and (.of (Ev.sM (Ev.scut (y := D.take 1) .nm (.nat (Ev.bin .nm (Ev.nat 1) on_add)) (.nat (Ev.bin .nm (Ev.nat 2) on_add)) (by (exact Nat.le_trans hx (by decide))) (by rw [cut_mid, h3]; congr 1; omega)) PySem.F.slot_str_isalnum PySem.F.type_str_isalnum .nil Cal.isalnum))))))) ?_)
      have : decide (kAt l i < (txt l).length) = true := decide_eq_true h2
      rw [this]; rfl
    by_cases hi : i < l.length
    · have hc := hl l[i] (List.getElem_mem hi)
      have hd : (txt l).drop (kAt l i) = esc1 l[i] ++ (esc (l.drop (i + 1)) ++ tl) := by
        rw [drop_kAt, esc_drop hi, List.append_assoc]
      obtain ⟨f1, f2, f3⟩ := al_facts _ hc
      have ht : decide (i < l.length) = true := decide_eq_true hi
      by_cases h43 : l[i] = 43
      · rw [h43] at hd
        refine key (c := 92) (D := 43 :: (esc (l.drop (i + 1)) ++ tl)) hd ?_
        rw [spec92, ht]
        show (true && (_ && !(true && Txt.isalnum (S [43])))) = true
        rw [nalnum43]; rfl
      · have e1 : esc1 l[i] = [l[i]] := by unfold esc1; rw [if_neg h43]
        rw [e1] at hd
        refine key hd ?_
        rw [f3 h43, ht]
        have e2 : ([l[i]] == [92]) = false := by simp [f2]
        rw [e2]
        have e3 : ((l[i] :: (esc (l.drop (i + 1)) ++ tl)).take 2 != [46, 42]) = true := by
          simp [bne, f1]
        have e4 : (([l[i]] ++ (esc (l.drop (i + 1)) ++ tl)).take 2 != [46, 42]) = true := e3
        simp [f1]
    · have hd : (txt l).drop (kAt l i) = 46 :: [42, 41, 92, 90] := by
        rw [drop_kAt, List.drop_of_length_le (by (omega))]; rfl
      refine key hd ?_
      rw [spec46, decide_eq_false hi]; rfl
  · have hi : i < l.length := by simpa using hi
    have hc := hl l[i] (List.getElem_mem hi)
    have hd : (txt l).drop (kAt l i) = esc1 l[i] ++ (esc (l.drop (i + 1)) ++ tl) := by
      rw [drop_kAt, esc_drop hi, List.append_assoc]
    obtain ⟨f1, f2, f3⟩ := al_facts _ hc
    have ks := kAt_succ hi
    have go : ∀ {c : Nat} {D : List Nat}, (txt l).drop (kAt l i) = c :: D → (if [92] = [c] then D.take 1 else if [46] = [c] then [] else [c]) = [l[i]] → ((c = 92) = ((esc1 l[i]).length = 2)) → (esc1 l[i]).length = 1 ∨ (esc1 l[i]).length = 2 →
        Xs w B s F n env [("front", rVal (.ref a)), ("k", rNat (kAt l i)), ("text", rS (txt l))] [(a, mList ((l.take i).map fun c => rS [c]))] (match bodyAt 28 with | [_, .While _ b _ _, _] => b | _ => [])
          fun fl s' => (fl = .next ∨ fl = .cont) ∧ At B s F env [("front", rVal (.ref a)), ("k", rNat (kAt l (i + 1))), ("text", rS (txt l))] [(a, mList ((l.take (i + 1)).map fun c => rS [c]))] s' := fun {c D} hD hv h92 hlen => by
      obtain ⟨h1, h2, h3⟩ := drop_get hD
      have sgn : ∀ {p q r : Pos}, Ev w B n env [("front", rVal (.ref a)), ("k", rNat (kAt l i)), ("text", rS (txt l))] (.Subscript (.Name "text" p) (.Name "k" q) r) (rS [c]) := Ev.sign .nm .nm h1 (by (omega))
      refine Xs.app (r := rS [l[i]]) .here (Ev.m (Ev.eq (Ev.meth (T := "dict") (Ev.tab T.g_row (by decide) (Ev.lit (l := [92])) (Ev.scut (y := D.take 1) .nm (.nat (Ev.bin .nm (Ev.nat 1) on_add)) (.nat (Ev.bin .nm (Ev.nat 2) on_add)) (by (exact Nat.le_trans hx (by decide))) (by rw [cut_mid, h3]; congr 1; omega)) (Ev.lit (l := [46])) (Ev.lit (l := [])))
        is_tab nd_tab PySem.F.plainAttrs_dict PySem.F.slot_dict_get PySem.F.type_dict_get (.cons sgn (.cons sgn .nil)) tab_get) (by rw [hv]))) (by simp; omega) ?_
      have em : (l.take i).map (fun c => rS [c]) ++ [rS [l[i]]] = (l.take (i + 1)).map fun c => rS [c] := by
        rw [List.take_add_one, List.getElem?_eq_getElem hi, List.map_append]; rfl
      rw [em]
      refine Xs.set (rNat (kAt l (i + 1))) [("front", rVal (.ref a)), ("text", rS (txt l))] fe (Ev.m (Ev.ite (.cmp sgn (Ev.lit (l := [92])) os_eq .bool) (fun hb => ?_) fun hb => ?_)) (Xs.nextP (by k_asm) (.refl _))
      · have hb : c = 92 := by simpa using hb
        rw [h92] at hb
        exact Ev.eq (Ev.bin .nm (Ev.nat 2) on_add) (by rw [ks, hb])
      · have hb : ¬ c = 92 := by simpa using hb
        rw [h92] at hb
        exact Ev.eq (Ev.bin .nm (Ev.nat 1) on_add) (by rw [ks, hlen.resolve_right hb])
    have fin := fun {c : Nat} {D : List Nat} (h1 : (txt l).drop (kAt l i) = c :: D) h2 h3 h4 => Xs.imp (Q' := fun fl s' => ((fl = .next ∨ fl = .cont) ∧ l.length - (i + 1) < l.length - i ∧ At B s F env [("front", rVal (.ref a)), ("k", rNat (kAt l (i + 1))), ("text", rS (txt l))] [(a, mList ((l.take (i + 1)).map fun c => rS [c]))] s') ∨ (fl = .brk ∧ ∀ A, Le A n → W w A (execs (match bodyAt 28 with | [_, _, r] => [r] | _ => []) env) (Back B s F (rL (l.map fun c => rS [c]))) s')) (go h1 h2 h3 h4) fun f s' h => .inl ⟨h.1, less_lt hi, h.2⟩
    by_cases h43 : l[i] = 43
    · rw [h43] at hd
      refine fin (c := 92) (D := 43 :: (esc (l.drop (i + 1)) ++ tl)) hd ?_ ?_ ?_
      · rw [h43]; rfl
      · rw [h43]; simp [esc1]
      · rw [h43]; simp [esc1]
    · have e1 : esc1 l[i] = [l[i]] := by unfold esc1; rw [if_neg h43]
      rw [e1] at hd
      refine fin hd ?_ ?_ ?_
      · have a1 : ¬ [92] = [l[i]] := by simpa using Ne.symm f2
        have a2 : ¬ [46] = [l[i]] := by simpa using Ne.symm f1
        rw [if_neg a1, if_neg a2]
      · rw [e1]; simp [f2]
      · rw [e1]; simp
  · have hi : l.length ≤ i := by simpa using hi
    have hd : (txt l).drop (kAt l i) = tl := by
      rw [drop_kAt, List.drop_of_length_le hi]; rfl
    have em : (l.take i).map (fun c => rS [c]) = l.map fun c => rS [c] := by rw [List.take_of_length_le hi]
    rw [em]
    exact Xs.retIf (EvT.m (.bop (.and_cons (a := true) (b := true) (.ext (.cmp (Ev.scut (y := [40, 63, 115, 58]) .nm .no (.nat (Ev.nat 4)) (by (exact Nat.le_trans hx (by decide))) (by rw [cut_to]; rfl)) (Ev.lit (l := [40, 63, 115, 58])) os_eq .bool) (by rfl)) fun _ =>
      .one_and (.ext (.cmp (Ev.scut (y := tl) .nm (.nat .nm) .no (by (exact Nat.le_trans hx (by decide))) (by rw [cut_from, hd])) (Ev.lit (l := tl)) os_eq .bool) (by rfl))))) .here (.head _)
theorem front_cal {w : World} {B : Shared} {n : Nat} {l : List Nat} (T : Tx B) (hn : n ≤ 50) (hl : Sg l) (hz : l.length ≤ 1000) : Cal w B n (.ref 154) [rS (txt l)] (rL (l.map fun c => rS [c])) :=
  Cal.def1 (x := "text") T.front T.lim (by (exact Nat.le_trans hn (by decide))) (fun v s cd pm doc ct an => .of_eq rfl) fun s F env fe => front_body T hl hz fe
end
end Mine
end

section
open PySem PySem.W PyProof.Rows PySem.Calls PySem.SeqAt
local macro_rules | `(tactic| k_is) => `(tactic| first | (with_reducible exact Mine.Has.here) | (with_reducible refine Mine.Has.there ?_; k_is))
local macro_rules | `(tactic| k_asm) => `(tactic| first | (with_reducible exact Mine.Keep.nil) | (with_reducible exact Mine.Sub.nil) | (with_reducible refine Mine.Keep.cons ?_ ?_ ?_; (k_is); (decide); (k_asm)) | (with_reducible refine Mine.Sub.cons ?_ ?_; (k_is); (k_asm)))
namespace Mine

section
variable {w : World} {B : Shared} {n : Nat} {env : Env} {vars : Vars}
theorem Ev.ofL {α : Type} {f : α → Rp} {xs : List α} {e : Expr} {rs : List Rp} (h : Ev w B n env vars e (rL rs)) (k : rs = xs.map f) : Ev w B n env vars e (rList f xs) := h.imp fun F v p => by
  rw [k] at p
  exact (rList.map (f := fun r : Rp => r) (g := f)).mpr p
theorem op_is_list {α : Type} {f : α → Rp} {xs : List α} : Op2 w B n (compareOp .Is) (rList f xs) rNone (rBool false) := .mk fun A s F u v hA i fi p e => by
  cases (show v = .none from e)
  obtain ⟨a, us, k, rfl, _⟩ := rList.get p fi
  exact is_none ⟨F, Ext.refl i fi, rfl⟩
/-- those that begin with l -/
noncomputable def hits (l : List Nat) (ws : List (List Nat)) : List Nat := (List.range ws.length).filter fun k => ((List.range l.length).filter fun j => !([[], ((at0 ws k).drop j).take 1].any fun x => x == [sgAt l j])) == []
where sgAt (l : List Nat) (j : Nat) : Nat := l.getD j 0
theorem sgAt_get {l : List Nat} {j : Nat} (h : j < l.length) : l[j]? = some (hits.sgAt l j) := by
  unfold hits.sgAt
  rw [List.getD_eq_getElem?_getD, List.getElem?_eq_getElem h]; rfl
theorem S_inj' {x y : List Nat} {F : Fz} {v : Value} (h : (rS x).p F v) (k : (rS y).p F v) : x = y := by
  obtain ⟨t, e⟩ := h
  obtain ⟨u, e'⟩ := k
  rw [e] at e'
  injection e' with h1 h2
  exact S_inj.mp h1
theorem taken_body {s : Shared} {F : Fz} {l : List Nat} {ws : List (List Nat)} (T : Tx B) (hn : n ≤ 45) (hl : Sg l) (hz : l.length ≤ 1000) (hw : ws.length ≤ 1000) (hw4 : ∀ x ∈ ws, x.length ≤ 1000) (fe : FE (scopeAt 29) s.heap.objs.size env) :
    Xs w B s F n env [("text", rS (txt l)), ("writings", rList rS ws)] [] (bodyAt 29) (Back B s F (rList rNat (hits l ws))) := by
  refine Xs.set (rList (fun c => rS [c]) l) [("writings", rList rS ws)] fe (Ev.m (Ev.ofL (Ev.cF fe T.g_front T.front (.cons .nm .nil) (front_cal T (by (exact Nat.le_trans hn (by decide))) hl hz)) rfl)) ?_
  refine Xs.if_no (EvT.m (.cmp .nm .none op_is_list .bool)) (Xs.ret ?_)
  refine Ev.map (g := id) (f := rNat) ?_ |>.eq (by rw [List.map_id])
  refine Ev.lc (List.range ws.length) (fun i => rNat i) (fun k => rNat k) (fun k => ((List.range l.length).filter fun j => !([[], ((at0 ws k).drop j).take 1].any fun x => x == [hits.sgAt l j])) == []) [("front", rList (fun c => rS [c]) l), ("writings", rList rS ws)]
    (Ev.cT fe T.range (.cons (Ev.cB fe T.len (.cons .nm .nil) (Cal.len_list (by (exact Nat.lt_of_le_of_lt hw (by decide))))) .nil) Cal.range1) (Iterable.range1 (by (exact Nat.lt_of_le_of_lt hw (by decide)))) (.cons (by k_is) fe.cf (.cons (by k_is) fe.cf .nil)) (fun N cenv ce => ⟨fun k hk => .one ?_, fun k hk _ => .nm⟩) (by simp [sizeLine]; (exact Nat.le_trans hw (by decide)))
  have hk' : k < ws.length := List.mem_range.mp hk
  have hwk := at0_get hk'
  have hlen : (at0 ws k).length ≤ 1000 := hw4 _ (List.mem_of_getElem? hwk)
  refine .cmp (r₁ := rList rNat ((List.range l.length).filter fun j => !([[], ((at0 ws k).drop j).take 1].any fun x => x == [hits.sgAt l j]))) (r₂ := rList rNat []) ?_ (.ofL (.list .nil) rfl) (ol_eqn (by (exact Nat.le_trans hn (by decide)))) .bool
  refine Ev.lc (List.range l.length) (fun i => rNat i) (fun k => rNat k) (fun j => !([[], ((at0 ws k).drop j).take 1].any fun x => x == [hits.sgAt l j])) [("front", rList (fun c => rS [c]) l), ("k", rNat k), ("writings", rList rS ws)]
    (Ev.cT ce T.range (.cons (Ev.cB ce T.len (.cons .nm .nil) (Cal.len_list (by (exact Nat.lt_of_le_of_lt hz (by decide))))) .nil) Cal.range1) (Iterable.range1 (by (exact Nat.lt_of_le_of_lt hz (by decide)))) (.cons (by k_is) ce.cf (.cons (by k_is) ce.cf (.cons (by k_is) ce.cf .nil))) (fun N' cenv' ce' => ⟨fun j hj => .one ?_, fun j hj _ => .nm⟩) (by simp [sizeLine]; (exact Nat.le_trans hz (by decide)))
  have hj' : j < l.length := List.mem_range.mp hj
  refine .cmp (r₁ := rS [hits.sgAt l j]) (r₂ := rList rS [[], ((at0 ws k).drop j).take 1]) (Ev.item (f := fun c => rS [c]) (x := l) .nm .nm (sgAt_get hj') (by (lia))) (Ev.ofL (Ev.list (.cons (Ev.lit (l := [])) (.cons (Ev.scut (y := ((at0 ws k).drop j).take 1) (Ev.item (f := rS) (x := ws) .nm .nm hwk (by (lia))) (.nat .nm) (.nat (Ev.bin .nm (Ev.nat 1) on_add)) (by (exact Nat.le_trans hlen (by decide))) (by rw [cut_mid]; congr 1; (lia))) .nil))) rfl)
    (ol_notin _ (by (exact Nat.le_trans hn (by decide))) (fun x _ => Eqv.S) fun x _ y _ F v h1 h2 => by rw [S_inj' h1 h2]) .bool
theorem taken_cal {l : List Nat} {ws : List (List Nat)} (T : Tx B) (hn : n ≤ 44) (hl : Sg l) (hz : l.length ≤ 1000) (hw : ws.length ≤ 1000) (hw4 : ∀ x ∈ ws, x.length ≤ 1000) : Cal w B n (.ref 159) [rS (txt l), rList rS ws] (rList rNat (hits l ws)) :=
  Cal.def2 (x := "text") (y := "writings") T.taken T.lim (by (exact Nat.le_trans hn (by decide))) (fun v u s cd pm doc ct an => .of_eq rfl) fun s F env fe => taken_body T (by (exact Nat.succ_le_succ hn)) hl hz hw hw4 fe
end
end Mine
end

section
open PySem PySem.W PyProof.Rows PySem.Calls PySem.SeqAt
namespace Mine

noncomputable abbrev appObj (a : Addr) : Obj := { cls := .type "builtin_function_or_method", data := .fields #[.builtin "list.append", .ref a] }
noncomputable def rApp (a : Addr) : Rp := ⟨fun F v => ∃ b, v = .ref b ∧ F b = some (appObj a), fun _ _ _ l ⟨b, e, g⟩ => ⟨b, e, l _ _ g⟩⟩
theorem plain_append : plainId "list.append" = true := by decide +kernel
theorem sub_list_module : isSubtype (.type "list") (.type "module") = pure false := by rw [isSubtype_type]; kernel_rfl
noncomputable def sgApp : Manifest.Signature := (Manifest.sig_list.lookup "append").getD ⟨.noArgs, "", "", .none, []⟩
theorem check_append {prog : Program} {w : World} {A : Around} {s : Shared} {E : Value → Shared → Prop} {a : Addr} {v : Value} {Q : Unit → Shared → Prop} (hT : s.TypeIs (.ref a) "list") (hn : ∃ o, s.heap.get? a = some o ∧ ∀ c, o.data ≠ .cls c) (h : Q () s) : wpAny (model prog w) A (checkBoundCall "list.append" ⟨[.ref a, v], []⟩) Q E s := by
  have f1 := sub_list_module
  obtain ⟨o, ho, hd⟩ := hn
  have fi : ∀ Q' : Bool → Shared → Prop, Q' false s → wpAny (model prog w) A (isType (.ref a)) Q' E s := fun Q' hq => by
    show wpAny _ _ (loadHead a >>= fun o => pure (match o.data with | .cls _ => true | _ => false)) _ _ s
    refine wpAny_bind (AutoSeq1.wpAny_loadPart' ho (wpAny_pure ?_))
    have : (match o.data with | .cls _ => true | _ => false) = false := by
      split
      · rename_i c hc; exact absurd hc (hd c)
      · rfl
    rw [this]; exact hq
  have hs : Manifest.signature? "list.append" = some sgApp := (signature?_of (id := "list.append") (n := ['d', 'n', 'e', 'p', 'p', 'a']) (o := ['t', 's', 'i', 'l']) (by kernel_rfl) PySem.F.owner_list).trans (by kernel_rfl)
  have hk : builtinKind "list.append" = some .method := by kernel_rfl
  have hv : Manifest.varargsMethods.contains "list.append" = false := by kernel_rfl
  have hc : Bind.checkArgs "list.append" { sgApp with full := s!"{Bind.lastOf "list"}.{Bind.lastOf "list.append"}" } ⟨[.ref a, v], []⟩ = pure () := by kernel_rfl
  unfold checkBoundCall
  rw [hs]
  dsimp only
  rw [hk]
  dsimp only
  rw [if_neg (by decide)]
  refine wpAny_bind (wpAny_isInstance hT f1 ?_)
  rw [hv]
  rw [if_neg (by decide)]
  refine wpAny_bind (fi _ ?_)
  rw [if_neg (by decide)]
  refine wpAny_bind (wpAny_typeOf hT ?_)
  dsimp only
  exact wpAny_of_eq hc h
theorem call_app {w : World} {A : Around} {s : Shared} {a b : Addr} {items : Array Value} {v : Value} {Q : Value → Shared → Prop} (hb : s.heap.get? b = some (appObj a)) (hl : s.heap.PlainList a items) (hsz : items.size ≤ sizeLine)
    (hQ : ∀ h', h'.PlainList a (items.push v) → Heap.SameBut a s.heap h' → Q .none { s with heap := h' }) : W w A (call (.ref b) [v]) Q s := by
  obtain ⟨n, ho⟩ := id hl
  refine wpAny_call (codeAny_of_tree ?_)
  show wpAny _ _ (callAny (.ref b) ⟨[v], []⟩) _ _ _
  unfold callAny
  refine wpAny_bind (wpAny_load hb ?_)
  show wpAny _ _ (do checkBoundCall "list.append" ⟨[.ref a, v], []⟩; again (.builtin "list.append" ⟨[.ref a, v], []⟩)) _ _ _
  refine wpAny_bind (check_append hl.isList.typeIs ⟨_, ho, fun c e => (nomatch e)⟩ (wpAny_pure ⟨plainId_quiet plain_append _, codeAny_builtin PySem.entry_list_append ?_⟩))
  rw [Around.under_plainId plain_append _]
  show wpAny _ _ (updateSeq a (·.push v) >>= fun _ => ret .none) _ _ s
  refine wpAny_bind (wpAny_updateSeq ho rfl (wpAny_pure ?_))
  exact hQ _ ⟨_, Heap.get?_update_self _ ho rfl⟩ (Heap.SameBut.update ..)

theorem bound_append {w : World} {A : Around} {s : Shared} {a : Addr} {ys : List Value} {m : Nat} {tk : Tok} {Q : Value → Shared → Prop} (hl : s.heap.get? a = some (lst ys m))
    (hQ : ∀ h, Rep s.heap s.heap.objs.size h [(s.heap.objs.size + 0, appObj a)] 1 → Q (.ref (s.heap.objs.size + 0)) ⟨h, s.gens, s.drawn, s.toks + 0, s.os⟩) : W w A (call (.builtin "list.__getattribute__") [.ref a, .str (Str.ofString "append") tk]) Q s :=
  one_run [(a, lst ys m)] 20 [1000, 1000, 1000, 1000, 1000] [(s.heap.objs.size + 0, appObj a)] 1 0 (.ref (s.heap.objs.size + 0)) (all_one hl) (by kernel_rfl) (by kernel_rfl) (by kernel_rfl) (by kernel_rfl) (by kernel_rfl) hQ
theorem getAttr_append {w : World} {A : Around} {n : Nat} {s : Shared} {a : Addr} {ys : List Value} {m : Nat} {Q : Value → Shared → Prop} (hA : Le A n) (hn : n ≤ 60) (hl : s.heap.get? a = some (lst ys m))
    (hQ : ∀ h t, Rep s.heap s.heap.objs.size h [(s.heap.objs.size + 0, appObj a)] 1 → Q (.ref (s.heap.objs.size + 0)) { s with heap := h, toks := t }) : W w A (getAttr (.ref a) "append" true) Q s := by
  have f3 := PySem.F.slot_list_getattribute.lookup
  have f4 := PySem.F.slot_list_getattribute.bind (.ref a)
  unfold getAttr
  refine wpAny_bind (wpAny_mkText ?_)
  have hT : ({ s with toks := s.toks + 1 } : Shared).TypeIs (.ref a) "list" := ⟨_, hl, rfl⟩
  unfold getAttrBy
  refine wpAny_holding (wpAny_bind (wpAny_typeOf hT (wpAny_bind (wpAny_of_eq f3 ?_))))
  dsimp only
  rw [if_neg (by decide)]
  unfold getAttrByItsOwn
  refine wpAny_bind (wpAny_of_eq (a := Option.none) rfl ?_)
  refine wpAny_bind (wpAny_attempt (wpAny_holding ?_))
  unfold callGetattribute
  rw [if_neg (by decide)]
  unfold boundAndCalled
  refine wpAny_bind (wpAny_of_eq f4 ?_)
  exact W.toE (bound_append (s := { s with toks := s.toks + 1 }) hl fun h R => wpAny_pure (hQ h _ R))

section
variable {w : World} {B : Shared} {n : Nat} {env : Env} {vars : Vars} {scope : Scope} {N : Nat} {s₀ : Shared} {F₀ : Fz} {ms : Mss} {Q : Flow → Shared → Prop}
/-- y = x.append -/
theorem Xs.bindApp {x y : Str} {px py apos pos : Pos} {rest : List Stmt} {a : Addr} {rs : List Rp} (vars' : Vars) (fe : FE scope s₀.heap.objs.size env) (hn : n ≤ 60) (hx : Has vars x (rVal (.ref a)))
    (k : Xs w B s₀ F₀ n env ((y, rApp a) :: vars') ((a, mList rs) :: ms) rest Q) (hv : Keep vars y vars' := by k_asm) (ho : scope.names.lookup y = some .local ∨ scope.names.lookup y = some .cell := by decide +kernel) (hd : (x == ("__debug__" : Str)) = false := by decide) (hc : (x == ("__classdict__" : Str)) = false := by decide) :
    Xs w B s₀ F₀ n env vars ((a, mList rs) :: ms) (.Assign [.Name y py] (.Attribute (.Name x px) "append" apos) pos :: rest) Q := .mk fun A s F hA R M => by
  refine wpAny_execs_cons (wpAny_Assign_Name ?_ rfl)
  rw [arm_eval_Attribute, aB_name]
  refine wpAny_bind (loads_name R.st hx (fun v hva => ?_) hd hc)
  cases (show v = .ref a from hva)
  obtain ⟨h0, o, so, ys, m, e, are⟩ := M.at_ _ (.head _)
  subst e
  refine wpAny_bind (wpAny_standAt (wpAny_bind (wpAny_holding (getAttr_append hA hn so.at_ fun h t R1 => wpAny_bind (wpAny_letTemporaryGo (wpAny_pure ?_))))))
  have x₁ := R1.ext R.st.inv R.st.fin one_new t
  have hF : F (s.heap.objs.size + 0) = Option.none := Fz.none_of_in R.st.fin (Nat.le_refl _)
  have x₂ := x₁.freeze (Nat.le_refl _) (R1.at_ _ (.head _)) hF
  refine store' (r := rApp a) (R.of_ext x₂) ⟨_, rfl, Fz.put_self ..⟩ (fe.own _ ho) hv.mem fun s' R' k' => ?_
  refine k.go A s' _ hA R' ((M.ext (F' := F.put (s.heap.objs.size + 0) (appObj a)) ?_).keep k')
  exact x₂
theorem keeper_app {A : Around} {s : Shared} {a b : Addr} {Q : Keeper → Shared → Prop} (hb : s.heap.get? b = some (appObj a)) (h : Q .machine s) : W w A (keeperOf (.ref b)) Q s := by
  unfold keeperOf
  refine wpAny_bind (wpAny_load hb ?_)
  show wpAny _ _ (if ((Value.type "builtin_function_or_method") != .type "method") = true then pure Keeper.machine else _) _ _ s
  rw [if_pos (by decide)]
  exact wpAny_pure h
/-- add(e), add being x.append -/
theorem Xs.add {f : Str} {pf p pos : Pos} {e : Expr} {rest : List Stmt} {a : Addr} {rs : List Rp} {r : Rp} (hf : Has vars f (rApp a)) (he : EvM w B s₀ n env vars ((a, mList rs) :: ms) e r) (hz : rs.length ≤ 1000000)
    (kk : Xs w B s₀ F₀ n env vars ((a, mList (rs ++ [r])) :: ms) rest Q) (hd : (f == ("__debug__" : Str)) = false := by decide) (hc : (f == ("__classdict__" : Str)) = false := by decide) (htrees : backTo p (starEach [e] env) = [(false, eval e env)] := by rfl) :
    Xs w B s₀ F₀ n env vars ((a, mList rs) :: ms) (.Expr (.Call (.Name f pf) [e] [] p) pos :: rest) Q := Xs.expr fun A s F hA R M => by
  refine wpAny_Call_NameR (loads_name R.st hf (fun u hu => ?_) hd hc)
  obtain ⟨b, rfl, gb⟩ := hu
  show W w A (callWith p (.ref b) [] (backTo p (starEach [e] env)) []) _ s
  rw [htrees]
  unfold callWith
  refine wpAny_bind (wpAny_holding ?_)
  refine evalArgs_plain (spliced_cons ((he.go A s F hA R.st M).mono fun v s₁ ⟨F₁, x₁, pv⟩ => spliced_nil (wpAny_bind (wpAny_standAt ?_))))
  have R₁ := R.of_ext x₁
  have M₁ := M.ext x₁
  obtain ⟨h0, o, so, ys, m, eo, are⟩ := M₁.at_ _ (.head _)
  subst eo
  have hb := (R₁.st.fin _ _ (x₁.le _ _ gb)).1
  refine wpAny_bind (keeper_app hb ?_)
  show W w A (call (.ref b) [v] [] >>= fun r => holding [r] point >>= fun _ => pure r) _ s₁
  refine wpAny_bind (W.size (call_app (items := ys.toArray) hb ⟨m, so.at_⟩ (by have := are.1; simp [sizeLine]; omega) fun h' hp hs hz' => ?_))
  obtain ⟨m', e'⟩ := hp
  refine wpAny_bind (wpAny_holding (wpAny_point (wpAny_pure ?_)))
  have kp : ∀ b o, b ≠ a → s₁.heap.get? b = some o → h'.get? b = some o := fun b o hb e => (hs.2 b hb).trans e
  have so' : Soft B F₁ { s₁ with heap := h' } a (lst (ys ++ [v]) m') := Soft.lst (by rw [show lst (ys ++ [v]) m' = ({ cls := .type "list", data := .seq (ys.toArray.push v) m' } : Obj) by simp [Mine.lst]]; exact e') so.base so.out
  exact kk.go A { s₁ with heap := h' } F₁ hA (R₁.but so h0 kp hz' s₁.toks) (M₁.but (m' := mList (rs ++ [r])) kp so' ⟨_, m', rfl, are.append (Are.cons pv Are.nil)⟩)
end
end Mine
end

section
open PySem PySem.W PyProof.Rows PySem.Calls PySem.SeqAt
namespace Mine
section
variable {w : World} {B : Shared} {n : Nat} {env : Env} {vars : Vars} {scope : Scope} {N : Nat} {s₀ : Shared} {F₀ : Fz} {ms : Mss} {Q : Flow → Shared → Prop}
theorem isSame_S {A : Around} {s : Shared} {x : Str} {t : Tok} {d : Addr} {Q : Bool → Shared → Prop} (h : Q false s) : W w A (isSame (.str x t) (.ref d)) Q s := by
  show W w A (pure (Value.str x t == .ref d)) Q s
  exact wpAny_pure h
theorem isSame_ref {A : Around} {s : Shared} {d : Addr} {Q : Bool → Shared → Prop} (h : Q true s) : W w A (isSame (.ref d) (.ref d)) Q s := by
  unfold isSame
  dsimp only
  rw [if_pos (by simp)]
  exact wpAny_pure h
theorem op_isnot_S {x : List Nat} {d : Addr} : Op2 w B n (compareOp .IsNot) (rS x) (rVal (.ref d)) (rBool true) := .mk fun A s F u v hA i fi ⟨t, e⟩ e' => by
  subst e; cases (show v = .ref d from e')
  show W w A (isSame _ _ >>= fun b => (pure (Value.bool (!b)) : Sem Value)) _ s
  exact wpAny_bind (isSame_S (wpAny_pure ⟨F, Ext.refl i fi, rfl⟩))
theorem op_isnot_ref {d : Addr} : Op2 w B n (compareOp .IsNot) (rVal (.ref d)) (rVal (.ref d)) (rBool false) := .mk fun A s F u v hA i fi e e' => by
  cases (show u = .ref d from e); cases (show v = .ref d from e')
  show W w A (isSame _ _ >>= fun b => (pure (Value.bool (!b)) : Sem Value)) _ s
  exact wpAny_bind (isSame_ref (wpAny_pure ⟨F, Ext.refl i fi, rfl⟩))
theorem op_is_ref {d : Addr} : Op2 w B n (compareOp .Is) (rVal (.ref d)) (rVal (.ref d)) (rBool true) := .mk fun A s F u v hA i fi e e' => by
  cases (show u = .ref d from e); cases (show v = .ref d from e')
  show W w A (isSame _ _ >>= fun b => (pure (Value.bool b) : Sem Value)) _ s
  exact wpAny_bind (isSame_ref (wpAny_pure ⟨F, Ext.refl i fi, rfl⟩))
theorem iadd_nat {a b : Nat} : Op2 w B n (inplaceOp .Add) (rNat a) (rNat b) (rNat (a + b)) := .mk fun A s F u v hA i fi ⟨t, e⟩ ⟨t', e'⟩ => by
  subst e; subst e'
  refine iadd_int ⟨F, Ext.tok i fi _, s.toks, ?_⟩
  simp
theorem Xs.brk {pos : Pos} {rest : List Stmt} : Xs w B s₀ F₀ n env vars ms (.Break pos :: rest) fun f s' => f = .brk ∧ At B s₀ F₀ env vars ms s' := .mk fun A s F hA R M => wpAny_execs_cons (wpAny_Break ⟨rfl, F, R, M⟩)
/-- the branch taken leaves -/
theorem Xs.if_out {t : Expr} {body orelse : List Stmt} {pos : Pos} {rest : List Stmt} (h : EvTM w B s₀ n env vars ms t true) (h1 : Xs w B s₀ F₀ n env vars ms body fun f s' => f ≠ .next ∧ Q f s') : Xs w B s₀ F₀ n env vars ms (.If t body orelse pos :: rest) Q := .mk fun A s F hA R M =>
  wpAny_execs_cons (wpAny_If ((h.go A s F hA R.st M).mono fun c s₁ ⟨e, F₁, x₁⟩ => by
    subst e
    exact (h1.go A s₁ F₁ hA (R.of_ext x₁) (M.ext x₁)).mono fun f s' ⟨hn, q⟩ => by cases f <;> first | exact absurd rfl hn | exact q))
/-- the branch taken goes on -/
theorem Xs.if_in {t : Expr} {body orelse : List Stmt} {pos : Pos} {rest : List Stmt} {b : Bool} (vars' : Vars) (ms' : Mss) (h : EvTM w B s₀ n env vars ms t b) (h1 : b = true → Xs w B s₀ F₀ n env vars ms body (On B s₀ F₀ env vars' ms')) (h2 : b = false → Xs w B s₀ F₀ n env vars ms orelse (On B s₀ F₀ env vars' ms'))
    (k : Xs w B s₀ F₀ n env vars' ms' rest Q) : Xs w B s₀ F₀ n env vars ms (.If t body orelse pos :: rest) Q := Xs.if_ h (fun e => (h1 e).imp fun _ _ => .inl) (fun e => (h2 e).imp fun _ _ => .inl) k
/-- a str in a frame of two -/
theorem Ev.fstr {c₁ c₂ v : Expr} {pos p : Pos} {a b x : List Nat} (h₁ : Ev w B n env vars c₁ (rS a)) (h₂ : Ev w B n env vars v (rS x)) (h₃ : Ev w B n env vars c₂ (rS b)) (hz : a.length + x.length + b.length ≤ 1000000)
    (he : evalEach [c₁, .FormattedValue v (-1) Option.none p, c₂] env = [eval c₁ env, eval (.FormattedValue v (-1) Option.none p) env, eval c₂ env] := by rfl) : Ev w B n env vars (.JoinedStr [c₁, .FormattedValue v (-1) Option.none p, c₂] pos) (rS (a ++ x ++ b)) := .mk fun A s F hA S₀ => by
  refine wpAny_JoinedStr ?_
  rw [he]
  refine (h₁.go A s F hA S₀).mono fun v₁ s₁ ⟨F₁, x₁, t₁, e₁⟩ => ⟨S a, t₁, e₁, ?_, ?_⟩
  · show (Str.empty ++ S a).length ≤ sizeLine
    rw [Str.empty_append, S_len]; simp [sizeLine]; (lia)
  rw [Str.empty_append]
  have S₁ := S₀.ext x₁
  refine wpAny_FormattedValue_plain ((h₂.go A s₁ F₁ hA S₁).mono fun v₂ s₂ ⟨F₂, x₂, t₂, e₂⟩ => ?_)
  subst e₂
  have S₂ := S₁.ext x₂
  have go : ∀ (t : Tok) (s₃ : Shared), Ext B s₂ F₂ s₃ F₂ → ∃ y u, Value.str (S x) t = .str y u ∧ (S a ++ y).length ≤ sizeLine ∧ Joins (model PG w) A (fun _ _ => False) [eval c₂ env] (S a ++ y) (fun out s₁ => out.length ≤ sizeLine ∧ Gives B s F (rS (a ++ x ++ b)) (.str out s₁.toks) { s₁ with toks := s₁.toks + 1 }) s₃ := fun t s₃ x₃ => by
    refine ⟨S x, t, rfl, ?_, ?_⟩
    · rw [S_app, S_len]; simp [sizeLine]; (lia)
    · refine (h₃.go A s₃ F₂ hA (S₂.ext x₃)).mono fun v₃ s₄ ⟨F₄, x₄, t₄, e₄⟩ => ⟨S b, t₄, e₄, ?_, ?_, ?_⟩
      · rw [S_app, S_app, S_len]; simp [sizeLine]; (lia)
      · rw [S_app, S_app, S_len]; simp [sizeLine]; (lia)
      · rw [S_app, S_app]
        have x₅ := (((x₁.trans x₂).trans x₃).trans x₄)
        exact ⟨F₄, x₅.trans (Ext.tok x₅.inv x₅.fin _), _, rfl⟩
  exact wpAny_formatField_str (go _ _ (Ext.refl S₂.inv S₂.fin)) (go _ _ (Ext.tok S₂.inv S₂.fin _)) (by rw [S_len]; simp [sizeLine]; (lia))
end
end Mine
end

section
open PySem PySem.W PyProof.Rows PySem.Calls PySem.SeqAt
local macro_rules | `(tactic| k_is) => `(tactic| first | (with_reducible exact Mine.Has.here) | (with_reducible refine Mine.Has.there ?_; k_is))
local macro_rules | `(tactic| k_asm) => `(tactic| first | (with_reducible exact Mine.Keep.nil) | (with_reducible exact Mine.Sub.nil) | (with_reducible refine Mine.Keep.cons ?_ ?_ ?_; (k_is); (decide); (k_asm)) | (with_reducible refine Mine.Sub.cons ?_ ?_; (k_is); (k_asm)))
namespace Mine

section
variable {w : World} {B : Shared} {n : Nat} {env : Env} {vars : Vars}
noncomputable def joined (ss : List (List Nat)) : List Nat := [40, 63, 115, 58] ++ (ss.flatten ++ [46, 42]) ++ [41, 92, 90]
theorem join_body {s : Shared} {F : Fz} {ss : List (List Nat)} {d : Addr} (T : Tx B) (hn : n ≤ 45) (hz : ss.length ≤ 1000) (hf : (ss.map (·.length)).sum ≤ 100000) (fe : FE (scopeAt 21) s.heap.objs.size env) :
    Xs w B s F n env [("inp", rL (ss.map rS ++ [rVal (.ref d)])), ("STAR", rVal (.ref d))] [] (bodyAt 21) (Back B s F (rS (joined ss))) := by
  refine Xs.setL (rs := []) [("inp", rL (ss.map rS ++ [rVal (.ref d)])), ("STAR", rVal (.ref d))] fe (EvN.list .nil) fun a => ?_
  refine Xs.bindApp [("res", rVal (.ref a)), ("inp", rL (ss.map rS ++ [rVal (.ref d)])), ("STAR", rVal (.ref d))] fe (by (exact Nat.le_trans hn (by decide))) .here ?_
  have ln : (ss.map rS ++ [rVal (.ref d)]).length = ss.length + 1 := by simp
  refine Xs.two (rNat 0) (rNat (ss.length + 1)) [("add", rApp a), ("res", rVal (.ref a)), ("inp", rL (ss.map rS ++ [rVal (.ref d)])), ("STAR", rVal (.ref d))] fe (Ev.nat 0).m (Ev.m (Ev.eq (Ev.cB fe T.len (.cons .nm .nil) (Cal.len_list (by rw [ln]; omega))) (by rw [ln]))) ?_
  have itS : ∀ {i : Nat}, i < ss.length → (ss.map rS ++ [rVal (.ref d)])[i]? = some (rS (ss.getD i [])) := fun {i} hi => by
    rw [List.getElem?_append_left (by simpa using hi), List.getElem?_map, List.getElem?_eq_getElem hi, List.getD_eq_getElem?_getD, List.getElem?_eq_getElem hi]; rfl
  have itL : (ss.map rS ++ [rVal (.ref d)])[ss.length]? = some (rVal (.ref d)) := by simp
  refine Xs.while_ (fun i => [("i", rNat (min i ss.length)), ("n", rNat (ss.length + 1)), ("add", rApp a), ("res", rVal (.ref a)), ("inp", rL (ss.map rS ++ [rVal (.ref d)])), ("STAR", rVal (.ref d))]) (fun i => [(a, mList ((ss.take i).map rS))]) (fun i => ss.length - i) 0 (by simp) rfl (fun i => decide (i < ss.length)) (· + 1) (fun i => ?_) (fun i hi => ?_) (fun i hi => ?_)
  · by_cases hi : i < ss.length
    · have em : min i ss.length = i := Nat.min_eq_left (Nat.le_of_lt hi)
      rw [em, decide_eq_true hi]
      exact EvT.m (.ext (.bop (.and_cons (.cmp .nm .nm cn_lt .bool) fun _ => .one_and (.cmp (Ev.item (f := fun r : Rp => r) .nm .nm (itS hi) (by (lia))) .nm op_isnot_S .bool))) (by simp; omega))
    · have em : min i ss.length = ss.length := Nat.min_eq_right (by omega)
      rw [em, decide_eq_false hi]
      exact EvT.m (.ext (.bop (.and_cons (.cmp .nm .nm cn_lt .bool) fun _ => .one_and (.cmp (Ev.item (f := fun r : Rp => r) .nm .nm itL (by (exact Nat.lt_of_le_of_lt hz (by decide)))) .nm op_isnot_ref .bool))) (by simp))
  · have hi : i < ss.length := by simpa using hi
    have em : min i ss.length = i := Nat.min_eq_left (Nat.le_of_lt hi)
    have em' : min (i + 1) ss.length = i + 1 := Nat.min_eq_left hi
    rw [em, em']
    refine Xs.imp (Q := fun fl s' => (fl = .next ∨ fl = .cont) ∧ At B s F env [("i", rNat (i + 1)), ("n", rNat (ss.length + 1)), ("add", rApp a), ("res", rVal (.ref a)), ("inp", rL (ss.map rS ++ [rVal (.ref d)])), ("STAR", rVal (.ref d))] [(a, mList ((ss.take (i + 1)).map rS))] s') ?_ fun f s' h => .inl ⟨h.1, less_lt hi, h.2⟩
    refine Xs.add (r := rS (ss.getD i [])) (by k_is) (Ev.m (Ev.item (f := fun r : Rp => r) .nm .nm (itS hi) (by (lia)))) (by simp; omega) ?_
    have e2 : (ss.take i).map rS ++ [rS (ss.getD i [])] = (ss.take (i + 1)).map rS := by
      rw [List.take_add_one, List.getElem?_eq_getElem hi, List.map_append, List.getD_eq_getElem?_getD, List.getElem?_eq_getElem hi]; rfl
    rw [e2]
    exact Xs.aug .here (Ev.nat 1).m iadd_nat fe.o (vars' := [("n", rNat (ss.length + 1)), ("add", rApp a), ("res", rVal (.ref a)), ("inp", rL (ss.map rS ++ [rVal (.ref d)])), ("STAR", rVal (.ref d))]) (Keep.mem (by k_asm)) (Xs.nextP (by k_asm) (.refl _))
  have hi : ss.length ≤ i := by simpa using hi
  have em : min i ss.length = ss.length := Nat.min_eq_right (by omega)
  have et : (ss.take i).map rS = ss.map rS := by rw [List.take_of_length_le hi]
  rw [em, et]
  have tail : Xs w B s F n env [("i", rNat (ss.length + 1)), ("n", rNat (ss.length + 1)), ("res", rVal (.ref a))] [(a, mList (ss.map rS ++ [rS [46, 42]]))] (match bodyAt 21 with | [_, _, _, _, _, a, b, c] => [a, b, c] | _ => []) (Back B s F (rS (joined ss))) := by
    refine Xs.assert_ (EvT.m (.ext (.cmp .nm .nm cn_eq .bool) (by simp))) ?_
    refine Xs.set (rS (ss.flatten ++ [46, 42])) [] fe (EvM.thaw (x := "res") (by simp) (.head _) (Ev.eq (Ev.sM (Ev.lit (l := [])) PySem.F.slot_str_join PySem.F.type_str_join (.cons (Ev.ofL (xs := ss ++ [[46, 42]]) (f := rS) .nm (by simp)) .nil) (Cal.join (by rw [List.map_append, List.sum_append]; show _ + 2 ≤ _; omega))) (by simp)) flat.str) ?_
    refine Xs.ret (Ev.eq (Ev.fstr (Ev.lit (l := [40, 63, 115, 58])) .nm (Ev.lit (l := [41, 92, 90])) ?_) rfl)
    have hs : ss.flatten.length ≤ 100000 := by rw [List.length_flatten]; exact hf
    simp only [List.length_append, List.length_cons, List.length_nil]; omega
  refine Xs.while_ (ι := Unit) (fun _ => [("i", rNat ss.length), ("n", rNat (ss.length + 1)), ("add", rApp a), ("res", rVal (.ref a)), ("inp", rL (ss.map rS ++ [rVal (.ref d)])), ("STAR", rVal (.ref d))]) (fun _ => [(a, mList (ss.map rS))]) (fun _ => 0) () rfl rfl (fun _ => true) (fun _ => ()) (fun _ => ?_) (fun _ _ => ?_) (fun _ h => by cases h)
  · exact EvT.m (.ext (.cmp .nm .nm cn_lt .bool) (by simp))
  refine Xs.assert_ (EvT.m (.cmp (Ev.item (f := fun r : Rp => r) .nm .nm itL (by (exact Nat.lt_of_le_of_lt hz (by decide)))) .nm op_is_ref .bool)) ?_
  refine Xs.aug .here (Ev.nat 1).m iadd_nat fe.o (vars' := [("n", rNat (ss.length + 1)), ("add", rApp a), ("res", rVal (.ref a))]) (Keep.mem (by k_asm)) ?_
  refine Xs.if_out (EvT.m (.ext (.cmp .nm .nm cn_eq .bool) (by simp))) ?_
  refine Xs.add (r := rS [46, 42]) (by k_is) (Ev.lit (l := [46, 42])).m (by simp; omega) ?_
  refine Xs.imp Xs.brk fun f s' h => ⟨(by rw [h.1]; intro e; cases e), .inr ⟨h.1, fun A hA => ?_⟩⟩
  obtain ⟨F', R', M'⟩ := h.2
  exact tail.go A s' F' hA ⟨R'.st.sub (by simp), R'.ext⟩ M'
theorem join_cal {ss : List (List Nat)} {d : Addr} (T : Tx B) (hn : n ≤ 44) (hz : ss.length ≤ 1000) (hf : (ss.map (·.length)).sum ≤ 100000) : Cal w B n (.ref 122) [rL (ss.map rS ++ [rVal (.ref d)]), rVal (.ref d)] (rS (joined ss)) :=
  Cal.def2 (x := "inp") (y := "STAR") T.joinp T.lim (by (exact Nat.le_trans hn (by decide))) (fun v u s cd pm doc ct an => .of_eq rfl) fun s F env fe => join_body T (by (exact Nat.succ_le_succ hn)) hz hf fe
end
end Mine
end

section
open PySem PySem.W PyProof.Rows PySem.Calls PySem.SeqAt
namespace Mine
open PySem.Builtin PySem.Builtin.Str
theorem sub_KeyError : isSubtype (.type "KeyError") (.type "LookupError") = pure true := by rw [isSubtype_type]; kernel_rfl
theorem tl_keep {w : World} {A : Around} {s : Shared} {d : Addr} {c : Nat} {f : Int → Option Value} {Q : Mapped → Shared → Prop} (hm : s.heap.MapOf (intKind PG w) d f) (hd : (d == sysModules) = false) (hv : f c = none) (hh : A.handled = none)
    (hQ : ∀ h' tk, (∀ b o, s.heap.get? b = some o → h'.get? b = some o) → Q .keep { s with heap := h', toks := tk }) : W w A (tableLookup (.ref d) c) Q s := by
  unfold tableLookup
  refine wpAny_bind (wpAny_attempt (wpAny_bind (wpAny_mkInt ?_)))
  refine wpAny_mono (wpAny_getItem_missing_of (knd := intKind PG w) (k := (c : Int)) (Q := fun _ _ => False) (E := fun e s' => ∃ a h' tk, e = .ref a ∧ s' = { s with heap := h', toks := tk } ∧ Heap.NewExc s.heap h' a "KeyError") (by simp [intKind, Value.isInt]) hd hh hm hv fun h' e he => ⟨e, h', _, rfl, rfl, he⟩) (fun _ _ h => h.elim) fun e s' ⟨a, h', tk, ea, es, he⟩ => ?_
  subst ea; subst es
  obtain ⟨ob, u, ho, hc, _⟩ := he.there
  refine wpAny_bind (wpAny_isInstance (T := "KeyError") (b := true) ⟨_, ho, hc⟩ sub_KeyError ?_)
  exact wpAny_bind (wpAny_rule (wpAny_pure (hQ h' tk he.keeps)))
theorem tl_text {w : World} {A : Around} {s : Shared} {d : Addr} {c : Nat} {f : Int → Option Value} {x : Str} {t : Tok} {Q : Mapped → Shared → Prop} (hm : s.heap.MapOf (intKind PG w) d f) (hv : f c = some (.str x t))
    (hQ : ∀ tk, Q (.text x) { s with toks := tk }) : W w A (tableLookup (.ref d) c) Q s := by
  unfold tableLookup
  refine wpAny_bind (wpAny_attempt (wpAny_bind (wpAny_mkInt ?_)))
  refine wpAny_getItem_of (knd := intKind PG w) (k := (c : Int)) (by simp [intKind, Value.isInt]) hm hv ?_
  dsimp only
  refine wpAny_bind (wpAny_of_eq (a := Option.none) rfl ?_)
  dsimp only
  refine wpAny_bind (wpAny_of_eq (a := some x) rfl ?_)
  exact wpAny_pure (hQ _)
noncomputable def escF (c : Nat) : List Nat := esc1 c
theorem translate_one {w : World} {A : Around} {s : Shared} {d : Addr} {c : Nat} {t : Tok} {f : Int → Option Value} {Q : Value → Shared → Prop} (hm : s.heap.MapOf (intKind PG w) d f) (hd : (d == sysModules) = false) (hh : A.handled = none) (h128 : c < 128)
    (hv : (c ≠ 43 ∧ f c = none) ∨ (c = 43 ∧ ∃ u, f c = some (.str (S [92, 43]) u)))
    (hQ : ∀ h' tk u, (∀ b o, s.heap.get? b = some o → h'.get? b = some o) → Q (.str (S (esc1 c)) u) { s with heap := h', toks := tk }) : W w A (call (.builtin "str.translate") [.str (S [c]) t, .ref d]) Q s := by
  refine wpAny_call_entry PySem.F.slot_str_translate (typeIs_str _ _ _) PySem.F.entry_str_translate ?_ (PySem.F.args_str_translate_2 _ _)
  have hall : (S [c]).cps.all (· < 128) = true := by simp [S, h128]
  unfold «str.translate»
  refine wpAny_bind (wpAny_of_eq (a := (Value.str (S [c]) t, S [c], Value.ref d)) rfl ?_)
  dsimp only
  rw [if_neg (by simp [Str.length])]
  have e1 : (#[c] : Array Nat).all (fun x => decide (x < 128)) = true := hall
  have tl0 : tooLong 0 = false := by decide +kernel
  simp only [e1]
  rw [show (#[c] : Array Nat) = [c].toArray from rfl, List.forIn_toArray, List.forIn_cons]
  refine wpAny_bind (wpAny_bind ?_)
  rw [if_neg (by rw [tl0]; decide)]
  simp only [List.lookup_nil, if_true]
  rcases hv with ⟨h43, hv⟩ | ⟨h43, u, hv⟩
  · refine wpAny_bind (tl_keep (A := A.in1) hm hd hv hh fun h' tk hk => ?_)
    dsimp only
    refine wpAny_bind (wpAny_pure ?_)
    dsimp only
    refine wpAny_pure ?_
    dsimp only
    rw [List.forIn_nil]
    refine wpAny_pure ?_
    dsimp only
    rw [if_neg (by decide +kernel)]
    refine wpAny_bind (wpAny_mkStr (wpAny_pure ⟨_, rfl, ?_⟩) (by simp [Str.length, sizeLine]))
    have e3 : (⟨List.foldl (fun acc (p : Str) => acc ++ p.cps) #[] [(⟨#[c]⟩ : Str)].reverse⟩ : Str) = S (esc1 c) := by
      unfold esc1; rw [if_neg h43]; simp [S]
    rw [e3]
    exact hQ h' _ _ hk
  · refine wpAny_bind (tl_text (A := A.in1) hm hv fun tk => ?_)
    have e2 : ((S [92, 43]).length == 1 && (S [92, 43]).cps.all fun x => decide (x < 128)) = false := by rfl
    dsimp only
    rw [e2]
    rw [if_neg (by decide)]
    refine wpAny_bind (wpAny_pure ?_)
    dsimp only
    refine wpAny_bind (wpAny_rule ?_)
    rw [if_neg (by decide)]
    refine wpAny_bind (tl_text (s := { s with toks := tk }) (A := A.in1) hm hv fun tk => ?_)
    dsimp only
    refine wpAny_pure ?_
    dsimp only
    rw [List.forIn_nil]
    refine wpAny_pure ?_
    dsimp only
    rw [if_neg (by decide +kernel)]
    refine wpAny_bind (wpAny_mkStr (wpAny_pure ⟨_, rfl, ?_⟩) (by decide +kernel))
    have e3 : (⟨List.foldl (fun acc (p : Str) => acc ++ p.cps) #[] [S [92, 43]].reverse⟩ : Str) = S (esc1 c) := by
      unfold esc1; rw [if_pos h43]; simp [S]
    rw [e3]
    exact hQ s.heap _ _ fun _ _ e => e
end Mine
end

section
open PySem PySem.W PyProof.Rows PySem.Calls PySem.SeqAt
local macro_rules | `(tactic| k_is) => `(tactic| first | (with_reducible exact Mine.Has.here) | (with_reducible refine Mine.Has.there ?_; k_is))
local macro_rules | `(tactic| k_asm) => `(tactic| first | (with_reducible exact Mine.Keep.nil) | (with_reducible exact Mine.Sub.nil) | (with_reducible refine Mine.Keep.cons ?_ ?_ ?_; (k_is); (decide); (k_asm)) | (with_reducible refine Mine.Sub.cons ?_ ?_; (k_is); (k_asm)))
namespace Mine

section
variable {w : World} {B : Shared} {n : Nat} {env : Env} {vars : Vars} {scope : Scope} {N : Nat} {s₀ : Shared} {F₀ : Fz} {ms : Mss} {Q : Flow → Shared → Prop}
theorem Cal.isinst_S {x : List Nat} : Cal w B n (.builtin "isinstance") [rS x, rVal (.type "str")] (rBool true) := .mk fun A s F vs hA i f are => by
  obtain ⟨v, vs', rfl, ⟨t, rfl⟩, r⟩ := are.cons_inv
  obtain ⟨u, vs', rfl, e, r'⟩ := r.cons_inv
  have e' := r'.nil_inv
  subst e'
  cases (show u = .type "str" from e)
  exact PySem.IsiPair.str_str ⟨F, Ext.refl i f, rfl⟩
theorem Inv.map {s : Shared} {d : Addr} {f : Int → Option Value} (i : Inv B s) (h : B.heap.MapOf (PySem.intKind PG w) d f) : s.heap.MapOf (PySem.intKind PG w) d f :=
  let ⟨o, es, ep, e, x, dd, r⟩ := h; ⟨o, es, ep, i.keep _ _ e (fun ⟨⟨_, vs, q⟩, _⟩ => by rw [dd] at q; cases q), x, dd, r⟩
theorem Cal.trl {c : Nat} (T : Tx B) (hc : c ∈ al) : Cal w B n (.builtin "str.translate") [rS [c], rVal (.ref 98)] (rS (esc1 c)) := .mk fun A s F vs hA i f are => by
  obtain ⟨v, vs', rfl, ⟨t, rfl⟩, r⟩ := are.cons_inv
  obtain ⟨u, vs', rfl, e, r'⟩ := r.cons_inv
  have e' := r'.nil_inv
  subst e'
  cases (show u = .ref 98 from e)
  obtain ⟨g, hm, h1, u, h2⟩ := T.map98 w
  have h128 : ∀ c ∈ al, c < 128 := by decide +kernel
  refine W.size (translate_one (i.map hm) (by decide) hA.handled (h128 c hc) ?_ fun h' tk u' hk hz => ⟨F, ?_, u', rfl⟩)
  · by_cases h43 : c = 43
    · subst h43; exact .inr ⟨rfl, u, h2⟩
    · exact .inl ⟨h43, h1 c hc h43⟩
  · exact ⟨i.sft (fun b o e _ => hk b o e) (fun b o e _ => hk b o e) hz rfl i.gens, hz, fun b o e _ => hk b o e, Fz.Le.refl _, fun _ _ e => .inl e, f.up fun a o e _ => hk a o e⟩
theorem escape_cal {c : Nat} (T : Tx B) (hn : n ≤ 50) (hc : c ∈ al) : Cal w B n (.ref 108) [rS [c]] (rS (esc1 c)) :=
  Cal.def1 (x := "pattern") T.esc T.lim (by (exact Nat.le_trans hn (by decide))) (fun v s cd pm doc ct an => .of_eq rfl) fun s F env fe =>
    Xs.if_out (EvT.m (.of (Ev.cB fe T.isinst (.cons .nm (.cons (Ev.bb fe T.str_) .nil)) Cal.isinst_S))) (Xs.imp (Xs.ret (Ev.sM .nm PySem.F.slot_str_translate PySem.F.type_str_translate (.cons (Ev.gg fe T.g_map) .nil) (Cal.trl T hc))) fun f s' h => ⟨(by obtain ⟨v, e, _⟩ := h; rw [e]; intro e; cases e), h⟩)
noncomputable def rRef : Rp := ⟨fun _ v => ∃ d, v = .ref d, fun _ _ _ _ h => h⟩
theorem Xs.ex {x : Str} {sts : List Stmt} (h : ∀ d, Xs w B s₀ F₀ n env ((x, rVal (.ref d)) :: vars) ms sts Q) : Xs w B s₀ F₀ n env ((x, rRef) :: vars) ms sts Q := .mk fun A s F hA R M => by
  obtain ⟨v, ⟨d, e⟩, k⟩ := R.st.vars _ (.head _)
  subst e
  refine (h d).go A s F hA ⟨⟨R.st.inv, R.st.fin, R.st.eok, fun p hp => ?_⟩, R.ext⟩ M
  rcases List.mem_cons.mp hp with rfl | hp
  · exact ⟨_, rfl, k⟩
  · exact R.st.vars p (.tail _ hp)
theorem Cal.object (hn : n ≤ 60) : Cal w B n (.type "object") [] rRef := .mk fun A s F vs hA i f are => by
  have e := are.nil_inv
  subst e
  exact one_run [] 20 [0, 0, 0] [(s.heap.objs.size + 0, { cls := .type "object" })] 1 0 (.ref (s.heap.objs.size + 0)) (fun _ h => nomatch h) (by kernel_rfl) (by kernel_rfl) (by kernel_rfl) (by kernel_rfl) (by kernel_rfl) fun h R => ⟨F, R.ext i f one_new _, _, rfl⟩
end
end Mine
end

section
open PySem PySem.W PyProof.Rows PySem.Calls PySem.SeqAt
local macro_rules | `(tactic| k_is) => `(tactic| first | (with_reducible exact Mine.Has.here) | (with_reducible refine Mine.Has.there ?_; k_is))
local macro_rules | `(tactic| k_asm) => `(tactic| first | (with_reducible exact Mine.Keep.nil) | (with_reducible exact Mine.Sub.nil) | (with_reducible refine Mine.Keep.cons ?_ ?_ ?_; (k_is); (decide); (k_asm)) | (with_reducible refine Mine.Sub.cons ?_ ?_; (k_is); (k_asm)))
namespace Mine

section
variable {w : World} {B : Shared} {n : Nat} {env : Env} {vars : Vars} {scope : Scope} {N : Nat} {s₀ : Shared} {F₀ : Fz} {ms : Mss} {Q : Flow → Shared → Prop}
theorem Ev.neg {e : Expr} {i : Int} {pos : Pos} (h : Ev w B n env vars e (rInt i)) : Ev w B n env vars (.UnaryOp .USub e pos) (rInt (-i)) := .mk fun A s F hA S₀ =>
  wpAny_UnaryOp ((h.go A s F hA S₀).mono fun v s₁ ⟨F₁, x₁, t, e⟩ => by subst e; exact PyProof.Rows.neg_int ⟨F₁, x₁.trans (Ext.tok x₁.inv x₁.fin _), _, rfl⟩)
theorem EvT.lst {α : Type} {f : α → Rp} {xs : List α} {e : Expr} (h : Ev w B n env vars e (rList f xs)) (hz : xs.length < 2 ^ 62) (he : ∀ t, isTrue e env t = (do let v ← t; standAt e.pos; holding [v] (truthy v)) := by intro _; rfl) : EvT w B n env vars e (!xs.isEmpty) := .mk fun A s F hA S₀ =>
  wpAny_isTrue_value ((h.go A s F hA S₀).mono fun v s₁ ⟨F₁, x₁, p⟩ => by
    obtain ⟨a, vs, k, rfl, g, l, are⟩ := rList.get p x₁.fin
    refine wpAny_truthy_list l (by have := are.1; simp; (lia)) ?_
    refine ⟨?_, F₁, x₁.trans (Ext.tok x₁.inv x₁.fin _)⟩
    have := are.1
    cases xs <;> cases vs <;> simp_all) (he _)
theorem EvT.txt {x : List Nat} {e : Expr} (h : Ev w B n env vars e (rS x)) (hz : x.length < 2 ^ 62) (he : ∀ t, isTrue e env t = (do let v ← t; standAt e.pos; holding [v] (truthy v)) := by intro _; rfl) : EvT w B n env vars e (!x.isEmpty) := .mk fun A s F hA S₀ =>
  wpAny_isTrue_value ((h.go A s F hA S₀).mono fun v s₁ ⟨F₁, x₁, t, e⟩ => by
    subst e
    refine PySem.P.truthy_str (by rw [S_len]; (lia)) ⟨?_, F₁, x₁.trans (Ext.tok x₁.inv x₁.fin _)⟩
    rw [S_len]
    cases x <;> simp <;> (lia)) (he _)
theorem Xs.done {vs : Vars} {mss : Mss} (h : Sub vars vs) (hp : ms.Perm mss) : Xs w B s₀ F₀ n env vars ms [] (On B s₀ F₀ env vs mss) := .mk fun A s F hA R M => wpAny_execs_nil ⟨rfl, F, ⟨R.st.sub h.mem, R.ext⟩, M.perm hp⟩

/-- the state between two turns of _translate -/
noncomputable abbrev tvars (pat : List Nat) (a d : Addr) (i : Nat) : Vars := [("i", rNat i), ("n", rNat pat.length), ("add", rApp a), ("res", rVal (.ref a)), ("pat", rS pat), ("STAR", rVal (.ref d))]
noncomputable def tbody : List Stmt := match bodyAt 20 with | [_, _, _, .While _ b _ _, _, _] => b | _ => []
theorem al_ne : ∀ c ∈ al, c ≠ 42 ∧ c ≠ 63 ∧ c ≠ 91 := by decide +kernel
theorem step_sign {s : Shared} {F : Fz} {pat : List Nat} {a d : Addr} {i c : Nat} {parts : List Rp} (T : Tx B) (hn : n ≤ 40) (hp : pat.length ≤ 1000) (hz : parts.length ≤ 1000) (hc : pat[i]? = some c) (hal : c ∈ al) (fe : FE (scopeAt 20) s.heap.objs.size env) :
    Xs w B s F n env (tvars pat a d i) [(a, mList parts)] tbody (On B s F env (tvars pat a d (i + 1)) [(a, mList (parts ++ [rS (esc1 c)]))]) := by
  have hi : i < pat.length := (List.getElem?_eq_some_iff.mp hc).1
  obtain ⟨n1, n2, n3⟩ := al_ne c hal
  have e1 : ([c] == [42]) = false := by simpa using n1
  have e2 : ([c] == [63]) = false := by simpa using n2
  have e3 : ([c] == [91]) = false := by simpa using n3
  refine Xs.set (rS [c]) (tvars pat a d i) fe (Ev.sign .nm .nm hc (by (lia))).m ?_
  refine Xs.set (rNat (i + 1)) [("c", rS [c]), ("n", rNat pat.length), ("add", rApp a), ("res", rVal (.ref a)), ("pat", rS pat), ("STAR", rVal (.ref d))] fe (Ev.bin .nm (Ev.nat 1) on_add).m ?_
  refine Xs.if_in (tvars pat a d (i + 1)) [(a, mList (parts ++ [rS (esc1 c)]))] (EvT.m (.ext (.cmp .nm (Ev.lit (l := [42])) os_eq .bool) e1)) (fun h => by cases h) (fun _ => ?_) Xs.nil
  refine Xs.if_in (tvars pat a d (i + 1)) [(a, mList (parts ++ [rS (esc1 c)]))] (EvT.m (.ext (.cmp .nm (Ev.lit (l := [63])) os_eq .bool) e2)) (fun h => by cases h) (fun _ => ?_) Xs.nil
  refine Xs.if_in (tvars pat a d (i + 1)) [(a, mList (parts ++ [rS (esc1 c)]))] (EvT.m (.ext (.cmp .nm (Ev.lit (l := [91])) os_eq .bool) e3)) (fun h => by cases h) (fun _ => ?_) Xs.nil
  exact Xs.add (r := rS (esc1 c)) (by k_is) (Ev.cF fe T.g_esc T.esc (.cons .nm .nil) (escape_cal T (by (exact Nat.le_trans hn (by decide))) hal)).m (by (exact Nat.le_trans hz (by decide))) (Xs.done (by k_asm) (.refl _))
theorem step_star {s : Shared} {F : Fz} {pat : List Nat} {a d : Addr} {i : Nat} {parts : List Rp} {y : List Nat} (T : Tx B) (hn : n ≤ 40) (hp : pat.length ≤ 1000) (hz : parts.length ≤ 1000) (hc : pat[i]? = some 42) (hl : parts[parts.length - 1]? = some (rS y)) (fe : FE (scopeAt 20) s.heap.objs.size env) :
    Xs w B s F n env (tvars pat a d i) [(a, mList parts)] tbody (On B s F env (tvars pat a d (i + 1)) [(a, mList (parts ++ [rVal (.ref d)]))]) := by
  have hi : i < pat.length := (List.getElem?_eq_some_iff.mp hc).1
  have h1 : 1 ≤ parts.length := by have := (List.getElem?_eq_some_iff.mp hl).1; (exact Nat.le_trans (Nat.le_add_left _ _) this)
  have hne : parts.isEmpty = false := by cases parts with | nil => simp at h1 | cons _ _ => rfl
  refine Xs.set (rS [42]) (tvars pat a d i) fe (Ev.sign .nm .nm hc (by (lia))).m ?_
  refine Xs.set (rNat (i + 1)) [("c", rS [42]), ("n", rNat pat.length), ("add", rApp a), ("res", rVal (.ref a)), ("pat", rS pat), ("STAR", rVal (.ref d))] fe (Ev.bin .nm (Ev.nat 1) on_add).m ?_
  refine Xs.if_in (tvars pat a d (i + 1)) [(a, mList (parts ++ [rVal (.ref d)]))] (EvT.m (.ext (.cmp .nm (Ev.lit (l := [42])) os_eq .bool) (by rfl))) (fun _ => ?_) (fun h => by cases h) Xs.nil
  refine Xs.if_in (b := true) (tvars pat a d (i + 1)) [(a, mList (parts ++ [rVal (.ref d)]))] ?_ (fun _ => ?_) (fun h => by cases h) Xs.nil
  · refine EvTM.thaw (x := "res") (by simp) (.head _) (.ext (.bop (.or_cons (.not (.lst (f := fun r : Rp => r) (xs := parts) .nm (by (exact Nat.lt_of_le_of_lt hz (by decide))))) fun _ => .one_or (.cmp (Ev.sub (T := "list") .nm (Ev.neg Ev.int) is_list slot_list_getitem.lookup (it_list_neg (f := fun r : Rp => r) (xs := parts) (by decide) (by (lia)) (by decide) ?_)) .nm (op_isnot_S (x := y)) .bool))) (by simp))
    have e : (-1 + (parts.length : Int)).toNat = parts.length - 1 := (congrArg Int.toNat (Int.add_comm _ _)).trans (Int.toNat_sub parts.length 1)
    rw [e]; exact hl
  · exact Xs.add (r := rVal (.ref d)) (by k_is) (Ev.m .nm) (by (exact Nat.le_trans hz (by decide))) (Xs.done (by k_asm) (.refl _))
end
end Mine
end

section
open PySem PySem.W PyProof.Rows PySem.Calls PySem.SeqAt
local macro_rules | `(tactic| k_is) => `(tactic| first | (with_reducible exact Mine.Has.here) | (with_reducible refine Mine.Has.there ?_; k_is))
local macro_rules | `(tactic| k_asm) => `(tactic| first | (with_reducible exact Mine.Keep.nil) | (with_reducible exact Mine.Sub.nil) | (with_reducible refine Mine.Keep.cons ?_ ?_ ?_; (k_is); (decide); (k_asm)) | (with_reducible refine Mine.Sub.cons ?_ ?_; (k_is); (k_asm)))
namespace Mine

/-- bytes by their numbers -/
noncomputable abbrev rB (l : List Nat) : Rp := rBytes (l.map UInt8.ofNat).toArray
theorem byteArr_nat (l : List Nat) : byteArr (intsOf l) = (l.map UInt8.ofNat).toArray := by
  unfold byteArr intsOf
  rw [List.map_map]
  congr 1
theorem ints_are {F : Fz} {vs : List Value} {xs : List Nat} (h : Are rNat F vs xs) : PyProof.Rows.IntsAre vs (intsOf xs) := by
  induction xs generalizing vs with
  | nil => rw [h.nil_inv]; exact .nil
  | cons x xs ih =>
    obtain ⟨v, vs', rfl, ⟨t, rfl⟩, h'⟩ := h.cons_inv
    exact .cons _ t (ih h')
section
variable {w : World} {B : Shared} {n : Nat} {env : Env} {vars : Vars} {scope : Scope} {N : Nat} {s₀ : Shared} {F₀ : Fz} {ms : Mss} {Q : Flow → Shared → Prop}
theorem Ext.kept {s : Shared} {F : Fz} {h' : Heap} (i : Inv B s) (f : F.In s.heap) (hk : ∀ b o, s.heap.get? b = some o → h'.get? b = some o) (hz : s.heap.objs.size ≤ h'.objs.size) (t : Tok) : Ext B s F { s with heap := h', toks := t } F :=
  ⟨i.sft (fun b o e _ => hk b o e) (fun b o e _ => hk b o e) hz rfl i.gens, hz, fun b o e _ => hk b o e, Fz.Le.refl _, fun _ _ e => .inl e, f.up fun a o e _ => hk a o e⟩
theorem Cal.bytes {xs : List Nat} (hx : ∀ x ∈ xs, x < 256) (hz : xs.length ≤ 1000) : Cal w B n (.type "bytes") [rList rNat xs] (rB xs) := .mk fun A s F vs hA i f are => by
  obtain ⟨v, vs', rfl, p, r⟩ := are.cons_inv
  rw [r.nil_inv]
  obtain ⟨a, us, k, rfl, g, l, q⟩ := rList.get p f
  refine W.size (call_bytes_ints l (ints_are q) (fun m hm => ?_) (by have := q.1; simp [sizeLine]; (lia)) hA.handled fun h' t k hk hz => ⟨F, Ext.kept i f hk hz _, t, ?_⟩)
  · obtain ⟨x, hx', rfl⟩ := List.mem_map.mp hm
    have := hx x hx'
    (lia)
  · rw [byteArr_nat]
theorem Cal.type_bytes {x : Array UInt8} : Cal w B n (.type "type") [rBytes x] (rVal (.type "bytes")) := .mk fun A s F vs hA i f are => by
  obtain ⟨v, vs', rfl, ⟨t, rfl⟩, r⟩ := are.cons_inv
  rw [r.nil_inv]
  exact call_type_of (typeIs_bytes s x t) (by decide) ⟨F, Ext.refl i f, rfl⟩
theorem Cal.type_bool {b : Bool} : Cal w B n (.type "type") [rBool b] (rVal (.type "bool")) := .mk fun A s F vs hA i f are => by
  obtain ⟨v, vs', rfl, e, r⟩ := are.cons_inv
  rw [r.nil_inv]
  cases (show v = .bool b from e)
  exact call_type_of (Tx := "bool") rfl (by decide) ⟨F, Ext.refl i f, rfl⟩
theorem op_is_type {a b : String} : Op2 w B n (compareOp .Is) (rVal (.type a)) (rVal (.type b)) (rBool (Value.type a == Value.type b)) := .mk fun A s F u v hA i fi e e' => by
  cases (show u = .type a from e); cases (show v = .type b from e')
  show W w A (isSame _ _ >>= fun b => (pure (Value.bool b) : Sem Value)) _ s
  refine wpAny_bind ?_
  show W w A (pure (Value.type a == Value.type b)) _ s
  exact wpAny_pure (wpAny_pure ⟨F, Ext.refl i fi, rfl⟩)
theorem op_is_none {v : Value} : Op2 w B n (compareOp .Is) (rVal v) rNone (rBool (v == .none)) := .mk fun A s F u x hA i fi e e' => by
  cases (show u = v from e); cases (show x = .none from e')
  exact is_none ⟨F, Ext.refl i fi, rfl⟩
theorem op_isnot_none {v : Value} : Op2 w B n (compareOp .IsNot) (rVal v) rNone (rBool (!(v == .none))) := .mk fun A s F u x hA i fi e e' => by
  cases (show u = v from e); cases (show x = .none from e')
  exact isNot_none ⟨F, Ext.refl i fi, rfl⟩
theorem leaves {r : Rp} {s : Shared} {F : Fz} {f : Flow} {s' : Shared} (h : Back B s F r f s') : f ≠ .next ∧ Back B s F r f s' := ⟨(by obtain ⟨v, e, _⟩ := h; rw [e]; intro e; cases e), h⟩
theorem buffer_cal {x : Array UInt8} (T : Tx B) (hn : n ≤ 50) : Cal w B n (.ref 61) [rBytes x] (rBytes x) :=
  Cal.def1 (x := "data") T.buf T.lim (by (exact Nat.le_trans hn (by decide))) (fun v s cd pm doc ct an => .of_eq rfl) fun s F env fe =>
    Xs.set (rVal (.type "bytes")) [("data", rBytes x)] fe (Ev.m (Ev.cT fe T.type_ (.cons .nm .nil) Cal.type_bytes)) (Xs.if_out (EvT.m (.ext (.cmp .nm (Ev.bb fe T.bytes_) op_is_type .bool) (by rfl))) (Xs.imp (Xs.ret .nm) fun _ _ => leaves))
theorem truth_cal (T : Tx B) (hn : n ≤ 50) : Cal w B n (.ref 68) [rBool false] (rBool false) :=
  Cal.def1 (x := "x") T.tru T.lim (by (exact Nat.le_trans hn (by decide))) (fun v s cd pm doc ct an => .of_eq rfl) fun s F env fe =>
    Xs.set (rVal (.type "bool")) [("x", rBool false)] fe (Ev.m (Ev.cT fe T.type_ (.cons .nm .nil) Cal.type_bool)) (Xs.if_out (EvT.m (.ext (.bop (.or_cons (.cmp .nm .none op_is_none .bool) fun _ => .or_cons (a := true) (b := false) (.ext (.cmp .nm (Ev.bb fe T.bool_) op_is_type .bool) (by rfl)) fun h => by cases h)) (by rfl)))
      (Xs.imp (Xs.ret (Ev.ite (b := false) (EvT.of .nm) (fun h => by cases h) fun _ => Ev.bool)) fun _ _ => leaves))
end
end Mine
end

section
open PySem PySem.W PyProof.Rows
namespace Mine
theorem dig (n d k : Nat) (h : d < 64) : (n * 64 + d) / 64 ^ (k + 1) = n / 64 ^ k := by
  rw [Nat.pow_succ', ← Nat.div_div_eq_div_mul]
  congr 1
  (lia)
theorem dig0 (n d : Nat) (h : d < 64) : (n * 64 + d) / 64 ^ 0 % 64 = d := by
  rw [Nat.pow_zero, Nat.div_one]
  (lia)
theorem six3 {a b c d W : Nat} (ha : a < 64) (hb : b < 64) (hc : c < 64) (hd : d < 64) (e : W = ((a * 64 + b) * 64 + c) * 64 + d) : [W / 64 ^ 3 % 64, W / 64 ^ 2 % 64, W / 64 ^ 1 % 64, W / 64 ^ 0 % 64] = [a, b, c, d] := by
  subst e
  rw [dig _ _ _ hd, dig _ _ _ hd, dig _ _ _ hd, dig _ _ _ hc, dig _ _ _ hc, dig _ _ _ hb, dig0 _ _ hd, dig0 _ _ hc, dig0 _ _ hb, Nat.pow_zero, Nat.div_one, Nat.mod_eq_of_lt ha]
theorem six2 {a b c W : Nat} (ha : a < 64) (hb : b < 64) (hc : c < 64) (e : W = (a * 64 + b) * 64 + c) : [W / 64 ^ 2 % 64, W / 64 ^ 1 % 64, W / 64 ^ 0 % 64] = [a, b, c] := by
  subst e
  rw [dig _ _ _ hc, dig _ _ _ hc, dig _ _ _ hb, dig0 _ _ hc, dig0 _ _ hb, Nat.pow_zero, Nat.div_one, Nat.mod_eq_of_lt ha]
theorem six1 {a b W : Nat} (ha : a < 64) (hb : b < 64) (e : W = a * 64 + b) : [W / 64 ^ 1 % 64, W / 64 ^ 0 % 64] = [a, b] := by
  subst e
  rw [dig _ _ _ hb, dig0 _ _ hb, Nat.pow_zero, Nat.div_one, Nat.mod_eq_of_lt ha]
theorem by4 {x : Nat} (h : x < 256) : x / 4 < 64 := Nat.div_lt_of_lt_mul h
theorem by4r {x e : Nat} (h : e < 16) : x % 4 * 16 + e < 64 := by (lia)
theorem by16r {x e : Nat} (h : e < 4) : x % 16 * 4 + e < 64 := by (lia)
theorem lt_all2 {a b : Nat} (ha : a < 64) (hb : b < 64) : ∀ k ∈ [a, b], k < 64 := fun k hk => by
  rcases List.mem_cons.mp hk with rfl | hk
  · exact ha
  · rw [List.mem_singleton.mp hk]; exact hb
theorem lt_cons {a : Nat} {l : List Nat} (ha : a < 64) (hl : ∀ k ∈ l, k < 64) : ∀ k ∈ a :: l, k < 64 := fun k hk => by
  rcases List.mem_cons.mp hk with rfl | hk
  · exact ha
  · exact hl k hk
theorem wide1 {x : Nat} : wide [x] = x / 4 * 64 + x % 4 * 16 := by
  show (0 * 256 + x) * 16 = _
  (lia)
theorem wide2 {x y : Nat} : wide [x, y] = (x / 4 * 64 + (x % 4 * 16 + y / 16)) * 64 + y % 16 * 4 := by
  show ((0 * 256 + x) * 256 + y) * 4 = _
  (lia)
theorem wide3 {x y z : Nat} : wide [x, y, z] = ((x / 4 * 64 + (x % 4 * 16 + y / 16)) * 64 + (y % 16 * 4 + z / 64)) * 64 + z % 64 := by
  show (((0 * 256 + x) * 256 + y) * 256 + z) * 1 = _
  (lia)
theorem un1 {x : Nat} : sixes [x] = [wide [x] / 64 ^ 1 % 64, wide [x] / 64 ^ 0 % 64] := by kernel_rfl
theorem un2 {x y : Nat} : sixes [x, y] = [wide [x, y] / 64 ^ 2 % 64, wide [x, y] / 64 ^ 1 % 64, wide [x, y] / 64 ^ 0 % 64] := by kernel_rfl
theorem un3 {x y z : Nat} : sixes [x, y, z] = [wide [x, y, z] / 64 ^ 3 % 64, wide [x, y, z] / 64 ^ 2 % 64, wide [x, y, z] / 64 ^ 1 % 64, wide [x, y, z] / 64 ^ 0 % 64] := by kernel_rfl
theorem by4s (x : Nat) : x % 4 * 16 < 64 := by4r (x := x) (e := 0) (by decide)
theorem by16s (y : Nat) : y % 16 * 4 < 64 := by16r (x := y) (e := 0) (by decide)
theorem sixes_1 {x : Nat} (h : x < 256) : sixes [x] = [x / 4, x % 4 * 16] := un1.trans (six1 (by4 h) (by4s x) wide1)
theorem sixes_2 {x y : Nat} (h : x < 256) (h2 : y < 256) : sixes [x, y] = [x / 4, x % 4 * 16 + y / 16, y % 16 * 4] := un2.trans (six2 (by4 h) (by4r (Nat.div_lt_of_lt_mul h2)) (by16s y) wide2)
theorem sixes_3 {x y z : Nat} (h : x < 256) (h2 : y < 256) (h3 : z < 256) : sixes [x, y, z] = [x / 4, x % 4 * 16 + y / 16, y % 16 * 4 + z / 64, z % 64] :=
  un3.trans (six3 (by4 h) (by4r (Nat.div_lt_of_lt_mul h2)) (by16r (Nat.div_lt_of_lt_mul h3)) (Nat.mod_lt _ (by decide)) wide3)
end Mine
end

section
open PySem PySem.W PyProof.Rows PySem.Calls PySem.SeqAt
local macro_rules | `(tactic| k_is) => `(tactic| first | (with_reducible exact Mine.Has.here) | (with_reducible refine Mine.Has.there ?_; k_is))
local macro_rules | `(tactic| k_asm) => `(tactic| first | (with_reducible exact Mine.Keep.nil) | (with_reducible exact Mine.Sub.nil) | (with_reducible refine Mine.Keep.cons ?_ ?_ ?_; (k_is); (decide); (k_asm)) | (with_reducible refine Mine.Sub.cons ?_ ?_; (k_is); (k_asm)))
namespace Mine

theorem and_shift {k b : Nat} (hb : b < 256) : (k * 256) &&& b = 0 := by
  apply Nat.eq_of_testBit_eq
  intro i
  rw [Nat.testBit_and, Nat.zero_testBit]
  rcases Nat.lt_or_ge i 8 with h | h
  · have : (k * 256).testBit i = false := by
      rw [show k * 256 = k <<< 8 from by rw [Nat.shiftLeft_eq], Nat.testBit_shiftLeft]
      simp; (lia)
    rw [this]; rfl
  · have : b.testBit i = false := Nat.testBit_lt_two_pow (Nat.lt_of_lt_of_le hb (Nat.pow_le_pow_right (n := 2) (by decide) h))
    rw [this, Bool.and_false]
section
variable {w : World} {B : Shared} {n : Nat} {env : Env} {vars : Vars} {a b : Nat}
theorem on_shl (h : a < 2 ^ 63) (hb : b ≤ 1000000) : Op2 w B n (binaryOp .LShift) (rNat a) (rNat b) (rNat (a * 2 ^ b)) := (op_shl (by (lia)) (by (lia)) (by (exact Nat.le_trans h (Nat.le_add_right _ _)))).eq (by simp [rNat])
theorem on_shr : Op2 w B n (binaryOp .RShift) (rNat a) (rNat b) (rNat (a / 2 ^ b)) := (op_shr (by (lia))).eq (by rw [Int.fdiv_eq_ediv_of_nonneg _ (by exact_mod_cast Nat.zero_le (2 ^ b))]; simp [rNat])
theorem on_and {k : Nat} : Op2 w B n (binaryOp .BitAnd) (rNat a) (rNat (2 ^ k - 1)) (rNat (a % 2 ^ k)) := op_and.eq (by rw [bitAnd_pp (by (lia)) (by (lia))]; simp only [Int.toNat_natCast]; rw [Nat.and_two_pow_sub_one_eq_mod])
theorem on_or (hb : b < 256) : Op2 w B n (binaryOp .BitOr) (rNat (a * 256)) (rNat b) (rNat (a * 256 + b)) := op_or.eq (by
  rw [bitOr_and, bitAnd_pp (by (lia)) (by (lia))]
  simp only [Int.toNat_natCast]
  rw [and_shift hb]
  show rInt _ = rInt _
  congr 1 <;> (first | lia | omega))
end
noncomputable def tabB : List UInt8 := "ABCDEFGHIJKLMNOPQRSTUVWXYZabcdefghijklmnopqrstuvwxyz0123456789+/".toList.map fun c => UInt8.ofNat c.toNat
theorem tabB_get : ∀ k, k < 64 → (tabB.getD k 0).toNat = sg k := by decide +kernel
theorem tab_len : tabB.length = 64 := by decide +kernel
section
variable {w : World} {B : Shared} {n : Nat} {env : Env} {vars : Vars} {scope : Scope} {N : Nat}
theorem it_tab {k : Nat} (hk : k < 64) : Op2 w B n getItem (rBytes tabB.toArray) (rNat k) (rNat (sg k)) := .mk fun A s F u v hA i fi ⟨t, e⟩ ⟨t', e'⟩ => by
  subst e; subst e'
  refine PySem.W.getItem_bytes (l := tabB) (by rw [tab_len]; decide) (by (lia)) (by rw [tab_len]; (lia)) ⟨F, Ext.tok i fi _, s.toks, ?_⟩
  rw [Int.toNat_natCast, tabB_get k hk]
/-- _B64[e] -/
theorem Ev.tabAt {e : Expr} {p q : Pos} {k : Nat} (T : Tx B) (fe : FE scope N env) (h : Ev w B n env vars e (rNat k)) (hk : k < 64) (hn : scope.names.lookup ("_B64" : Str) = some .globalImplicit := by decide +kernel) (hs : ∀ o i, ∃ ops, subscripted e false o i = operate ops (getItem o i) := by exact fun o i => ⟨_, rfl⟩) : Ev w B n env vars (.Subscript (.Name "_B64" p) e q) (rNat (sg k)) := by
  obtain ⟨t, G⟩ := T.b64tab
  exact Ev.sub (T := "bytes") (r₁ := rBytes tabB.toArray) (Ev.imp (Ev.gg fe G hn) fun F v e => ⟨t, e⟩) h is_bytes PySem.W.FB.slot_bytes_getitem.lookup (it_tab hk) hs
end
noncomputable def lcAt (xs : List Nat) (i : Nat) : Nat := num (xs.take i) % 65536
noncomputable def emits (t lc : Nat) : List Nat := (List.range (t / 6)).map fun j => sg (lc / 2 ^ (t - 6 * (j + 1)) % 64)
noncomputable def outs (xs : List Nat) : Nat → List Nat
  | 0 => []
  | i + 1 => outs xs i ++ emits (8 * i % 6 + 8) (lcAt xs (i + 1))
noncomputable def padded (xs : List Nat) : List Nat := outs xs xs.length ++ (if 8 * xs.length % 6 = 2 then [sg (lcAt xs xs.length % 4 * 16), 61, 61] else if 8 * xs.length % 6 = 4 then [sg (lcAt xs xs.length % 16 * 4), 61] else [])
theorem pd1 {a : Nat} (ha : a < 256) : a % 65536 / 4 % 64 = a / 4 ∧ a % 65536 % 4 * 16 = a % 4 * 16 := by
  rw [Nat.mod_eq_of_lt (show a < 65536 by (exact Nat.le_trans ha (by decide))), Nat.mod_eq_of_lt (by4 ha)]
  exact ⟨rfl, rfl⟩
theorem four_split (a : Nat) : a * 16 = a % 4 * 16 + a / 4 * 64 := by
  have h := congrArg (· * 16) (Nat.mod_add_div a 4)
  rw [Nat.add_mul, Nat.mul_comm 4, Nat.mul_assoc] at h
  exact h.symm
theorem pd2 {a b : Nat} (ha : a < 256) (hb : b < 256) : (a * 256 + b) % 65536 / 16 % 64 = a % 4 * 16 + b / 16 ∧ (a * 256 + b) % 65536 % 16 * 4 = b % 16 * 4 := by
  have hw : a * 256 + b < 65536 := Nat.lt_of_lt_of_le (Nat.add_lt_add_left hb _) (Nat.le_trans (Nat.le_of_eq (Nat.succ_mul a 256).symm) (Nat.mul_le_mul_right 256 ha))
  have e : a * 256 + b = b + a * 16 * 16 := by rw [Nat.mul_assoc, Nat.add_comm]
  rw [Nat.mod_eq_of_lt hw, e, Nat.add_mul_div_right _ _ (by decide), Nat.add_mul_mod_self_right, four_split, ← Nat.add_assoc, Nat.add_mul_mod_self_right, Nat.add_comm (b / 16)]
  have h1 : b / 16 < 16 := Nat.div_lt_of_lt_mul hb
  exact ⟨Nat.mod_eq_of_lt (Nat.lt_of_lt_of_le (Nat.add_lt_add_left h1 _) (Nat.le_trans (Nat.le_of_eq (Nat.succ_mul (a % 4) 16).symm) (Nat.mul_le_mul_right 16 (Nat.mod_lt a (by decide))))), rfl⟩
theorem sixteen_split (b : Nat) : b * 4 = b % 16 * 4 + b / 16 * 64 := by
  have h := congrArg (· * 4) (Nat.mod_add_div b 16)
  rw [Nat.add_mul, Nat.mul_comm 16, Nat.mul_assoc] at h
  exact h.symm
theorem pd3 {a b c : Nat} (hb : b < 256) (hc : c < 256) : ((a * 256 + b) * 256 + c) % 65536 / 64 % 64 = b % 16 * 4 + c / 64 ∧ ((a * 256 + b) * 256 + c) % 65536 % 64 = c % 64 := by
  have hw : b * 256 + c < 65536 := Nat.lt_of_lt_of_le (Nat.add_lt_add_left hc _) (Nat.le_trans (Nat.le_of_eq (Nat.succ_mul b 256).symm) (Nat.mul_le_mul_right 256 hb))
  have e0 : (a * 256 + b) * 256 + c = b * 256 + c + a * 65536 := by rw [Nat.add_mul, Nat.mul_assoc, Nat.add_comm (a * _), Nat.add_right_comm]
  have e : b * 256 + c = c + b * 4 * 64 := by rw [Nat.mul_assoc, Nat.add_comm]
  rw [e0, Nat.add_mul_mod_self_right, Nat.mod_eq_of_lt hw, e, Nat.add_mul_div_right _ _ (by decide), Nat.add_mul_mod_self_right, sixteen_split, ← Nat.add_assoc, Nat.add_mul_mod_self_right, Nat.add_comm (c / 64)]
  have h1 : c / 64 < 4 := Nat.div_lt_of_lt_mul hc
  exact ⟨Nat.mod_eq_of_lt (Nat.lt_of_lt_of_le (Nat.add_lt_add_left h1 _) (Nat.le_trans (Nat.le_of_eq (Nat.succ_mul (b % 16) 4).symm) (Nat.mul_le_mul_right 4 (Nat.mod_lt b (by decide))))), rfl⟩
theorem padded_eq {xs : List Nat} (h : Row xs) : padded xs = writ (sixes xs) := by
  obtain ⟨h1, h2, h3⟩ := h
  match xs, h1, h2, h3 with
  | [a], _, _, h =>
    have ha := h a (.head _)
    rw [sixes_1 ha, show padded [a] = [sg ((0 * 256 + a) % 65536 / 4 % 64), sg ((0 * 256 + a) % 65536 % 4 * 16), 61, 61] by kernel_rfl, Nat.zero_mul, Nat.zero_add, (pd1 ha).1, (pd1 ha).2]
    kernel_rfl
  | [a, b], _, _, h =>
    have ha := h a (.head _)
    have hb := h b (.tail _ (.head _))
    rw [sixes_2 ha hb, show padded [a, b] = [sg ((0 * 256 + a) % 65536 / 4 % 64), sg (((0 * 256 + a) * 256 + b) % 65536 / 16 % 64), sg (((0 * 256 + a) * 256 + b) % 65536 % 16 * 4), 61] by kernel_rfl, Nat.zero_mul, Nat.zero_add, (pd1 ha).1, (pd2 ha hb).1, (pd2 ha hb).2]
    kernel_rfl
  | [a, b, c], _, _, h =>
    have ha := h a (.head _)
    have hb := h b (.tail _ (.head _))
    have hc := h c (.tail _ (.tail _ (.head _)))
    rw [sixes_3 ha hb hc, show padded [a, b, c] = [sg ((0 * 256 + a) % 65536 / 4 % 64), sg (((0 * 256 + a) * 256 + b) % 65536 / 16 % 64), sg ((((0 * 256 + a) * 256 + b) * 256 + c) % 65536 / 64 % 64), sg ((((0 * 256 + a) * 256 + b) * 256 + c) % 65536 / 1 % 64)] by kernel_rfl, Nat.zero_mul, Nat.zero_add, Nat.div_one, (pd1 ha).1, (pd2 ha hb).1, (pd3 hb hc).1, (pd3 (a := a) hb hc).2]
    kernel_rfl
end Mine
end

section
open PySem PySem.W PyProof.Rows PySem.Calls PySem.SeqAt
local macro_rules | `(tactic| k_is) => `(tactic| first | (with_reducible exact Mine.Has.here) | (with_reducible refine Mine.Has.there ?_; k_is))
local macro_rules | `(tactic| k_asm) => `(tactic| first | (with_reducible exact Mine.Keep.nil) | (with_reducible exact Mine.Sub.nil) | (with_reducible refine Mine.Keep.cons ?_ ?_ ?_; (k_is); (decide); (k_asm)) | (with_reducible refine Mine.Sub.cons ?_ ?_; (k_is); (k_asm)))
namespace Mine

section
variable {w : World} {B : Shared} {n : Nat} {env : Env} {vars : Vars} {scope : Scope} {N : Nat} {s₀ : Shared} {F₀ : Fz} {ms : Mss} {Q : Flow → Shared → Prop}
theorem b2a_body {s : Shared} {F : Fz} {xs : List Nat} (T : Tx B) (hn : n ≤ 40) (hx : Row xs) (fe : FE (scopeAt 10) s.heap.objs.size env) :
    Xs w B s F n env [("data", rB xs), ("newline", rBool false)] [] (bodyAt 10) (Back B s F (rB (padded xs))) := by
  have h3l := hx.2.1
  refine Xs.set (rB xs) [("newline", rBool false)] fe (Ev.m (Ev.cF fe T.g_buf T.buf (.cons .nm .nil) (buffer_cal T (by (exact Nat.le_trans hn (by decide)))))) ?_
  refine Xs.set (rBool false) [("bin_data", rB xs)] fe (Ev.m (Ev.cF fe T.g_tru T.tru (.cons .nm .nil) (truth_cal T (by (exact Nat.le_trans hn (by decide)))))) ?_
  refine Xs.setL (rs := []) [("newline", rBool false), ("bin_data", rB xs)] fe (EvN.list .nil) fun a => ?_
  refine Xs.set (rNat 0) [("out", rVal (.ref a)), ("newline", rBool false), ("bin_data", rB xs)] fe (Ev.nat 0).m ?_
  refine Xs.set (rNat 0) [("leftbits", rNat 0), ("out", rVal (.ref a)), ("newline", rBool false), ("bin_data", rB xs)] fe (Ev.nat 0).m ?_
  have itb : Iterable w B n (rB xs) (xs.map fun x => rNat (UInt8.ofNat x).toNat) := by
    have := Iterable.bytes (w := w) (B := B) (n := n) (b := (xs.map UInt8.ofNat).toArray)
    rw [show (xs.map UInt8.ofNat).toArray.toList = xs.map UInt8.ofNat from rfl, List.map_map] at this
    exact this
  refine Xs.each xs (fun x => rNat (UInt8.ofNat x).toNat) (fun i => [("leftchar", rNat (lcAt xs i)), ("leftbits", rNat (8 * i % 6)), ("out", rVal (.ref a)), ("newline", rBool false)]) (fun i => [(a, mList ((outs xs i).map rNat))]) fe rfl (Ev.m .nm) itb (fun F₁ i x q hxi => ?_) ?_ (by
    exact .cons .here (.cons (.there .here) (.cons (.there (.there .here)) (.cons (.there (.there (.there .here))) .nil))))
  · have hi : i < xs.length := (List.getElem?_eq_some_iff.mp hxi).1
    have hx256 : x < 256 := hx.2.2 x (List.mem_of_getElem? hxi)
    have e8 : (UInt8.ofNat x).toNat = x := by simp [UInt8.toNat_ofNat]; (assumption)
    rw [e8]
    have hlc : lcAt xs i < 65536 := Nat.mod_lt _ (by decide)
    have elc : (lcAt xs i * 256 + x) % 65536 = lcAt xs (i + 1) := by
      unfold lcAt
      have : num (xs.take (i + 1)) = num (xs.take i) * 256 + x := by
        rw [List.take_add_one, hxi]; exact num_snoc _ _
      rw [this, Nat.add_mod, Nat.mul_mod, Nat.mod_mod, ← Nat.mul_mod, ← Nat.add_mod]
    have lenO : (outs xs i).length ≤ 100 := by
      have : ∀ j, (outs xs j).length ≤ 3 * j := by
        intro j
        induction j with
        | zero => simp [outs]
        | succ j ih =>
          simp only [outs, List.length_append, emits, List.length_map, List.length_range]
          (omega)
      have := this i
      (omega)
    refine Xs.set (rNat (lcAt xs (i + 1))) [("leftbits", rNat (8 * i % 6)), ("out", rVal (.ref a)), ("newline", rBool false)] fe (Ev.m (Ev.eq (Ev.bin (Ev.bin (Ev.eq (Ev.bin .nm (Ev.nat 8) (on_shl (by (exact Nat.lt_of_lt_of_le hlc (by decide))) (by decide))) (show rNat (lcAt xs i * 2 ^ 8) = rNat (lcAt xs i * 256) from rfl)) .nm (on_or hx256)) (Ev.nat 65535) (on_and (k := 16))) (by rw [← elc]))) ?_
    refine Xs.set (rNat (8 * i % 6 + 8)) [("leftchar", rNat (lcAt xs (i + 1))), ("out", rVal (.ref a)), ("newline", rBool false)] fe (Ev.m (Ev.bin .nm (Ev.nat 8) on_add)) ?_
    have ht : 8 * i % 6 + 8 < 14 := Nat.add_lt_add_right (Nat.mod_lt _ (by decide)) 8
    have ht2 : (8 * i % 6 + 8) % 2 = 0 := by rw [Nat.add_mod, Nat.mod_mod_of_dvd _ (show 2 ∣ 6 by decide), Nat.mul_mod, show 8 % 2 = 0 from rfl, Nat.zero_mul]
    generalize htt : 8 * i % 6 + 8 = t at ht ht2
    have eT : 8 * (i + 1) % 6 = t - 6 * (t / 6) := by rw [← Nat.mod_def, ← htt, Nat.mod_add_mod, Nat.mul_succ]
    refine Xs.while_ (fun j => [("leftbits", rNat (t - 6 * min j (t / 6))), ("leftchar", rNat (lcAt xs (i + 1))), ("out", rVal (.ref a)), ("newline", rBool false)]) (fun j => [q, (a, mList ((outs xs i ++ (emits t (lcAt xs (i + 1))).take j).map rNat))]) (fun j => t / 6 - j) 0 (by simp) (by simp) (fun j => decide (j < t / 6)) (· + 1) (fun j => ?_) (fun j hj => ?_) (fun j hj => ?_)
    · exact EvT.m (.ext (.cmp .nm (Ev.nat 6) cn_ge .bool) (by
        by_cases h : j < t / 6
        · rw [decide_eq_true h, decide_eq_true_eq]
          rw [Nat.min_eq_left (Nat.le_of_lt h)]
          exact Nat.le_sub_of_add_le (Nat.le_trans (Nat.le_of_eq ((Nat.add_comm 6 (6 * j)).trans ((Nat.mul_succ 6 j).symm.trans (Nat.mul_comm 6 (j + 1))))) ((Nat.le_div_iff_mul_le (by decide)).mp h))
        · rw [decide_eq_false h, decide_eq_false_iff_not]
          have : min j (t / 6) = t / 6 := by (omega)
          rw [this]; (omega)))
    · have hj : j < t / 6 := by simpa using hj
      have em : min j (t / 6) = j := Nat.min_eq_left (Nat.le_of_lt hj)
      have em' : min (j + 1) (t / 6) = j + 1 := Nat.min_eq_left hj
      rw [em, em']
      refine Xs.imp (Q := fun fl s' => (fl = .next ∨ fl = .cont) ∧ At B s F₁ env [("leftbits", rNat (t - 6 * (j + 1))), ("leftchar", rNat (lcAt xs (i + 1))), ("out", rVal (.ref a)), ("newline", rBool false)] [q, (a, mList ((outs xs i ++ (emits t (lcAt xs (i + 1))).take (j + 1)).map rNat))] s') ?_ fun f s' h => .inl ⟨h.1, less_lt hj, h.2⟩
      refine Xs.swap (Xs.app (r := rNat (sg (lcAt xs (i + 1) / 2 ^ (t - 6 * (j + 1)) % 64))) (by k_is) (Ev.m (Ev.tabAt T fe (Ev.bin (Ev.eq (Ev.bin .nm (Ev.bin .nm (Ev.nat 6) (on_sub (by (omega)))) on_shr) (by rw [show t - 6 * j - 6 = t - 6 * (j + 1) by (rfl)])) (Ev.nat 63) (on_and (k := 6))) (Nat.mod_lt _ (by decide)))) (by simp; (omega)) ?_)
      have e3 : (outs xs i ++ (emits t (lcAt xs (i + 1))).take j).map rNat ++ [rNat (sg (lcAt xs (i + 1) / 2 ^ (t - 6 * (j + 1)) % 64))] = (outs xs i ++ (emits t (lcAt xs (i + 1))).take (j + 1)).map rNat := by
        rw [List.take_add_one]
        have : (emits t (lcAt xs (i + 1)))[j]? = some (sg (lcAt xs (i + 1) / 2 ^ (t - 6 * (j + 1)) % 64)) := by
          unfold emits
          rw [List.getElem?_map, List.getElem?_range hj]; rfl
        rw [this]; simp
      rw [e3]
      exact Xs.set (rNat (t - 6 * (j + 1))) [("leftchar", rNat (lcAt xs (i + 1))), ("out", rVal (.ref a)), ("newline", rBool false)] fe (Ev.m (Ev.eq (Ev.bin .nm (Ev.nat 6) (on_sub (by (omega)))) (by congr 1 <;> (first | lia | omega)))) (Xs.nextP (by k_asm) (.swap ..))
    · have hj : t / 6 ≤ j := by simpa using hj
      have em : min j (t / 6) = t / 6 := by (omega)
      have et : (emits t (lcAt xs (i + 1))).take j = emits t (lcAt xs (i + 1)) := List.take_of_length_le (by simp [emits]; (assumption))
      rw [em, et, eT]
      have eo : outs xs i ++ emits t (lcAt xs (i + 1)) = outs xs (i + 1) := by rw [← htt]; rfl
      rw [eo]
      exact Xs.nextP (by k_asm) (.refl _)
  have lenO : ∀ j, (outs xs j).length ≤ 3 * j := by
    intro j
    induction j with
    | zero => simp [outs]
    | succ j ih =>
      simp only [outs, List.length_append, emits, List.length_map, List.length_range]
      (omega)
  have hl3 := lenO xs.length
  have hlc : lcAt xs xs.length < 65536 := Nat.mod_lt _ (by decide)
  have hsg : ∀ c, sg c < 256 := by
    intro c
    rcases Nat.lt_or_ge c 64 with h | h
    · have : ∀ c, c < 64 → sg c < 256 := by decide +kernel
      exact this c h
    · unfold sg
      rw [List.getD_eq_getElem?_getD, List.getElem?_eq_none (by rw [al_len]; exact h)]; decide
  have tail : ∀ L : List Nat, L.length ≤ 100 → (∀ x ∈ L, x < 256) → Xs w B s F n env [("out", rVal (.ref a)), ("newline", rBool false)] [(a, mList (L.map rNat))] (match bodyAt 10 with | [_, _, _, _, _, _, _, c, d] => [c, d] | _ => []) (Back B s F (rB L)) := fun L hL h256 => by
    refine Xs.if_no (EvT.m (.of .nm)) ?_
    exact Xs.retM (EvM.thaw (x := "out") (by simp) (.head _) (Ev.cT fe T.bytes_ (.cons (Ev.ofL .nm rfl) .nil) (Cal.bytes h256 (by (exact Nat.le_trans hL (by decide))))) flat.bytes)
  have h256o : ∀ j, ∀ x ∈ outs xs j, x < 256 := by
    intro j
    induction j with
    | zero => intro x h; cases h
    | succ j ih =>
      intro x h
      rcases List.mem_append.mp h with h | h
      · exact ih x h
      · obtain ⟨k, _, rfl⟩ := List.mem_map.mp h
        exact hsg _
  by_cases c2 : 8 * xs.length % 6 = 2
  · have e : padded xs = outs xs xs.length ++ [sg (lcAt xs xs.length % 4 * 16), 61, 61] := by unfold padded; rw [if_pos c2]
    rw [e]
    refine Xs.if_in (b := true) [("out", rVal (.ref a)), ("newline", rBool false)] [(a, mList ((outs xs xs.length ++ [sg (lcAt xs xs.length % 4 * 16), 61, 61]).map rNat))] (EvT.m (.ext (.cmp .nm (Ev.nat 2) cn_eq .bool) (by simp [c2]))) (fun _ => ?_) (fun h => by cases h) (tail _ (by simp; (omega)) (fun x h => ?_))
    · refine Xs.app (r := rNat (sg (lcAt xs xs.length % 4 * 16))) (by k_is) (Ev.m (Ev.tabAt T fe (Ev.eq (Ev.bin (Ev.bin .nm (Ev.nat 3) (on_and (k := 2))) (Ev.nat 4) (on_shl (by (omega)) (by decide))) rfl) (by (omega)))) (by simp; (omega)) ?_
      refine Xs.app (r := rNat 61) (by k_is) (Ev.nat 61).m (by simp; (omega)) ?_
      refine Xs.app (r := rNat 61) (by k_is) (Ev.nat 61).m (by simp; (omega)) ?_
      refine Xs.done (by k_asm) ?_
      rw [List.map_append, List.append_assoc, List.append_assoc]; exact .refl _
    · rcases List.mem_append.mp h with h | h
      · exact h256o _ x h
      · simp at h; rcases h with rfl | rfl
        · exact hsg _
        · decide
  · by_cases c4 : 8 * xs.length % 6 = 4
    · have e : padded xs = outs xs xs.length ++ [sg (lcAt xs xs.length % 16 * 4), 61] := by unfold padded; rw [if_neg c2, if_pos c4]
      rw [e]
      refine Xs.if_in (b := false) [("out", rVal (.ref a)), ("newline", rBool false)] [(a, mList ((outs xs xs.length ++ [sg (lcAt xs xs.length % 16 * 4), 61]).map rNat))] (EvT.m (.ext (.cmp .nm (Ev.nat 2) cn_eq .bool) (by simp [c2]))) (fun h => by cases h) (fun _ => ?_) (tail _ (by simp; (omega)) (fun x h => ?_))
      · refine Xs.if_in (b := true) [("out", rVal (.ref a)), ("newline", rBool false)] [(a, mList ((outs xs xs.length ++ [sg (lcAt xs xs.length % 16 * 4), 61]).map rNat))] (EvT.m (.ext (.cmp .nm (Ev.nat 4) cn_eq .bool) (by simp [c4]))) (fun _ => ?_) (fun h => by cases h) Xs.nil
        refine Xs.app (r := rNat (sg (lcAt xs xs.length % 16 * 4))) (by k_is) (Ev.m (Ev.tabAt T fe (Ev.eq (Ev.bin (Ev.bin .nm (Ev.nat 15) (on_and (k := 4))) (Ev.nat 2) (on_shl (by (omega)) (by decide))) rfl) (by (omega)))) (by simp; (omega)) ?_
        refine Xs.app (r := rNat 61) (by k_is) (Ev.nat 61).m (by simp; (omega)) ?_
        refine Xs.done (by k_asm) ?_
        rw [List.map_append, List.append_assoc]; exact .refl _
      · rcases List.mem_append.mp h with h | h
        · exact h256o _ x h
        · simp at h; rcases h with rfl | rfl
          · exact hsg _
          · decide
    · have e : padded xs = outs xs xs.length ++ [] := by unfold padded; rw [if_neg c2, if_neg c4]
      rw [e]
      refine Xs.if_in (b := false) [("out", rVal (.ref a)), ("newline", rBool false)] [(a, mList ((outs xs xs.length ++ []).map rNat))] (EvT.m (.ext (.cmp .nm (Ev.nat 2) cn_eq .bool) (by simp [c2]))) (fun h => by cases h) (fun _ => ?_) (tail _ (by simp; (omega)) (fun x h => ?_))
      · refine Xs.if_in (b := false) [("out", rVal (.ref a)), ("newline", rBool false)] [(a, mList ((outs xs xs.length ++ []).map rNat))] (EvT.m (.ext (.cmp .nm (Ev.nat 4) cn_eq .bool) (by simp [c4]))) (fun h => by cases h) (fun _ => ?_) Xs.nil
        refine Xs.done (by k_asm) ?_
        rw [List.append_nil]
      · rw [List.append_nil] at h; exact h256o _ x h
end
end Mine
end

section
open PySem PySem.W PyProof.Rows PySem.Calls PySem.SeqAt
local macro_rules | `(tactic| k_is) => `(tactic| first | (with_reducible exact Mine.Has.here) | (with_reducible refine Mine.Has.there ?_; k_is))
local macro_rules | `(tactic| k_asm) => `(tactic| first | (with_reducible exact Mine.Keep.nil) | (with_reducible exact Mine.Sub.nil) | (with_reducible refine Mine.Keep.cons ?_ ?_ ?_; (k_is); (decide); (k_asm)) | (with_reducible refine Mine.Sub.cons ?_ ?_; (k_is); (k_asm)))
namespace Mine

section
variable {w : World} {B : Shared} {n : Nat} {env : Env} {vars : Vars} {scope : Scope} {N : Nat} {s₀ : Shared} {F₀ : Fz} {ms : Mss} {Q : Flow → Shared → Prop}
theorem b2a_kw {xs : List Nat} {A : Around} {s : Shared} {F : Fz} {v : Value} (T : Tx B) (hn : n ≤ 39) (hx : Row xs) (hA : Le A n) (i : Inv B s) (f : F.In s.heap) (p : (rB xs).p F v) : W w A (call (.ref 76) [v] [("newline", .bool false)]) (Gives B s F (rB (writ (sixes xs)))) s := by
  rw [← padded_eq hx]
  refine call_top hA (by (exact Nat.le_trans hn (by decide))) i f T.lim T.b2a (binds := [("data", v), ("newline", .bool false)]) (fun cd pm doc ct an => .of_eq rfl) (by simp; decide) (fun q hq => ?_) rfl rfl rfl [("data", rB xs), ("newline", rBool false)] (fun q hq => ?_) fun cd env _ fe => b2a_body T (by (exact Nat.succ_le_succ hn)) hx fe
  · have k1 : (scopeAt 10).names.lookup ("data" : Str) = some .local ∨ (scopeAt 10).names.lookup ("data" : Str) = some .cell := by decide +kernel
    have k2 : (scopeAt 10).names.lookup ("newline" : Str) = some .local ∨ (scopeAt 10).names.lookup ("newline" : Str) = some .cell := by decide +kernel
    simp at hq; rcases hq with rfl | rfl
    · exact k1
    · exact k2
  · simp at hq; rcases hq with rfl | rfl
    · exact ⟨v, .head _, p⟩
    · exact ⟨_, .tail _ (.head _), rfl⟩
theorem Ev.b2a {e : Expr} {xs : List Nat} {p q r pos : Pos} {k : Nat} (T : Tx B) (fe : FE scope N env) (hn : n ≤ 39) (hx : Row xs) (h : Ev w B n env vars e (rB xs)) (hk : scope.names.lookup ("b2a_base64" : Str) = some .globalImplicit := by decide +kernel)
    (hs : starEach [e] env = (false, eval e env) :: starEach [] env := by rfl) : Ev w B n env vars (.Call (.Name "b2a_base64" p) [e] [⟨some "newline", .Constant (.bool false) k q, r⟩] pos) (rB (writ (sixes xs))) := .mk fun A s F hA S₀ => by
  refine wpAny_Call_Name_kw (((Ev.gg fe T.g_b2a hk).go A s F hA S₀).mono fun g s₁ ⟨F₁, x₁, eg⟩ => ?_)
  cases (show g = .ref 76 from eg)
  obtain ⟨o, cd, pm, doc, ct, an, ho, hd, _⟩ := T.b2a
  refine callWith_function_kw (o := o) (fd := fdOf "b2a_base64" "b2a_base64" (argsAt 10) (.stmts (bodyAt 10)) (scopeAt 10) [] .none (.ref 69) cd pm doc ct an) (evalArgs_kw2 rfl ?_ hs)
  rw [hs]
  refine spliced_cons ((h.go A s₁ F₁ hA (S₀.ext x₁)).mono fun v s₂ ⟨F₂, x₂, pv⟩ => spliced_nil (kwAll_cons (wpAny_Constant_bool (kwAll_nil ⟨⟨x₂.inv.keep _ _ ho (fun ⟨⟨_, vs, q⟩, _⟩ => by rw [hd] at q; cases q), hd⟩, ?_⟩))))
  exact (b2a_kw T hn hx hA x₂.inv x₂.fin pv).mono fun v s' g => g.from (x₁.trans x₂)
theorem Cal.def1d {a : Addr} {name : Str} {i : Nat} {dv kv : Value} {x : Str} {r₁ r : Rp} (extra : List (Str × Value)) (fn : Df B a name i dv kv) (hl : B.heap.NoLimit) (hn : n ≤ 55)
    (hb : ∀ v (s : Shared), Inv B s → ∀ cd pm doc ct an, BindsTo s (fdOf name name (argsAt i) (.stmts (bodyAt i)) (scopeAt i) [] dv kv cd pm doc ct an) ⟨[v], []⟩ ((x, v) :: extra))
    (h : ∀ s F env, FE (scopeAt i) s.heap.objs.size env → Xs w B s F (n + 1) env ((x, r₁) :: valVars extra) [] (bodyAt i) (Back B s F r))
    (hnd : (x :: extra.map (·.1)).Nodup) (hx : ∀ y ∈ x :: extra.map (·.1), (scopeAt i).names.lookup y = some .local ∨ (scopeAt i).names.lookup y = some .cell)
    (hk : (scopeAt i).kind = .function := by rfl) (hco : (scopeAt i).isCoroutine = false := by rfl) (hgen : (scopeAt i).isGenerator = false := by rfl) : Cal w B n (.ref a) [r₁] r := .mk fun A s F vs hA iv fi are => by
  obtain ⟨v, vs', rfl, pv, q⟩ := are.cons_inv
  rw [q.nil_inv]
  refine call_top hA hn iv fi hl fn (fun cd pm doc ct an => hb v s iv cd pm doc ct an) (by simpa using hnd) (fun p hp => hx p.1 ?_) hk hco hgen ((x, r₁) :: valVars extra) (fun p hp => ?_) fun cd env _ fe => h s F env fe
  · rcases List.mem_cons.mp hp with rfl | hp
    · exact .head _
    · exact .tail _ (List.mem_map.mpr ⟨p, hp, rfl⟩)
  · rcases List.mem_cons.mp hp with rfl | hp
    · exact ⟨v, .head _, pv⟩
    · obtain ⟨y, hy, rfl⟩ := List.mem_map.mp hp
      exact ⟨y.2, .tail _ hy, rfl⟩
theorem b64_cal {xs : List Nat} (T : Tx B) (hn : n ≤ 38) (hx : Row xs) : Cal w B n (.ref 84) [rB xs] (rB (writ (sixes xs))) := by
  refine Cal.def1d (x := "s") [("altchars", .none)] T.b64 T.lim (by (exact Nat.le_trans hn (by decide))) (fun v s iv cd pm doc ct an => ?_) (fun s F env fe => ?_) (by decide) (fun y hy => ?_)
  · obtain ⟨o, m, ho, hd⟩ := T.at77
    exact .of_defaults (T := 77) rfl (iv.keep _ _ ho (fun ⟨⟨_, vs, q⟩, _⟩ => by rw [hd] at q; cases q)) hd rfl rfl
  · show Xs w B s F (n + 1) env [("s", rB xs), ("altchars", rVal .none)] [] (bodyAt 12) _
    refine Xs.set (rB (writ (sixes xs))) [("altchars", rVal .none)] fe (Ev.m (Ev.b2a T fe (by (exact Nat.succ_le_succ hn)) hx .nm)) ?_
    exact Xs.if_no (EvT.m (.ext (.cmp .nm .none op_isnot_none .bool) (by rfl))) (Xs.ret .nm)
  · simp at hy; rcases hy with rfl | rfl <;> decide +kernel
end
end Mine
end

section
open PySem PySem.W PyProof.Rows PySem.Calls PySem.SeqAt
local macro_rules | `(tactic| k_is) => `(tactic| first | (with_reducible exact Mine.Has.here) | (with_reducible refine Mine.Has.there ?_; k_is))
local macro_rules | `(tactic| k_asm) => `(tactic| first | (with_reducible exact Mine.Keep.nil) | (with_reducible exact Mine.Sub.nil) | (with_reducible refine Mine.Keep.cons ?_ ?_ ?_; (k_is); (decide); (k_asm)) | (with_reducible refine Mine.Sub.cons ?_ ?_; (k_is); (k_asm)))
namespace Mine

open PySem.Builtin PySem.Builtin._codecs
theorem ascii_find {f : Bool} {b : Array UInt8} {p c : Nat} (h : b[p]? = some (UInt8.ofNat c)) (hc : c < 128) : asciiDecoder.find f b p = .text [c] (p + 1) := by
  have e : (b.getD p 0).toNat = c := by
    simp [Array.getD_eq_getD_getElem?, h, UInt8.toNat_ofNat]; omega
  unfold asciiDecoder
  simp only [e, hc, if_true]
  rfl
theorem run_ascii {id : String} {a b c d : Nat} (ha : a < 128) (hb : b < 128) (hc : c < 128) (hd : d < 128) : runDecoder id asciiDecoder none true #[UInt8.ofNat a, UInt8.ofNat b, UInt8.ofNat c, UInt8.ofNat d] 0 [] = pure (#[a, b, c, d], 4) := by
  have fa := ascii_find (f := true) (b := #[UInt8.ofNat a, UInt8.ofNat b, UInt8.ofNat c, UInt8.ofNat d]) (p := 0) rfl ha
  have fb := ascii_find (f := true) (b := #[UInt8.ofNat a, UInt8.ofNat b, UInt8.ofNat c, UInt8.ofNat d]) (p := 1) rfl hb
  have fc := ascii_find (f := true) (b := #[UInt8.ofNat a, UInt8.ofNat b, UInt8.ofNat c, UInt8.ofNat d]) (p := 2) rfl hc
  have fd := ascii_find (f := true) (b := #[UInt8.ofNat a, UInt8.ofNat b, UInt8.ofNat c, UInt8.ofNat d]) (p := 3) rfl hd
  unfold runDecoder
  simp only [Std.Legacy.Range.forIn_eq_forIn_range', Std.Legacy.Range.size]
  simp [List.range', List.forIn_cons, fa, fb, fc, fd, sizeLine]

section
variable {w : World} {B : Shared} {n : Nat} {env : Env} {vars : Vars} {b : Array UInt8} {t : Tok}
theorem ascii_road {id : String} : decodeRoad id b (Str.ofString "ascii") none [] = (runDecoder id asciiDecoder none true b 0 [] >>= fun r => mkStr ⟨r.1⟩) := by kernel_rfl
theorem ascii_text {x : Str} {k : Nat} {t1 t2 : Tok} {d : Str} (hd : ∀ id, runDecoder id asciiDecoder none true b 0 [] = pure (x.cps, k)) :
    Meets («_codecs.decode.text» ⟨[.bytes b t, .str (Str.ofString "ascii") t1, .none, .str d t2], []⟩) (fun _ R s => x.length ≤ sizeLine ∧ R (.ok (.ret (.str x s.toks))) { s with toks := s.toks + 1 }) := by
  refine .of_wp fun prog w A R s hS => ?_
  obtain ⟨hsz, h⟩ := hS
  show wpAny _ _ (Bytes.bytesLike _ (.bytes b t) >>= fun r => _) _ _ s
  refine wpAny_bind (wpAny_of_eq KBd.like_eq ?_)
  refine wpAny_bind (wpAny_of_eq KBd.held_eq ?_)
  show wpAny _ _ (decodeRoad _ b (Str.ofString "ascii") none [] >>= fun v => _) _ _ s
  rw [ascii_road, hd]
  refine wpAny_bind (wpAny_bind (wpAny_pure ?_))
  exact wpAny_mkStr (wpAny_pure ⟨_, rfl, h⟩) hsz
theorem ascii_entry {c : UInt8} {cs : List UInt8} {t1 : Tok} : «bytes.decode» ⟨[.bytes (c :: cs).toArray t, .str (Str.ofString "ascii") t1], []⟩ = (mkStr (Str.ofString "utf-8") >>= fun _ => mkStr (Str.ofString "ascii") >>= fun e => mkStr (Str.ofString "bytes.decode") >>= fun d =>
    call (.builtin "_codecs.decode.text") [.bytes (c :: cs).toArray t, e, .none, d] >>= fun v => ret v) := by kernel_rfl
theorem args_decode2 (a b : Value) : argsOk "bytes.decode" ⟨[a, b], []⟩ := by
  unfold argsOk; rw [signature?_of (id := "bytes.decode") (n := ['e', 'd', 'o', 'c', 'e', 'd']) (o := ['s', 'e', 't', 'y', 'b']) (by kernel_rfl) PySem.W.FB.owner_bytes]; kernel_rfl
theorem Cal.ascii {a b c d : Nat} (ha : a < 128) (hb : b < 128) (hc : c < 128) (hd : d < 128) : Cal w B n (.builtin "bytes.decode") [rB [a, b, c, d], rS [97, 115, 99, 105, 105]] (rS [a, b, c, d]) := .mk fun A s F vs hA i f are => by
  obtain ⟨v, vs', rfl, ⟨t, rfl⟩, r⟩ := are.cons_inv
  obtain ⟨u, vs', rfl, ⟨t', rfl⟩, r'⟩ := r.cons_inv
  have e' := r'.nil_inv
  subst e'
  have hx : S [97, 115, 99, 105, 105] = Str.ofString "ascii" := by decide +kernel
  rw [hx]
  refine call_meets PySem.W.FB.slot_bytes_decode (typeIs_bytes _ _ _) PySem.W.FB.entry_bytes_decode (args_decode2 _ _) (S := fun _ R s => ∀ t' k, R (.ok (.ret (.str (S [a, b, c, d]) t'))) { s with toks := k }) ?_ fun t' k => ⟨F, Ext.tok i f _, _, rfl⟩
  refine .of_wp fun prog w A R s h => ?_
  show wpAny _ _ («bytes.decode» ⟨[.bytes (UInt8.ofNat a :: [UInt8.ofNat b, UInt8.ofNat c, UInt8.ofNat d]).toArray t, .str (Str.ofString "ascii") t'], []⟩) _ _ _
  rw [ascii_entry]
  refine wpAny_bind (wpAny_mkStr ?_ (by decide))
  refine wpAny_bind (wpAny_mkStr ?_ (by decide))
  refine wpAny_bind (wpAny_mkStr ?_ (by decide))
  exact wpAny_bind (call_function_meets KBd.kind_text KBd.plain_text KBd.entry_text (KBd.args_text _ _ _ _) (ascii_text (x := S [a, b, c, d]) fun id => run_ascii ha hb hc hd) ⟨by rw [S_len]; simp [sizeLine], wpAny_pure ⟨_, rfl, h _ _⟩⟩)
end
end Mine
end

section
open PySem PySem.W PyProof.Rows PySem.Calls PySem.SeqAt
local macro_rules | `(tactic| k_is) => `(tactic| first | (with_reducible exact Mine.Has.here) | (with_reducible refine Mine.Has.there ?_; k_is))
local macro_rules | `(tactic| k_asm) => `(tactic| first | (with_reducible exact Mine.Keep.nil) | (with_reducible exact Mine.Sub.nil) | (with_reducible refine Mine.Keep.cons ?_ ?_ ?_; (k_is); (decide); (k_asm)) | (with_reducible refine Mine.Sub.cons ?_ ?_; (k_is); (k_asm)))
namespace Mine

section
variable {w : World} {B : Shared} {n : Nat} {env : Env} {vars : Vars} {scope : Scope} {N : Nat} {s₀ : Shared} {F₀ : Fz} {ms : Mss} {Q : Flow → Shared → Prop}
theorem Cal.def3 {a : Addr} {name : Str} {i : Nat} {dv kv : Value} {x y z : Str} {r₁ r₂ r₃ r : Rp} (fn : Df B a name i dv kv) (hl : B.heap.NoLimit) (hn : n ≤ 55)
    (hb : ∀ v u t (s : Shared), Inv B s → ∀ cd pm doc ct an, BindsTo s (fdOf name name (argsAt i) (.stmts (bodyAt i)) (scopeAt i) [] dv kv cd pm doc ct an) ⟨[v, u, t], []⟩ [(x, v), (y, u), (z, t)])
    (h : ∀ s F env, FE (scopeAt i) s.heap.objs.size env → Xs w B s F (n + 1) env [(x, r₁), (y, r₂), (z, r₃)] [] (bodyAt i) (Back B s F r)) (hnd : [x, y, z].Nodup := by decide)
    (hx : (scopeAt i).names.lookup x = some .local ∨ (scopeAt i).names.lookup x = some .cell := by decide +kernel) (hy : (scopeAt i).names.lookup y = some .local ∨ (scopeAt i).names.lookup y = some .cell := by decide +kernel) (hz : (scopeAt i).names.lookup z = some .local ∨ (scopeAt i).names.lookup z = some .cell := by decide +kernel)
    (hk : (scopeAt i).kind = .function := by rfl) (hco : (scopeAt i).isCoroutine = false := by rfl) (hgen : (scopeAt i).isGenerator = false := by rfl) : Cal w B n (.ref a) [r₁, r₂, r₃] r := .mk fun A s F vs hA iv fi are => by
  obtain ⟨v, vs', rfl, pv, q⟩ := are.cons_inv
  obtain ⟨u, vs'', rfl, p2, q2⟩ := q.cons_inv
  obtain ⟨t, vs'', rfl, p3, q3⟩ := q2.cons_inv
  have e := q3.nil_inv
  subst e
  refine call_top hA hn iv fi hl fn (fun cd pm doc ct an => hb v u t s iv cd pm doc ct an) (by simpa using hnd) (fun p hp => ?_) hk hco hgen [(x, r₁), (y, r₂), (z, r₃)] (fun p hp => ?_) fun cd env _ fe => h s F env fe
  · simp at hp; rcases hp with rfl | rfl | rfl
    · exact hx
    · exact hy
    · exact hz
  · simp at hp; rcases hp with rfl | rfl | rfl
    · exact ⟨v, .head _, pv⟩
    · exact ⟨u, .tail _ (.head _), p2⟩
    · exact ⟨t, .tail _ (.tail _ (.head _)), p3⟩

/-- the pieces of a pattern, each with what it turns into -/
noncomputable abbrev Pc := List Nat × Rp
noncomputable def pchars (ps : List Pc) : List Nat := (ps.map (·.1)).flatten
theorem pchars_app (a b : List Pc) : pchars (a ++ b) = pchars a ++ pchars b := by simp [pchars]
theorem pchars_cons (p : Pc) (b : List Pc) : pchars (p :: b) = p.1 ++ pchars b := by simp [pchars]
theorem pchars_split {ps : List Pc} {j : Nat} (hj : j < ps.length) : pchars ps = pchars (ps.take j) ++ (ps[j].1 ++ pchars (ps.drop (j + 1))) := by
  rw [← pchars_cons, ← List.drop_eq_getElem_cons hj, ← pchars_app, List.take_append_drop]
theorem pchars_lt {ps : List Pc} (h1 : ∀ p ∈ ps, 1 ≤ p.1.length) {j : Nat} (hj : j < ps.length) : (pchars (ps.take j)).length < (pchars ps).length := by
  rw [pchars_split hj]
  have := h1 ps[j] (List.getElem_mem hj)
  simp only [List.length_append]; (lia)
theorem pchars_drop {ps : List Pc} {j : Nat} (hj : j < ps.length) : (pchars ps).drop (pchars (ps.take j)).length = ps[j].1 ++ pchars (ps.drop (j + 1)) := by
  conv => lhs; arg 2; rw [pchars_split hj]
  rw [List.drop_left]
theorem trans_body {s : Shared} {F : Fz} {ps : List Pc} {d : Addr} {r3 : Rp} (T : Tx B) (hn : n ≤ 40) (hp : (pchars ps).length ≤ 1000) (h1 : ∀ p ∈ ps, 1 ≤ p.1.length) (fe : FE (scopeAt 20) s.heap.objs.size env)
    (step : ∀ (a : Addr) j (hj : j < ps.length), Xs w B s F n env (tvars (pchars ps) a d (pchars (ps.take j)).length) [(a, mList ((ps.take j).map (·.2)))] tbody (On B s F env (tvars (pchars ps) a d (pchars (ps.take (j + 1))).length) [(a, mList ((ps.take (j + 1)).map (·.2)))])) :
    Xs w B s F n env [("pat", rS (pchars ps)), ("STAR", rVal (.ref d)), ("QUESTION_MARK", r3)] [] (bodyAt 20) (Back B s F (rL (ps.map (·.2)))) := by
  refine Xs.setL (rs := []) [("pat", rS (pchars ps)), ("STAR", rVal (.ref d))] fe (EvN.list .nil) fun a => ?_
  refine Xs.bindApp [("res", rVal (.ref a)), ("pat", rS (pchars ps)), ("STAR", rVal (.ref d))] fe (by (exact Nat.le_trans hn (by decide))) .here ?_
  refine Xs.two (rNat 0) (rNat (pchars ps).length) [("add", rApp a), ("res", rVal (.ref a)), ("pat", rS (pchars ps)), ("STAR", rVal (.ref d))] fe (Ev.nat 0).m (Ev.m (Ev.cB fe T.len (.cons .nm .nil) (Cal.len_S (by (exact Nat.lt_of_le_of_lt hp (by decide)))))) ?_
  refine Xs.while_ (fun j => tvars (pchars ps) a d (pchars (ps.take j)).length) (fun j => [(a, mList ((ps.take j).map (·.2)))]) (fun j => ps.length - j) 0 (by simp [pchars]) (by simp) (fun j => decide (j < ps.length)) (· + 1) (fun j => ?_) (fun j hj => ?_) (fun j hj => ?_)
  · refine EvT.m (.ext (.cmp .nm .nm cn_lt .bool) ?_)
    by_cases h : j < ps.length
    · rw [decide_eq_true h, decide_eq_true (pchars_lt h1 h)]
    · rw [decide_eq_false h, List.take_of_length_le (by (lia))]; simp
  · have hj : j < ps.length := by simpa using hj
    exact Xs.imp (step a j hj) fun f s' h => .inl ⟨.inl h.1, less_lt hj, h.2⟩
  · have hj : ps.length ≤ j := by simpa using hj
    rw [List.take_of_length_le hj]
    refine Xs.assert_ (EvT.m (.ext (.cmp .nm .nm cn_eq .bool) (by simp))) ?_
    exact EvM.freeze (by k_is) (.head _)
/-- the plain pattern: the signs, and a star -/
noncomputable def ps1 (l : List Nat) (d : Addr) : List Pc := l.map (fun c => ([c], rS (esc1 c))) ++ [([42], rVal (.ref d))]
theorem ps1_chars (l : List Nat) (d : Addr) : pchars (ps1 l d) = l ++ [42] := by
  unfold pchars ps1
  rw [List.map_append, List.flatten_append, List.map_map]
  have : (l.map ((fun p : Pc => p.1) ∘ fun c => (([c], rS (esc1 c)) : Pc))) = l.map fun c => [c] := rfl
  rw [this, flat_single, List.map_id']; rfl
theorem step_of_sign {s : Shared} {F : Fz} {ps : List Pc} {a d : Addr} {j c : Nat} (T : Tx B) (hn : n ≤ 40) (hp : (pchars ps).length ≤ 1000) (h1 : ∀ p ∈ ps, 1 ≤ p.1.length) (hz : ps.length ≤ 1000) (hj : j < ps.length) (e : ps[j] = ([c], rS (esc1 c))) (hal : c ∈ al) (fe : FE (scopeAt 20) s.heap.objs.size env) :
    Xs w B s F n env (tvars (pchars ps) a d (pchars (ps.take j)).length) [(a, mList ((ps.take j).map (·.2)))] tbody (On B s F env (tvars (pchars ps) a d (pchars (ps.take (j + 1))).length) [(a, mList ((ps.take (j + 1)).map (·.2)))]) := by
  have e1 : (pchars (ps.take (j + 1))).length = (pchars (ps.take j)).length + 1 := by
    rw [List.take_add_one, List.getElem?_eq_getElem hj, e]; simp [pchars]
  have e2 : (ps.take (j + 1)).map (·.2) = (ps.take j).map (·.2) ++ [rS (esc1 c)] := by
    rw [List.take_add_one, List.getElem?_eq_getElem hj, e]; simp
  rw [e1, e2]
  have hd := pchars_drop hj
  rw [e] at hd
  exact step_sign T hn hp (by simp; (lia)) (drop_get hd).1 hal fe
theorem step_of_star {s : Shared} {F : Fz} {ps : List Pc} {a d : Addr} {j : Nat} {y : List Nat} (T : Tx B) (hn : n ≤ 40) (hp : (pchars ps).length ≤ 1000) (hz : ps.length ≤ 1000) (hj : j + 1 < ps.length) (e0 : ps[j].2 = rS y) (e : ps[j + 1] = ([42], rVal (.ref d))) (fe : FE (scopeAt 20) s.heap.objs.size env) :
    Xs w B s F n env (tvars (pchars ps) a d (pchars (ps.take (j + 1))).length) [(a, mList ((ps.take (j + 1)).map (·.2)))] tbody (On B s F env (tvars (pchars ps) a d (pchars (ps.take (j + 1 + 1))).length) [(a, mList ((ps.take (j + 1 + 1)).map (·.2)))]) := by
  have e1 : (pchars (ps.take (j + 1 + 1))).length = (pchars (ps.take (j + 1))).length + 1 := by
    rw [List.take_add_one, List.getElem?_eq_getElem hj, e]; simp [pchars]
  have e2 : (ps.take (j + 1 + 1)).map (·.2) = (ps.take (j + 1)).map (·.2) ++ [rVal (.ref d)] := by
    rw [List.take_add_one, List.getElem?_eq_getElem hj, e]; simp
  rw [e1, e2]
  have hd := pchars_drop hj
  rw [e] at hd
  refine step_star (y := y) T hn hp (by simp; (lia)) (drop_get hd).1 ?_ fe
  have hl : ((ps.take (j + 1)).map (·.2)).length - 1 = j := by simp; (lia)
  rw [hl, List.getElem?_map, List.getElem?_take, if_pos (by (exact Nat.le_refl _)), List.getElem?_eq_getElem (by (exact Nat.le_of_lt hj))]
  rw [← e0]; rfl
theorem trans1_cal {l : List Nat} {d : Addr} (T : Tx B) (hn : n ≤ 39) (hl : Sg l) (h1 : 1 ≤ l.length) (hz : l.length ≤ 100) : Cal w B n (.ref 115) [rS (l ++ [42]), rVal (.ref d), rS [46]] (rL (l.map (fun c => rS (esc1 c)) ++ [rVal (.ref d)])) := by
  have e : (ps1 l d).map (·.2) = l.map (fun c => rS (esc1 c)) ++ [rVal (.ref d)] := by unfold ps1; rw [List.map_append, List.map_map]; rfl
  have ln : (ps1 l d).length = l.length + 1 := by simp [ps1]
  rw [← e, ← ps1_chars l d]
  refine Cal.def3 (x := "pat") (y := "STAR") (z := "QUESTION_MARK") T.transU T.lim (by (exact Nat.le_trans hn (by decide))) (fun v u t s _ cd pm doc ct an => .of_eq rfl) fun s F env fe => ?_
  have hp : (pchars (ps1 l d)).length ≤ 1000 := by rw [ps1_chars]; simp; (exact Nat.le_trans hz (by decide))
  have hone : ∀ p ∈ ps1 l d, 1 ≤ p.1.length := fun p hp => by
    unfold ps1 at hp
    rcases List.mem_append.mp hp with h | h
    · obtain ⟨c, _, rfl⟩ := List.mem_map.mp h; simp
    · rw [List.mem_singleton.mp h]; simp
  refine trans_body T (by (exact Nat.succ_le_succ hn)) hp hone fe fun a j hj => ?_
  have at_ : ∀ {k} (hk : k < l.length) (hk' : k < (ps1 l d).length), (ps1 l d)[k] = ([l[k]], rS (esc1 l[k])) := fun {k} hk hk' => by
    refine (List.getElem_eq_iff hk').mpr ?_
    unfold ps1
    rw [List.getElem?_append_left (by simpa using hk), List.getElem?_map, List.getElem?_eq_getElem hk]; rfl
  by_cases hjl : j < l.length
  · exact step_of_sign T (by (exact Nat.succ_le_succ hn)) hp hone (by (lia)) hj (at_ hjl hj) (hl _ (List.getElem_mem hjl)) fe
  · obtain ⟨k, rfl⟩ : ∃ k, j = k + 1 := ⟨j - 1, by (lia)⟩
    have hk : k < l.length := by (lia)
    refine step_of_star (y := esc1 l[k]) T (by (exact Nat.succ_le_succ hn)) hp (by (lia)) hj ?_ ?_ fe
    · rw [at_ hk (by (exact Nat.le_of_lt hj))]
    · have : k + 1 = l.length := by (lia)
      refine (List.getElem_eq_iff _).mpr ?_
      unfold ps1
      rw [List.getElem?_append_right (by simp; (lia))]; simp [this]
end
end Mine
end

section
open PySem PySem.W PyProof.Rows PySem.Calls PySem.SeqAt
local macro_rules | `(tactic| k_is) => `(tactic| first | (with_reducible exact Mine.Has.here) | (with_reducible refine Mine.Has.there ?_; k_is))
local macro_rules | `(tactic| k_asm) => `(tactic| first | (with_reducible exact Mine.Keep.nil) | (with_reducible exact Mine.Sub.nil) | (with_reducible refine Mine.Keep.cons ?_ ?_ ?_; (k_is); (decide); (k_asm)) | (with_reducible refine Mine.Sub.cons ?_ ?_; (k_is); (k_asm)))
namespace Mine

section
variable {w : World} {B : Shared} {n : Nat} {env : Env} {vars : Vars} {scope : Scope} {N : Nat} {s₀ : Shared} {F₀ : Fz} {ms : Mss} {Q : Flow → Shared → Prop}
/-- translate, by what _translate gives -/
theorem translate_by {pat : List Nat} {ss : List (List Nat)} (T : Tx B) (hn : n ≤ 38) (hz : ss.length ≤ 1000) (hf : (ss.map (·.length)).sum ≤ 100000) (h : ∀ d, Cal w B (n + 1) (.ref 115) [rS pat, rVal (.ref d), rS [46]] (rL (ss.map rS ++ [rVal (.ref d)]))) : Cal w B n (.ref 96) [rS pat] (rS (joined ss)) :=
  Cal.def1 (x := "pat") T.trans T.lim (by (exact Nat.le_trans hn (by decide))) (fun v s cd pm doc ct an => .of_eq rfl) fun s F env fe =>
    Xs.set rRef [("pat", rS pat)] fe (Ev.m (Ev.cT fe T.obj_ .nil (Cal.object (by (exact Nat.lt_of_le_of_lt hn (by decide)))))) (Xs.ex fun d =>
      Xs.set (rL (ss.map rS ++ [rVal (.ref d)])) [("STAR", rVal (.ref d))] fe (Ev.m (Ev.cF fe T.g_transU T.transU (.cons .nm (.cons .nm (.cons (Ev.lit (l := [46])) .nil))) (h d)))
        (Xs.ret (Ev.cF fe T.g_joinp T.joinp (.cons .nm (.cons .nm .nil)) (join_cal T (by (exact Nat.lt_of_le_of_lt hn (by decide))) hz hf))))
theorem joined_txt (l : List Nat) : joined (l.map esc1) = txt l := by
  unfold joined txt tl esc
  rw [List.flatMap_def]
  simp
theorem sum_esc (l : List Nat) : ((l.map esc1).map (·.length)).sum ≤ 2 * l.length := by
  induction l with
  | nil => simp
  | cons c r ih =>
    simp only [List.map_cons, List.sum_cons, List.length_cons]
    have : (esc1 c).length ≤ 2 := by unfold esc1; split <;> simp
    (lia)
theorem translate1_cal {l : List Nat} (T : Tx B) (hn : n ≤ 38) (hl : Sg l) (h1 : 1 ≤ l.length) (hz : l.length ≤ 100) : Cal w B n (.ref 96) [rS (l ++ [42])] (rS (txt l)) := by
  rw [← joined_txt]
  refine translate_by T hn (by simp; (exact Nat.le_trans hz (by decide))) (Nat.le_trans (sum_esc l) (by (lia))) fun d => ?_
  have := trans1_cal (w := w) (n := n + 1) (d := d) T (by (exact Nat.succ_le_succ hn)) hl h1 hz
  rwa [List.map_map]
end
end Mine
end

section
open PySem PySem.W PyProof.Rows PySem.Calls PySem.SeqAt
local macro_rules | `(tactic| k_is) => `(tactic| first | (with_reducible exact Mine.Has.here) | (with_reducible refine Mine.Has.there ?_; k_is))
local macro_rules | `(tactic| k_asm) => `(tactic| first | (with_reducible exact Mine.Keep.nil) | (with_reducible exact Mine.Sub.nil) | (with_reducible refine Mine.Keep.cons ?_ ?_ ?_; (k_is); (decide); (k_asm)) | (with_reducible refine Mine.Sub.cons ?_ ?_; (k_is); (k_asm)))
namespace Mine

/-- str.find between two places -/
theorem gives_find4 (x y : Str) (i j : Int) (t u v z : Tok) : PySem.Gives (Builtin.«str.find» ⟨[.str x t, .str y u, .int i v, .int j z], []⟩) (.int (match Builtin.Str.occurrences x y (fromIndex x.length i) (min (fromIndex x.length j) x.length) 1 with | k :: _ => (k : Int) | [] => -1)) := by
  show PySem.Gives (match Builtin.Str.occurrences x y (fromIndex x.length i) (min (fromIndex x.length j) x.length) 1 with | k :: _ => retInt k | [] => (do rule "str.find.not-found"; retInt (-1))) _
  cases Builtin.Str.occurrences x y (fromIndex x.length i) (min (fromIndex x.length j) x.length) 1 with
  | nil => exact .rule (.of_eq rfl)
  | cons k _ => exact .of_eq rfl
section
variable {w : World} {B : Shared} {n : Nat} {env : Env} {vars : Vars} {scope : Scope} {N : Nat} {s₀ : Shared} {F₀ : Fz} {ms : Mss} {Q : Flow → Shared → Prop}
theorem os_gt {a b : List Nat} : Op2 w B n (compareOp .Gt) (rS a) (rS b) (rBool (decide (b < a))) := .mk fun A s F u v hA i fi ⟨t, e⟩ ⟨t', e'⟩ => by
  subst e; subst e'
  exact PySem.P.gt_str ⟨F, Ext.refl i fi, rfl⟩
noncomputable def found (x y : List Nat) (i j : Int) : Int := match Builtin.Str.occurrences (S x) (S y) (fromIndex (S x).length i) (min (fromIndex (S x).length j) (S x).length) 1 with | k :: _ => (k : Int) | [] => -1
theorem Cal.find4 {a b : List Nat} {i j : Int} : Cal w B n (.builtin "str.find") [rS a, rS b, rInt i, rInt j] (rInt (found a b i j)) := .mk fun A s F vs hA iv fi are => by
  obtain ⟨v, vs', rfl, ⟨t, rfl⟩, r₁⟩ := are.cons_inv
  obtain ⟨v, vs', rfl, ⟨u, rfl⟩, r₂⟩ := r₁.cons_inv
  obtain ⟨v, vs', rfl, ⟨t2, rfl⟩, r₃⟩ := r₂.cons_inv
  obtain ⟨v, vs', rfl, ⟨t3, rfl⟩, r₄⟩ := r₃.cons_inv
  have e := r₄.nil_inv
  subst e
  exact call_gives PySem.F.slot_str_find (typeIs_str _ _ _) PySem.F.entry_str_find (PySem.F.args_str_find_4 _ _ _ _) (gives_find4 (S a) (S b) i j t u t2 t3) ⟨F, Ext.tok iv fi _, _, rfl⟩
theorem Are.erase {α : Type} {f : α → Rp} {F : Fz} {vs : List Value} {xs : List α} {k : Nat} (h : Are f F vs xs) : Are f F (vs.eraseIdx k) (xs.eraseIdx k) :=
  Are.of_get (by simp [List.length_eraseIdx, h.1]) fun i u y hu hy => by
    rw [List.getElem?_eraseIdx] at hu hy
    split at hy
    · rename_i hk
      rw [if_pos hk] at hu
      obtain ⟨v', hv', p'⟩ := h.get hy
      rw [hu] at hv'; cases hv'
      exact p'
    · rename_i hk
      rw [if_neg hk] at hu
      obtain ⟨v', hv', p'⟩ := h.get hy
      rw [hu] at hv'; cases hv'
      exact p'
/-- del x[i] of a list that changes -/
theorem Xs.del {x : Str} {px p pos : Pos} {i : Expr} {rest : List Stmt} {a : Addr} {rs : List Rp} {k : Nat} (hx : Has vars x (rVal (.ref a))) (hi : EvM w B s₀ n env vars ((a, mList rs) :: ms) i (rNat k)) (hk : k < rs.length) (hz : rs.length ≤ 1000)
    (kk : Xs w B s₀ F₀ n env vars ((a, mList (rs.eraseIdx k)) :: ms) rest Q) (hd : (x == ("__debug__" : Str)) = false := by decide) (hc : (x == ("__classdict__" : Str)) = false := by decide) :
    Xs w B s₀ F₀ n env vars ((a, mList rs) :: ms) (.Delete [.Subscript (.Name x px) i p] pos :: rest) Q := .mk fun A s F hA R M => by
  refine wpAny_execs_cons (wpAny_Delete (wpAny_deleteEach_cons (wpAny_delete_Subscript ?_)))
  refine loads_name R.st hx (fun u hu => ?_) hd hc
  cases (show u = .ref a from hu)
  refine (hi.go A s F hA R.st M).mono fun iv s₂ ⟨F₂, x₂, t, ei⟩ => ?_
  subst ei
  have R₂ := R.of_ext x₂
  have M₂ := M.ext x₂
  obtain ⟨h0, o, so, ys, m, eo, are⟩ := M₂.at_ _ (.head _)
  subst eo
  have hlen : ys.length = rs.length := are.1
  refine W.size (wpAny_delItem_plain (items := ys.toArray) (k := k) ⟨m, so.at_⟩ ?_ ?_ (fun h' hp hs' hz => ?_) (by simp [sizeLine]; (lia)))
  · simp [Builtin.List.listFitsIndex]; (lia)
  · simp [seqIndex?]; (lia)
  obtain ⟨m', e'⟩ := hp
  have kp : ∀ b o, b ≠ a → s₂.heap.get? b = some o → h'.get? b = some o := fun b o hb e => (hs'.2 b hb).trans e
  have so' : Soft B F₂ { s₂ with heap := h' } a (lst (ys.eraseIdx k) m') := Soft.lst (by
    have : ys.toArray.eraseIdxIfInBounds k = (ys.eraseIdx k).toArray := by
      simp
    rw [this] at e'
    exact e') so.base so.out
  exact wpAny_deleteEach_nil (kk.go A { s₂ with heap := h' } F₂ hA (R₂.but so h0 kp hz s₂.toks) (M₂.but (m' := mList (rs.eraseIdx k)) kp so' ⟨_, m', rfl, are.erase⟩))
end
end Mine
end

section
open PySem PySem.W PyProof.Rows PySem.Calls PySem.SeqAt
namespace Mine
/-- the pattern of the text's own top -/
noncomputable abbrev patObj (u : Nat → Tok) (p8 : Addr) : Obj := { cls := .type "re.Pattern", data := .fields #[.str (Str.ofString "([&~|])") (u 0), .int 32 (u 1), .int 1 (u 2), .none, .none, .ref p8, .int 0 (u 3)] }
noncomputable abbrev codeObj (t' : Nat → Tok) : Obj := { cls := .type "tuple", data := .seq #[.int 14 (t' 0), .int 14 (t' 1), .int 4 (t' 2), .int 1 (t' 3), .int 1 (t' 4), .int 9 (t' 5), .int 0 (t' 6), .int 64 (t' 7), .int 0 (t' 8), .int 1342177280 (t' 9), .int 0 (t' 10), .int 0 (t' 11), .int 0 (t' 12), .int 0 (t' 13), .int 0 (t' 14), .int 17 (t' 15), .int 0 (t' 16), .int 13 (t' 17), .int 11 (t' 18), .int 9 (t' 19), .int 0 (t' 20), .int 64 (t' 21), .int 0 (t' 22), .int 1342177280 (t' 23), .int 0 (t' 24), .int 0 (t' 25), .int 0 (t' 26), .int 0 (t' 27), .int 0 (t' 28), .int 17 (t' 29), .int 1 (t' 30), .int 1 (t' 31)] 0 }
structure Pat (B : Shared) : Prop where
  at_ : ∃ t' u, B.heap.get? 88 = some (codeObj t') ∧ B.heap.get? 89 = some (patObj u 88)
noncomputable def rFn : Rp := ⟨fun F v => ∃ f fd, v = .ref f ∧ F f = some { cls := .type "function", data := .func fd }, fun _ _ _ l ⟨f, fd, e, g⟩ => ⟨f, fd, e, l _ _ g⟩⟩
section
variable {w : World} {B : Shared} {n : Nat}
theorem Cal.sub (P : Pat B) (hn : n ≤ 60) : Cal w B n (.builtin "re.Pattern.sub") [rVal (.ref 89), rFn, rS []] (rS []) := .mk fun A s F vs hA i fi are => by
  obtain ⟨v, vs', rfl, e, r₁⟩ := are.cons_inv
  cases (show v = .ref 89 from e)
  obtain ⟨v, vs', rfl, ⟨f, fd, rfl, g⟩, r₂⟩ := r₁.cons_inv
  obtain ⟨v, vs', rfl, ⟨t, rfl⟩, r₃⟩ := r₂.cons_inv
  have e := r₃.nil_inv
  subst e
  obtain ⟨t', u, h8, h9⟩ := P.at_
  have k8 := i.keep _ _ h8 fun h => nomatch h.1.1
  have k9 := i.keep _ _ h9 fun h => nomatch h.1.1
  have O : ∀ p ∈ [(89, patObj u 88), (88, codeObj t'), (f, ({ cls := .type "function", data := .func fd } : Obj))], s.heap.get? p.1 = some p.2 := fun p hp => by
    rcases List.mem_cons.mp hp with rfl | hp
    · exact k9
    rcases List.mem_cons.mp hp with rfl | hp
    · exact k8
    · exact all_one (fi _ _ g).1 p hp
  exact one_run _ 20 [1000, 1002, 1000, 1001, 1000, 1001, 0] [(s.heap.objs.size + 0, { cls := .type "list", data := .seq #[] 0 })] 1 1 (.str (S []) (s.toks + 0)) O (by kernel_rfl) (by kernel_rfl) (by kernel_rfl) (by kernel_rfl) (by kernel_rfl) fun h R => ⟨F, R.ext i fi one_new _, _, rfl⟩
end
end Mine
end

section
open PySem PySem.W PyProof.Rows PySem.Calls PySem.SeqAt
namespace Mine

/-! tables that grow -/
theorem TriplesOk.app {a b : Int} {t u : Tok} {c : Value} (l : List Value) (h : TriplesOk l) : TriplesOk (l ++ [.int a t, .int b u, c]) := by
  fun_induction TriplesOk l with
  | case1 => simp [TriplesOk]
  | case2 a t b u x rest ih => exact ih h
  | case3 => exact h.elim
theorem codeAmong_app {pos pos' : Pos} {c cv : Value} (l : List Value) (h : TriplesOk l) (e : codeAmong pos' (l ++ [rawInt pos.line, rawInt pos.col, c]) = some cv) : codeAmong pos' l = some cv ∨ cv = c := by
  fun_induction TriplesOk l with
  | case1 =>
    simp only [List.nil_append, rawInt, codeAmong] at e
    split at e
    · cases e; exact .inr rfl
    · cases e
  | case2 a t b u x rest ih =>
    simp only [List.cons_append, codeAmong] at e ⊢
    split at e
    · rename_i hc; rw [if_pos hc]; exact .inl e
    · rename_i hc; rw [if_neg hc]; exact ih h e
  | case3 => exact h.elim
theorem CodeOk.but {h h' : Heap} {P : Addr} {ps : Array Value} {cv : Value} {q : Str} (x : CodeOk h cv q) (k : Heap.ExtBut P h h') (hP : h.get? P = some (tabObj ps)) : CodeOk h' cv q :=
  let ⟨c, o, vs, t, e, g, cl, r⟩ := x
  ⟨c, o, vs, t, e, k _ _ (by rintro rfl; rw [hP] at g; cases g; cases cl) g, cl, r⟩
theorem TabAt.but {h h' : Heap} {P P' : Addr} {ok ok' : Pos → Value → Prop} (x : TabAt h P' ok) (k : Heap.ExtBut P h h') (ne : P' ≠ P) (m : ∀ p v, ok p v → ok' p v) : TabAt h' P' ok' :=
  let ⟨ps, e, t, q⟩ := x
  ⟨ps, k _ _ ne e, t, fun p v hv => m p v (q p v hv)⟩
theorem K40.but {h h' : Heap} {P : Addr} {ps : Array Value} (x : K40 h) (k : Heap.ExtBut P h h') (hP : h.get? P = some (tabObj ps)) (ne : 40 ≠ P) (hlt : P < 175) : K40 h' :=
  x.imp (fun e => k _ _ ne e) fun ⟨m, t, l, a, b, c, d⟩ => ⟨m, t, l, k _ _ ne a, k _ _ (Nat.ne_of_gt (Nat.lt_of_lt_of_le hlt (Nat.le_trans l (Nat.le_add_right ..)))) b, k _ _ (Nat.ne_of_gt (Nat.lt_of_lt_of_le hlt (Nat.le_trans l (Nat.le_add_right ..)))) c, fun p hp => (d p hp).but k hP⟩
theorem TabAt.grow {h h' : Heap} {P c' : Addr} {ps : Array Value} {pos : Pos} {ok ok' : Pos → Value → Prop} (e : h.get? P = some (tabObj ps)) (t : TriplesOk ps.toList) (q : ∀ p v, codeAmong p ps.toList = some v → ok p v)
    (e' : h'.get? P = some (tabObj (ps ++ #[rawInt pos.line, rawInt pos.col, .ref c']))) (m : ∀ p v, ok p v → ok' p v) (hc : ∀ p, ok' p (.ref c')) : TabAt h' P ok' :=
  ⟨_, e', by rw [Array.toList_append]; exact TriplesOk.app _ t, fun p v hv => by
    rw [Array.toList_append] at hv
    exact (codeAmong_app _ t hv).elim (fun h => m p v (q p v h)) fun h => h ▸ hc p⟩
/-- a table of the two that lambdas go to has grown -/
theorem Ext.grown {B s : Shared} {F : Fz} {h' : Heap} {P : Addr} {ps : Array Value} (i : Inv B s) (f : F.In s.heap) (hm : Mut P) (hP : s.heap.get? P = some (tabObj ps)) (k : Heap.ExtBut P s.heap h') (hz : s.heap.objs.size ≤ h'.objs.size)
    (t1 : P = 171 → TabAt h' 171 fun _ cv => CodeOk h' cv "law.<locals>.<lambda>") (t2 : P = 110 → TabAt h' 110 fun _ cv => ∃ q, CodeOk h' cv q) (t3 : P = 40 → K40 h') (t : Tok) : Ext B s F { s with heap := h', toks := t } F := by
  have tab : IsTab (tabObj ps) := ⟨rfl, _, rfl⟩
  have hlt : P < 175 := by rcases hm with rfl | rfl | rfl <;> decide
  refine ⟨⟨fun b o e q => ?_, Nat.le_trans i.size hz, ?_, ?_, ?_, i.os, i.gens⟩, hz, fun b o e q => ?_, Fz.Le.refl _, fun _ _ e => .inl e, f.up fun b o e q => ?_⟩
  · have g := i.keep b o e q
    refine k _ _ ?_ g
    rintro rfl
    rw [hP] at g; cases g
    exact q ⟨tab, hm⟩
  · by_cases h : P = 171
    · exact t1 h
    · exact i.t1.but k (Ne.symm h) fun _ _ q => q.but k hP
  · by_cases h : P = 110
    · exact t2 h
    · exact i.t2.but k (Ne.symm h) fun _ _ ⟨q, y⟩ => ⟨q, y.but k hP⟩
  · by_cases h : P = 40
    · exact t3 h
    · exact i.t3.but k hP (Ne.symm h) hlt
  · exact k _ _ (by rintro rfl; rw [hP] at e; cases e; exact q tab) e
  · exact k _ _ (by rintro rfl; rw [hP] at e; cases e; exact q tab) e
end Mine
end

section
open PySem PySem.W PyProof.Rows PySem.Calls PySem.SeqAt
namespace Mine

theorem lam_miss {M : Model} {A : Around} {E : Value → Shared → Prop} {s : Shared} {name qual : Str} {params : Arguments} {body : Expr} {scope : Scope} {env : Env} {c P : Addr} {ps : Array Value} {pos : Pos} {firstLine : Nat} {mg : Str → Option Value} {Q : Value → Shared → Prop}
    (hcl : closureFor scope env = pure []) (hge0 : env.globals = mainGlobals) (hg : s.heap.Ns mainGlobals mg) (hcode : env.code = .ref c) (C : CodeHd s.heap c P) (hP : s.heap.get? P = some (tabObj ps)) (ht : TriplesOk ps.toList)
    (hnf : codeAmong pos ps.toList = none) (hgP : mainGlobals ≠ P) (hb : s.heap.BuiltinsAt mg P)
    (h : ∀ c' ctv h' tk, Heap.ExtBut P s.heap h' → s.heap.objs.size ≤ h'.objs.size → CodeOk h' (.ref c') qual → h'.get? P = some (tabObj (ps ++ #[rawInt pos.line, rawInt pos.col, .ref c'])) →
      Q (.ref h'.objs.size) { s with heap := h'.push (kla_obj name qual params body scope [] ((mg "__name__").getD .none) c' ctv), toks := tk }) :
    wpAny M A (makeFunction name qual params (.expr body) scope env [] [] [] pos firstLine) Q E s := by
  obtain ⟨bm, ob, hbm, hne0, _, hneP, hbo, hcls, hdict, hdata⟩ := hb
  rw [makeFunction_eq]
  simp only [List.zip_nil_right, List.filterMap_nil, List.isEmpty_nil, if_true, pure_bind]
  unfold makeTail
  rw [hcl, hge0]
  refine wpAny_bind (wpAny_pure ?_)
  simp only [List.isEmpty_nil, if_true]
  refine wpAny_bind (wpAny_pure ?_)
  refine wpAny_bind (wpAny_functionCodeX hcode (C.code hP ht) (C.tab hP) hnf fun c' h' tk hx hge hlt _ hrec htb ht2 => ?_)
  have hg' := hg.extBut hx hgP
  refine wpAny_bind (wpAny_builtinsFor hg' hbm hne0 (hx _ _ hneP hbo) hcls hdict hdata ?_)
  refine wpAny_bind (wpAny_nsGet hg' ?_)
  refine wpAny_bind (wpAny_pure (wpAny_newObj_type (h c' .none h' tk hx (Nat.le_of_lt (Nat.lt_of_le_of_lt hge hlt)) ?_ htb.2) (by size_fits)))
  obtain ⟨P', _, _, ⟨o2, vs2, e1, e2, e3, _⟩, _⟩ := ht2
  obtain ⟨c2, o, vs, t, e, g, d, r⟩ := hrec
  cases e
  rw [e1] at g; cases g
  exact ⟨c', _, vs, t, rfl, e1, e2, d, r⟩
theorem Ext.upAll {B s : Shared} {F : Fz} {h' : Heap} (i : Inv B s) (f : F.In s.heap) (hk : ∀ b o, s.heap.get? b = some o → h'.get? b = some o) (hz : s.heap.objs.size ≤ h'.objs.size) (t : Tok) : Ext B s F { s with heap := h', toks := t } F :=
  ⟨i.sft (fun b o e _ => hk b o e) (fun b o e _ => hk b o e) hz rfl i.gens, hz, fun b o e _ => hk b o e, Fz.Le.refl _, fun _ _ e => .inl e, f.up fun a o e _ => hk a o e⟩
/-- what a lambda wants of the top -/
structure Mk (B : Shared) (c P : Addr) : Prop where
  hd : CodeHd B.heap c P
  bm : ∃ m, B.heap.Ns mainGlobals m ∧ B.heap.BuiltinsAt m P
theorem Mk.hd' {B s : Shared} {c P : Addr} (m : Mk B c P) (i : Inv B s) : CodeHd s.heap c P :=
  let ⟨o, vs, file, tf, flags, tg, inF, text, tt, e, cl, r⟩ := m.hd
  ⟨o, vs, file, tf, flags, tg, inF, text, tt, i.keep _ _ e (fun h => by have := h.1.1; rw [cl] at this; cases this), cl, r⟩
theorem Mk.bm' {B s : Shared} {c P : Addr} (m : Mk B c P) (i : Inv B s) : ∃ m, s.heap.Ns mainGlobals m ∧ s.heap.BuiltinsAt m P := by
  obtain ⟨m, ⟨ob, es, ep, e, d, r⟩, bm, o, h1, h2, h3, h4, h5, h6, h7, h8⟩ := m.bm
  exact ⟨m, ⟨ob, es, ep, i.keep _ _ e (fun ⟨⟨_, vs, q⟩, _⟩ => by rw [d] at q; cases q), d, r⟩, bm, o, h1, h2, h3, h4, i.keep _ _ h5 (fun ⟨⟨q, _⟩, _⟩ => by rw [h6] at q; cases q), h6, h7, h8⟩
section
variable {w : World} {B : Shared} {n : Nat} {env : Env} {vars : Vars} {scope : Scope}
/-- a lambda made in _translate -/
theorem Ev.lam2 {params : Arguments} {body : Expr} {scope : Scope} {pos : Pos} (m : Mk B 114 110) (hcode : env.code = .ref 114) (hcl : closureFor scope env = pure [] := by rfl) (hdef : defaultsOf params env = ([], []) := by rfl) :
    Ev w B n env vars (.Lambda params body scope pos) rFn := .mk fun A s F hA S => by
  refine kla_eval hdef ?_
  obtain ⟨mg, hg, hb⟩ := m.bm' S.inv
  obtain ⟨ps, hP, ht, hq⟩ := S.inv.t2
  cases hf : codeAmong pos ps.toList with
  | some cv =>
    refine kla_makeFunctionHit hcl S.eok.gl hg hcode (m.hd' S.inv) hP ht hf hb fun ctv h' tk hk hz => ?_
    have x₁ := Ext.upAll S.inv S.fin hk hz tk
    exact (made x₁.inv x₁.fin rfl tk fun F' le e => ⟨_, _, rfl, e⟩ : Gives B { s with heap := h', toks := tk } F rFn _ _).from x₁
  | none =>
    refine lam_miss hcl S.eok.gl hg hcode (m.hd' S.inv) hP ht hf (by decide) hb fun c' ctv h' tk hx hz ck hP' => ?_
    have x₁ := Ext.grown S.inv S.fin (.inr (.inl rfl)) hP hx hz (fun h => by cases h) (fun _ => TabAt.grow hP ht hq hP' (fun p v ⟨q, y⟩ => ⟨q, y.but hx hP⟩) fun p => ⟨_, ck⟩) (fun h => by cases h) tk
    exact (made x₁.inv x₁.fin rfl tk fun F' le e => ⟨_, _, rfl, e⟩ : Gives B { s with heap := h', toks := tk } F rFn _ _).from x₁
end
end Mine
end

section
open PySem PySem.W PyProof.Rows PySem.Calls PySem.SeqAt
local macro_rules | `(tactic| k_is) => `(tactic| first | (with_reducible exact Mine.Has.here) | (with_reducible refine Mine.Has.there ?_; k_is))
local macro_rules | `(tactic| k_asm) => `(tactic| first | (with_reducible exact Mine.Keep.nil) | (with_reducible exact Mine.Sub.nil) | (with_reducible refine Mine.Keep.cons ?_ ?_ ?_; (k_is); (decide); (k_asm)) | (with_reducible refine Mine.Sub.cons ?_ ?_; (k_is); (k_asm)))
namespace Mine
section
variable {w : World} {B : Shared} {n : Nat} {env : Env} {vars : Vars} {scope : Scope} {N : Nat} {s₀ : Shared} {F₀ : Fz} {ms : Mss} {Q : Flow → Shared → Prop}
theorem call_defC {a : Addr} {name qual : Str} {params : Arguments} {body : List Stmt} {scope : Scope} {cl : List (Str × Addr)} {dv kv : Value} {A : Around} {s : Shared} {F : Fz} {vs : List Value} {kw : List (Str × Value)} {binds : List (Str × Value)} {r : Rp}
    (hA : Le A n) (hn : n ≤ 55) (i : Inv B s) (f : F.In s.heap) (hl : B.heap.NoLimit) (fn : FnAt s.heap a name qual params (.stmts body) scope cl dv kv)
    (hcl : ∀ x c, cl.lookup x = some c → (∃ v, s.heap.IsCell c v) ∧ F c = none ∧ B.heap.objs.size ≤ c) (hap : ∀ x y c, cl.lookup x = some c → cl.lookup y = some c → x = y)
    (hbind : ∀ cd pm doc ct an, BindsTo s (fdOf name qual params (.stmts body) scope cl dv kv cd pm doc ct an) ⟨vs, kw⟩ binds) (hnd : (binds.map (·.1)).Nodup) (hbk : ∀ p ∈ binds, scope.names.lookup p.1 = some .local ∨ scope.names.lookup p.1 = some .cell)
    (hk : scope.kind = .function) (hco : scope.isCoroutine = false) (hgen : scope.isGenerator = false)
    (pars pc : Vars) (hp : ∀ p ∈ pars, ∃ v, (p.1, v) ∈ binds ∧ p.2.p F v)
    (hpc : ∀ p ∈ pc, ∃ c v, (cellsFrom (s.heap.objs.size + 1) scope.names cl).lookup p.1 = some c ∧ s.heap.IsCell c (some v) ∧ p.2.p F v ∧ scope.names.lookup p.1 = some .free)
    (h : ∀ cd env, (∃ o fd, s.heap.get? a = some o ∧ o.data = .func fd ∧ fd.code = cd) → env = envF qual scope cl s.heap.objs.size a cd → FE scope s.heap.objs.size env → Xs w B s F (n + 1) env (pars ++ pc) [] body (Back B s F r)) : W w A (call (.ref a) vs kw) (Gives B s F r) s := by
  obtain ⟨o, cd, pm, doc, ct, an, ho, hd, hc⟩ := fn
  refine wpAny_call (codeAny_call_function (hA.room (by (exact Nat.le_trans hn (by decide)))) ho hd hco hgen rfl hc.rec (hbind cd pm doc ct an _ _ _ _ ?_))
  refine W.toE (wp_newEnv i f hk rfl hcl hap hnd hbk fun s₁ R => ⟨R.st.inv.lim hl, codeAny_func (W.toE (((h cd _ ⟨_, _, ho, hd, rfl⟩ rfl envF_ok).go _ s₁ F (hA.deeper _) ⟨⟨R.st.inv, R.st.fin, R.st.eok, fun p hpp => ?_⟩, R.ext⟩ Ms.nil).mono ?_))⟩)
  · rcases List.mem_append.mp hpp with hpp | hpp
    · obtain ⟨v, hv, hq⟩ := hp p hpp
      obtain ⟨u, hu, k⟩ := R.st.vars (p.1, rVal v) (List.mem_map.mpr ⟨(p.1, v), List.mem_reverse.mpr hv, rfl⟩)
      cases (show u = v from hu)
      exact ⟨v, hq, k⟩
    · obtain ⟨c, v, a1, a2, a3, a4⟩ := hpc p hpp
      exact ⟨v, a3, .inr ⟨.inr a4, c, a1, Cell.ext a2 R.ext.keep⟩⟩
  · rintro fl s' ⟨v, rfl, g⟩
    exact g
theorem call_topC {a : Addr} {name qual : Str} {params : Arguments} {body : List Stmt} {scope : Scope} {dv kv : Value} {A : Around} {s : Shared} {F : Fz} {vs : List Value} {kw : List (Str × Value)} {binds : List (Str × Value)} {r : Rp}
    (hA : Le A n) (hn : n ≤ 55) (i : Inv B s) (f : F.In s.heap) (hl : B.heap.NoLimit) (fn : FnAt B.heap a name qual params (.stmts body) scope [] dv kv)
    (hbind : ∀ cd pm doc ct an, BindsTo s (fdOf name qual params (.stmts body) scope [] dv kv cd pm doc ct an) ⟨vs, kw⟩ binds) (hnd : (binds.map (·.1)).Nodup) (hbk : ∀ p ∈ binds, scope.names.lookup p.1 = some .local ∨ scope.names.lookup p.1 = some .cell)
    (hk : scope.kind = .function) (hco : scope.isCoroutine = false) (hgen : scope.isGenerator = false) (pars : Vars) (hp : ∀ p ∈ pars, ∃ v, (p.1, v) ∈ binds ∧ p.2.p F v)
    {c : Value} (hcode : ∀ o fd, B.heap.get? a = some o → o.data = .func fd → fd.code = c) (h : ∀ env, env.code = c → env = envF qual scope [] s.heap.objs.size a c → FE scope s.heap.objs.size env → Xs w B s F (n + 1) env pars [] body (Back B s F r)) : W w A (call (.ref a) vs kw) (Gives B s F r) s := by
  obtain ⟨o₁, cd₁, pm₁, doc₁, ct₁, an₁, ho, hd, hc⟩ := id fn
  have hs := i.keep _ _ ho (fun ⟨⟨_, vs, q⟩, _⟩ => by rw [hd] at q; cases q)
  refine call_defC hA hn i f hl (i.fn fn) (fun _ _ e => (nomatch e)) (fun _ _ _ e => (nomatch e)) hbind hnd hbk hk hco hgen pars [] hp (fun _ e => (nomatch e)) fun cd env ⟨o, fd, e1, e2, e3⟩ e fe => ?_
  rw [List.append_nil]
  rw [hs] at e1; cases e1
  have hcd : cd = c := e3 ▸ hcode _ _ ho e2
  subst hcd
  subst e
  exact h _ rfl rfl fe
theorem Cal.def3c {a : Addr} {name : Str} {i : Nat} {dv kv : Value} {x y z : Str} {r₁ r₂ r₃ r : Rp} (fn : Df B a name i dv kv) (hl : B.heap.NoLimit) (hn : n ≤ 55)
    (hb : ∀ v u t (s : Shared), Inv B s → ∀ cd pm doc ct an, BindsTo s (fdOf name name (argsAt i) (.stmts (bodyAt i)) (scopeAt i) [] dv kv cd pm doc ct an) ⟨[v, u, t], []⟩ [(x, v), (y, u), (z, t)])
    {c : Value} (hcode : ∀ o fd, B.heap.get? a = some o → o.data = .func fd → fd.code = c) (h : ∀ s F env, env.code = c → FE (scopeAt i) s.heap.objs.size env → Xs w B s F (n + 1) env [(x, r₁), (y, r₂), (z, r₃)] [] (bodyAt i) (Back B s F r)) (hnd : [x, y, z].Nodup := by decide)
    (hx : (scopeAt i).names.lookup x = some .local ∨ (scopeAt i).names.lookup x = some .cell := by decide +kernel) (hy : (scopeAt i).names.lookup y = some .local ∨ (scopeAt i).names.lookup y = some .cell := by decide +kernel) (hz : (scopeAt i).names.lookup z = some .local ∨ (scopeAt i).names.lookup z = some .cell := by decide +kernel)
    (hk : (scopeAt i).kind = .function := by rfl) (hco : (scopeAt i).isCoroutine = false := by rfl) (hgen : (scopeAt i).isGenerator = false := by rfl) : Cal w B n (.ref a) [r₁, r₂, r₃] r := .mk fun A s F vs hA iv fi are => by
  obtain ⟨v, vs', rfl, pv, q⟩ := are.cons_inv
  obtain ⟨u, vs'', rfl, p2, q2⟩ := q.cons_inv
  obtain ⟨t, vs'', rfl, p3, q3⟩ := q2.cons_inv
  have e := q3.nil_inv
  subst e
  refine call_topC (c := c) hA hn iv fi hl fn (fun cd pm doc ct an => hb v u t s iv cd pm doc ct an) (by simpa using hnd) (fun p hp => ?_) hk hco hgen [(x, r₁), (y, r₂), (z, r₃)] (fun p hp => ?_) hcode fun env e1 _ fe => h s F env e1 fe
  · simp at hp; rcases hp with rfl | rfl | rfl
    · exact hx
    · exact hy
    · exact hz
  · simp at hp; rcases hp with rfl | rfl | rfl
    · exact ⟨v, .head _, pv⟩
    · exact ⟨u, .tail _ (.head _), p2⟩
    · exact ⟨t, .tail _ (.tail _ (.head _)), p3⟩

end
end Mine
end

section
open PySem PySem.W PyProof.Rows PySem.Calls PySem.SeqAt
local macro_rules | `(tactic| k_is) => `(tactic| first | (with_reducible exact Mine.Has.here) | (with_reducible refine Mine.Has.there ?_; k_is))
local macro_rules | `(tactic| k_asm) => `(tactic| first | (with_reducible exact Mine.Keep.nil) | (with_reducible exact Mine.Sub.nil) | (with_reducible refine Mine.Keep.cons ?_ ?_ ?_; (k_is); (decide); (k_asm)) | (with_reducible refine Mine.Sub.cons ?_ ?_; (k_is); (k_asm)))
namespace Mine
section
variable {w : World} {B : Shared} {n : Nat} {env : Env} {vars : Vars} {scope : Scope} {N : Nat} {s₀ : Shared} {F₀ : Fz} {ms : Mss} {Q : Flow → Shared → Prop}
/-- range going down -/
theorem Cal.rangeDown {a b : Int} : Cal w B n (.type "range") [rInt a, rInt b, rInt (-1)] (rRange a b (-1)) := .mk fun A s F vs hA i f are => by
  obtain ⟨v, vs', rfl, ⟨t, rfl⟩, r₁⟩ := are.cons_inv
  obtain ⟨v, vs', rfl, ⟨u, rfl⟩, r₂⟩ := r₁.cons_inv
  obtain ⟨v, vs', rfl, ⟨z, rfl⟩, r₃⟩ := r₂.cons_inv
  have e := r₃.nil_inv
  subst e
  refine call_range_3 (by decide) ?_ ?_
  · have x := Ext.push i f { cls := .type "range", data := .fields #[.int a t, .int b u, .int (-1) z] } s.toks
    exact ⟨_, x.freeze (Nat.le_refl _) (Heap.get?_push_size _ rfl) (Fz.none_of_in f (Nat.le_refl _)), _, _, _, _, rfl, Fz.put_self ..⟩
  · exact .inl (PyProof.noPylong_small (by (exact Nat.le_add_left _ _)))
/-- the branch of a bracket in _translate -/
noncomputable def bbody : List Stmt := match tbody with | [_, _, .If _ _ [.If _ _ [.If _ b _ _] _] _] => b | _ => []
/-- while True -/
theorem EvT.tru {k : Nat} {pos : Pos} : EvT w B n env vars (.Constant (.bool true) k pos) true := EvT.of Ev.bool
end
end Mine
end

section
open PySem PySem.W PyProof.Rows PySem.Calls PySem.SeqAt
local macro_rules | `(tactic| k_is) => `(tactic| first | (with_reducible exact Mine.Has.here) | (with_reducible refine Mine.Has.there ?_; k_is))
local macro_rules | `(tactic| k_asm) => `(tactic| first | (with_reducible exact Mine.Keep.nil) | (with_reducible exact Mine.Sub.nil) | (with_reducible refine Mine.Keep.cons ?_ ?_ ?_; (k_is); (decide); (k_asm)) | (with_reducible refine Mine.Sub.cons ?_ ?_; (k_is); (k_asm)))
namespace Mine
section
variable {w : World} {B : Shared} {n : Nat} {env : Env} {vars : Vars} {scope : Scope} {N : Nat} {s₀ : Shared} {F₀ : Fz} {ms : Mss} {Q : Flow → Shared → Prop}
noncomputable abbrev bvars (pat : List Nat) (a d : Addr) (i : Nat) : Vars := [("i", rNat i), ("c", rS [91]), ("n", rNat pat.length), ("add", rApp a), ("res", rVal (.ref a)), ("pat", rS pat), ("STAR", rVal (.ref d))]
noncomputable def blast : List Stmt := bbody.drop 4
structure Brk (pat : List Nat) (i : Nat) : Prop where
  g0 : pat[i]? = some 98
  g1 : pat[i + 1]? = some 45
  g2 : pat[i + 2]? = some 97
  g3 : pat[i + 3]? = some 93
theorem Brk.lt {pat : List Nat} {i : Nat} (b : Brk pat i) : i + 3 < pat.length := (List.getElem?_eq_some_iff.mp b.g3).1
theorem bracket_scan {s : Shared} {F : Fz} {pat : List Nat} {a d : Addr} {i : Nat} (hp : pat.length ≤ 1000) (b : Brk pat i) (fe : FE (scopeAt 20) s.heap.objs.size env)
    (k : Xs w B s F n env (("j", rNat (i + 3)) :: bvars pat a d i) ms blast Q) : Xs w B s F n env (bvars pat a d i) ms bbody Q := by
  have l := b.lt
  refine Xs.set (rNat i) (bvars pat a d i) fe (Ev.m .nm) ?_
  refine Xs.if_no (EvT.m (.ext (.bop (.and_cons (.cmp .nm .nm cn_lt .bool) fun _ => .one_and (.cmp (Ev.sign .nm .nm b.g0 (by (omega))) (Ev.lit (l := [33])) os_eq .bool))) ?_)) ?_
  · rw [show ([98] == [33] : Bool) = false from rfl]; simp
  refine Xs.if_no (EvT.m (.ext (.bop (.and_cons (.cmp .nm .nm cn_lt .bool) fun _ => .one_and (.cmp (Ev.sign .nm .nm b.g0 (by (omega))) (Ev.lit (l := [93])) os_eq .bool))) ?_)) ?_
  · rw [show ([98] == [93] : Bool) = false from rfl]; simp
  refine Xs.while_ (fun t : Nat => ("j", rNat (i + min t 3)) :: bvars pat a d i) (fun _ => ms) (fun t => 3 - t) 0 (by simp) rfl (fun t => decide (t < 3)) (· + 1) (fun t => ?_) (fun t ht => ?_) (fun t ht => ?_)
  · have key : ∀ c, pat[i + min t 3]? = some c → ([c] != [93]) = decide (t < 3) → EvTM w B s n env (("j", rNat (i + min t 3)) :: bvars pat a d i) ms (match bbody with | [_, _, _, .While t _ _ _, _] => t | _ => .Constant .none 0 default) (decide (t < 3)) := fun c hc e =>
      EvT.m (.ext (.bop (.and_cons (.cmp .nm .nm cn_lt .bool) fun _ => .one_and (.cmp (Ev.sign .nm .nm hc (by (omega))) (Ev.lit (l := [93])) os_ne .bool))) (by
        rw [decide_eq_true (show i + min t 3 < pat.length by (omega)), Bool.true_and]; exact e))
    match t with
    | 0 => exact key 98 b.g0 (by decide)
    | 1 => exact key 45 b.g1 (by decide)
    | 2 => exact key 97 b.g2 (by decide)
    | t + 3 =>
      refine key 93 ?_ ?_
      · rw [Nat.min_eq_right (by (exact Nat.le_add_left _ _))]; exact b.g3
      · rw [decide_eq_false (by (omega))]; decide
  · have ht' : t < 3 := by simpa using ht
    refine Xs.imp (Xs.set (rNat (i + min t 3 + 1)) (bvars pat a d i) fe (Ev.bin .nm (Ev.nat 1) on_add).m (Xs.done (vs := ("j", rNat (i + min (t + 1) 3)) :: bvars pat a d i) ?_ (.refl _))) fun f s' h => .inl ⟨.inl h.1, by (omega), h.2⟩
    have e : i + min t 3 + 1 = i + min (t + 1) 3 := by (omega)
    rw [e]
    k_asm
  · have ht' : 3 ≤ t := by simpa using ht
    rw [Nat.min_eq_right ht']
    exact k
end
end Mine
end

section
open PySem PySem.W PyProof.Rows PySem.Calls PySem.SeqAt
namespace Mine
theorem from_nat (len k : Nat) : fromIndex len (k : Int) = k := by unfold fromIndex; rw [if_neg (by (lia))]; (rfl)
theorem occ_none (s sub : Str) (lo hi : Nat) (h : hi < lo) : Builtin.Str.occurrences s sub lo hi 1 = [] := by
  unfold Builtin.Str.occurrences
  simp [Std.Legacy.Range.forIn_eq_forIn_range', Std.Legacy.Range.size, show hi + 1 - lo = 0 by (omega)]
theorem sub_at {x : List Nat} {i c : Nat} (h : x[i]? = some c) : Builtin.Str.subAt (S x) (S [c]) i = true := by
  have l := (List.getElem?_eq_some_iff.mp h)
  obtain ⟨l, e⟩ := l
  unfold Builtin.Str.subAt
  have : (S [c]).length = 1 := rfl
  rw [this]
  simp only [S]
  rw [beq_iff_eq]
  apply Array.ext'
  simp [← e]
  rw [List.drop_eq_getElem_cons l, List.take_succ_cons, List.take_zero]
theorem occ_first {x : List Nat} {i : Nat} (h : x[i]? = some 45) : Builtin.Str.occurrences (S x) (S [45]) i (i + 2) 1 = [i] := by
  have q := sub_at h
  unfold Builtin.Str.occurrences
  have e : i + 2 + 1 - i = 3 := by (lia)
  simp [Std.Legacy.Range.forIn_eq_forIn_range', Std.Legacy.Range.size, e, List.range', q, show (S [45]).length = 1 from rfl]
theorem found_first {x : List Nat} {i : Nat} (h : x[i + 1]? = some 45) (l : i + 3 < x.length) : found x [45] ((i + 1 : Nat) : Int) ((i + 3 : Nat) : Int) = ((i + 1 : Nat) : Int) := by
  unfold found
  rw [from_nat, from_nat, S_len, Nat.min_eq_left (by (exact Nat.le_of_lt l)), occ_first h]
theorem found_none {x : List Nat} {i : Nat} (l : i + 3 < x.length) : found x [45] ((i + 4 : Nat) : Int) ((i + 3 : Nat) : Int) = -1 := by
  unfold found
  rw [from_nat, from_nat, S_len, Nat.min_eq_left (by (exact Nat.le_of_lt l)), occ_none _ _ _ _ (by (exact Nat.le_refl _))]
section
variable {w : World} {B : Shared} {n : Nat} {env : Env} {vars : Vars}
theorem Ev.ifNo {t b o : Expr} {p : Pos} {r : Rp} (h : EvT w B n env vars t false) (h2 : Ev w B n env vars o r) : Ev w B n env vars (.IfExp t b o p) r := .mk fun A s F hA S => by
  rw [arm_eval_IfExp]
  exact wpAny_bind ((h.go A s F hA S).mono fun c s₁ ⟨e, F₁, x₁⟩ => by
    subst e
    exact (h2.go A s₁ F₁ hA (S.ext x₁)).mono fun v s' g => g.from x₁)
end
end Mine
end

section
open PySem PySem.W PyProof.Rows PySem.Calls PySem.SeqAt
local macro_rules | `(tactic| k_is) => `(tactic| first | (with_reducible exact Mine.Has.here) | (with_reducible refine Mine.Has.there ?_; k_is))
local macro_rules | `(tactic| k_asm) => `(tactic| first | (with_reducible exact Mine.Keep.nil) | (with_reducible exact Mine.Sub.nil) | (with_reducible refine Mine.Keep.cons ?_ ?_ ?_; (k_is); (decide); (k_asm)) | (with_reducible refine Mine.Sub.cons ?_ ?_; (k_is); (k_asm)))
namespace Mine
section
variable {w : World} {B : Shared} {n : Nat} {env : Env} {vars : Vars} {scope : Scope} {N : Nat} {s₀ : Shared} {F₀ : Fz} {ms : Mss} {Q : Flow → Shared → Prop}
/-- the statements where the bracket has a line in it -/
noncomputable def cbody : List Stmt := match blast with | [.If _ _ [_, .If _ _ b _, _, _, _] _] => b | _ => []
noncomputable abbrev cvars (pat : List Nat) (a d b : Addr) (i k e : Nat) : Vars := [("k", rNat k), ("i", rNat i), ("chunks", rVal (.ref b)), ("stuff", rS [98, 45, 97]), ("j", rNat e), ("c", rS [91]), ("n", rNat pat.length), ("add", rApp a), ("res", rVal (.ref a)), ("pat", rS pat), ("STAR", rVal (.ref d))]
noncomputable def ci (i t : Nat) : Nat := if t = 0 then i else i + 2
noncomputable def ck (i t : Nat) : Nat := if t = 0 then i + 1 else i + 4
noncomputable def cl (t : Nat) : List Rp := if t = 0 then [] else [rS [98]]
theorem chunk_loop {s : Shared} {F : Fz} {pat : List Nat} {a d : Addr} {i : Nat} (hp : pat.length ≤ 1000) (b : Brk pat i) (fe : FE (scopeAt 20) s.heap.objs.size env)
    (k : ∀ c, Xs w B s F n env [("k", rInt (-1)), ("i", rNat (i + 2)), ("chunks", rVal (.ref c)), ("stuff", rS [98, 45, 97]), ("j", rNat (i + 3)), ("c", rS [91]), ("n", rNat pat.length), ("add", rApp a), ("res", rVal (.ref a)), ("pat", rS pat), ("STAR", rVal (.ref d))] ((c, mList [rS [98]]) :: ms) (cbody.drop 3) Q) :
    Xs w B s F n env (("stuff", rS [98, 45, 97]) :: ("j", rNat (i + 3)) :: bvars pat a d i) ms cbody Q := by
  have l := b.lt
  refine Xs.setL (rs := []) (("stuff", rS [98, 45, 97]) :: ("j", rNat (i + 3)) :: bvars pat a d i) fe (EvN.list .nil) fun c => ?_
  refine Xs.set (rNat (i + 1)) [("i", rNat i), ("chunks", rVal (.ref c)), ("stuff", rS [98, 45, 97]), ("j", rNat (i + 3)), ("c", rS [91]), ("n", rNat pat.length), ("add", rApp a), ("res", rVal (.ref a)), ("pat", rS pat), ("STAR", rVal (.ref d))] fe (Ev.m (Ev.ifNo (.ext (.cmp (Ev.sign .nm .nm b.g0 (by (omega))) (Ev.lit (l := [33])) os_eq .bool) (by rfl)) (Ev.bin .nm (Ev.nat 1) on_add))) ?_
  refine Xs.while_ (fun t : Nat => cvars pat a d c (ci i t) (ck i t) (i + 3)) (fun t => (c, mList (cl t)) :: ms) (fun t => 1 - t) 0 rfl rfl (fun t => true) (· + 1) (fun t => EvT.m .tru) (fun t _ => ?_) (fun t ht => by cases ht)
  have fnd : Ev w B n env (cvars pat a d c (ci i t) (ck i t) (i + 3)) (match cbody with | [_, _, .While _ (.Assign _ e _ :: _) _ _, _, _, _, _] => e | _ => .Constant .none 0 default) (rInt (found pat [45] ((ck i t : Nat) : Int) ((i + 3 : Nat) : Int))) :=
    Ev.meth (T := "str") .nm is_S nd_S PySem.F.plainAttrs_str PySem.F.slot_str_find PySem.F.type_str_find (.cons (Ev.lit (l := [45])) (.cons .nm (.cons .nm .nil))) Cal.find4
  refine Xs.set (rInt (found pat [45] ((ck i t : Nat) : Int) ((i + 3 : Nat) : Int))) [("i", rNat (ci i t)), ("chunks", rVal (.ref c)), ("stuff", rS [98, 45, 97]), ("j", rNat (i + 3)), ("c", rS [91]), ("n", rNat pat.length), ("add", rApp a), ("res", rVal (.ref a)), ("pat", rS pat), ("STAR", rVal (.ref d))] fe fnd.m ?_
  match t with
  | 0 =>
    have e1 : ci i 0 = i := rfl
    have e2 : ck i 0 = i + 1 := rfl
    have e3 : cl 0 = [] := rfl
    rw [e1, e2, e3, found_first b.g1 l]
    refine Xs.if_no (EvT.m (.ext (.cmp .nm (Ev.nat 0) cn_lt .bool) (by simp))) ?_
    refine Xs.app (r := rS [98]) (by k_is) (Ev.m (Ev.scut (y := [98]) .nm (.nat .nm) (.nat .nm) (by (exact Nat.le_trans hp (by decide))) ?_)) (by simp) ?_
    · rw [cut_mid, show i + 1 - i = 1 by (omega)]
      obtain ⟨l0, e⟩ := List.getElem?_eq_some_iff.mp b.g0
      rw [List.drop_eq_getElem_cons l0, List.take_succ_cons, List.take_zero, e]
    refine Xs.set (rNat (i + 1 + 1)) [("k", rNat (i + 1)), ("chunks", rVal (.ref c)), ("stuff", rS [98, 45, 97]), ("j", rNat (i + 3)), ("c", rS [91]), ("n", rNat pat.length), ("add", rApp a), ("res", rVal (.ref a)), ("pat", rS pat), ("STAR", rVal (.ref d))] fe (Ev.bin .nm (Ev.nat 1) on_add).m ?_
    refine Xs.set (rNat (i + 1 + 3)) [("i", rNat (i + 1 + 1)), ("chunks", rVal (.ref c)), ("stuff", rS [98, 45, 97]), ("j", rNat (i + 3)), ("c", rS [91]), ("n", rNat pat.length), ("add", rApp a), ("res", rVal (.ref a)), ("pat", rS pat), ("STAR", rVal (.ref d))] fe (Ev.bin .nm (Ev.nat 3) on_add).m ?_
    exact Xs.imp (Xs.done (vs := cvars pat a d c (i + 1 + 1) (i + 1 + 3) (i + 3)) (by k_asm) (.refl _)) fun f s' h => .inl ⟨.inl h.1, by decide, h.2⟩
  | t + 1 =>
    have e1 : ci i (t + 1) = i + 2 := by simp [ci]
    have e2 : ck i (t + 1) = i + 4 := by simp [ck]
    have e3 : cl (t + 1) = [rS [98]] := by simp [cl]
    rw [e1, e2, e3, found_none l]
    refine Xs.if_out (EvT.m (.ext (.cmp .nm (Ev.nat 0) cmp_lt .bool) (by decide))) ?_
    exact Xs.imp Xs.brk fun f s' ⟨e, F', R, M⟩ => ⟨by rw [e]; exact fun h => (nomatch h), .inr ⟨e, fun A hA => (k c).go A s' F' hA R M⟩⟩
end
end Mine
end

section
open PySem PySem.W PyProof.Rows PySem.Calls PySem.SeqAt
local macro_rules | `(tactic| k_is) => `(tactic| first | (with_reducible exact Mine.Has.here) | (with_reducible refine Mine.Has.there ?_; k_is))
local macro_rules | `(tactic| k_asm) => `(tactic| first | (with_reducible exact Mine.Keep.nil) | (with_reducible exact Mine.Sub.nil) | (with_reducible refine Mine.Keep.cons ?_ ?_ ?_; (k_is); (decide); (k_asm)) | (with_reducible refine Mine.Sub.cons ?_ ?_; (k_is); (k_asm)))
namespace Mine
section
variable {w : World} {B : Shared} {n : Nat} {env : Env} {vars : Vars} {scope : Scope} {N : Nat} {s₀ : Shared} {F₀ : Fz} {ms : Mss} {Q : Flow → Shared → Prop}
noncomputable abbrev dvars (pat : List Nat) (a d c : Addr) (i : Nat) : Vars := [("i", rNat (i + 2)), ("chunks", rVal (.ref c)), ("j", rNat (i + 3)), ("n", rNat pat.length), ("add", rApp a), ("res", rVal (.ref a)), ("pat", rS pat), ("STAR", rVal (.ref d))]
theorem chunk_last {s : Shared} {F : Fz} {pat : List Nat} {a d c : Addr} {i : Nat} (hp : pat.length ≤ 1000) (b : Brk pat i) (fe : FE (scopeAt 20) s.heap.objs.size env)
    (k : Xs w B s F n env (dvars pat a d c i) ((c, mList [rS [98], rS [97]]) :: ms) (cbody.drop 5) Q) :
    Xs w B s F n env [("k", rInt (-1)), ("i", rNat (i + 2)), ("chunks", rVal (.ref c)), ("stuff", rS [98, 45, 97]), ("j", rNat (i + 3)), ("c", rS [91]), ("n", rNat pat.length), ("add", rApp a), ("res", rVal (.ref a)), ("pat", rS pat), ("STAR", rVal (.ref d))] ((c, mList [rS [98]]) :: ms) (cbody.drop 3) Q := by
  have l := b.lt
  refine Xs.set (rS [97]) (dvars pat a d c i) fe (Ev.m (Ev.scut (y := [97]) .nm (.nat .nm) (.nat .nm) (by (exact Nat.le_trans hp (by decide))) ?_)) ?_
  · rw [cut_mid, show i + 3 - (i + 2) = 1 by (lia)]
    obtain ⟨l0, e⟩ := List.getElem?_eq_some_iff.mp b.g2
    rw [List.drop_eq_getElem_cons l0, List.take_succ_cons, List.take_zero, e]
  refine Xs.if_in (b := true) (dvars pat a d c i) ((c, mList [rS [98], rS [97]]) :: ms) (EvT.m (.ext (.txt (x := [97]) .nm (by decide)) (by rfl))) (fun _ => ?_) (fun h => by cases h) k
  exact Xs.app (r := rS [97]) (by k_is) (Ev.m .nm) (by simp) (Xs.done (by k_asm) (.refl _))
end
end Mine
end

section
open PySem PySem.W PyProof.Rows PySem.Calls PySem.SeqAt
local macro_rules | `(tactic| k_is) => `(tactic| first | (with_reducible exact Mine.Has.here) | (with_reducible refine Mine.Has.there ?_; k_is))
local macro_rules | `(tactic| k_asm) => `(tactic| first | (with_reducible exact Mine.Keep.nil) | (with_reducible exact Mine.Sub.nil) | (with_reducible refine Mine.Keep.cons ?_ ?_ ?_; (k_is); (decide); (k_asm)) | (with_reducible refine Mine.Sub.cons ?_ ?_; (k_is); (k_asm)))
namespace Mine
section
variable {w : World} {B : Shared} {n : Nat} {env : Env} {vars : Vars} {scope : Scope} {N : Nat} {s₀ : Shared} {F₀ : Fz} {ms : Mss} {Q : Flow → Shared → Prop}
/-- a range that a changing list is read for -/
theorem EvM.thawR {e : Expr} {p q z : Int} {x : Str} {a : Addr} {rs : List Rp} (hx : (x, rVal (.ref a)) ∈ vars) (hm : (a, mList rs) ∈ ms) (h : Ev w B n env ((x, rL rs) :: vars) e (rRange p q z)) : EvM w B s₀ n env vars ms e (rRange p q z) := .mk fun A s F hA S M => by
  obtain ⟨_, o', so, ys, k, e0, are⟩ := M.at_ _ hm
  subst e0
  obtain ⟨o, hn, S'⟩ := S.frozen M hx hm
  have ho : o = lst ys k := by
    have := (S'.fin a o (Fz.put_self ..)).1
    rw [so.at_] at this; cases this; rfl
  subst ho
  refine (h.go A s _ hA S').mono fun v s' ⟨F', y, b, t, u, m, e, g⟩ => ⟨F'.del a, y.thaw hn, b, t, u, m, e, ?_⟩
  have ne : b ≠ a := by
    rintro rfl
    have := y.le _ _ (Fz.put_self F b (lst ys k))
    rw [g] at this
    have := congrArg (Option.map Obj.cls) this
    simp at this
  unfold Fz.del
  rw [if_neg ne]; exact g
/-- the chunks drawn together -/
theorem chunk_iter {s : Shared} {pat : List Nat} {a d c : Addr} {i : Nat} (T : Tx B) (fe : FE (scopeAt 20) s.heap.objs.size env) (hn : n ≤ 50) :
    EvM w B s n env (dvars pat a d c i) ((c, mList [rS [98], rS [97]]) :: ms) (match cbody with | [_, _, _, _, _, .For _ e _ _ _, _] => e | _ => .Constant .none 0 default) (rRange 1 0 (-1)) :=
  EvM.thawR (x := "chunks") (by simp) (.head _) (Ev.eq (Ev.cT fe T.range (.cons (Ev.bin (Ev.cB fe T.len (.cons .nm .nil) (Cal.len_list (f := fun r : Rp => r) (xs := [rS [98], rS [97]]) (by decide))) (Ev.int (i := 1)) op_sub) (.cons (Ev.int (i := 0)) (.cons (Ev.neg (Ev.int (i := 1))) .nil))) Cal.rangeDown) rfl)
end
end Mine
end

section
open PySem PySem.W PyProof.Rows PySem.Calls PySem.SeqAt
local macro_rules | `(tactic| k_is) => `(tactic| first | (with_reducible exact Mine.Has.here) | (with_reducible refine Mine.Has.there ?_; k_is))
local macro_rules | `(tactic| k_asm) => `(tactic| first | (with_reducible exact Mine.Keep.nil) | (with_reducible exact Mine.Sub.nil) | (with_reducible refine Mine.Keep.cons ?_ ?_ ?_; (k_is); (decide); (k_asm)) | (with_reducible refine Mine.Sub.cons ?_ ?_; (k_is); (k_asm)))
namespace Mine
section
variable {w : World} {B : Shared} {n : Nat} {env : Env} {vars : Vars} {scope : Scope} {N : Nat} {s₀ : Shared} {F₀ : Fz} {ms : Mss} {Q : Flow → Shared → Prop}
/-- the last sign of a str of one -/
theorem os_last {c : Nat} : Op2 w B n getItem (rS [c]) (rInt (-1)) (rS [c]) := .mk fun A s F u v hA iv fi ⟨t, e⟩ ⟨t', e'⟩ => by
  subst e; subst e'
  exact PyProof.Rows.getItem_str (c := c) (by decide) (by rfl) ⟨F, Ext.tok iv fi _, _, rfl⟩
noncomputable def fbody : List Stmt := match cbody with | [_, _, _, _, _, .For _ _ b _ _, _] => b | _ => []
/-- the test of the chunks' loop -/
theorem chunk_test {s : Shared} {pat : List Nat} {a d c : Addr} {i : Nat} {q : Addr × Mo} :
    EvTM w B s n env (("k", rNat 1) :: dvars pat a d c i) (q :: (c, mList [rS [98], rS [97]]) :: ms) (match fbody with | [.If t _ _ _] => t | _ => .Constant .none 0 default) true :=
  EvTM.thaw (x := "chunks") (a := c) (rs := [rS [98], rS [97]]) (by simp) (.tail _ (.head _)) (.ext (.cmp
    (Ev.sub (T := "str") (Ev.item (f := fun r : Rp => r) (x := [rS [98], rS [97]]) (i := 0) (c := rS [98]) .nm (Ev.eq (Ev.bin .nm (Ev.int (i := 1)) op_sub) rfl) rfl (by decide)) (Ev.neg (Ev.int (i := 1))) is_S PySem.F.slot_str_getitem.lookup os_last)
    (Ev.sign (x := [97]) (i := 0) (c := 97) (Ev.item (f := fun r : Rp => r) (x := [rS [98], rS [97]]) (i := 1) (c := rS [97]) .nm .nm rfl (by decide)) (Ev.nat 0) rfl (by decide)) os_gt .bool) (by decide))
end
end Mine
end

section
open PySem PySem.W PyProof.Rows PySem.Calls PySem.SeqAt
local macro_rules | `(tactic| k_is) => `(tactic| first | (with_reducible exact Mine.Has.here) | (with_reducible refine Mine.Has.there ?_; k_is))
local macro_rules | `(tactic| k_asm) => `(tactic| first | (with_reducible exact Mine.Keep.nil) | (with_reducible exact Mine.Sub.nil) | (with_reducible refine Mine.Keep.cons ?_ ?_ ?_; (k_is); (decide); (k_asm)) | (with_reducible refine Mine.Sub.cons ?_ ?_; (k_is); (k_asm)))
namespace Mine
section
variable {w : World} {B : Shared} {n : Nat} {env : Env} {vars : Vars} {scope : Scope} {N : Nat} {s₀ : Shared} {F₀ : Fz} {ms : Mss} {Q : Flow → Shared → Prop}
theorem chunk_step {s : Shared} {F : Fz} {pat : List Nat} {a d c : Addr} {i : Nat} {q : Addr × Mo} :
    Xs w B s F n env (("k", rNat 1) :: dvars pat a d c i) (q :: (c, mList [rS [98], rS [97]]) :: ms) fbody fun fl s' => (fl = .next ∨ fl = .cont) ∧ At B s F env (dvars pat a d c i) (q :: (c, mList [rS []]) :: ms) s' := by
  refine Xs.if_in (b := true) (dvars pat a d c i) (q :: (c, mList [rS []]) :: ms) chunk_test (fun _ => ?_) (fun h => by cases h) (Xs.next (by k_asm))
  refine Xs.swap (Xs.put (k := 0) (r := rS []) (by k_is) ?_ (Ev.m (Ev.eq (Ev.bin .nm (Ev.int (i := 1)) op_sub) rfl)) (by decide) (by decide) ?_)
  · exact EvM.thaw (x := "chunks") (by simp) (.head _) (Ev.bin
      (Ev.scut (y := []) (Ev.item (f := fun r : Rp => r) (x := [rS [98], rS [97]]) (i := 0) (c := rS [98]) .nm (Ev.eq (Ev.bin .nm (Ev.int (i := 1)) op_sub) rfl) rfl (by decide)) .no (.int (Ev.neg (Ev.int (i := 1)))) (by decide) (by rfl))
      (Ev.scut (y := []) (Ev.item (f := fun r : Rp => r) (x := [rS [98], rS [97]]) (i := 1) (c := rS [97]) .nm .nm rfl (by decide)) (.nat (Ev.nat 1)) .no (by decide) (by rfl)) (os_add (by decide))) flat.str
  · exact Xs.del (k := 1) (by k_is) (Ev.m .nm) (by decide) (by decide) (Xs.swap (Xs.done (by k_asm) (.refl _)))
end
end Mine
end

section
open PySem PySem.W PyProof.Rows PySem.Calls PySem.SeqAt
local macro_rules | `(tactic| k_is) => `(tactic| first | (with_reducible exact Mine.Has.here) | (with_reducible refine Mine.Has.there ?_; k_is))
local macro_rules | `(tactic| k_asm) => `(tactic| first | (with_reducible exact Mine.Keep.nil) | (with_reducible exact Mine.Sub.nil) | (with_reducible refine Mine.Keep.cons ?_ ?_ ?_; (k_is); (decide); (k_asm)) | (with_reducible refine Mine.Sub.cons ?_ ?_; (k_is); (k_asm)))
namespace Mine
section
variable {w : World} {B : Shared} {n : Nat} {env : Env} {vars : Vars} {scope : Scope} {N : Nat} {s₀ : Shared} {F₀ : Fz} {ms : Mss} {Q : Flow → Shared → Prop}
theorem chunk_fold {s : Shared} {F : Fz} {pat : List Nat} {a d c : Addr} {i : Nat} (T : Tx B) (hn : n ≤ 50) (fe : FE (scopeAt 20) s.heap.objs.size env)
    (k : Xs w B s F n env (dvars pat a d c i) ((c, mList [rS []]) :: ms) (cbody.drop 6) Q) : Xs w B s F n env (dvars pat a d c i) ((c, mList [rS [98], rS [97]]) :: ms) (cbody.drop 5) Q := by
  refine Xs.each (List.range 1) (fun i : Nat => rInt (1 + i * -1)) (fun _ => dvars pat a d c i) (fun t => (c, mList (if t = 0 then [rS [98], rS [97]] else [rS []])) :: ms) fe rfl (chunk_iter T fe hn) (Iterable.range (m := 1) (by decide) (by decide)) (fun F₁ j x q hx => ?_) k (by k_asm)
  have hj : j = 0 := by
    have := (List.getElem?_eq_some_iff.mp hx).1
    simpa using this
  subst hj
  have hx0 : x = 0 := by simpa using hx.symm
  subst hx0
  exact chunk_step
end
end Mine
end

section
open PySem PySem.W PyProof.Rows PySem.Calls PySem.SeqAt
namespace Mine
theorem slot_pat_sub : Slot "re.Pattern" "sub" "re.Pattern.sub" :=
  .of (owner := "re.Pattern") (n := "sub") (by rw [typeLookup_type, builtinLookup_eq_fast]; kernel_rfl) (by decide +kernel) (by decide +kernel) (by decide +kernel)
    (by first | exact .inl (by decide +kernel) | exact .inr (by decide +kernel)) (by rw [isSubtype_type]; kernel_rfl)
theorem type_pat_sub : typeOf (.builtin "re.Pattern.sub") = pure (.type "method_descriptor") := by show builtinType _ = _; rw [builtinType_eq_fast]; kernel_rfl
theorem plain_pat : PlainAttrs "re.Pattern" :=
  ⟨⟨"object.__getattribute__", by rw [typeLookup_type, builtinLookup_eq_fast]; kernel_rfl, by decide +kernel⟩, by rw [typeLookup_type, builtinLookup_eq_fast]; kernel_rfl⟩
end Mine
end

section
open PySem PySem.W PyProof.Rows PySem.Calls PySem.SeqAt
local macro_rules | `(tactic| k_is) => `(tactic| first | (with_reducible exact Mine.Has.here) | (with_reducible refine Mine.Has.there ?_; k_is))
local macro_rules | `(tactic| k_asm) => `(tactic| first | (with_reducible exact Mine.Keep.nil) | (with_reducible exact Mine.Sub.nil) | (with_reducible refine Mine.Keep.cons ?_ ?_ ?_; (k_is); (decide); (k_asm)) | (with_reducible refine Mine.Sub.cons ?_ ?_; (k_is); (k_asm)))
namespace Mine
section
variable {w : World} {B : Shared} {n : Nat} {env : Env} {vars : Vars} {scope : Scope} {N : Nat} {s₀ : Shared} {F₀ : Fz} {ms : Mss} {Q : Flow → Shared → Prop}
theorem is_pat (P : Pat B) : ∀ F (s : Shared) v, Inv B s → (rVal (.ref 89)).p F v → s.TypeIs v "re.Pattern" := fun F s v i e => by
  cases (show v = .ref 89 from e)
  obtain ⟨t', u, h8, h9⟩ := P.at_
  exact ⟨_, i.keep _ _ h9 (fun h => nomatch h.1.1), rfl⟩
noncomputable def ebody : List Stmt := match blast with | [.If _ _ e _] => e | _ => []
/-- the end of the bracket's branch: nothing is left of it -/
theorem bracket_end {s : Shared} {F : Fz} {pat : List Nat} {a d : Addr} {e i : Nat} {parts : List Rp} (fe : FE (scopeAt 20) s.heap.objs.size env) (hz : parts.length ≤ 1000) :
    Xs w B s F n env [("stuff", rS []), ("i", rNat i), ("j", rNat e), ("n", rNat pat.length), ("add", rApp a), ("res", rVal (.ref a)), ("pat", rS pat), ("STAR", rVal (.ref d))] [(a, mList parts)] (ebody.drop 3) (On B s F env (tvars pat a d (e + 1)) [(a, mList (parts ++ [rS [40, 63, 33, 41]]))]) := by
  refine Xs.set (rNat (e + 1)) [("stuff", rS []), ("n", rNat pat.length), ("add", rApp a), ("res", rVal (.ref a)), ("pat", rS pat), ("STAR", rVal (.ref d))] fe (Ev.bin .nm (Ev.nat 1) on_add).m ?_
  refine Xs.if_in (b := true) (tvars pat a d (e + 1)) [(a, mList (parts ++ [rS [40, 63, 33, 41]]))] (EvT.m (.ext (.not (.txt (x := []) .nm (by decide))) (by rfl))) (fun _ => ?_) (fun h => by cases h) Xs.nil
  exact Xs.add (r := rS [40, 63, 33, 41]) (by k_is) (Ev.m (Ev.lit (l := [40, 63, 33, 41]))) (by (exact Nat.le_trans hz (by decide))) (Xs.done (by k_asm) (.refl _))
end
end Mine
end

section
open PySem PySem.W PyProof.Rows PySem.Calls PySem.SeqAt
local macro_rules | `(tactic| k_is) => `(tactic| first | (with_reducible exact Mine.Has.here) | (with_reducible refine Mine.Has.there ?_; k_is))
local macro_rules | `(tactic| k_asm) => `(tactic| first | (with_reducible exact Mine.Keep.nil) | (with_reducible exact Mine.Sub.nil) | (with_reducible refine Mine.Keep.cons ?_ ?_ ?_; (k_is); (decide); (k_asm)) | (with_reducible refine Mine.Sub.cons ?_ ?_; (k_is); (k_asm)))
namespace Mine
section
variable {w : World} {B : Shared} {n : Nat} {env : Env} {vars : Vars} {scope : Scope} {N : Nat}
/-- Ev.meth with what the heap keeps known -/
theorem Ev.methI {o : Expr} {attr : Str} {apos pos : Pos} {es : List Expr} {r₁ r : Rp} {rs : List Rp} {T id : String} (h₁ : Ev w B n env vars o r₁) (hT : ∀ F (s : Shared) v, r₁.p F v → Inv B s → s.TypeIs v T) (hd : ∀ F (s : Shared) v, r₁.p F v → Inv B s → ∀ a, v = .ref a → ∃ o, s.heap.get? a = some o ∧ o.dict = Option.none)
    (pa : PlainAttrs T) (slot : Slot T attr id) (hty : typeOf (.builtin id) = pure (.type "method_descriptor")) (hl : EvL w B n env vars es rs) (k : Cal w B n (.builtin id) (r₁ :: rs) r)
    (hbase : attributeBase o attr env (eval o env) = eval o env := by first | exact aB_name | exact aB_const | exact aB_sub | exact aB_call | rfl) (hfew : decide (es.length + 0 + 0 < 30) = true := by rfl) (hline : (apos.endLine == pos.line) = true := by rfl) : Ev w B n env vars (.Call (.Attribute o attr apos) es [] pos) r := .mk fun A s F hA S => by
  rw [arm_eval_Call, hbase]
  refine wpAny_bind ((h₁.go A s F hA S).mono fun v s₁ ⟨F₁, x₁, p₁⟩ => wpAny_bind (wpAny_standAt ?_))
  obtain ⟨ts, ht⟩ := hl.1 pos
  have ha := evalArgs_of (f := .builtin id) (pos := pos) hl hA (S.ext x₁)
  have hform : methodCallForm (es.length + ([] : List Keyword).length) (backTo pos (starEach es env)) (backToKw pos (keywordEach [] env)) = true := by
    have hk : backToKw pos (keywordEach [] env) = [] := rfl
    unfold methodCallForm
    rw [ht, hk]
    have hh : es.length < 30 := by simpa using hfew
    simpa using hh
  have hpos : methodCallPos true o env apos pos = pure pos := by unfold methodCallPos; simp [hline]
  unfold methodCall
  rw [hform]
  refine wpAny_bind (wpAny_holding (getMethod_builtin (hT _ _ _ p₁ x₁.inv) pa slot hty (hd _ _ _ p₁ x₁.inv) ?_))
  refine wpAny_bind (wpAny_of_eq hpos ?_)
  refine callWith_builtin (by rw [ht]; simp) (ha.mono fun a s₂ ⟨e, F₂, x₂, p⟩ => ?_)
  rw [e]
  exact (k.go A s₂ F₂ _ hA x₂.inv x₂.fin (Are.cons (r₁.mono _ _ _ x₂.le p₁) p)).mono fun v s' g => g.from (x₁.trans x₂)
theorem nd_pat (P : Pat B) : ∀ (F : Fz) (s : Shared) v, (rVal (.ref 89)).p F v → Inv B s → ∀ a, v = .ref a → ∃ o, s.heap.get? a = some o ∧ o.dict = none := fun F s v e i a h => by
  cases (show v = .ref 89 from e)
  cases h
  obtain ⟨t', u, h8, h9⟩ := P.at_
  exact ⟨_, i.keep _ _ h9 (fun h => nomatch h.1.1), rfl⟩
end
end Mine
end

section
open PySem PySem.W PyProof.Rows PySem.Calls PySem.SeqAt
namespace Mine
theorem Keeps.rfl' (s : Shared) : Keeps s s := ⟨s.heap, s.toks, rfl, fun _ _ e => e⟩
theorem Keeps.tok' (s : Shared) (t : Tok) : Keeps s { s with toks := t } := ⟨s.heap, t, rfl, fun _ _ e => e⟩
theorem Keeps.trans' {s s' s'' : Shared} (x : Keeps s s') (y : Keeps s' s'') : Keeps s s'' := by
  obtain ⟨h, t, rfl, k⟩ := x
  obtain ⟨h', t', rfl, k'⟩ := y
  exact ⟨h', t', rfl, fun b o e => k' b o (k b o e)⟩
/-- the empty str, as a value -/
noncomputable abbrev isNil (v : Value) : Prop := ∃ t, v = .str ⟨#[]⟩ t
theorem repl_nil {w : World} {A : Around} {s : Shared} {t u v : Tok} {y z : Str} {Q : Value → Shared → Prop} (hy : (Builtin.Str.occurrences ⟨#[]⟩ y 0 0 1).isEmpty = true) (h : Q (.str ⟨#[]⟩ t) s) : W w A (call (.builtin "str.replace") [.str ⟨#[]⟩ t, .str y u, .str z v]) Q s := by
  have hc : ((Builtin.Str.occurrences ⟨#[]⟩ y 0 (⟨#[]⟩ : Str).length ((⟨#[]⟩ : Str).length + 1)).isEmpty || (y.length == 0 && z.length == 0)) = true := by
    rw [show (Builtin.Str.occurrences ⟨#[]⟩ y 0 (⟨#[]⟩ : Str).length ((⟨#[]⟩ : Str).length + 1)).isEmpty = true from hy]; rfl
  refine call_gives F.slot_str_replace (typeIs_str _ _ _) F.entry_str_replace (F.args_str_replace_3 _ _ _) (gives_str_replace _ y z t u v fun h => ?_) ?_
  · simp [hc] at h
  · rw [if_pos hc]; exact h
theorem quiet_repl {w : World} {A : Around} {env : Env} {s : Shared} {o : Expr} {y z : Str} {k1 k2 : Nat} {p1 p2 apos pos : Pos} (h : W w A (eval o env) (fun v s' => isNil v ∧ Keeps s s') s) (hy : (Builtin.Str.occurrences ⟨#[]⟩ y 0 0 1).isEmpty = true)
    (hbase : attributeBase o "replace" env (eval o env) = eval o env := by first | exact aB_name | rfl) (hline : (apos.endLine == pos.line) = true := by rfl) :
    W w A (eval (.Call (.Attribute o "replace" apos) [.Constant (.str y) k1 p1, .Constant (.str z) k2 p2] [] pos) env) (fun v s' => isNil v ∧ Keeps s s') s := by
  rw [arm_eval_Call, hbase]
  refine wpAny_bind (h.mono fun v s₁ ⟨⟨t, e⟩, x₁⟩ => wpAny_bind (wpAny_standAt ?_))
  subst e
  have hform : methodCallForm (2 + ([] : List Keyword).length) (backTo pos (starEach [.Constant (.str y) k1 p1, .Constant (.str z) k2 p2] env)) (backToKw pos (keywordEach [] env)) = true := rfl
  have hpos : methodCallPos true o env apos pos = pure pos := by unfold methodCallPos; simp [hline]
  unfold methodCall
  rw [show ([Expr.Constant (.str y) k1 p1, .Constant (.str z) k2 p2] : List Expr).length = 2 from rfl, hform]
  refine wpAny_bind (wpAny_holding (getMethod_builtin (typeIs_str _ _ _) PySem.F.plainAttrs_str PySem.F.slot_str_replace PySem.F.type_str_replace (fun a e => nomatch e) ?_))
  refine wpAny_bind (wpAny_of_eq hpos ?_)
  refine callWith_builtin rfl (evalArgs_plain (spliced_cons (Constant_str (k := k1) (pos := p1) (spliced_cons (Constant_str (k := k2) (pos := p2) (spliced_nil ?_))))))
  exact repl_nil hy ⟨⟨_, rfl⟩, Keeps.trans' x₁ (Keeps.tok' _ _)⟩
section
variable {w : World} {B : Shared} {n : Nat} {env : Env} {vars : Vars}
theorem gen_code {A : Around} {s : Shared} {F : Fz} {scope : Scope} {pos : Pos} {qual : Str} {Q : Value → Shared → Prop} (m : Mk B 114 110) (i : Inv B s) (f : F.In s.heap) (hc : env.code = .ref 114)
    (h : ∀ cv s', Ext B s F s' F → (∀ b o, s.heap.get? b = some o → b ≠ 110 → s'.heap.get? b = some o) → s'.gens = s.gens → Q cv s') : W w A (genexprCode env pos qual scope) Q s := by
  obtain ⟨ps, hP, ht, hq⟩ := i.t2
  have C := m.hd' i
  cases hf : codeAmong pos ps.toList with
  | some cv => exact wpAny_genexprCode_hit hc (C.code hP ht) hf (h _ s (Ext.refl i f) (fun _ _ e _ => e) rfl)
  | none =>
    refine wpAny_genexprCodeX hc (C.code hP ht) (C.tab hP) hf fun c' h' tk hx hge hlt hcode hrec htb ht2 => ?_
    have ck : CodeOk h' (.ref c') qual := by
      obtain ⟨P', _, _, ⟨o2, vs2, e1, e2, e3, _⟩, _⟩ := ht2
      obtain ⟨c2, o, vs, t, e, g, d, r⟩ := hrec
      cases e
      rw [e1] at g; cases g
      exact ⟨c', _, vs, t, rfl, e1, e2, d, r⟩
    have hz : s.heap.objs.size ≤ h'.objs.size := Nat.le_of_lt (Nat.lt_of_le_of_lt hge hlt)
    have x₁ := Ext.grown i f (.inr (.inl rfl)) hP hx hz (fun h => by cases h) (fun _ => TabAt.grow hP ht hq htb.2 (fun p v ⟨q, y⟩ => ⟨q, y.but hx hP⟩) fun p => ⟨_, ck⟩) (fun h => by cases h) tk
    exact h _ _ x₁ (fun b o e ne => hx b o ne e) rfl
theorem gjoin_nil {xs : List (Str × Tok)} {sep : Str} (hj : JoinOk sep [⟨#[]⟩] = true) (h : xs.map (·.1) = [⟨#[]⟩]) : JoinOk sep (xs.map (·.1)) = true ∧ Txt.join sep (xs.map (·.1)) = ⟨#[]⟩ := by
  rw [h]
  exact ⟨hj, rfl⟩
/-- sep.join(elt for x in [one empty str]), where elt keeps it empty -/
theorem Ev.joinNil {sep : Str} {k : Nat} {cp apos gpos pos px : Pos} {elt iter : Expr} {x : Str} {scope : Scope} (m : Mk B 114 110) (hl : B.heap.NoLimit) (hcode : env.code = .ref 114) (hn : n ≤ 55) (hj : JoinOk sep [⟨#[]⟩] = true) (hi : Ev w B n env vars iter (rL [rS []]))
    (he : ∀ (cenv : Env) A s m t, cenv.scope = scope → Le A (n + 1) → s.heap.Ns cenv.locals m → m x = some (.str ⟨#[]⟩ t) → W w A (eval elt cenv) (fun v s' => isNil v ∧ Keeps s s') s)
    (hclos : closureFor scope env = pure [] := by rfl) (hcell : ∀ y ∈ scope.names, y.2 ≠ .cell := by decide +kernel) (h0 : scope.names.lookup (".0" : Str) = some NameKind.local := by rfl) (hx : scope.names.lookup x = some .local := by rfl)
    (hk : scope.kind = .function := by rfl) (hco : scope.isCoroutine = false := by rfl) (hs : ∀ x, genFold iter env x = pure x := by intro _; rfl) (hline : (apos.endLine == pos.line) = true := by rfl) :
    Ev w B n env vars (.Call (.Attribute (.Constant (.str sep) k cp) "join" apos) [.GeneratorExp elt [⟨.Name x px, iter, [], 0⟩] scope gpos] [] pos) (rS []) := .mk fun A s F hA S => by
  rw [arm_eval_Call, aB_const]
  refine wpAny_bind (Constant_str (wpAny_bind (wpAny_standAt ?_)))
  have hform : methodCallForm (1 + ([] : List Keyword).length) (backTo pos (starEach [.GeneratorExp elt [⟨.Name x px, iter, [], 0⟩] scope gpos] env)) (backToKw pos (keywordEach [] env)) = true := rfl
  have hpos : methodCallPos true (.Constant (.str sep) k cp) env apos pos = pure pos := by unfold methodCallPos; simp [hline]
  unfold methodCall
  rw [show ([Expr.GeneratorExp elt [⟨.Name x px, iter, [], 0⟩] scope gpos] : List Expr).length = 1 from rfl, hform]
  refine wpAny_bind (wpAny_holding (getMethod_builtin (typeIs_str _ _ _) PySem.F.plainAttrs_str PySem.F.slot_str_join PySem.F.type_str_join (fun a e => nomatch e) ?_))
  refine wpAny_bind (wpAny_of_eq hpos ?_)
  refine callWith_builtin rfl (evalArgs_plain (spliced_cons ?_))
  show W w A (eval (.GeneratorExp elt [⟨.Name x px, iter, [], 0⟩] scope gpos) env) _ _
  have x₁ : Ext B s F { s with toks := _ } F := Ext.tok S.inv S.fin (s.toks + 1)
  refine wpAny_GeneratorExp_walksQD hA.handled hco hclos hcell h0 hx hk (hA.room (by (exact Nat.le_trans hn (by decide)))) ((hi.go A _ F hA (S.ext x₁)).mono fun xv s₂ ⟨F₂, x₂, a, vs, c, e, g, are⟩ => ?_) hs
  subst e
  obtain ⟨v, vs', rfl, ⟨t, e⟩, r⟩ := are.cons_inv
  have e' := r.nil_inv
  subst e; subst e'
  have x₁₂ := x₁.trans x₂
  have S₂ := S.ext x₁₂
  have ga := (S₂.fin _ _ g).1
  have hL : s₂.heap.IsList a [.str (Mine.S []) t].toArray := ⟨_, ga, rfl, c, rfl⟩
  have ha := Heap.lt_size ga
  refine wpAny_pyIter_list hL ?_
  have x₃ : Ext B s₂ F₂ { s₂ with heap := s₂.heap.push { cls := .type "list_iterator", data := .fields #[.ref a, .int 0 0] } } F₂ := Ext.push S₂.inv S₂.fin _
  refine ⟨x₃.inv.lim hl, ?_⟩
  refine gen_code m x₃.inv x₃.fin hcode fun cv s₄ x₄ k₄ g₄ => ?_
  obtain ⟨mg, hg, bm, ob, hbm, hne0, _, hneP, hbo, hcls, hdict, hdata⟩ := m.bm' x₄.inv
  rw [S.eok.gl]
  refine wpAny_builtinsFor hg hbm hne0 hbo hcls hdict hdata ?_
  have x₂₄ := x₃.trans x₄
  have iI : s₄.heap.get? s₂.heap.objs.size = some { cls := .type "list_iterator", data := .fields #[.ref a, .int 0 0] } := k₄ _ _ (Heap.get?_push_size _ rfl) (fun h => by
    have h1 := Heap.lt_size (S₂.inv.t2.choose_spec.1)
    rw [h] at h1; exact Nat.lt_irrefl _ h1)
  have iz : s₂.heap.objs.size + 1 ≤ s₄.heap.objs.size := by have := x₄.size; simpa using this
  have clt : cStatics < s₂.heap.objs.size := let ⟨_, hn, _⟩ := S₂.inv.lim hl; hn.lt
  refine ⟨s₂.heap.objs.size, [s₂.heap.objs.size, a], [s₂.heap.objs.size], 1, (fun i v => [Value.str (Mine.S []) t].toArray[i]? = some v), (fun j h => h.IsListIter s₂.heap.objs.size a j ∧ h.IsList a [.str (Mine.S []) t].toArray), (fun _ => true), (fun _ v => isNil v), rfl,
    (fun A' hA' => Walks.list hA' s₂.heap.objs.size a (Nat.ne_of_lt ha) [Value.str (Mine.S []) t].toArray), ⟨⟨_, iI, rfl, rfl⟩, _, x₂₄.keep _ _ ga (fun h => nomatch h.1), rfl, c, rfl⟩, ?_, x₄.inv.lim hl, ?_, ?_, ?_⟩
  · intro b hb
    rcases List.mem_cons.mp hb with rfl | hb
    · exact Nat.lt_of_lt_of_le (Nat.lt_succ_self _) iz
    · rw [List.mem_singleton.mp hb]
      exact Nat.lt_of_lt_of_le ha (Nat.le_of_succ_le iz)
  · intro hm
    rw [List.mem_singleton.mp hm] at clt
    exact Nat.lt_irrefl _ clt
  · intro href hhref
    refine ⟨fun A' E' i v t₂ m₂ hh hD hU hP hn₂ hm₂ _ => wpAny_tests_nil ⟨rfl, Keeps.rfl' _⟩, fun A' E' i v t₂ m₂ hh hD hU hP hp hn₂ hm₂ _ => ?_⟩
    have hv : ∃ t', v = .str ⟨#[]⟩ t' := by
      match i, hP with
      | 0, hP => exact ⟨t, by simpa using hP.symm⟩
      | i + 1, hP => simp at hP
    obtain ⟨t', rfl⟩ := hv
    exact W.toE (he _ A' t₂ m₂ t' rfl ⟨hh, by have := hA.depth; (lia), by have := hA.units; (lia)⟩ hn₂ hm₂)
  · intro a' h₅ tk gs hb hlt hz hk₅ WS at₅
    refine spliced_nil ?_
    show W w A (call (.builtin "str.join") [.str sep _, .ref a']) _ _
    refine W.size (SC.joinGen WS.in4_2 (fun i s' st => st.1.typeIs) at₅ (fun b hb => ?_) (List.mem_cons_self ..) (fun i v ⟨_, _, t', e⟩ => ⟨_, t', e⟩) (fun s' l hm hacc => ?_))
    · show b < h₅.objs.size
      rw [hz]
      rcases List.mem_cons.mp hb with rfl | hb
      · exact Nat.lt_succ_self _
      · rcases List.mem_cons.mp hb with rfl | hb
        · exact Nat.lt_succ_of_lt hlt
        · exact Nat.lt_succ_of_lt (Nat.lt_trans (List.mem_range.mp hb) hlt)
    · have hl1 : l.map (·.1) = [⟨#[]⟩] := by
        have hsz : l.length = 1 := by
          have h1 := hacc.1
          rw [show (passing (fun _ => true) 1 0).length = 1 from rfl] at h1
          simpa [strValues] using h1
        match l, hsz with
        | [q], _ =>
          obtain ⟨_, _, t', e⟩ := hacc.2 0 (.str q.1 q.2) (by simp [strValues])
          injection e with e1 _
          simp [e1]
      obtain ⟨j1, j2⟩ := gjoin_nil (sep := sep) hj hl1
      refine ⟨j1, fun t' k hz' => ?_⟩
      rw [j2]
      have hm' : ∀ b o, b ≠ s₂.heap.objs.size → s₄.heap.get? b = some o → s'.heap.get? b = some o := fun b o ne e => hm.heap b o (by
        intro h
        rcases List.mem_cons.mp h with rfl | h
        · exact Nat.lt_irrefl _ (Heap.lt_size e)
        · exact ne (List.mem_singleton.mp h)) (hk₅ b o e)
      have low : ∀ b o, s₂.heap.get? b = some o → ¬ IsTab o → s'.heap.get? b = some o := fun b o e q => hm' b o (Nat.ne_of_lt (Heap.lt_size e)) (x₂₄.keep b o e q)
      have zz : s₄.heap.objs.size ≤ s'.heap.objs.size := by
        have h1 : h₅.objs.size ≤ s'.heap.objs.size := hz'
        have h2 : (s₄.heap.objs.size : Nat) < a' := hlt
        (lia)
      have iv : Inv B { s' with toks := k } := x₄.inv.sft (fun b o e hb => hm' b o (by have := S₂.inv.size; exact Nat.ne_of_lt (Nat.lt_of_lt_of_le hb this)) e)
        (fun b o e q => hm' b o (by rintro rfl; rw [iI] at e; cases e; exact soft_cls (o := { cls := .type "list_iterator", data := .fields #[.ref a, .int 0 0] }) rfl (by decide) q) e) zz hm.os ((x₄.inv.gens.push hb).moved hm.gens)
      refine ⟨F₂, x₁₂.trans ⟨iv, ?_, low, Fz.Le.refl _, fun _ _ e => .inl e, S₂.fin.up low⟩, t', rfl⟩
      exact Nat.le_trans x₂₄.size zz
end
end Mine
end

section
open PySem PySem.W PyProof.Rows PySem.Calls PySem.SeqAt
local macro_rules | `(tactic| k_is) => `(tactic| first | (with_reducible exact Mine.Has.here) | (with_reducible refine Mine.Has.there ?_; k_is))
local macro_rules | `(tactic| k_asm) => `(tactic| first | (with_reducible exact Mine.Keep.nil) | (with_reducible exact Mine.Sub.nil) | (with_reducible refine Mine.Keep.cons ?_ ?_ ?_; (k_is); (decide); (k_asm)) | (with_reducible refine Mine.Sub.cons ?_ ?_; (k_is); (k_asm)))
namespace Mine
section
variable {w : World} {B : Shared} {n : Nat} {env : Env} {vars : Vars} {scope : Scope} {N : Nat} {s₀ : Shared} {F₀ : Fz} {ms : Mss} {Q : Flow → Shared → Prop}
noncomputable abbrev evars (pat : List Nat) (a d : Addr) (i : Nat) : Vars := [("stuff", rS []), ("i", rNat (i + 2)), ("j", rNat (i + 3)), ("n", rNat pat.length), ("add", rApp a), ("res", rVal (.ref a)), ("pat", rS pat), ("STAR", rVal (.ref d))]
/-- the chunks joined -/
theorem chunk_join {s : Shared} {F : Fz} {pat : List Nat} {a d c : Addr} {i : Nat} (m : Mk B 114 110) (hl : B.heap.NoLimit) (hcode : env.code = .ref 114) (hn : n ≤ 55) (fe : FE (scopeAt 20) s.heap.objs.size env) :
    Xs w B s F n env (dvars pat a d c i) ((c, mList [rS []]) :: ms) (cbody.drop 6) (On B s F env (evars pat a d i) ms) := by
  refine Xs.set (rS []) [("i", rNat (i + 2)), ("j", rNat (i + 3)), ("n", rNat pat.length), ("add", rApp a), ("res", rVal (.ref a)), ("pat", rS pat), ("STAR", rVal (.ref d))] fe
    (EvM.thaw (x := "chunks") (by simp) (.head _) (Ev.joinNil m hl hcode hn (by decide +kernel) .nm fun cenv A s m t hs hA hm hx => ?_) flat.str) (Xs.drop (Xs.done (by k_asm) (.refl _)))
  have hk : cenv.kindOf "s" = some .local := by unfold Env.kindOf; rw [hs]; rfl
  have hf : cenv.scope.kind = .function := by rw [hs]
  refine quiet_repl (quiet_repl ?_ (by decide +kernel)) (by decide +kernel)
  exact wpAny_Name (wpAny_loadName_local hf hk hm hx ⟨⟨t, rfl⟩, Keeps.rfl' _⟩) (by decide)
theorem chunk_all {s : Shared} {F : Fz} {pat : List Nat} {a d : Addr} {i : Nat} (T : Tx B) (m : Mk B 114 110) (hcode : env.code = .ref 114) (hn : n ≤ 50) (hp : pat.length ≤ 1000) (b : Brk pat i) (fe : FE (scopeAt 20) s.heap.objs.size env) :
    Xs w B s F n env (("stuff", rS [98, 45, 97]) :: ("j", rNat (i + 3)) :: bvars pat a d i) ms cbody (On B s F env (evars pat a d i) ms) :=
  chunk_loop hp b fe fun c => chunk_last hp b fe (chunk_fold T hn fe (chunk_join m T.lim hcode (by (exact Nat.le_trans hn (by decide))) fe))
/-- the facts that the second pattern wants beside Tx -/
structure T3 (B : Shared) : Prop where
  pat : Pat B
  g_re : GlobAt B "_twin_re_1" (.ref 89)
  mkT : Mk B 114 110
  code : ∀ o fd, B.heap.get? 115 = some o → o.data = .func fd → fd.code = .ref 114
theorem bracket_last {s : Shared} {F : Fz} {pat : List Nat} {a d : Addr} {i : Nat} {parts : List Rp} (T : Tx B) (V : T3 B) (hcode : env.code = .ref 114) (hn : n ≤ 50) (hp : pat.length ≤ 1000) (b : Brk pat i) (hz : parts.length ≤ 1000) (fe : FE (scopeAt 20) s.heap.objs.size env) :
    Xs w B s F n env (("j", rNat (i + 3)) :: bvars pat a d i) [(a, mList parts)] blast (On B s F env (tvars pat a d (i + 4)) [(a, mList (parts ++ [rS [40, 63, 33, 41]]))]) := by
  have l := b.lt
  refine Xs.if_in (b := false) (tvars pat a d (i + 4)) [(a, mList (parts ++ [rS [40, 63, 33, 41]]))] (EvT.m (.ext (.cmp .nm .nm cn_ge .bool) (by simp; (assumption)))) (fun h => by cases h) (fun _ => ?_) Xs.nil
  show Xs w B s F n env _ _ ebody _
  refine Xs.set (rS [98, 45, 97]) (("j", rNat (i + 3)) :: bvars pat a d i) fe (Ev.m (Ev.scut (y := [98, 45, 97]) .nm (.nat .nm) (.nat .nm) (by (exact Nat.le_trans hp (by decide))) ?_)) ?_
  · rw [cut_mid, show i + 3 - i = 3 by (lia)]
    obtain ⟨l0, e0⟩ := List.getElem?_eq_some_iff.mp b.g0
    obtain ⟨l1, e1⟩ := List.getElem?_eq_some_iff.mp b.g1
    obtain ⟨l2, e2⟩ := List.getElem?_eq_some_iff.mp b.g2
    rw [List.drop_eq_getElem_cons l0, List.take_succ_cons, List.drop_eq_getElem_cons l1, List.take_succ_cons, List.drop_eq_getElem_cons l2, List.take_succ_cons, List.take_zero, e0, e1, e2]
  refine Xs.if_in (b := false) (evars pat a d i) [(a, mList parts)] (EvT.m (.ext (.cmp (Ev.lit (l := [45])) .nm os_notin .bool) (by decide +kernel))) (fun h => by cases h) (fun _ => chunk_all T V.mkT hcode hn hp b fe) ?_
  refine Xs.set (rS []) [("i", rNat (i + 2)), ("j", rNat (i + 3)), ("n", rNat pat.length), ("add", rApp a), ("res", rVal (.ref a)), ("pat", rS pat), ("STAR", rVal (.ref d))] fe
    (Ev.m (Ev.methI (T := "re.Pattern") (Ev.gg fe V.g_re) (fun F s v e i => is_pat V.pat F s v i e) (nd_pat V.pat) plain_pat slot_pat_sub type_pat_sub (.cons (Ev.lam2 V.mkT hcode) (.cons .nm .nil)) (Cal.sub V.pat (by (exact Nat.le_trans hn (by decide)))))) ?_
  exact bracket_end fe hz
theorem step_brk {s : Shared} {F : Fz} {pat : List Nat} {a d : Addr} {i : Nat} {parts : List Rp} (T : Tx B) (V : T3 B) (hcode : env.code = .ref 114) (hn : n ≤ 40) (hp : pat.length ≤ 1000) (hz : parts.length ≤ 1000) (h0 : pat[i]? = some 91) (b : Brk pat (i + 1)) (fe : FE (scopeAt 20) s.heap.objs.size env) :
    Xs w B s F n env (tvars pat a d i) [(a, mList parts)] tbody (On B s F env (tvars pat a d (i + 5)) [(a, mList (parts ++ [rS [40, 63, 33, 41]]))]) := by
  have l := b.lt
  refine Xs.set (rS [91]) (tvars pat a d i) fe (Ev.sign .nm .nm h0 (by (lia))).m ?_
  refine Xs.set (rNat (i + 1)) [("c", rS [91]), ("n", rNat pat.length), ("add", rApp a), ("res", rVal (.ref a)), ("pat", rS pat), ("STAR", rVal (.ref d))] fe (Ev.bin .nm (Ev.nat 1) on_add).m ?_
  refine Xs.if_in (tvars pat a d (i + 5)) [(a, mList (parts ++ [rS [40, 63, 33, 41]]))] (EvT.m (.ext (b := false) (.cmp .nm (Ev.lit (l := [42])) os_eq .bool) (by rfl))) (fun h => by cases h) (fun _ => ?_) Xs.nil
  refine Xs.if_in (tvars pat a d (i + 5)) [(a, mList (parts ++ [rS [40, 63, 33, 41]]))] (EvT.m (.ext (b := false) (.cmp .nm (Ev.lit (l := [63])) os_eq .bool) (by rfl))) (fun h => by cases h) (fun _ => ?_) Xs.nil
  refine Xs.if_in (b := true) (tvars pat a d (i + 5)) [(a, mList (parts ++ [rS [40, 63, 33, 41]]))] (EvT.m (.ext (.cmp .nm (Ev.lit (l := [91])) os_eq .bool) (by rfl))) (fun _ => ?_) (fun h => by cases h) Xs.nil
  exact bracket_scan hp b fe (bracket_last T V hcode (by (exact Nat.le_trans hn (by decide))) hp b hz fe)
end
end Mine
end

section
open PySem PySem.W PyProof.Rows PySem.Calls PySem.SeqAt
namespace Mine
section
variable {w : World} {B : Shared} {n : Nat} {env : Env} {vars : Vars} {scope : Scope} {N : Nat} {s₀ : Shared} {F₀ : Fz} {ms : Mss} {Q : Flow → Shared → Prop}
/-- the second pattern: the signs, a bracket, and a star -/
noncomputable def ps2 (l : List Nat) (d : Addr) : List Pc := l.map (fun c => ([c], rS (esc1 c))) ++ [([91, 98, 45, 97, 93], rS [40, 63, 33, 41]), ([42], rVal (.ref d))]
theorem ps2_chars (l : List Nat) (d : Addr) : pchars (ps2 l d) = l ++ [91, 98, 45, 97, 93, 42] := by
  unfold pchars ps2
  rw [List.map_append, List.flatten_append, List.map_map]
  have : (l.map ((fun p : Pc => p.1) ∘ fun c => (([c], rS (esc1 c)) : Pc))) = l.map fun c => [c] := rfl
  rw [this, flat_single, List.map_id']; rfl
theorem trans2_cal {l : List Nat} {d : Addr} (T : Tx B) (V : T3 B) (hn : n ≤ 39) (hl : Sg l) (h1 : 1 ≤ l.length) (hz : l.length ≤ 100) : Cal w B n (.ref 115) [rS (l ++ [91, 98, 45, 97, 93, 42]), rVal (.ref d), rS [46]] (rL (l.map (fun c => rS (esc1 c)) ++ [rS [40, 63, 33, 41], rVal (.ref d)])) := by
  have e : (ps2 l d).map (·.2) = l.map (fun c => rS (esc1 c)) ++ [rS [40, 63, 33, 41], rVal (.ref d)] := by unfold ps2; rw [List.map_append, List.map_map]; rfl
  have ln : (ps2 l d).length = l.length + 2 := by simp [ps2]
  rw [← e, ← ps2_chars l d]
  refine Cal.def3c (x := "pat") (y := "STAR") (z := "QUESTION_MARK") T.transU T.lim (by (exact Nat.le_trans hn (by decide))) (fun v u t s _ cd pm doc ct an => .of_eq rfl) V.code fun s F env hcode fe => ?_
  have hp : (pchars (ps2 l d)).length ≤ 1000 := by rw [ps2_chars]; simp; (exact Nat.le_trans hz (by decide))
  have hone : ∀ p ∈ ps2 l d, 1 ≤ p.1.length := fun p hp => by
    unfold ps2 at hp
    rcases List.mem_append.mp hp with h | h
    · obtain ⟨c, _, rfl⟩ := List.mem_map.mp h; simp
    · rcases List.mem_cons.mp h with rfl | h
      · simp
      · rw [List.mem_singleton.mp h]; simp
  refine trans_body T (by (exact Nat.succ_le_succ hn)) hp hone fe fun a j hj => ?_
  have at_ : ∀ {k} (hk : k < l.length) (hk' : k < (ps2 l d).length), (ps2 l d)[k] = ([l[k]], rS (esc1 l[k])) := fun {k} hk hk' => by
    refine (List.getElem_eq_iff hk').mpr ?_
    unfold ps2
    rw [List.getElem?_append_left (by simpa using hk), List.getElem?_map, List.getElem?_eq_getElem hk]; rfl
  have atB : ∀ (hk' : l.length < (ps2 l d).length), (ps2 l d)[l.length] = ([91, 98, 45, 97, 93], rS [40, 63, 33, 41]) := fun hk' => by
    refine (List.getElem_eq_iff hk').mpr ?_
    unfold ps2
    rw [List.getElem?_append_right (by simp)]; simp
  by_cases hjl : j < l.length
  · exact step_of_sign T (by (exact Nat.succ_le_succ hn)) hp hone (by (lia)) hj (at_ hjl hj) (hl _ (List.getElem_mem hjl)) fe
  · by_cases hjb : j = l.length
    · subst hjb
      have e1 : (pchars ((ps2 l d).take (l.length + 1))).length = (pchars ((ps2 l d).take l.length)).length + 5 := by
        rw [List.take_add_one, List.getElem?_eq_getElem hj, atB hj]; simp [pchars]
      have e2 : ((ps2 l d).take (l.length + 1)).map (·.2) = ((ps2 l d).take l.length).map (·.2) ++ [rS [40, 63, 33, 41]] := by
        rw [List.take_add_one, List.getElem?_eq_getElem hj, atB hj]; simp
      rw [e1, e2]
      have hd := pchars_drop hj
      rw [atB hj] at hd
      have g : ∀ k, k < 5 → (pchars (ps2 l d))[(pchars ((ps2 l d).take l.length)).length + k]? = [91, 98, 45, 97, 93][k]? := fun k hk => by
        rw [← List.getElem?_drop, hd, List.getElem?_append_left (by simpa using hk)]
      exact step_brk T V hcode (by (exact Nat.succ_le_succ hn)) hp (by simp; (lia)) (g 0 (by decide)) ⟨g 1 (by decide), g 2 (by decide), g 3 (by decide), g 4 (by decide)⟩ fe
    · have hje : j = l.length + 1 := by (lia)
      subst hje
      refine step_of_star (y := [40, 63, 33, 41]) T (by (exact Nat.succ_le_succ hn)) hp (by (lia)) hj ?_ ?_ fe
      · rw [atB (by (exact Nat.le_of_lt hj))]
      · refine (List.getElem_eq_iff _).mpr ?_
        unfold ps2
        rw [List.getElem?_append_right (by simp)]; simp
theorem translate2_cal {l : List Nat} (T : Tx B) (V : T3 B) (hn : n ≤ 38) (hl : Sg l) (h1 : 1 ≤ l.length) (hz : l.length ≤ 100) : Cal w B n (.ref 96) [rS (l ++ [91, 98, 45, 97, 93, 42])] (rS (joined (l.map esc1 ++ [[40, 63, 33, 41]]))) := by
  refine translate_by T hn (by simp; (exact Nat.le_trans hz (by decide))) ?_ fun d => ?_
  · have := sum_esc l
    simp only [List.map_append, List.sum_append, List.map_cons, List.map_nil, List.sum_cons, List.sum_nil, List.length_cons, List.length_nil]
    (lia)
  · have := trans2_cal (w := w) (n := n + 1) (d := d) T V (by (exact Nat.succ_le_succ hn)) hl h1 hz
    rw [List.map_append, List.map_map, List.append_assoc]
    exact this
end
end Mine
end

section
open PySem PySem.W PySem.W.X PyProof.Rows PySem.Calls
namespace Mine
noncomputable abbrev sE (P : Params) (k : String) (t : Tok) (v : Value) : DictEntry := ⟨PyData.keyHash P (Str.ofString k), .str (Str.ofString k) t, v⟩
noncomputable def o2 (P : Params) : Obj := { cls := .none, dict := none, data := .dict #[sE P "\x69mport.loaded._sre" 183 (.bool true), sE P "class._frozen_importlib.BuiltinImporter" 185 (.ref 14), sE P "watched.\x69mport" 206 (.ref 18), sE P "class._frozen_importlib.ModuleSpec" 216 (.ref 22), sE P "sys.modules.booked-epoch" 245 (.int (3) 0), sE P "\x69mport.later-laid._sre" 270 (.bool true), sE P "watched.library" 272 (.ref 27), sE P "watched.library-objects" 0 (.str "\x0c" 0), sE P "watched.library-deep._sre" 273 (.str "\x04\x00\x00\x0b\x04\x00\x00\x0b\x04\x00\x00\x03\x04\x00\x00\x0b\x08\x04dict\x02" 0)] 9, slots := #[] }
noncomputable def o3 (P : Params) : Obj := { cls := .type "dict", dict := none, data := .dict #[sE P "__name__" 165 (.str "law_kt0022_01" 596), sE P "__doc__" 166 (.none), sE P "__package__" 167 (.none), sE P "__loader__" 168 (.builtin "__main__.__loader__#opaque"), sE P "__spec__" 169 (.none), sE P "__annotations__" 170 (.ref 6), sE P "__builtins__" 171 (.ref 4), sE P "__file__" 173 (.str "/claim/cut.py" 172), sE P "__cached__" 174 (.none), sE P "_sre" 275 (.ref 12), sE P "_wall" 288 (.ref 38), sE P "cmp_to_key" 299 (.ref 45), sE P "_initial_missing" 300 (.ref 46), sE P "reduce" 312 (.ref 54), sE P "_buffer" 322 (.ref 61), sE P "_truth" 330 (.ref 68), sE P "_B64" 332 (.bytes #[65, 66, 67, 68, 69, 70, 71, 72, 73, 74, 75, 76, 77, 78, 79, 80, 81, 82, 83, 84, 85, 86, 87, 88, 89, 90, 97, 98, 99, 100, 101, 102, 103, 104, 105, 106, 107, 108, 109, 110, 111, 112, 113, 114, 115, 116, 117, 118, 119, 120, 121, 122, 48, 49, 50, 51, 52, 53, 54, 55, 56, 57, 43, 47] 331), sE P "b2a_base64" 346 (.ref 76), sE P "b64encode" 357 (.ref 84), sE P "_twin_re_1" 397 (.ref 89), sE P "translate" 406 (.ref 96), sE P "_special_chars_map" 554 (.ref 98), sE P "escape" 561 (.ref 108), sE P "_translate" 582 (.ref 115), sE P "_join_translated_parts" 595 (.ref 122), sE P "_law_row" 603 (.ref 127), sE P "_law_sixes" 609 (.ref 132), sE P "_law_written" 615 (.ref 137), sE P "_law_compared" 621 (.ref 142), sE P "_law_ordered" 627 (.ref 147), sE P "_law_front" 636 (.ref 154), sE P "_law_taken" 642 (.ref 159), sE P "_law_keys" 648 (.ref 164), sE P "_law_right" 654 (.ref 169), sE P "law" 660 (.ref 174)] 35, slots := #[] }
noncomputable def o4 (P : Params) : Obj := { cls := .type "module", dict := some 0, data := .plain, slots := #[] }
noncomputable def o44 (P : Params) : Obj := { cls := .type "code", dict := none, data := .fields #[.str "cmp_to_key" 291, .str "cmp_to_key" 292, .str "/claim/cut.py" 293, .int (6) 0, .int (1) 0, .int (0) 0, .int (0) 0, .int (3) 0, .ref 39, .bool true, .int (276) 0, .ref 40, .none, .ref 41, .ref 42, .ref 43, .int (297) 0, .int (6) 0, .str "/claim/cut.py" 298], slots := #[] }
noncomputable def kSt : Stmt := (bodyAt 3).getD 0 (.Pass ⟨0, 0, 0, 0⟩)
noncomputable def kTree (env : Env) : Sem Value := match kSt with
  | .ClassDef name bases keywords body decorators tps scope tsc bind statics pos => buildClass name (qualnameIn env name bind) [.type "object"] [] body scope statics (firstLineOf decorators pos) env pos none
  | _ => pure .none
noncomputable def kEnv (N : Nat) : Env := newEnv (scopeAt 3) N mainGlobals (cellsFrom (N + 1) (scopeAt 3).names []) (Str.ofString "cmp_to_key" ++ ".<locals>.") (some 45) (.ref 44) none builtinsNs
noncomputable def fin (t : Sem Value) : Sem PySem.Fin := t.bind fun v => .pure (.done (.ret v))
noncomputable def kOlds (P : Params) : List (Addr × Obj) := [(2, o2 P), (3, o3 P), (4, o4 P), (44, o44 P)]
end Mine
end

section
open PySem PySem.W PySem.W.X PyProof.Rows PySem.Calls
namespace Mine
theorem class_data {M : Model} {h : Heap} {a : Addr} {oa : Obj} {cd : ClassData} (ha : h.get? a = some oa) (hd : oa.data = .cls cd) : Looks M h (classData a) cd := fun A Q E s k q => by
  unfold classData
  refine wpAny_bind (Looks.ld ha A _ _ s k ?_)
  rw [hd]
  exact wpAny_pure q
theorem mro_of {M : Model} {h : Heap} {a : Addr} {oa : Obj} {cd : ClassData} {l : List Value} (ha : h.get? a = some oa) (hd : oa.data = .cls cd) (hm : cd.mro = l) : Looks M h (mroOf (.ref a)) l := fun A Q E s k q => by
  unfold mroOf
  refine wpAny_bind (class_data ha hd A _ _ s k (wpAny_pure ?_))
  rw [hm]; exact q
theorem sub_self {M : Model} {h : Heap} {a : Addr} {oa : Obj} {cd : ClassData} (ha : h.get? a = some oa) (hd : oa.data = .cls cd) (hm : cd.mro = [.ref a, .type "object"]) : Looks M h (isSubtype (.ref a) (.ref a)) true := fun A Q E s k q => by
  unfold isSubtype
  refine wpAny_bind (mro_of ha hd hm A _ _ s k ?_)
  simp
  exact wpAny_pure q
theorem super_init {w : World} {A : Around} {s : Shared} {R : Result → Shared → Prop} {so a : Addr} {oa : Obj} {cd : ClassData} (hso : s.heap.get? so = some { cls := .type "super", dict := none, data := .fields #[.none, .none, .none], slots := #[] })
    (ha : s.heap.get? a = some oa) (hd : oa.data = .cls cd) (hm : cd.mro = [.ref a, .type "object"])
    (h : ∀ h', Heap.SameBut so s.heap h' → h'.get? so = some { cls := .type "super", dict := none, data := .fields #[.ref a, .ref a, .ref a], slots := #[] } → R (.ok (.ret .none)) { s with heap := h' }) : codeAny (model PG w) A (.builtin "super.__init__" ⟨[.ref so, .ref a, .ref a], []⟩) R s := by
  obtain ⟨hp, g, d, t, os⟩ := s
  refine codeAny_builtin F.ks_entry_super_init ?_
  have hs := sub_self (M := model PG w) ha hd hm
  unfold Builtin.«super.__init__» noKeywords
  repeat (first | (with_reducible refine ks_wpAny_isType_cls ha hd ?_) | (with_reducible refine Looks.at hs ?_) | wp_step)
  refine h _ (((Heap.SameBut.update ..).trans (Heap.SameBut.update ..)).trans (Heap.SameBut.update ..)) ?_
  have g1 := Heap.get?_update_self (Obj.mapFields fun x => x.setIfInBounds 0 (Value.ref a)) hso rfl
  have g2 := Heap.get?_update_self (Obj.mapFields fun x => x.setIfInBounds 1 (Value.ref a)) g1 rfl
  exact Heap.get?_update_self (Obj.mapFields fun x => x.setIfInBounds 2 (Value.ref a)) g2 rfl
theorem no_opaque {w : World} {h : Heap} {a : Addr} (h2 : h.get? 2 = some (o2 w.params)) : Looks (model PG w) h (opaqueClassAbove (.ref a)) none :=
  looks_opaque (K := [(2, o2 w.params)]) (fun b o e => by
    simp only [List.lookup] at e
    split at e
    · rename_i q
      cases e
      rw [beq_iff_eq] at q
      subst q; exact h2
    · cases e) (by kernel_rfl)
theorem slot_cd_get : Slot "classmethod_descriptor" "__get__" "classmethod_descriptor.__get__" := .of (owner := "classmethod_descriptor") (n := "__get__") (by rw [typeLookup_type, builtinLookup_eq_fast]; kernel_rfl) (by decide +kernel) (by decide +kernel) (by decide +kernel)
  (by first | exact .inl (by decide +kernel) | exact .inr (by decide +kernel)) (by rw [isSubtype_type]; kernel_rfl)
theorem entry_cd_get : entryFor table "classmethod_descriptor.__get__" = some Builtin.«classmethod_descriptor.__get__» := entryFor_of_tree (by kernel_rfl)
theorem args_cd_get (a b c : Value) : argsOk "classmethod_descriptor.__get__" ⟨[a, b, c], []⟩ := by unfold argsOk; kernel_rfl
theorem look_cd_get : typeLookup (.type (match builtinKind (toString "object" ++ toString "." ++ toString (Str.ofString "__init_subclass__").toString) with
        | some Manifest.AttrKind.method => "method_descriptor"
        | some Manifest.AttrKind.slot => "wrapper_descriptor"
        | some Manifest.AttrKind.classMethod => "classmethod_descriptor"
        | some Manifest.AttrKind.getset => "getset_descriptor"
        | some Manifest.AttrKind.member => "member_descriptor"
        | x => "builtin_function_or_method")) (Str.ofString "__get__") = pure (some (.builtin "classmethod_descriptor.__get__")) := by rw [typeLookup_type, builtinLookup_eq_fast]; kernel_rfl
theorem sub_obj {M : Model} {h : Heap} {a : Addr} {oa : Obj} {cd : ClassData} (ha : h.get? a = some oa) (hd : oa.data = .cls cd) (hm : cd.mro = [.ref a, .type "object"]) : Looks M h (isSubtype (.ref a) (.type "object")) true := fun A Q E s k q => by
  unfold isSubtype
  refine wpAny_bind (mro_of ha hd hm A _ _ s k ?_)
  simp
  exact wpAny_pure q
theorem own_cd : ".".intercalate ("object.__init_subclass__".cutAt '.').dropLast = "object" := by kernel_rfl
theorem name_cd : toString "object" ++ toString "." ++ toString (Str.ofString "__init_subclass__").toString = "object.__init_subclass__" := by kernel_rfl
theorem cd_get {w : World} {A : Around} {s : Shared} {R : Result → Shared → Prop} {a : Addr} {oa : Obj} {cd : ClassData} (ha : s.heap.get? a = some oa) (hd : oa.data = .cls cd) (hm : cd.mro = [.ref a, .type "object"])
    (h : R (.ok (.ret (.ref s.heap.objs.size))) { s with heap := s.heap.push { cls := .type "builtin_function_or_method", data := .fields #[.builtin "object.__init_subclass__", .ref a] } }) : codeAny (model PG w) A (.call (.builtin "classmethod_descriptor.__get__") ⟨[.builtin "object.__init_subclass__", .none, .ref a], []⟩) R s := by
  obtain ⟨hp, g, d, t, os⟩ := s
  have hs := sub_obj (M := model PG w) ha hd hm
  refine codeAny_call_builtin slot_cd_get.plain entry_cd_get (slot_cd_get.check _ _ _ _ _ _ _ _ (show typeOf (.builtin "object.__init_subclass__") = pure (.type "classmethod_descriptor") by kernel_rfl) (args_cd_get _ _ _) ?_)
  unfold Builtin.«classmethod_descriptor.__get__» newFields
  repeat (first | (with_reducible refine ks_wpAny_isType_cls ha hd ?_) | (rw [own_cd]; refine Looks.at hs ?_) | (with_reducible refine wpAny_newObj_type ?_ (by size_fits)) | wp_step | dsimp only)
  all_goals exact h
theorem super_get {w : World} {A : Around} {s : Shared} {R : Result → Shared → Prop} {so a : Addr} {oa : Obj} {cd : ClassData} {tk : Tok} (hso : s.heap.get? so = some { cls := .type "super", dict := none, data := .fields #[.ref a, .ref a, .ref a], slots := #[] })
    (ha : s.heap.get? a = some oa) (hd : oa.data = .cls cd) (hm : cd.mro = [.ref a, .type "object"]) (h2 : s.heap.get? 2 = some (o2 w.params))
    (h : R (.ok (.ret (.ref s.heap.objs.size))) { s with heap := s.heap.push { cls := .type "builtin_function_or_method", data := .fields #[.builtin "object.__init_subclass__", .ref a] } }) : codeAny (model PG w) A (.builtin "super.__getattribute__" ⟨[.ref so, .str "__init_subclass__" tk], []⟩) R s := by
  obtain ⟨hp, g, d, t, os⟩ := s
  refine codeAny_builtin F.ks_entry_super_ga ?_
  have hmr := mro_of (M := model PG w) ha hd hm
  have hno := no_opaque (w := w) (a := a) h2
  have hdt : ({ cls := .type "super", dict := none, data := .fields #[.ref a, .ref a, .ref a], slots := #[] } : Obj).data = .fields #[.ref a, .ref a, .ref a] := rfl
  have f0 : (#[.ref a, .ref a, .ref a] : Array Value)[0]? = some (.ref a) := rfl
  have f1 : (#[.ref a, .ref a, .ref a] : Array Value)[1]? = some (.ref a) := rfl
  have f2 : (#[.ref a, .ref a, .ref a] : Array Value)[2]? = some (.ref a) := rfl
  have hl : (([.ref a, .type "object"] : List Value).dropWhile (· != .ref a)).drop 1 = [.type "object"] := by simp
  unfold Builtin.«super.__getattribute__»
  repeat (first
    | (with_reducible refine wpAny_field hso hdt f0 ?_) | (with_reducible refine wpAny_field hso hdt f1 ?_) | (with_reducible refine wpAny_field hso hdt f2 ?_)
    | (with_reducible refine ks_wpAny_notOpaque hno ?_)
    | (with_reducible refine Looks.at hmr ?_; rw [hl])
    | (refine wpAny_of_eq look_cd_get ?_)
    | wp_step
    | dsimp only)
  rw [name_cd]
  simp only [beq_self_eq_true, if_true]
  refine cd_get ha hd hm ?_
  repeat (first | wp_step | dsimp only)
  all_goals exact h
end Mine
end

section
open PySem PySem.W PySem.W.X PyProof.Rows PySem.Calls
namespace Mine
noncomputable def kBody : List Stmt := match kSt with | .ClassDef _ _ _ body .. => body | _ => []
noncomputable def kScope : Scope := match kSt with | .ClassDef _ _ _ _ _ _ sc .. => sc | _ => PG.main.scope
noncomputable def mBody (i : Nat) : List Stmt := match kBody.getD i (.Pass ⟨0, 0, 0, 0⟩) with | .FunctionDef _ _ b _ _ _ _ _ _ _ => b | _ => []
noncomputable def mArgs (i : Nat) : Arguments := match kBody.getD i (.Pass ⟨0, 0, 0, 0⟩) with | .FunctionDef _ a _ _ _ _ _ _ _ _ => a | _ => ⟨[], [], none, [], [], none, []⟩
noncomputable def mScope (i : Nat) : Scope := match kBody.getD i (.Pass ⟨0, 0, 0, 0⟩) with | .FunctionDef _ _ _ _ _ _ s _ _ _ => s | _ => PG.main.scope
/-- the class, as it is made -/
noncomputable def kClsO (n₁ t : Nat) : Obj := { cls := .type "type", dict := none, data := .cls { name := "K", bases := [.type "object"], mro := [.ref (n₁ + 58), .type "object"], ns := n₁ + 57, qualname := "cmp_to_key.<locals>.K", hasDict := false, slotNames := ["obj"] }, slots := #[some (.ref (n₁ + 0)), none, some (.str "K" t), some (.str "cmp_to_key.<locals>.K" (t + 9)), some (.builtin "object.__new__"), some (.bool false)] }
noncomputable def k0 (P : Params) (n₁ t cc : Nat) : Obj := { cls := .none, dict := none, data := .fields #[.int (8) 0, .int (4) 0, .ref (n₁ + 5)], slots := #[] }
noncomputable def k1 (P : Params) (n₁ t cc : Nat) : Obj := { cls := .type "tuple", dict := none, data := .seq #[.type "object"] 0, slots := #[] }
noncomputable def k2 (P : Params) (n₁ t cc : Nat) : Obj := { cls := .type "builtin_function_or_method", dict := none, data := .fields #[.builtin "type.__prepare__", .type "type"], slots := #[] }
noncomputable def k3 (P : Params) (n₁ t cc : Nat) : Obj := { cls := .type "dict", dict := none, data := .dict #[sE P "__module__" (t + 8) (.str "cpy313.functools" (t + 13)), sE P "__qualname__" (t + 10) (.str "cmp_to_key.<locals>.K" (t + 9)), sE P "__firstlineno__" (t + 12) (.int (8) (t + 11)), sE P "__slots__" (t + 16) (.ref (n₁ + 7)), sE P "__init__" (t + 24) (.ref (n₁ + 14)), sE P "__lt__" (t + 33) (.ref (n₁ + 22)), sE P "__gt__" (t + 42) (.ref (n₁ + 30)), sE P "__eq__" (t + 51) (.ref (n₁ + 38)), sE P "__le__" (t + 60) (.ref (n₁ + 46)), sE P "__ge__" (t + 69) (.ref (n₁ + 54)), sE P "__hash__" (t + 70) (.none), sE P "__static_attributes__" (t + 72) (.ref (n₁ + 55))] 12, slots := #[] }
noncomputable def k4 (P : Params) (n₁ t cc : Nat) : Obj := { cls := .type "tuple", dict := none, data := .seq #[.str "mycmp" (t + 5)] 0, slots := #[] }
noncomputable def k5 (P : Params) (n₁ t cc : Nat) : Obj := { cls := .none, dict := none, data := .fields #[.int (12) 0, .int (8) 0, .ref (n₁ + 13), .int (15) 0, .int (8) 0, .ref (n₁ + 21), .int (18) 0, .int (8) 0, .ref (n₁ + 29), .int (21) 0, .int (8) 0, .ref (n₁ + 37), .int (24) 0, .int (8) 0, .ref (n₁ + 45), .int (27) 0, .int (8) 0, .ref (n₁ + 53)], slots := #[] }
noncomputable def k6 (P : Params) (n₁ t cc : Nat) : Obj := { cls := .type "code", dict := none, data := .fields #[.str "K" (t + 2), .str "cmp_to_key.<locals>.K" (t + 3), .str "/claim/cut.py" (t + 4), .int (8) 0, .int (0) 0, .int (0) 0, .int (0) 0, .int (0) 0, .ref (n₁ + 3), .bool true, .int (276) 0, .ref (n₁ + 4), .none, .none, .none, .none, .int ((t + 6 : Nat) : Int) 0, .int (8) 0, .str "/claim/cut.py" (t + 7)], slots := #[] }
noncomputable def k7 (P : Params) (n₁ t cc : Nat) : Obj := { cls := .type "frame", dict := none, data := .plain, slots := #[some (.ref (n₁ + 5)), some (.ref 3), some (.ref (n₁ + 2)), none, some (.str "law_kt0022_01" 596), none, some (.ref 0)] }
noncomputable def k8 (P : Params) (n₁ t cc : Nat) : Obj := { cls := .type "list", dict := none, data := .seq #[.str "obj" (t + 15)] 0, slots := #[] }
noncomputable def k9 (P : Params) (n₁ t cc : Nat) : Obj := { cls := .type "tuple", dict := none, data := .seq #[] 0, slots := #[] }
noncomputable def k10 (P : Params) (n₁ t cc : Nat) : Obj := { cls := .none, dict := none, data := .fields #[], slots := #[] }
noncomputable def k11 (P : Params) (n₁ t cc : Nat) : Obj := { cls := .type "tuple", dict := none, data := .seq #[.str "self" (t + 20), .str "obj" (t + 21)] 0, slots := #[] }
noncomputable def k12 (P : Params) (n₁ t cc : Nat) : Obj := { cls := .type "tuple", dict := none, data := .seq #[] 0, slots := #[] }
noncomputable def k13 (P : Params) (n₁ t cc : Nat) : Obj := { cls := .none, dict := none, data := .func { name := Str.ofString "__init__", qualname := Str.ofString "cmp_to_key.<locals>.K.__init__", params := mArgs 2, body := .stmts (mBody 2), scope := mScope 2, globals := 0, closure := [], defaults := .none, kwdefaults := .none, doc := .none, pyModule := .none, annotations := none, code := .none, closureTuple := .none, builtins := 0 }, slots := #[] }
noncomputable def k14 (P : Params) (n₁ t cc : Nat) : Obj := { cls := .type "code", dict := none, data := .fields #[.str "__init__" (t + 17), .str "cmp_to_key.<locals>.K.__init__" (t + 18), .str "/claim/cut.py" (t + 19), .int (12) 0, .int (2) 0, .int (0) 0, .int (0) 0, .int (19) 0, .ref (n₁ + 8), .bool true, .int (276) 0, .ref (n₁ + 9), .none, .ref (n₁ + 10), .ref (n₁ + 11), .ref (n₁ + 12), .int ((t + 22 : Nat) : Int) 0, .int (12) 0, .str "/claim/cut.py" (t + 23)], slots := #[] }
noncomputable def k15 (P : Params) (n₁ t cc : Nat) : Obj := { cls := .type "function", dict := none, data := .func { name := Str.ofString "__init__", qualname := Str.ofString "cmp_to_key.<locals>.K.__init__", params := mArgs 2, body := .stmts (mBody 2), scope := mScope 2, globals := 3, closure := [], defaults := .none, kwdefaults := .none, doc := .none, pyModule := .str "law_kt0022_01" 596, annotations := none, code := .ref (n₁ + 13), closureTuple := .none, builtins := 0 }, slots := #[] }
noncomputable def k16 (P : Params) (n₁ t cc : Nat) : Obj := { cls := .type "tuple", dict := none, data := .seq #[.ref cc] 0, slots := #[] }
noncomputable def k17 (P : Params) (n₁ t cc : Nat) : Obj := { cls := .type "tuple", dict := none, data := .seq #[.str "mycmp" (t + 28)] 0, slots := #[] }
noncomputable def k18 (P : Params) (n₁ t cc : Nat) : Obj := { cls := .none, dict := none, data := .fields #[], slots := #[] }
noncomputable def k19 (P : Params) (n₁ t cc : Nat) : Obj := { cls := .type "tuple", dict := none, data := .seq #[.str "self" (t + 29), .str "other" (t + 30)] 0, slots := #[] }
noncomputable def k20 (P : Params) (n₁ t cc : Nat) : Obj := { cls := .type "tuple", dict := none, data := .seq #[] 0, slots := #[] }
noncomputable def k21 (P : Params) (n₁ t cc : Nat) : Obj := { cls := .none, dict := none, data := .func { name := Str.ofString "__lt__", qualname := Str.ofString "cmp_to_key.<locals>.K.__lt__", params := mArgs 3, body := .stmts (mBody 3), scope := mScope 3, globals := 0, closure := [], defaults := .none, kwdefaults := .none, doc := .none, pyModule := .none, annotations := none, code := .none, closureTuple := .none, builtins := 0 }, slots := #[] }
noncomputable def k22 (P : Params) (n₁ t cc : Nat) : Obj := { cls := .type "code", dict := none, data := .fields #[.str "__lt__" (t + 25), .str "cmp_to_key.<locals>.K.__lt__" (t + 26), .str "/claim/cut.py" (t + 27), .int (15) 0, .int (2) 0, .int (0) 0, .int (0) 0, .int (19) 0, .ref (n₁ + 16), .bool true, .int (276) 0, .ref (n₁ + 17), .none, .ref (n₁ + 18), .ref (n₁ + 19), .ref (n₁ + 20), .int ((t + 31 : Nat) : Int) 0, .int (15) 0, .str "/claim/cut.py" (t + 32)], slots := #[] }
noncomputable def k23 (P : Params) (n₁ t cc : Nat) : Obj := { cls := .type "function", dict := none, data := .func { name := Str.ofString "__lt__", qualname := Str.ofString "cmp_to_key.<locals>.K.__lt__", params := mArgs 3, body := .stmts (mBody 3), scope := mScope 3, globals := 3, closure := [(Str.ofString "mycmp", cc)], defaults := .none, kwdefaults := .none, doc := .none, pyModule := .str "law_kt0022_01" 596, annotations := none, code := .ref (n₁ + 21), closureTuple := .ref (n₁ + 15), builtins := 0 }, slots := #[] }
noncomputable def k24 (P : Params) (n₁ t cc : Nat) : Obj := { cls := .type "tuple", dict := none, data := .seq #[.ref cc] 0, slots := #[] }
noncomputable def k25 (P : Params) (n₁ t cc : Nat) : Obj := { cls := .type "tuple", dict := none, data := .seq #[.str "mycmp" (t + 37)] 0, slots := #[] }
noncomputable def k26 (P : Params) (n₁ t cc : Nat) : Obj := { cls := .none, dict := none, data := .fields #[], slots := #[] }
noncomputable def k27 (P : Params) (n₁ t cc : Nat) : Obj := { cls := .type "tuple", dict := none, data := .seq #[.str "self" (t + 38), .str "other" (t + 39)] 0, slots := #[] }
noncomputable def k28 (P : Params) (n₁ t cc : Nat) : Obj := { cls := .type "tuple", dict := none, data := .seq #[] 0, slots := #[] }
noncomputable def k29 (P : Params) (n₁ t cc : Nat) : Obj := { cls := .none, dict := none, data := .func { name := Str.ofString "__gt__", qualname := Str.ofString "cmp_to_key.<locals>.K.__gt__", params := mArgs 4, body := .stmts (mBody 4), scope := mScope 4, globals := 0, closure := [], defaults := .none, kwdefaults := .none, doc := .none, pyModule := .none, annotations := none, code := .none, closureTuple := .none, builtins := 0 }, slots := #[] }
noncomputable def k30 (P : Params) (n₁ t cc : Nat) : Obj := { cls := .type "code", dict := none, data := .fields #[.str "__gt__" (t + 34), .str "cmp_to_key.<locals>.K.__gt__" (t + 35), .str "/claim/cut.py" (t + 36), .int (18) 0, .int (2) 0, .int (0) 0, .int (0) 0, .int (19) 0, .ref (n₁ + 24), .bool true, .int (276) 0, .ref (n₁ + 25), .none, .ref (n₁ + 26), .ref (n₁ + 27), .ref (n₁ + 28), .int ((t + 40 : Nat) : Int) 0, .int (18) 0, .str "/claim/cut.py" (t + 41)], slots := #[] }
noncomputable def k31 (P : Params) (n₁ t cc : Nat) : Obj := { cls := .type "function", dict := none, data := .func { name := Str.ofString "__gt__", qualname := Str.ofString "cmp_to_key.<locals>.K.__gt__", params := mArgs 4, body := .stmts (mBody 4), scope := mScope 4, globals := 3, closure := [(Str.ofString "mycmp", cc)], defaults := .none, kwdefaults := .none, doc := .none, pyModule := .str "law_kt0022_01" 596, annotations := none, code := .ref (n₁ + 29), closureTuple := .ref (n₁ + 23), builtins := 0 }, slots := #[] }
noncomputable def k32 (P : Params) (n₁ t cc : Nat) : Obj := { cls := .type "tuple", dict := none, data := .seq #[.ref cc] 0, slots := #[] }
noncomputable def k33 (P : Params) (n₁ t cc : Nat) : Obj := { cls := .type "tuple", dict := none, data := .seq #[.str "mycmp" (t + 46)] 0, slots := #[] }
noncomputable def k34 (P : Params) (n₁ t cc : Nat) : Obj := { cls := .none, dict := none, data := .fields #[], slots := #[] }
noncomputable def k35 (P : Params) (n₁ t cc : Nat) : Obj := { cls := .type "tuple", dict := none, data := .seq #[.str "self" (t + 47), .str "other" (t + 48)] 0, slots := #[] }
noncomputable def k36 (P : Params) (n₁ t cc : Nat) : Obj := { cls := .type "tuple", dict := none, data := .seq #[] 0, slots := #[] }
noncomputable def k37 (P : Params) (n₁ t cc : Nat) : Obj := { cls := .none, dict := none, data := .func { name := Str.ofString "__eq__", qualname := Str.ofString "cmp_to_key.<locals>.K.__eq__", params := mArgs 5, body := .stmts (mBody 5), scope := mScope 5, globals := 0, closure := [], defaults := .none, kwdefaults := .none, doc := .none, pyModule := .none, annotations := none, code := .none, closureTuple := .none, builtins := 0 }, slots := #[] }
noncomputable def k38 (P : Params) (n₁ t cc : Nat) : Obj := { cls := .type "code", dict := none, data := .fields #[.str "__eq__" (t + 43), .str "cmp_to_key.<locals>.K.__eq__" (t + 44), .str "/claim/cut.py" (t + 45), .int (21) 0, .int (2) 0, .int (0) 0, .int (0) 0, .int (19) 0, .ref (n₁ + 32), .bool true, .int (276) 0, .ref (n₁ + 33), .none, .ref (n₁ + 34), .ref (n₁ + 35), .ref (n₁ + 36), .int ((t + 49 : Nat) : Int) 0, .int (21) 0, .str "/claim/cut.py" (t + 50)], slots := #[] }
noncomputable def k39 (P : Params) (n₁ t cc : Nat) : Obj := { cls := .type "function", dict := none, data := .func { name := Str.ofString "__eq__", qualname := Str.ofString "cmp_to_key.<locals>.K.__eq__", params := mArgs 5, body := .stmts (mBody 5), scope := mScope 5, globals := 3, closure := [(Str.ofString "mycmp", cc)], defaults := .none, kwdefaults := .none, doc := .none, pyModule := .str "law_kt0022_01" 596, annotations := none, code := .ref (n₁ + 37), closureTuple := .ref (n₁ + 31), builtins := 0 }, slots := #[] }
noncomputable def k40 (P : Params) (n₁ t cc : Nat) : Obj := { cls := .type "tuple", dict := none, data := .seq #[.ref cc] 0, slots := #[] }
noncomputable def k41 (P : Params) (n₁ t cc : Nat) : Obj := { cls := .type "tuple", dict := none, data := .seq #[.str "mycmp" (t + 55)] 0, slots := #[] }
noncomputable def k42 (P : Params) (n₁ t cc : Nat) : Obj := { cls := .none, dict := none, data := .fields #[], slots := #[] }
noncomputable def k43 (P : Params) (n₁ t cc : Nat) : Obj := { cls := .type "tuple", dict := none, data := .seq #[.str "self" (t + 56), .str "other" (t + 57)] 0, slots := #[] }
noncomputable def k44 (P : Params) (n₁ t cc : Nat) : Obj := { cls := .type "tuple", dict := none, data := .seq #[] 0, slots := #[] }
noncomputable def k45 (P : Params) (n₁ t cc : Nat) : Obj := { cls := .none, dict := none, data := .func { name := Str.ofString "__le__", qualname := Str.ofString "cmp_to_key.<locals>.K.__le__", params := mArgs 6, body := .stmts (mBody 6), scope := mScope 6, globals := 0, closure := [], defaults := .none, kwdefaults := .none, doc := .none, pyModule := .none, annotations := none, code := .none, closureTuple := .none, builtins := 0 }, slots := #[] }
noncomputable def k46 (P : Params) (n₁ t cc : Nat) : Obj := { cls := .type "code", dict := none, data := .fields #[.str "__le__" (t + 52), .str "cmp_to_key.<locals>.K.__le__" (t + 53), .str "/claim/cut.py" (t + 54), .int (24) 0, .int (2) 0, .int (0) 0, .int (0) 0, .int (19) 0, .ref (n₁ + 40), .bool true, .int (276) 0, .ref (n₁ + 41), .none, .ref (n₁ + 42), .ref (n₁ + 43), .ref (n₁ + 44), .int ((t + 58 : Nat) : Int) 0, .int (24) 0, .str "/claim/cut.py" (t + 59)], slots := #[] }
noncomputable def k47 (P : Params) (n₁ t cc : Nat) : Obj := { cls := .type "function", dict := none, data := .func { name := Str.ofString "__le__", qualname := Str.ofString "cmp_to_key.<locals>.K.__le__", params := mArgs 6, body := .stmts (mBody 6), scope := mScope 6, globals := 3, closure := [(Str.ofString "mycmp", cc)], defaults := .none, kwdefaults := .none, doc := .none, pyModule := .str "law_kt0022_01" 596, annotations := none, code := .ref (n₁ + 45), closureTuple := .ref (n₁ + 39), builtins := 0 }, slots := #[] }
noncomputable def k48 (P : Params) (n₁ t cc : Nat) : Obj := { cls := .type "tuple", dict := none, data := .seq #[.ref cc] 0, slots := #[] }
noncomputable def k49 (P : Params) (n₁ t cc : Nat) : Obj := { cls := .type "tuple", dict := none, data := .seq #[.str "mycmp" (t + 64)] 0, slots := #[] }
noncomputable def k50 (P : Params) (n₁ t cc : Nat) : Obj := { cls := .none, dict := none, data := .fields #[], slots := #[] }
noncomputable def k51 (P : Params) (n₁ t cc : Nat) : Obj := { cls := .type "tuple", dict := none, data := .seq #[.str "self" (t + 65), .str "other" (t + 66)] 0, slots := #[] }
noncomputable def k52 (P : Params) (n₁ t cc : Nat) : Obj := { cls := .type "tuple", dict := none, data := .seq #[] 0, slots := #[] }
noncomputable def k53 (P : Params) (n₁ t cc : Nat) : Obj := { cls := .none, dict := none, data := .func { name := Str.ofString "__ge__", qualname := Str.ofString "cmp_to_key.<locals>.K.__ge__", params := mArgs 7, body := .stmts (mBody 7), scope := mScope 7, globals := 0, closure := [], defaults := .none, kwdefaults := .none, doc := .none, pyModule := .none, annotations := none, code := .none, closureTuple := .none, builtins := 0 }, slots := #[] }
noncomputable def k54 (P : Params) (n₁ t cc : Nat) : Obj := { cls := .type "code", dict := none, data := .fields #[.str "__ge__" (t + 61), .str "cmp_to_key.<locals>.K.__ge__" (t + 62), .str "/claim/cut.py" (t + 63), .int (27) 0, .int (2) 0, .int (0) 0, .int (0) 0, .int (19) 0, .ref (n₁ + 48), .bool true, .int (276) 0, .ref (n₁ + 49), .none, .ref (n₁ + 50), .ref (n₁ + 51), .ref (n₁ + 52), .int ((t + 67 : Nat) : Int) 0, .int (27) 0, .str "/claim/cut.py" (t + 68)], slots := #[] }
noncomputable def k55 (P : Params) (n₁ t cc : Nat) : Obj := { cls := .type "function", dict := none, data := .func { name := Str.ofString "__ge__", qualname := Str.ofString "cmp_to_key.<locals>.K.__ge__", params := mArgs 7, body := .stmts (mBody 7), scope := mScope 7, globals := 3, closure := [(Str.ofString "mycmp", cc)], defaults := .none, kwdefaults := .none, doc := .none, pyModule := .str "law_kt0022_01" 596, annotations := none, code := .ref (n₁ + 53), closureTuple := .ref (n₁ + 47), builtins := 0 }, slots := #[] }
noncomputable def k56 (P : Params) (n₁ t cc : Nat) : Obj := { cls := .type "tuple", dict := none, data := .seq #[.str "obj" (t + 71)] 0, slots := #[] }
noncomputable def k57 (P : Params) (n₁ t cc : Nat) : Obj := { cls := .type "list", dict := none, data := .seq #[.str "obj" (t + 15)] 1, slots := #[] }
noncomputable def k58 (P : Params) (n₁ t cc : Nat) : Obj := { cls := .type "dict", dict := none, data := .dict #[sE P "__module__" (t + 8) (.str "cpy313.functools" (t + 13)), sE P "__firstlineno__" (t + 12) (.int (8) (t + 11)), sE P "__slots__" (t + 16) (.ref (n₁ + 7)), sE P "__init__" (t + 24) (.ref (n₁ + 14)), sE P "__lt__" (t + 33) (.ref (n₁ + 22)), sE P "__gt__" (t + 42) (.ref (n₁ + 30)), sE P "__eq__" (t + 51) (.ref (n₁ + 38)), sE P "__le__" (t + 60) (.ref (n₁ + 46)), sE P "__ge__" (t + 69) (.ref (n₁ + 54)), sE P "__hash__" (t + 70) (.none), sE P "__static_attributes__" (t + 72) (.ref (n₁ + 55)), sE P "obj" (t + 74) (.ref (n₁ + 59)), sE P "__doc__" (t + 75) (.none)] 3, slots := #[] }
noncomputable def k59 (P : Params) (n₁ t cc : Nat) : Obj := kClsO n₁ t
noncomputable def k60 (P : Params) (n₁ t cc : Nat) : Obj := { cls := .type "member_descriptor", dict := none, data := .fields #[.str "obj" (t + 73), .ref (n₁ + 58), .builtin "proto.slot", .builtin "proto.slot#set", .int (0) 0], slots := #[] }
noncomputable def k61 (P : Params) (n₁ t cc : Nat) : Obj := { cls := .type "super", dict := none, data := .fields #[.ref (n₁ + 58), .ref (n₁ + 58), .ref (n₁ + 58)], slots := #[] }
noncomputable def k62 (P : Params) (n₁ t cc : Nat) : Obj := { cls := .type "builtin_function_or_method", dict := none, data := .fields #[.builtin "object.__init_subclass__", .ref (n₁ + 58)], slots := #[] }
/-- all that is made till the class is asked for -/
noncomputable def kOwn (P : Params) (n₁ t cc : Nat) : List (Addr × Obj) := [(40, k0 P n₁ t cc), (n₁ + 0, k1 P n₁ t cc), (n₁ + 1, k2 P n₁ t cc), (n₁ + 2, k3 P n₁ t cc), (n₁ + 3, k4 P n₁ t cc), (n₁ + 4, k5 P n₁ t cc), (n₁ + 5, k6 P n₁ t cc), (n₁ + 6, k7 P n₁ t cc), (n₁ + 7, k8 P n₁ t cc), (n₁ + 8, k9 P n₁ t cc), (n₁ + 9, k10 P n₁ t cc), (n₁ + 10, k11 P n₁ t cc), (n₁ + 11, k12 P n₁ t cc), (n₁ + 12, k13 P n₁ t cc), (n₁ + 13, k14 P n₁ t cc), (n₁ + 14, k15 P n₁ t cc), (n₁ + 15, k16 P n₁ t cc), (n₁ + 16, k17 P n₁ t cc), (n₁ + 17, k18 P n₁ t cc), (n₁ + 18, k19 P n₁ t cc), (n₁ + 19, k20 P n₁ t cc), (n₁ + 20, k21 P n₁ t cc), (n₁ + 21, k22 P n₁ t cc), (n₁ + 22, k23 P n₁ t cc), (n₁ + 23, k24 P n₁ t cc), (n₁ + 24, k25 P n₁ t cc), (n₁ + 25, k26 P n₁ t cc), (n₁ + 26, k27 P n₁ t cc), (n₁ + 27, k28 P n₁ t cc), (n₁ + 28, k29 P n₁ t cc), (n₁ + 29, k30 P n₁ t cc), (n₁ + 30, k31 P n₁ t cc), (n₁ + 31, k32 P n₁ t cc), (n₁ + 32, k33 P n₁ t cc), (n₁ + 33, k34 P n₁ t cc), (n₁ + 34, k35 P n₁ t cc), (n₁ + 35, k36 P n₁ t cc), (n₁ + 36, k37 P n₁ t cc), (n₁ + 37, k38 P n₁ t cc), (n₁ + 38, k39 P n₁ t cc), (n₁ + 39, k40 P n₁ t cc), (n₁ + 40, k41 P n₁ t cc), (n₁ + 41, k42 P n₁ t cc), (n₁ + 42, k43 P n₁ t cc), (n₁ + 43, k44 P n₁ t cc), (n₁ + 44, k45 P n₁ t cc), (n₁ + 45, k46 P n₁ t cc), (n₁ + 46, k47 P n₁ t cc), (n₁ + 47, k48 P n₁ t cc), (n₁ + 48, k49 P n₁ t cc), (n₁ + 49, k50 P n₁ t cc), (n₁ + 50, k51 P n₁ t cc), (n₁ + 51, k52 P n₁ t cc), (n₁ + 52, k53 P n₁ t cc), (n₁ + 53, k54 P n₁ t cc), (n₁ + 54, k55 P n₁ t cc), (n₁ + 55, k56 P n₁ t cc), (n₁ + 56, k57 P n₁ t cc)]
/-- all that is made -/
noncomputable def kEnd (P : Params) (n₁ t cc : Nat) : List (Addr × Obj) := [(40, k0 P n₁ t cc), (n₁ + 0, k1 P n₁ t cc), (n₁ + 1, k2 P n₁ t cc), (n₁ + 2, k3 P n₁ t cc), (n₁ + 3, k4 P n₁ t cc), (n₁ + 4, k5 P n₁ t cc), (n₁ + 5, k6 P n₁ t cc), (n₁ + 6, k7 P n₁ t cc), (n₁ + 7, k8 P n₁ t cc), (n₁ + 8, k9 P n₁ t cc), (n₁ + 9, k10 P n₁ t cc), (n₁ + 10, k11 P n₁ t cc), (n₁ + 11, k12 P n₁ t cc), (n₁ + 12, k13 P n₁ t cc), (n₁ + 13, k14 P n₁ t cc), (n₁ + 14, k15 P n₁ t cc), (n₁ + 15, k16 P n₁ t cc), (n₁ + 16, k17 P n₁ t cc), (n₁ + 17, k18 P n₁ t cc), (n₁ + 18, k19 P n₁ t cc), (n₁ + 19, k20 P n₁ t cc), (n₁ + 20, k21 P n₁ t cc), (n₁ + 21, k22 P n₁ t cc), (n₁ + 22, k23 P n₁ t cc), (n₁ + 23, k24 P n₁ t cc), (n₁ + 24, k25 P n₁ t cc), (n₁ + 25, k26 P n₁ t cc), (n₁ + 26, k27 P n₁ t cc), (n₁ + 27, k28 P n₁ t cc), (n₁ + 28, k29 P n₁ t cc), (n₁ + 29, k30 P n₁ t cc), (n₁ + 30, k31 P n₁ t cc), (n₁ + 31, k32 P n₁ t cc), (n₁ + 32, k33 P n₁ t cc), (n₁ + 33, k34 P n₁ t cc), (n₁ + 34, k35 P n₁ t cc), (n₁ + 35, k36 P n₁ t cc), (n₁ + 36, k37 P n₁ t cc), (n₁ + 37, k38 P n₁ t cc), (n₁ + 38, k39 P n₁ t cc), (n₁ + 39, k40 P n₁ t cc), (n₁ + 40, k41 P n₁ t cc), (n₁ + 41, k42 P n₁ t cc), (n₁ + 42, k43 P n₁ t cc), (n₁ + 43, k44 P n₁ t cc), (n₁ + 44, k45 P n₁ t cc), (n₁ + 45, k46 P n₁ t cc), (n₁ + 46, k47 P n₁ t cc), (n₁ + 47, k48 P n₁ t cc), (n₁ + 48, k49 P n₁ t cc), (n₁ + 49, k50 P n₁ t cc), (n₁ + 50, k51 P n₁ t cc), (n₁ + 51, k52 P n₁ t cc), (n₁ + 52, k53 P n₁ t cc), (n₁ + 53, k54 P n₁ t cc), (n₁ + 54, k55 P n₁ t cc), (n₁ + 55, k56 P n₁ t cc), (n₁ + 56, k57 P n₁ t cc), (n₁ + 57, k58 P n₁ t cc), (n₁ + 58, k59 P n₁ t cc), (n₁ + 59, k60 P n₁ t cc), (n₁ + 60, k61 P n₁ t cc), (n₁ + 61, k62 P n₁ t cc)]
/-- the class, as it is made the second time -/
noncomputable def kClsP (n₁ t : Nat) : Obj := { cls := .type "type", dict := none, data := .cls { name := "K", bases := [.type "object"], mro := [.ref (n₁ + 19), .type "object"], ns := n₁ + 18, qualname := "cmp_to_key.<locals>.K", hasDict := false, slotNames := ["obj"] }, slots := #[some (.ref (n₁ + 0)), none, some (.str "K" t), some (.str "cmp_to_key.<locals>.K" (t + 3)), some (.builtin "object.__new__"), some (.bool false)] }
noncomputable def q0 (P : Params) (mm n₁ t cc : Nat) : Obj := { cls := .none, dict := none, data := .fields #[.int (8) 0, .int (4) 0, .ref (mm + 5)], slots := #[] }
noncomputable def q1 (P : Params) (mm n₁ t cc : Nat) : Obj := { cls := .type "tuple", dict := none, data := .seq #[.type "object"] 0, slots := #[] }
noncomputable def q2 (P : Params) (mm n₁ t cc : Nat) : Obj := { cls := .type "builtin_function_or_method", dict := none, data := .fields #[.builtin "type.__prepare__", .type "type"], slots := #[] }
noncomputable def q3 (P : Params) (mm n₁ t cc : Nat) : Obj := { cls := .type "dict", dict := none, data := .dict #[sE P "__module__" (t + 2) (.str "cpy313.functools" (t + 7)), sE P "__qualname__" (t + 4) (.str "cmp_to_key.<locals>.K" (t + 3)), sE P "__firstlineno__" (t + 6) (.int (8) (t + 5)), sE P "__slots__" (t + 10) (.ref (n₁ + 4)), sE P "__init__" (t + 11) (.ref (n₁ + 5)), sE P "__lt__" (t + 12) (.ref (n₁ + 7)), sE P "__gt__" (t + 13) (.ref (n₁ + 9)), sE P "__eq__" (t + 14) (.ref (n₁ + 11)), sE P "__le__" (t + 15) (.ref (n₁ + 13)), sE P "__ge__" (t + 16) (.ref (n₁ + 15)), sE P "__hash__" (t + 17) (.none), sE P "__static_attributes__" (t + 19) (.ref (n₁ + 16))] 12, slots := #[] }
noncomputable def q4 (P : Params) (mm n₁ t cc : Nat) : Obj := { cls := .type "frame", dict := none, data := .plain, slots := #[some (.ref (mm + 5)), some (.ref 3), some (.ref (n₁ + 2)), none, some (.str "law_kt0022_01" 596), none, some (.ref 0)] }
noncomputable def q5 (P : Params) (mm n₁ t cc : Nat) : Obj := { cls := .type "list", dict := none, data := .seq #[.str "obj" (t + 9)] 0, slots := #[] }
noncomputable def q6 (P : Params) (mm n₁ t cc : Nat) : Obj := { cls := .type "function", dict := none, data := .func { name := Str.ofString "__init__", qualname := Str.ofString "cmp_to_key.<locals>.K.__init__", params := mArgs 2, body := .stmts (mBody 2), scope := mScope 2, globals := 3, closure := [], defaults := .none, kwdefaults := .none, doc := .none, pyModule := .str "law_kt0022_01" 596, annotations := none, code := .ref (mm + 13), closureTuple := .none, builtins := 0 }, slots := #[] }
noncomputable def q7 (P : Params) (mm n₁ t cc : Nat) : Obj := { cls := .type "tuple", dict := none, data := .seq #[.ref cc] 0, slots := #[] }
noncomputable def q8 (P : Params) (mm n₁ t cc : Nat) : Obj := { cls := .type "function", dict := none, data := .func { name := Str.ofString "__lt__", qualname := Str.ofString "cmp_to_key.<locals>.K.__lt__", params := mArgs 3, body := .stmts (mBody 3), scope := mScope 3, globals := 3, closure := [(Str.ofString "mycmp", cc)], defaults := .none, kwdefaults := .none, doc := .none, pyModule := .str "law_kt0022_01" 596, annotations := none, code := .ref (mm + 21), closureTuple := .ref (n₁ + 6), builtins := 0 }, slots := #[] }
noncomputable def q9 (P : Params) (mm n₁ t cc : Nat) : Obj := { cls := .type "tuple", dict := none, data := .seq #[.ref cc] 0, slots := #[] }
noncomputable def q10 (P : Params) (mm n₁ t cc : Nat) : Obj := { cls := .type "function", dict := none, data := .func { name := Str.ofString "__gt__", qualname := Str.ofString "cmp_to_key.<locals>.K.__gt__", params := mArgs 4, body := .stmts (mBody 4), scope := mScope 4, globals := 3, closure := [(Str.ofString "mycmp", cc)], defaults := .none, kwdefaults := .none, doc := .none, pyModule := .str "law_kt0022_01" 596, annotations := none, code := .ref (mm + 29), closureTuple := .ref (n₁ + 8), builtins := 0 }, slots := #[] }
noncomputable def q11 (P : Params) (mm n₁ t cc : Nat) : Obj := { cls := .type "tuple", dict := none, data := .seq #[.ref cc] 0, slots := #[] }
noncomputable def q12 (P : Params) (mm n₁ t cc : Nat) : Obj := { cls := .type "function", dict := none, data := .func { name := Str.ofString "__eq__", qualname := Str.ofString "cmp_to_key.<locals>.K.__eq__", params := mArgs 5, body := .stmts (mBody 5), scope := mScope 5, globals := 3, closure := [(Str.ofString "mycmp", cc)], defaults := .none, kwdefaults := .none, doc := .none, pyModule := .str "law_kt0022_01" 596, annotations := none, code := .ref (mm + 37), closureTuple := .ref (n₁ + 10), builtins := 0 }, slots := #[] }
noncomputable def q13 (P : Params) (mm n₁ t cc : Nat) : Obj := { cls := .type "tuple", dict := none, data := .seq #[.ref cc] 0, slots := #[] }
noncomputable def q14 (P : Params) (mm n₁ t cc : Nat) : Obj := { cls := .type "function", dict := none, data := .func { name := Str.ofString "__le__", qualname := Str.ofString "cmp_to_key.<locals>.K.__le__", params := mArgs 6, body := .stmts (mBody 6), scope := mScope 6, globals := 3, closure := [(Str.ofString "mycmp", cc)], defaults := .none, kwdefaults := .none, doc := .none, pyModule := .str "law_kt0022_01" 596, annotations := none, code := .ref (mm + 45), closureTuple := .ref (n₁ + 12), builtins := 0 }, slots := #[] }
noncomputable def q15 (P : Params) (mm n₁ t cc : Nat) : Obj := { cls := .type "tuple", dict := none, data := .seq #[.ref cc] 0, slots := #[] }
noncomputable def q16 (P : Params) (mm n₁ t cc : Nat) : Obj := { cls := .type "function", dict := none, data := .func { name := Str.ofString "__ge__", qualname := Str.ofString "cmp_to_key.<locals>.K.__ge__", params := mArgs 7, body := .stmts (mBody 7), scope := mScope 7, globals := 3, closure := [(Str.ofString "mycmp", cc)], defaults := .none, kwdefaults := .none, doc := .none, pyModule := .str "law_kt0022_01" 596, annotations := none, code := .ref (mm + 53), closureTuple := .ref (n₁ + 14), builtins := 0 }, slots := #[] }
noncomputable def q17 (P : Params) (mm n₁ t cc : Nat) : Obj := { cls := .type "tuple", dict := none, data := .seq #[.str "obj" (t + 18)] 0, slots := #[] }
noncomputable def q18 (P : Params) (mm n₁ t cc : Nat) : Obj := { cls := .type "list", dict := none, data := .seq #[.str "obj" (t + 9)] 1, slots := #[] }
noncomputable def q19 (P : Params) (mm n₁ t cc : Nat) : Obj := { cls := .type "dict", dict := none, data := .dict #[sE P "__module__" (t + 2) (.str "cpy313.functools" (t + 7)), sE P "__firstlineno__" (t + 6) (.int (8) (t + 5)), sE P "__slots__" (t + 10) (.ref (n₁ + 4)), sE P "__init__" (t + 11) (.ref (n₁ + 5)), sE P "__lt__" (t + 12) (.ref (n₁ + 7)), sE P "__gt__" (t + 13) (.ref (n₁ + 9)), sE P "__eq__" (t + 14) (.ref (n₁ + 11)), sE P "__le__" (t + 15) (.ref (n₁ + 13)), sE P "__ge__" (t + 16) (.ref (n₁ + 15)), sE P "__hash__" (t + 17) (.none), sE P "__static_attributes__" (t + 19) (.ref (n₁ + 16)), sE P "obj" (t + 21) (.ref (n₁ + 20)), sE P "__doc__" (t + 22) (.none)] 3, slots := #[] }
noncomputable def q20 (P : Params) (mm n₁ t cc : Nat) : Obj := kClsP n₁ t
noncomputable def q21 (P : Params) (mm n₁ t cc : Nat) : Obj := { cls := .type "member_descriptor", dict := none, data := .fields #[.str "obj" (t + 20), .ref (n₁ + 19), .builtin "proto.slot", .builtin "proto.slot#set", .int (0) 0], slots := #[] }
noncomputable def q22 (P : Params) (mm n₁ t cc : Nat) : Obj := { cls := .type "super", dict := none, data := .fields #[.ref (n₁ + 19), .ref (n₁ + 19), .ref (n₁ + 19)], slots := #[] }
noncomputable def q23 (P : Params) (mm n₁ t cc : Nat) : Obj := { cls := .type "builtin_function_or_method", dict := none, data := .fields #[.builtin "object.__init_subclass__", .ref (n₁ + 19)], slots := #[] }
noncomputable def qOwn (P : Params) (mm n₁ t cc : Nat) : List (Addr × Obj) := [(40, q0 P mm n₁ t cc), (n₁ + 0, q1 P mm n₁ t cc), (n₁ + 1, q2 P mm n₁ t cc), (n₁ + 2, q3 P mm n₁ t cc), (n₁ + 3, q4 P mm n₁ t cc), (n₁ + 4, q5 P mm n₁ t cc), (n₁ + 5, q6 P mm n₁ t cc), (n₁ + 6, q7 P mm n₁ t cc), (n₁ + 7, q8 P mm n₁ t cc), (n₁ + 8, q9 P mm n₁ t cc), (n₁ + 9, q10 P mm n₁ t cc), (n₁ + 10, q11 P mm n₁ t cc), (n₁ + 11, q12 P mm n₁ t cc), (n₁ + 12, q13 P mm n₁ t cc), (n₁ + 13, q14 P mm n₁ t cc), (n₁ + 14, q15 P mm n₁ t cc), (n₁ + 15, q16 P mm n₁ t cc), (n₁ + 16, q17 P mm n₁ t cc), (n₁ + 17, q18 P mm n₁ t cc)]
noncomputable def qEnd (P : Params) (mm n₁ t cc : Nat) : List (Addr × Obj) := [(40, q0 P mm n₁ t cc), (n₁ + 0, q1 P mm n₁ t cc), (n₁ + 1, q2 P mm n₁ t cc), (n₁ + 2, q3 P mm n₁ t cc), (n₁ + 3, q4 P mm n₁ t cc), (n₁ + 4, q5 P mm n₁ t cc), (n₁ + 5, q6 P mm n₁ t cc), (n₁ + 6, q7 P mm n₁ t cc), (n₁ + 7, q8 P mm n₁ t cc), (n₁ + 8, q9 P mm n₁ t cc), (n₁ + 9, q10 P mm n₁ t cc), (n₁ + 10, q11 P mm n₁ t cc), (n₁ + 11, q12 P mm n₁ t cc), (n₁ + 12, q13 P mm n₁ t cc), (n₁ + 13, q14 P mm n₁ t cc), (n₁ + 14, q15 P mm n₁ t cc), (n₁ + 15, q16 P mm n₁ t cc), (n₁ + 16, q17 P mm n₁ t cc), (n₁ + 17, q18 P mm n₁ t cc), (n₁ + 18, q19 P mm n₁ t cc), (n₁ + 19, q20 P mm n₁ t cc), (n₁ + 20, q21 P mm n₁ t cc), (n₁ + 21, q22 P mm n₁ t cc), (n₁ + 22, q23 P mm n₁ t cc)]
end Mine
end

section
open PySem PySem.W PySem.W.X PyProof.Rows PySem.Calls
set_option maxHeartbeats 0
namespace Mine
noncomputable def kPos : Pos := ⟨8, 4, 29, 23⟩
noncomputable abbrev kB (env : Env) : Sem Value := buildClass (Str.ofString "K") (Str.ofString "cmp_to_key.<locals>.K") [.type "object"] [] kBody kScope [Str.ofString "obj"] 8 env kPos none
theorem three {E : Lk → Lk → Lk → Sem Unit} {st : List (Code × Pos)} {ob : Obj} (h : ∀ a b c, ldU (stU (E a b c) st) ob = ldU (stU (E (fun _ _ _ => a st 0 recursionLimit) (fun _ _ _ => b st 0 recursionLimit) (fun _ _ _ => c st 0 recursionLimit)) st) ob)
    (h' : ldU (stU (E (fun _ _ _ => false) (fun _ _ _ => false) (fun _ _ _ => false)) st) ob = .pure ()) : ∀ fN : Lk, fN st 0 recursionLimit = false → ∀ fO : Lk, fO st 0 recursionLimit = false → ∀ fW : Lk, fW st 0 recursionLimit = false → ldU (stU (E fN fO fW) st) ob = .pure () := by
  intro a ha b hb c hc
  rw [h, ha, hb, hc]; exact h'
theorem enter_pure {A : Around} {st : List (Code × Pos)} (P : Params) (lies : Lies A st) (hd : A.depth < recursionLimit) : ldU (stU (enterFrame 0) st) (o2 P) = .pure () := by
  have hN : X.nearF st 0 recursionLimit = false := lies.near' hd 0
  have hO : X.overF st 0 recursionLimit = false := lies.over hd 0
  have hW : X.warmF st 0 recursionLimit = false := lies.warm hd 0
  rw [X.enterQ_eq]
  delta X.enterQ
  revert hN hO hW
  generalize X.nearF = fN
  generalize X.overF = fO
  generalize X.warmF = fW
  intro hN hO hW
  revert hW; revert fW; revert hO; revert fO; revert hN; revert fN
  exact three (by intro a b c; kernel_rfl) (by kernel_rfl)
theorem entry_new : entryFor table "type.__new__" = some Builtin.«type.__new__» := entryFor_of_tree (by kernel_rfl)
theorem iadd {w : World} {A : Around} {s : Shared} {R : Result → Shared → Prop} {S it : Addr} {items : List Value} {n : Nat} (hS : s.heap.get? S = some { cls := .type "list", data := .seq #[] 0 }) (hit : s.heap.get? it = some (lst items n)) (hz : items.length ≤ sizeLine)
    (h : ∀ h', Heap.SameBut S s.heap h' → h'.get? S = some (Obj.mapSeq (· ++ items.toArray) { cls := .type "list", data := .seq #[] 0 }) → R (.ok (.ret (.ref S))) { s with heap := h' }) : codeAny (model PG w) A (.builtin "list.__iadd__" ⟨[.ref S, .ref it], []⟩) R s := by
  refine codeAny_builtin F.entry_list_iadd ?_
  rw [Around.under_plainId F.plain_list_iadd _]
  exact wpAny_extend_seq (o := lst items n) S it (.ref S) 0 (.inl rfl) hS hit rfl rfl (h _ (Heap.SameBut.update ..) (Heap.get?_update_self _ hS rfl)) (by simpa using hz)
theorem off_self (a : Addr) : @PySem.W.R.filterR Value (fun x => @bne Value (@instBEqOfDecidableEq Value PySem.W.Fast.tw7966671052430208091) x (.ref a)) [.ref a, .type "object"] = [.type "object"] := by
  rw [← PySem.W.R.filterR_eq]; simp
theorem ac {α : Type} {P : α → Prop} {a : α} {l : List α} (h : P a) (k : ∀ x ∈ l, P x) : ∀ x ∈ a :: l, P x := List.forall_mem_cons.mpr ⟨h, k⟩
theorem an {α : Type} {P : α → Prop} : ∀ x ∈ ([] : List α), P x := fun _ h => nomatch h
theorem kOlds_far (P : Params) : ∀ p ∈ kOlds P, p.1 < 175 ∧ p.1 ≠ 40 := ac ⟨show 2 < 175 by decide, show 2 ≠ 40 by decide⟩ (ac ⟨show 3 < 175 by decide, show 3 ≠ 40 by decide⟩ (ac ⟨show 4 < 175 by decide, show 4 ≠ 40 by decide⟩ (ac ⟨show 44 < 175 by decide, show 44 ≠ 40 by decide⟩ an)))
theorem make_k0 {w : World} {s : Shared} {N x : Nat} {A : Around} {Q : Value → Shared → Prop} (hn : s.heap.objs.size = x + 175) (h40 : s.heap.get? 40 = some (tabObj #[])) (O : ∀ p ∈ kOlds w.params, s.heap.get? p.1 = some p.2) (hd : A.depth < recursionLimit)
    (hQ : ∀ h, Rep s.heap (x + 175) h (kEnd w.params (x + 175) s.toks (N + 1)) 62 → Q (.ref (x + 175 + 58)) ⟨h, s.gens, s.drawn, s.toks + 77, s.os⟩) :
    W w A (kB (kEnv N)) Q s := by
  have O₀ : ∀ o : Out, o.own.map (·.1) = [40] → Olds s.heap (x + 175) (kOlds w.params) o := fun o e => ⟨O, fun p hp => Nat.lt_of_lt_of_le (kOlds_far _ p hp).1 (Nat.le_add_left ..), fun p hp q => by rw [e] at q; exact (kOlds_far _ p hp).2 (List.mem_singleton.mp q)⟩
  refine goes_start (n₁ := x + 175) (own := [(40, tabObj #[])]) hn (by simpa using h40) (by simp) ?_
  unfold kB buildClass
  generalize hE : enterFrame 0 = E
  revert E
  refine Goes.enter' (A := A) _ 34 [2, 3, 1003, 0, 0, 0, 0, 1001, 1002, 1001] 1000 (o2 w.params) rfl rfl (O₀ _ rfl) ?_ ?_ ?_ ?_ rfl ?_ (fun st lies => enter_pure w.params lies hd) ?_
  · intro k; kernel_rfl
  · intro a q k; kernel_rfl
  · kernel_rfl
  · kernel_rfl
  · kernel_rfl
  intro O₁
  refine Goes.norm (m' := 7) (i' := 8) (by kernel_rfl) (by kernel_rfl) ?_
  refine Goes.run 259 [3, 3, 1001, 3, 3, 3, 3, 3, 3, 3, 3, 3, 3, 3, 3, 3, 3, 3, 6, 5, 5, 5, 5, 1001, 1002, 1001, 3, 3, 3, 6, 5, 5, 5, 5, 1001, 1002, 1001, 3, 3, 3, 6, 5, 5, 5, 5, 1001, 1002, 1001, 3, 3, 3, 6, 5, 5, 5, 5, 1001, 1002, 1001, 3, 3, 3, 6, 5, 5, 5, 5, 1001, 1002, 1001, 3, 3, 3, 6, 5, 5, 5, 5, 1001, 1002, 1001, 3, 3, 3, 3, 3, 3, 3, 3, 3] (O₁.with_ rfl) fun O₂ => ?_
  refine Goes.norm (m' := 56) (i' := 73) (by kernel_rfl) (by kernel_rfl) ?_
  refine Goes.again (c := .builtin "type.__new__" ⟨[.type "type", .str "K" s.toks, .ref (x + 175 + 0), .ref (x + 175 + 2)], []⟩) (by kernel_rfl) (den entry_new) ?_
  rw [PySem.W.Fast.te4202317264376624991]
  refine Goes.run 9 [1, 3, 1, 3, 3, 8] (O₂.with_ rfl) fun O₃ => ?_
  refine Goes.upd (j := 57) (b := x + 175 + 56) (ob := { cls := .type "list", data := .seq #[] 0 }) (ob' := { cls := .type "list", data := .seq #[.str "obj" (s.toks + 15)] 1 }) (c := .builtin "list.__iadd__" ⟨[.ref (x + 175 + 56), .ref (x + 175 + 7)], []⟩) (r := .ok (.ret (.ref (x + 175 + 56)))) (O₃.with_ rfl) (by kernel_rfl) (by kernel_rfl) (by kernel_rfl)
    (fun A s' R hp _ hR => iadd (items := [.str "obj" (s.toks + 15)]) (n := 0) (hp (_, _) (nth_mem (n := 57) (by kernel_rfl))) (hp (_, _) (nth_mem (n := 8) (by kernel_rfl))) (show 1 ≤ sizeLine by decide) hR) fun O₄ => ?_
  refine Goes.norm4 (own' := kOwn w.params (x + 175) s.toks (N + 1)) (m' := 57) (i' := 73) (by kernel_rfl) (by kernel_rfl) (by kernel_rfl) ?_
  unfold PySem.W.Fast.tw4202317264376624991
  generalize hF : @PySem.W.R.filterR Value = F
  revert F
  refine Goes.asked (F₀ := @PySem.W.R.filterR Value) _ 16 [57, 58, 58, 58, 59, 59, 59, 58, 58, 58, 58, 58, 58, 58] (fun y => @bne Value (@instBEqOfDecidableEq Value PySem.W.Fast.tw7966671052430208091) y (.ref (x + 175 + 58))) [.ref (x + 175 + 58), .type "object"] [.type "object"] (O₄.own_eq (by kernel_rfl)) ?_ (off_self _) ?_
  · intro F; kernel_rfl
  intro O₅
  refine Goes.run 49 [59, 59, 59, 59, 59, 59, 59, 58, 58, 58, 58, 58, 59, 59, 59, 59, 58, 58, 58, 58, 58, 58, 58, 8, 15, 23, 31, 39, 47, 55, 56, 60, 59, 61, 61, 61] (O₅.with_ rfl) fun O₆ => ?_
  refine Goes.norm (m' := 61) (i' := 76) (by kernel_rfl) (by kernel_rfl) ?_
  refine Goes.upd (j := 61) (b := x + 175 + 60) (ob := { cls := .type "super", dict := none, data := .fields #[.none, .none, .none], slots := #[] }) (ob' := { cls := .type "super", dict := none, data := .fields #[.ref (x + 175 + 58), .ref (x + 175 + 58), .ref (x + 175 + 58)], slots := #[] })
    (c := .builtin "super.__init__" ⟨[.ref (x + 175 + 60), .ref (x + 175 + 58), .ref (x + 175 + 58)], []⟩) (r := .ok (.ret .none)) (O₆.with_ rfl) (by kernel_rfl) (by kernel_rfl) (by kernel_rfl)
    (fun A s' R hp _ hR => super_init (oa := kClsO (x + 175) s.toks) (hp (_, _) (nth_mem (n := 61) (by kernel_rfl))) (hp (_, _) (nth_mem (n := 59) (by kernel_rfl))) rfl rfl hR) fun O₇ => ?_
  refine Goes.run 5 [61, 61] (O₇.with_ rfl) fun O₈ => ?_
  refine Goes.norm (m' := 61) (i' := 77) (by kernel_rfl) (by kernel_rfl) ?_
  refine Goes.new (ob := { cls := .type "builtin_function_or_method", data := .fields #[.builtin "object.__init_subclass__", .ref (x + 175 + 58)] }) (c := .builtin "super.__getattribute__" ⟨[.ref (x + 175 + 60), .str "__init_subclass__" (s.toks + 76)], []⟩) (O₈.with_ rfl) (by kernel_rfl) (by kernel_rfl) rfl
    (fun A s' R hp ho hR => super_get (oa := kClsO (x + 175) s.toks) (hp (_, _) (nth_mem (n := 61) (by kernel_rfl))) (hp (_, _) (nth_mem (n := 59) (by kernel_rfl))) rfl rfl (ho (2, o2 w.params) (by simp [kOlds])) hR) fun O₉ => ?_
  refine Goes.run 16 [62, 59, 59, 59, 59, 59, 59, 59] (O₉.with_ rfl) fun O₁₀ => ?_
  refine Goes.norm4 (own' := kEnd w.params (x + 175) s.toks (N + 1)) (m' := 62) (i' := 77) (by kernel_rfl) (by kernel_rfl) (by kernel_rfl) ?_
  exact Goes.end_ (v := .ref (x + 175 + 58)) (by kernel_rfl) (accOk (by kernel_rfl)) fun h R => hQ h R
end Mine
end

section
open PySem PySem.W PySem.W.X PyProof.Rows PySem.Calls
set_option maxHeartbeats 0
namespace Mine
theorem make_k1 {w : World} {s : Shared} {P' : Params} {N x mm tt c₀ : Nat} {A : Around} {Q : Value → Shared → Prop} (hn : s.heap.objs.size = x + 175) (h40 : s.heap.get? 40 = some (k0 P' mm tt c₀)) (O : ∀ p ∈ kOlds w.params, s.heap.get? p.1 = some p.2) (h5 : s.heap.get? (mm + 5) = some (k6 P' mm tt c₀)) (h4 : s.heap.get? (mm + 4) = some (k5 P' mm tt c₀)) (hmm : 175 ≤ mm) (hd : A.depth < recursionLimit)
    (hQ : ∀ h, Rep s.heap (x + 175) h (qEnd w.params mm (x + 175) s.toks (N + 1)) 23 → Q (.ref (x + 175 + 19)) ⟨h, s.gens, s.drawn, s.toks + 24, s.os⟩) :
    W w A (kB (kEnv N)) Q s := by
  have O₀ : ∀ o : Out, o.own.map (·.1) = [40] → Olds s.heap (x + 175) (kOlds w.params ++ [(mm + 5, k6 P' mm tt c₀), (mm + 4, k5 P' mm tt c₀)]) o := fun o e => ⟨fun p hp => (List.mem_append.mp hp).elim (O p) (ac (P := fun p => s.heap.get? p.1 = some p.2) h5 (ac h4 an) p),
    fun p hp => (List.mem_append.mp hp).elim (fun hp => Nat.lt_of_lt_of_le (kOlds_far _ p hp).1 (Nat.le_add_left ..)) (ac (P := fun p => p.1 < x + 175) (hn ▸ Heap.lt_size h5) (ac (hn ▸ Heap.lt_size h4) an) p),
    fun p hp q => by
      rw [e] at q
      have ne : ∀ k, mm + k ≠ 40 := fun k e => absurd (Nat.le_trans hmm (Nat.le_trans (Nat.le_add_right mm k) (Nat.le_of_eq e))) (by decide)
      exact (List.mem_append.mp hp).elim (fun hp => (kOlds_far _ p hp).2 (List.mem_singleton.mp q)) fun hp => ac (P := fun p => p.1 ≠ 40) (ne 5) (ac (ne 4) an) p hp (List.mem_singleton.mp q)⟩
  refine goes_start (n₁ := x + 175) (own := [(40, k0 P' mm tt c₀)]) hn (by simpa using h40) (by simp) ?_
  unfold kB buildClass
  generalize hE : enterFrame 0 = E
  revert E
  refine Goes.enter' (A := A) _ 22 [2, 3, 1003, 0, 1001, 1002, 1001] 1000 (o2 w.params) rfl rfl (O₀ _ rfl) ?_ ?_ ?_ ?_ rfl ?_ (fun st lies => enter_pure w.params lies hd) ?_
  · intro k; kernel_rfl
  · intro a q k; kernel_rfl
  · kernel_rfl
  · kernel_rfl
  · kernel_rfl
  intro O₁
  refine Goes.norm (m' := 4) (i' := 2) (by kernel_rfl) (by kernel_rfl) ?_
  refine Goes.run 158 [3, 3, 1001, 3, 3, 3, 3, 3, 3, 3, 3, 3, 3, 3, 3, 3, 3, 3, 1004, 1005, 1001, 1002, 1001, 3, 3, 3, 1004, 1005, 1001, 1002, 1001, 3, 3, 3, 1004, 1005, 1001, 1002, 1001, 3, 3, 3, 1004, 1005, 1001, 1002, 1001, 3, 3, 3, 1004, 1005, 1001, 1002, 1001, 3, 3, 3, 1004, 1005, 1001, 1002, 1001, 3, 3, 3, 3, 3, 3, 3, 3, 3] (O₁.with_ rfl) fun O₂ => ?_
  refine Goes.norm (m' := 17) (i' := 20) (by kernel_rfl) (by kernel_rfl) ?_
  refine Goes.again (c := .builtin "type.__new__" ⟨[.type "type", .str "K" s.toks, .ref (x + 175 + 0), .ref (x + 175 + 2)], []⟩) (by kernel_rfl) (den entry_new) ?_
  rw [PySem.W.Fast.te4202317264376624991]
  refine Goes.run 9 [1, 3, 1, 3, 3, 5] (O₂.with_ rfl) fun O₃ => ?_
  refine Goes.upd (j := 18) (b := x + 175 + 17) (ob := { cls := .type "list", data := .seq #[] 0 }) (ob' := { cls := .type "list", data := .seq #[.str "obj" (s.toks + 9)] 1 }) (c := .builtin "list.__iadd__" ⟨[.ref (x + 175 + 17), .ref (x + 175 + 4)], []⟩) (r := .ok (.ret (.ref (x + 175 + 17)))) (O₃.with_ rfl) (by kernel_rfl) (by kernel_rfl) (by kernel_rfl)
    (fun A s' R hp _ hR => iadd (items := [.str "obj" (s.toks + 9)]) (n := 0) (hp (_, _) (nth_mem (n := 18) (by kernel_rfl))) (hp (_, _) (nth_mem (n := 5) (by kernel_rfl))) (show 1 ≤ sizeLine by decide) hR) fun O₄ => ?_
  refine Goes.norm4 (own' := qOwn w.params mm (x + 175) s.toks (N + 1)) (m' := 18) (i' := 20) (by kernel_rfl) (by kernel_rfl) (by kernel_rfl) ?_
  unfold PySem.W.Fast.tw4202317264376624991
  generalize hF : @PySem.W.R.filterR Value = F
  revert F
  refine Goes.asked (F₀ := @PySem.W.R.filterR Value) _ 16 [18, 19, 19, 19, 20, 20, 20, 19, 19, 19, 19, 19, 19, 19] (fun y => @bne Value (@instBEqOfDecidableEq Value PySem.W.Fast.tw7966671052430208091) y (.ref (x + 175 + 19))) [.ref (x + 175 + 19), .type "object"] [.type "object"] (O₄.own_eq (by kernel_rfl)) ?_ (off_self _) ?_
  · intro F; kernel_rfl
  intro O₅
  refine Goes.run 49 [20, 20, 20, 20, 20, 20, 20, 19, 19, 19, 19, 19, 20, 20, 20, 20, 19, 19, 19, 19, 19, 19, 19, 5, 6, 8, 10, 12, 14, 16, 17, 21, 20, 22, 22, 22] (O₅.with_ rfl) fun O₆ => ?_
  refine Goes.norm (m' := 22) (i' := 23) (by kernel_rfl) (by kernel_rfl) ?_
  refine Goes.upd (j := 22) (b := x + 175 + 21) (ob := { cls := .type "super", dict := none, data := .fields #[.none, .none, .none], slots := #[] }) (ob' := { cls := .type "super", dict := none, data := .fields #[.ref (x + 175 + 19), .ref (x + 175 + 19), .ref (x + 175 + 19)], slots := #[] })
    (c := .builtin "super.__init__" ⟨[.ref (x + 175 + 21), .ref (x + 175 + 19), .ref (x + 175 + 19)], []⟩) (r := .ok (.ret .none)) (O₆.with_ rfl) (by kernel_rfl) (by kernel_rfl) (by kernel_rfl)
    (fun A s' R hp _ hR => super_init (oa := kClsP (x + 175) s.toks) (hp (_, _) (nth_mem (n := 22) (by kernel_rfl))) (hp (_, _) (nth_mem (n := 20) (by kernel_rfl))) rfl rfl hR) fun O₇ => ?_
  refine Goes.run 5 [22, 22] (O₇.with_ rfl) fun O₈ => ?_
  refine Goes.norm (m' := 22) (i' := 24) (by kernel_rfl) (by kernel_rfl) ?_
  refine Goes.new (ob := { cls := .type "builtin_function_or_method", data := .fields #[.builtin "object.__init_subclass__", .ref (x + 175 + 19)] }) (c := .builtin "super.__getattribute__" ⟨[.ref (x + 175 + 21), .str "__init_subclass__" (s.toks + 23)], []⟩) (O₈.with_ rfl) (by kernel_rfl) (by kernel_rfl) rfl
    (fun A s' R hp ho hR => super_get (oa := kClsP (x + 175) s.toks) (hp (_, _) (nth_mem (n := 22) (by kernel_rfl))) (hp (_, _) (nth_mem (n := 20) (by kernel_rfl))) rfl rfl (ho (2, o2 w.params) (by simp [kOlds])) hR) fun O₉ => ?_
  refine Goes.run 16 [23, 20, 20, 20, 20, 20, 20, 20] (O₉.with_ rfl) fun O₁₀ => ?_
  refine Goes.norm4 (own' := qEnd w.params mm (x + 175) s.toks (N + 1)) (m' := 23) (i' := 24) (by kernel_rfl) (by kernel_rfl) (by kernel_rfl) ?_
  exact Goes.end_ (v := .ref (x + 175 + 19)) (by kernel_rfl) (accOk (by kernel_rfl)) fun h R => hQ h R
end Mine
end

section
open PySem PySem.W PySem.W.X PyProof.Rows PySem.Calls
set_option maxHeartbeats 0
namespace Mine
/-- where the parts of a made class lie -/
structure KA where
  c : Nat
  n : Nat
  d : Nat
  k : Nat
  m : Nat
  f : Nat → Nat
  ct : Nat → Value
  t : Nat → Tok
  ad : Nat → Addr
noncomputable def kFns : List (Nat × Str × Str × Nat) := [(2, "__init__", "cmp_to_key.<locals>.K.__init__", 13), (3, "__lt__", "cmp_to_key.<locals>.K.__lt__", 21), (4, "__gt__", "cmp_to_key.<locals>.K.__gt__", 29), (5, "__eq__", "cmp_to_key.<locals>.K.__eq__", 37), (6, "__le__", "cmp_to_key.<locals>.K.__le__", 45), (7, "__ge__", "cmp_to_key.<locals>.K.__ge__", 53)]
noncomputable def KA.cls (A : KA) : Obj := { cls := .type "type", dict := none, data := .cls { name := "K", bases := [.type "object"], mro := [.ref (A.c + 175), .type "object"], ns := A.n + 175, qualname := "cmp_to_key.<locals>.K", hasDict := false, slotNames := ["obj"] }, slots := #[some (.ref (A.ad 0)), none, some (.str "K" (A.t 0)), some (.str "cmp_to_key.<locals>.K" (A.t 1)), some (.builtin "object.__new__"), some (.bool false)] }
noncomputable def KA.ns (P : Params) (A : KA) : Obj := { cls := .type "dict", dict := none, data := .dict #[sE P "__module__" (A.t 2) (.str "cpy313.functools" (A.t 3)), sE P "__firstlineno__" (A.t 4) (.int (8) (A.t 5)), sE P "__slots__" (A.t 6) (.ref (A.ad 1)), sE P "__init__" (A.t 7) (.ref (A.f 2 + 175)), sE P "__lt__" (A.t 8) (.ref (A.f 3 + 175)), sE P "__gt__" (A.t 9) (.ref (A.f 4 + 175)), sE P "__eq__" (A.t 10) (.ref (A.f 5 + 175)), sE P "__le__" (A.t 11) (.ref (A.f 6 + 175)), sE P "__ge__" (A.t 12) (.ref (A.f 7 + 175)), sE P "__hash__" (A.t 13) (.none), sE P "__static_attributes__" (A.t 14) (.ref (A.ad 2)), sE P "obj" (A.t 15) (.ref (A.d + 175)), sE P "__doc__" (A.t 16) (.none)] 3, slots := #[] }
noncomputable def KA.ds (A : KA) : Obj := { cls := .type "member_descriptor", dict := none, data := .fields #[.str "obj" (A.t 17), .ref (A.c + 175), .builtin "proto.slot", .builtin "proto.slot#set", .int (0) 0], slots := #[] }
noncomputable def KA.fn (A : KA) (p : Nat × Str × Str × Nat) : Obj := { cls := .type "function", dict := none, data := .func { name := p.2.1, qualname := p.2.2.1, params := mArgs p.1, body := .stmts (mBody p.1), scope := mScope p.1, globals := 3, closure := match p.1 with | 2 => [] | _ => [(Str.ofString "mycmp", A.k + 175)], defaults := .none, kwdefaults := .none, doc := .none, pyModule := .str "law_kt0022_01" 596, annotations := none, code := .ref (A.m + p.2.2.2), closureTuple := A.ct p.1, builtins := 0 }, slots := #[] }
structure KF (P : Params) (A : KA) (F : Fz) : Prop where
  cls : F (A.c + 175) = some A.cls
  ns : F (A.n + 175) = some (A.ns P)
  ds : F (A.d + 175) = some A.ds
  fn : ∀ p ∈ kFns, F (A.f p.1 + 175) = some (A.fn p)
  cd : ∀ p ∈ kCodes, ∃ o vs t, F (A.m + p.1) = some o ∧ o.cls = .type "code" ∧ o.data = .fields vs ∧ vs[1]? = some (.str p.2 t)
theorem KF.mono {P : Params} {A : KA} {F F' : Fz} (x : KF P A F) (l : F.Le F') : KF P A F' :=
  ⟨l _ _ x.cls, l _ _ x.ns, l _ _ x.ds, fun p hp => l _ _ (x.fn p hp), fun p hp => let ⟨o, vs, t, e, r⟩ := x.cd p hp; ⟨o, vs, t, l _ _ e, r⟩⟩
/-- the class, its cell not yet frozen -/
noncomputable def rK0 (P : Params) (cc : Addr) : Rp := ⟨fun F v => ∃ A : KA, v = .ref (A.c + 175) ∧ cc = A.k + 175 ∧ KF P A F, fun _ _ _ l ⟨A, e, q, x⟩ => ⟨A, e, q, x.mono l⟩⟩
/-- the class over a comparison -/
noncomputable def KC (P : Params) (N : Nat) (u : Value) (A : KA) (F : Fz) : Prop := KF P A F ∧ (∃ o, F (A.k + 175) = some o ∧ o.data = .cell (some u)) ∧ N ≤ A.k + 175
theorem KC.mono {P : Params} {N : Nat} {u : Value} {A : KA} {F F' : Fz} (x : KC P N u A F) (l : F.Le F') : KC P N u A F' := ⟨x.1.mono l, let ⟨o, e, d⟩ := x.2.1; ⟨o, l _ _ e, d⟩, x.2.2⟩
noncomputable def rKA (P : Params) (N : Nat) (u : Value) (A : KA) : Rp := ⟨fun F v => v = .ref (A.c + 175) ∧ KC P N u A F, fun _ _ _ l ⟨e, x⟩ => ⟨e, x.mono l⟩⟩
noncomputable def rK (P : Params) (N : Nat) (u : Value) : Rp := ⟨fun F v => ∃ A : KA, (rKA P N u A).p F v, fun _ _ _ l ⟨A, x⟩ => ⟨A, (rKA P N u A).mono _ _ _ l x⟩⟩
noncomputable def fo (i : Nat) : Nat := match i with | 2 => 14 | 3 => 22 | 4 => 30 | 5 => 38 | 6 => 46 | _ => 54
noncomputable def tk0 (i : Nat) : Nat := [0, 9, 8, 13, 12, 11, 16, 24, 33, 42, 51, 60, 69, 70, 72, 74, 75, 73].getD i 0
noncomputable def ad0 (i : Nat) : Nat := [0, 7, 55].getD i 0
noncomputable def ct0 (x : Nat) (i : Nat) : Value := match i with | 2 => .none | 3 => .ref (x + 175 + 15) | 4 => .ref (x + 175 + 23) | 5 => .ref (x + 175 + 31) | 6 => .ref (x + 175 + 39) | _ => .ref (x + 175 + 47)
end Mine
end

section
open PySem PySem.W PySem.W.X PyProof.Rows PySem.Calls
set_option maxHeartbeats 0
namespace Mine
noncomputable def KA0 (x t k : Nat) : KA := { c := x + 58, n := x + 57, d := x + 59, k, m := x + 175, f := fun i => x + fo i, ct := ct0 x, t := fun i => t + tk0 i, ad := fun i => x + 175 + ad0 i }
noncomputable def fo1 (i : Nat) : Nat := match i with | 2 => 5 | 3 => 7 | 4 => 9 | 5 => 11 | 6 => 13 | _ => 15
noncomputable def tk1 (i : Nat) : Nat := [0, 3, 2, 7, 6, 5, 10, 11, 12, 13, 14, 15, 16, 17, 19, 21, 22, 20].getD i 0
noncomputable def ad1 (i : Nat) : Nat := [0, 4, 16].getD i 0
noncomputable def ct1 (x : Nat) (i : Nat) : Value := match i with | 2 => .none | 3 => .ref (x + 175 + 6) | 4 => .ref (x + 175 + 8) | 5 => .ref (x + 175 + 10) | 6 => .ref (x + 175 + 12) | _ => .ref (x + 175 + 14)
noncomputable def KA1 (x m t k : Nat) : KA := { c := x + 19, n := x + 18, d := x + 20, k, m, f := fun i => x + fo1 i, ct := ct1 x, t := fun i => t + tk1 i, ad := fun i => x + 175 + ad1 i }
theorem ntab {o : Obj} {c : String} (h : o.cls = .type c) : ¬ IsTab o := fun q => by rw [q.1] at h; cases h
noncomputable def L0 (P : Params) (x t k : Nat) : List (Addr × Obj) := [(x + 175 + 58, k59 P (x + 175) t (k + 175)), (x + 175 + 57, k58 P (x + 175) t (k + 175)), (x + 175 + 59, k60 P (x + 175) t (k + 175)),
  (x + 175 + 14, k15 P (x + 175) t (k + 175)), (x + 175 + 22, k23 P (x + 175) t (k + 175)), (x + 175 + 30, k31 P (x + 175) t (k + 175)), (x + 175 + 38, k39 P (x + 175) t (k + 175)), (x + 175 + 46, k47 P (x + 175) t (k + 175)), (x + 175 + 54, k55 P (x + 175) t (k + 175)),
  (x + 175 + 13, k14 P (x + 175) t (k + 175)), (x + 175 + 21, k22 P (x + 175) t (k + 175)), (x + 175 + 29, k30 P (x + 175) t (k + 175)), (x + 175 + 37, k38 P (x + 175) t (k + 175)), (x + 175 + 45, k46 P (x + 175) t (k + 175)), (x + 175 + 53, k54 P (x + 175) t (k + 175))]
theorem mem_get {F : Fz} {L : List (Addr × Obj)} (h : ∀ p ∈ L, F p.1 = some p.2) (j : Nat) {a b : Addr} {o o' : Obj} (e : nth L j = some (a, o)) (hb : b = a) (ho : o' = o) : F b = some o' := by
  subst hb; subst ho; exact h _ (nth_mem e)
theorem kf0 {P : Params} {x t k : Nat} {F : Fz} (h : ∀ p ∈ L0 P x t k, F p.1 = some p.2) : KF P (KA0 x t k) F where
  cls := mem_get h 0 rfl (by show x + 58 + 175 = _; (rfl)) (by kernel_rfl)
  ns := mem_get h 1 rfl (by show x + 57 + 175 = _; (rfl)) (by kernel_rfl)
  ds := mem_get h 2 rfl (by show x + 59 + 175 = _; (rfl)) (by kernel_rfl)
  fn p hp := by
    revert p
    exact ac (mem_get h 3 rfl (by show x + 14 + 175 = _; (rfl)) (by kernel_rfl)) (ac (mem_get h 4 rfl (by show x + 22 + 175 = _; (rfl)) (by kernel_rfl)) (ac (mem_get h 5 rfl (by show x + 30 + 175 = _; (rfl)) (by kernel_rfl)) (ac (mem_get h 6 rfl (by show x + 38 + 175 = _; (rfl)) (by kernel_rfl)) (ac (mem_get h 7 rfl (by show x + 46 + 175 = _; (rfl)) (by kernel_rfl)) (ac (mem_get h 8 rfl (by show x + 54 + 175 = _; (rfl)) (by kernel_rfl)) (an))))))
  cd p hp := by
    revert p
    exact ac (⟨_, _, _, mem_get h 9 rfl rfl rfl, rfl, rfl, rfl⟩) (ac (⟨_, _, _, mem_get h 10 rfl rfl rfl, rfl, rfl, rfl⟩) (ac (⟨_, _, _, mem_get h 11 rfl rfl rfl, rfl, rfl, rfl⟩) (ac (⟨_, _, _, mem_get h 12 rfl rfl rfl, rfl, rfl, rfl⟩) (ac (⟨_, _, _, mem_get h 13 rfl rfl rfl, rfl, rfl, rfl⟩) (ac (⟨_, _, _, mem_get h 14 rfl rfl rfl, rfl, rfl, rfl⟩) (an))))))
noncomputable def L1 (P : Params) (m x t k : Nat) : List (Addr × Obj) := [(x + 175 + 19, q20 P m (x + 175) t (k + 175)), (x + 175 + 18, q19 P m (x + 175) t (k + 175)), (x + 175 + 20, q21 P m (x + 175) t (k + 175)),
  (x + 175 + 5, q6 P m (x + 175) t (k + 175)), (x + 175 + 7, q8 P m (x + 175) t (k + 175)), (x + 175 + 9, q10 P m (x + 175) t (k + 175)), (x + 175 + 11, q12 P m (x + 175) t (k + 175)), (x + 175 + 13, q14 P m (x + 175) t (k + 175)), (x + 175 + 15, q16 P m (x + 175) t (k + 175))]
theorem kf1 {P : Params} {x m t k : Nat} {F : Fz} (h : ∀ p ∈ L1 P m x t k, F p.1 = some p.2) (hc : ∀ p ∈ kCodes, ∃ o vs t, F (m + p.1) = some o ∧ o.cls = .type "code" ∧ o.data = .fields vs ∧ vs[1]? = some (.str p.2 t)) : KF P (KA1 x m t k) F where
  cls := mem_get h 0 rfl (by show x + 19 + 175 = _; (rfl)) (by kernel_rfl)
  ns := mem_get h 1 rfl (by show x + 18 + 175 = _; (rfl)) (by kernel_rfl)
  ds := mem_get h 2 rfl (by show x + 20 + 175 = _; (rfl)) (by kernel_rfl)
  fn p hp := by
    revert p
    exact ac (mem_get h 3 rfl (by show x + 5 + 175 = _; (rfl)) (by kernel_rfl)) (ac (mem_get h 4 rfl (by show x + 7 + 175 = _; (rfl)) (by kernel_rfl)) (ac (mem_get h 5 rfl (by show x + 9 + 175 = _; (rfl)) (by kernel_rfl)) (ac (mem_get h 6 rfl (by show x + 11 + 175 = _; (rfl)) (by kernel_rfl)) (ac (mem_get h 7 rfl (by show x + 13 + 175 = _; (rfl)) (by kernel_rfl)) (ac (mem_get h 8 rfl (by show x + 15 + 175 = _; (rfl)) (by kernel_rfl)) (an))))))
  cd := hc
/-- what the class wants of the top -/
structure KTx (w : World) (B : Shared) : Prop where
  size : 175 ≤ B.heap.objs.size
  lim : B.heap.NoLimit
  olds : ∀ p ∈ kOlds w.params, B.heap.get? p.1 = some p.2
  code : ∀ o fd, B.heap.get? 45 = some o → o.data = .func fd → fd.code = .ref 44
  bc : BltAt B "__build_class__" (.builtin "__build_class__")
theorem KTx.at_ {w : World} {B s : Shared} (T : KTx w B) (i : Inv B s) : ∀ p ∈ kOlds w.params, s.heap.get? p.1 = some p.2 := fun p hp =>
  i.keep _ _ (T.olds p hp) fun ⟨_, q⟩ => by
    simp only [kOlds, List.mem_cons, List.not_mem_nil, or_false] at hp
    rcases hp with rfl | rfl | rfl | rfl <;> (rcases q with q | q | q <;> (dsimp only at q; exact absurd q (by decide)))
/-- the class is made -/
theorem make_K {w : World} {B s : Shared} {F : Fz} {A : Around} {n k : Nat} (T : KTx w B) (i : Inv B s) (f : F.In s.heap) (hA : Le A n) (hn : n ≤ 60) : W w A (kB (kEnv (k + 174))) (Gives B s F (rK0 w.params (k + 175))) s := by
  obtain ⟨x, hx⟩ : ∃ x, s.heap.objs.size = x + 175 := Nat.exists_eq_add_of_le' (Nat.le_trans T.size i.size)
  have hd := hA.room hn
  rcases i.t3 with h40 | ⟨m, t, hm, h40, h4, h5, hc⟩
  · refine make_k0 hx h40 (T.at_ i) hd fun h R => ?_
    have own : (kEnd w.params (x + 175) s.toks (k + 175)).map (·.1) = 40 :: (List.range 62).map (x + 175 + ·) := by kernel_rfl
    have x₁ : Ext B s F { s with heap := h, toks := s.toks + 77 } F := by
      refine Ext.grown i f (.inr (.inr rfl)) h40 (fun b o ne e => R.keep b o e ?_) R.le (fun q => by cases q) (fun q => by cases q) (fun _ => .inr ⟨x + 175, s.toks, Nat.le_add_left .., ?_, ?_, ?_, ?_⟩) _
      · rw [own]
        intro q
        rcases List.mem_cons.mp q with q | q
        · exact ne q
        · obtain ⟨j, _, rfl⟩ := List.mem_map.mp q
          have := Heap.lt_size e
          rw [hx] at this
          exact absurd this (Nat.not_lt.mpr (Nat.le_add_right ..))
      · exact R.at_ (40, _) (nth_mem (n := 0) rfl)
      · exact R.at_ (x + 175 + 4, _) (nth_mem (n := 5) rfl)
      · exact R.at_ (x + 175 + 5, _) (nth_mem (n := 6) rfl)
      · intro p hp
        revert p
        exact ac (⟨_, _, _, _, rfl, R.at_ (x + 175 + 13, _) (nth_mem (n := 14) rfl), rfl, rfl, rfl⟩) (ac (⟨_, _, _, _, rfl, R.at_ (x + 175 + 21, _) (nth_mem (n := 22) rfl), rfl, rfl, rfl⟩) (ac (⟨_, _, _, _, rfl, R.at_ (x + 175 + 29, _) (nth_mem (n := 30) rfl), rfl, rfl, rfl⟩) (ac (⟨_, _, _, _, rfl, R.at_ (x + 175 + 37, _) (nth_mem (n := 38) rfl), rfl, rfl, rfl⟩) (ac (⟨_, _, _, _, rfl, R.at_ (x + 175 + 45, _) (nth_mem (n := 46) rfl), rfl, rfl, rfl⟩) (ac (⟨_, _, _, _, rfl, R.at_ (x + 175 + 53, _) (nth_mem (n := 54) rfl), rfl, rfl, rfl⟩) (an))))))
    have hL : ∀ p ∈ L0 w.params x s.toks k, h.get? p.1 = some p.2 ∧ ¬ IsTab p.2 ∧ (s.heap.objs.size ≤ p.1 ∨ Hard p.2) := by
      rw [hx]
      exact ac (⟨R.at_ _ (nth_mem (n := 59) rfl), ntab (c := "type") rfl, .inl (Nat.le_add_right ..)⟩) (ac (⟨R.at_ _ (nth_mem (n := 58) rfl), ntab (c := "dict") rfl, .inl (Nat.le_add_right ..)⟩) (ac (⟨R.at_ _ (nth_mem (n := 60) rfl), ntab (c := "member_descriptor") rfl, .inl (Nat.le_add_right ..)⟩) (ac (⟨R.at_ _ (nth_mem (n := 15) rfl), ntab (c := "function") rfl, .inl (Nat.le_add_right ..)⟩) (ac (⟨R.at_ _ (nth_mem (n := 23) rfl), ntab (c := "function") rfl, .inl (Nat.le_add_right ..)⟩) (ac (⟨R.at_ _ (nth_mem (n := 31) rfl), ntab (c := "function") rfl, .inl (Nat.le_add_right ..)⟩) (ac (⟨R.at_ _ (nth_mem (n := 39) rfl), ntab (c := "function") rfl, .inl (Nat.le_add_right ..)⟩) (ac (⟨R.at_ _ (nth_mem (n := 47) rfl), ntab (c := "function") rfl, .inl (Nat.le_add_right ..)⟩) (ac (⟨R.at_ _ (nth_mem (n := 55) rfl), ntab (c := "function") rfl, .inl (Nat.le_add_right ..)⟩) (ac (⟨R.at_ _ (nth_mem (n := 14) rfl), ntab (c := "code") rfl, .inl (Nat.le_add_right ..)⟩) (ac (⟨R.at_ _ (nth_mem (n := 22) rfl), ntab (c := "code") rfl, .inl (Nat.le_add_right ..)⟩) (ac (⟨R.at_ _ (nth_mem (n := 30) rfl), ntab (c := "code") rfl, .inl (Nat.le_add_right ..)⟩) (ac (⟨R.at_ _ (nth_mem (n := 38) rfl), ntab (c := "code") rfl, .inl (Nat.le_add_right ..)⟩) (ac (⟨R.at_ _ (nth_mem (n := 46) rfl), ntab (c := "code") rfl, .inl (Nat.le_add_right ..)⟩) (ac (⟨R.at_ _ (nth_mem (n := 54) rfl), ntab (c := "code") rfl, .inl (Nat.le_add_right ..)⟩) (an)))))))))))))))
    exact ⟨_, x₁.freezes _ hL, KA0 x s.toks k, by show Value.ref (x + 175 + 58) = .ref (x + 58 + 175); rw [Nat.add_right_comm], rfl, kf0 (Fz.puts_at fun p hp => (hL p hp).1)⟩
  · refine make_k1 (P' := w.params) (c₀ := 0) (mm := m) (tt := t) hx h40 (T.at_ i) h5 h4 hm hd fun h R => ?_
    have own : (qEnd w.params m (x + 175) s.toks (k + 175)).map (·.1) = 40 :: (List.range 23).map (x + 175 + ·) := by kernel_rfl
    have x₁ : Ext B s F { s with heap := h, toks := s.toks + 24 } F := by
      refine Ext.upAll i f (fun b o e => ?_) R.le _
      by_cases hb : b = 40
      · subst hb
        rw [h40] at e; cases e
        exact R.at_ (40, _) (nth_mem (n := 0) rfl)
      · refine R.keep b o e ?_
        rw [own]
        intro q
        rcases List.mem_cons.mp q with q | q
        · exact hb q
        · obtain ⟨j, _, rfl⟩ := List.mem_map.mp q
          have := Heap.lt_size e
          rw [hx] at this
          exact absurd this (Nat.not_lt.mpr (Nat.le_add_right ..))
    have hL : ∀ p ∈ L1 w.params m x s.toks k, h.get? p.1 = some p.2 ∧ ¬ IsTab p.2 ∧ (s.heap.objs.size ≤ p.1 ∨ Hard p.2) := by
      rw [hx]
      exact ac (⟨R.at_ _ (nth_mem (n := 20) rfl), ntab (c := "type") rfl, .inl (Nat.le_add_right ..)⟩) (ac (⟨R.at_ _ (nth_mem (n := 19) rfl), ntab (c := "dict") rfl, .inl (Nat.le_add_right ..)⟩) (ac (⟨R.at_ _ (nth_mem (n := 21) rfl), ntab (c := "member_descriptor") rfl, .inl (Nat.le_add_right ..)⟩) (ac (⟨R.at_ _ (nth_mem (n := 6) rfl), ntab (c := "function") rfl, .inl (Nat.le_add_right ..)⟩) (ac (⟨R.at_ _ (nth_mem (n := 8) rfl), ntab (c := "function") rfl, .inl (Nat.le_add_right ..)⟩) (ac (⟨R.at_ _ (nth_mem (n := 10) rfl), ntab (c := "function") rfl, .inl (Nat.le_add_right ..)⟩) (ac (⟨R.at_ _ (nth_mem (n := 12) rfl), ntab (c := "function") rfl, .inl (Nat.le_add_right ..)⟩) (ac (⟨R.at_ _ (nth_mem (n := 14) rfl), ntab (c := "function") rfl, .inl (Nat.le_add_right ..)⟩) (ac (⟨R.at_ _ (nth_mem (n := 16) rfl), ntab (c := "function") rfl, .inl (Nat.le_add_right ..)⟩) (an)))))))))
    -- the codes of the first making
    have hcd : ∀ p ∈ kCodes, ∃ o vs t, h.get? (m + p.1) = some o ∧ o.cls = .type "code" ∧ o.data = .fields vs ∧ vs[1]? = some (.str p.2 t) := fun p hp => by
      obtain ⟨c, o, vs, t', e, g, cl, d, q⟩ := hc p hp
      cases e
      exact ⟨o, vs, t', x₁.keep _ _ g (ntab cl), cl, d, q⟩
    obtain ⟨o1, v1, u1, a1, b1, c1, d1⟩ := hcd (13, "cmp_to_key.<locals>.K.__init__") (nth_mem (n := 0) rfl)
    obtain ⟨o2, v2, u2, a2, b2, c2, d2⟩ := hcd (21, "cmp_to_key.<locals>.K.__lt__") (nth_mem (n := 1) rfl)
    obtain ⟨o3, v3, u3, a3, b3, c3, d3⟩ := hcd (29, "cmp_to_key.<locals>.K.__gt__") (nth_mem (n := 2) rfl)
    obtain ⟨o4, v4, u4, a4, b4, c4, d4⟩ := hcd (37, "cmp_to_key.<locals>.K.__eq__") (nth_mem (n := 3) rfl)
    obtain ⟨o5, v5, u5, a5, b5, c5, d5⟩ := hcd (45, "cmp_to_key.<locals>.K.__le__") (nth_mem (n := 4) rfl)
    obtain ⟨o6, v6, u6, a6, b6, c6, d6⟩ := hcd (53, "cmp_to_key.<locals>.K.__ge__") (nth_mem (n := 5) rfl)
    have hM : ∀ p ∈ L1 w.params m x s.toks k ++ [(m + 13, o1), (m + 21, o2), (m + 29, o3), (m + 37, o4), (m + 45, o5), (m + 53, o6)], h.get? p.1 = some p.2 ∧ ¬ IsTab p.2 ∧ (s.heap.objs.size ≤ p.1 ∨ Hard p.2) := by
      intro p hp
      rcases List.mem_append.mp hp with hp | hp
      · exact hL p hp
      · simp only [List.mem_cons, List.not_mem_nil, or_false] at hp
        rcases hp with rfl | rfl | rfl | rfl | rfl | rfl
        · exact ⟨a1, ntab b1, .inr ⟨.inr b1, _, c1⟩⟩
        · exact ⟨a2, ntab b2, .inr ⟨.inr b2, _, c2⟩⟩
        · exact ⟨a3, ntab b3, .inr ⟨.inr b3, _, c3⟩⟩
        · exact ⟨a4, ntab b4, .inr ⟨.inr b4, _, c4⟩⟩
        · exact ⟨a5, ntab b5, .inr ⟨.inr b5, _, c5⟩⟩
        · exact ⟨a6, ntab b6, .inr ⟨.inr b6, _, c6⟩⟩
    have hG := Fz.puts_at (F := F) fun p hp => (hM p hp).1
    refine ⟨_, x₁.freezes _ hM, KA1 x m s.toks k, by show Value.ref (x + 175 + 19) = .ref (x + 19 + 175); rw [Nat.add_right_comm], rfl, kf1 (fun p hp => hG p (List.mem_append_left _ hp)) fun p hp => ?_⟩
    revert p
    exact ac (⟨_, _, _, hG (m + 13, o1) (List.mem_append_right _ (nth_mem (n := 0) rfl)), b1, c1, d1⟩) (ac (⟨_, _, _, hG (m + 21, o2) (List.mem_append_right _ (nth_mem (n := 1) rfl)), b2, c2, d2⟩) (ac (⟨_, _, _, hG (m + 29, o3) (List.mem_append_right _ (nth_mem (n := 2) rfl)), b3, c3, d3⟩) (ac (⟨_, _, _, hG (m + 37, o4) (List.mem_append_right _ (nth_mem (n := 3) rfl)), b4, c4, d4⟩) (ac (⟨_, _, _, hG (m + 45, o5) (List.mem_append_right _ (nth_mem (n := 4) rfl)), b5, c5, d5⟩) (ac (⟨_, _, _, hG (m + 53, o6) (List.mem_append_right _ (nth_mem (n := 5) rfl)), b6, c6, d6⟩) (an))))))
end Mine
end

section
open PySem PySem.W PyProof.Rows PySem.Calls
set_option maxHeartbeats 0
namespace Mine
section
variable {w : World} {B : Shared} {n : Nat} {env : Env} {vars vars' : Vars} {s₀ : Shared} {F₀ : Fz} {Q : Flow → Shared → Prop}
noncomputable def kObjPos : Pos := ⟨8, 12, 8, 18⟩
theorem kSt_eq : kSt = .ClassDef (Str.ofString "K") [.Name (Str.ofString "object") kObjPos] [] kBody [] [] kScope none (Str.ofString "K") [Str.ofString "obj"] kPos := by kernel_rfl
theorem kB_eq (k : Nat) : buildClass (Str.ofString "K") (qualnameIn (kEnv k) (Str.ofString "K") (Str.ofString "K")) [.type "object"] [] kBody kScope [Str.ofString "obj"] (firstLineOf [] kPos) (kEnv k) kPos none = kB (kEnv k) := by kernel_rfl
theorem evalArgs_name {M : Model} {A : Around} {E : Value → Shared → Prop} {s : Shared} {f : Value} {args : List (Bool × Sem Value)} {Q : Args → Shared → Prop} (h : wpAny M A (spliced args) (fun vs s' => Q ⟨vs, []⟩ s') E s) : wpAny M A (evalArgs f false args []) Q E s := by
  unfold evalArgs
  show wpAny M A (spliced args >>= _) Q E s
  refine wpAny_bind (wpAny_mono h (fun vs s' h' => ?_) fun _ _ x => x)
  refine wpAny_holding ?_
  exact wpAny_bind (wpAny_pure (wpAny_bind (wpAny_pure (wpAny_pure h'))))
theorem Xs.clsK {k : Nat} {rest : List Stmt} (T : Tx B) (K : KTx w B) (hn : n ≤ 60) (hE : env = kEnv (k + 174)) (fe : FE (scopeAt 3) s₀.heap.objs.size env) (hv : ∀ p ∈ vars', p ∈ vars ∧ p.1 ≠ "K")
    (h : Xs w B s₀ F₀ n env (("K", rK0 w.params (k + 175)) :: vars') [] rest Q) : Xs w B s₀ F₀ n env vars [] (kSt :: rest) Q := .mk fun A s F hA R M => by
  rw [kSt_eq]
  refine wpAny_execs_cons ?_
  rw [arm_exec_ClassDef]
  refine wpAny_bind (m := evalAll (evalEach [] env)) (wpAny_pure (wpAny_bind (wpAny_standAt ?_)))
  obtain ⟨mg, mb, g, b, hg, hb⟩ := K.bc
  refine wpAny_bind ?_
  unfold buildClassGuard
  refine wpAny_bind (wpAny_nsGet (m := mb) (by rw [R.st.eok.bi]; exact R.st.inv.ns b) ?_)
  rw [show mb (Str.ofString "__build_class__") = some (.builtin "__build_class__") from hb]
  refine wpAny_pure (wpAny_bind ?_)
  refine wpAny_holding (wpAny_bind ?_)
  have hl : EvL w B n env vars [.Name (Str.ofString "object") kObjPos] [rVal (.type "object")] := .cons (Ev.bb fe T.obj_) .nil
  have h2 := hl.2 A s F kPos hA R.st
  refine evalArgs_name (h2.mono fun vs s₁ ⟨F₁, x₁, are⟩ => wpAny_bind (wpAny_standAt ?_))
  obtain ⟨v, vs', rfl, e, q⟩ := are.cons_inv
  have e2 := q.nil_inv
  subst e2
  cases (show v = .type "object" from e)
  subst hE
  show W w A (buildClass (Str.ofString "K") (qualnameIn (kEnv (k + 174)) (Str.ofString "K") (Str.ofString "K")) [.type "object"] [] kBody kScope [Str.ofString "obj"] (firstLineOf [] kPos) (kEnv (k + 174)) kPos none) _ s₁
  rw [kB_eq]
  have R₁ := R.of_ext x₁
  refine (make_K K R₁.st.inv R₁.st.fin hA hn).mono fun c s₂ ⟨F₂, x₂, hc⟩ => ?_
  refine wpAny_bind (wpAny_pure (wpAny_bind (wpAny_standAt (wpAny_bind (wpAny_bindName ?_)))))
  exact store' (R₁.of_ext x₂) hc fe.o hv fun s₃ R₃ k₃ => wpAny_pure (h.go A s₃ F₂ hA R₃ ⟨List.nodup_nil, fun _ e => nomatch e⟩)
end
end Mine
end

section
open PySem PySem.W PyProof.Rows PySem.Calls
namespace Mine
/-- all that stands in a heap, but for one place -/
noncomputable def alls (h : Heap) (L : Addr) : List (Addr × Obj) := (List.range h.objs.size).filterMap fun a => if a = L then none else (h.get? a).map fun o => (a, o)
theorem mem_alls {h : Heap} {L a : Addr} {o : Obj} : (a, o) ∈ alls h L ↔ h.get? a = some o ∧ a ≠ L := by
  unfold alls
  rw [List.mem_filterMap]
  constructor
  · rintro ⟨b, _, e⟩
    split at e
    · cases e
    · rename_i ne
      obtain ⟨o', e', q⟩ := Option.map_eq_some_iff.mp e
      cases q
      exact ⟨e', ne⟩
  · rintro ⟨e, ne⟩
    exact ⟨a, List.mem_range.mpr (Heap.lt_size e), by rw [if_neg ne, e]; rfl⟩
theorem alls_nodup (h : Heap) (L : Addr) : ((alls h L).map (·.1)).Nodup := by
  unfold alls
  rw [List.map_filterMap]
  refine List.Pairwise.filterMap _ (R := fun a b => a ≠ b) (fun a a' ne b hb b' hb' => ?_) List.nodup_range
  have g : ∀ (a : Nat) (b : Nat), Option.map (·.1) (if a = L then none else (h.get? a).map fun o => (a, o)) = some b → b = a := fun a b q => by
    split at q
    · cases q
    · obtain ⟨o', e', q'⟩ := Option.map_eq_some_iff.mp q
      obtain ⟨o'', e'', q''⟩ := Option.map_eq_some_iff.mp e'
      subst q''; exact q'.symm
  rw [g _ _ hb, g _ _ hb']
  exact ne
theorem upd_of {d : Addr} {o : Obj} : ∀ {l : List (Addr × Obj)}, (l.map (·.1)).Nodup → (d, o) ∈ l → ∃ g, UpdF d o l g ∧ ∀ o', (d, o') ∈ g o' ∧ ∀ p ∈ l, p.1 ≠ d → p ∈ g o'
  | q :: l, nd, hm => by
    rw [List.map_cons, List.nodup_cons] at nd
    by_cases e : q.1 = d
    · have hq : q = (d, o) := by
        rcases List.mem_cons.mp hm with h | h
        · exact h.symm
        · exact absurd (List.mem_map.mpr ⟨(d, o), h, e.symm⟩) nd.1
      subst hq
      exact ⟨_, .head fun p hp e' => nd.1 (List.mem_map.mpr ⟨p, hp, e'⟩), fun o' => ⟨.head _, fun p hp ne => (List.mem_cons.mp hp).elim (fun h => absurd (by rw [h]) ne) (.tail _)⟩⟩
    · have hm' : (d, o) ∈ l := (List.mem_cons.mp hm).elim (fun h => absurd (by rw [← h]) e) id
      obtain ⟨g, u, h⟩ := upd_of nd.2 hm'
      exact ⟨_, .tail e u, fun o' => ⟨.tail _ (h o').1, fun p hp ne => (List.mem_cons.mp hp).elim (fun h' => by rw [h']; exact .head _) fun h' => .tail _ ((h o').2 p h' ne)⟩⟩
noncomputable abbrev hz : Heap := {}
theorem hz_none (a : Addr) : hz.get? a = none := by simp [Heap.get?]
theorem fr_of {h : Heap} {L : Addr} {m : Str → Option Value} (x : h.Ns L m) : Fr hz L h m := ⟨x, fun b o e => (by rw [hz_none] at e; cases e), Nat.zero_le _⟩
theorem news_of (h : Heap) (L : Addr) : News hz L h (alls h L) := fun p hp => ⟨(mem_alls.mp (show (p.1, p.2) ∈ _ from hp)).1, (mem_alls.mp (show (p.1, p.2) ∈ _ from hp)).2, hz_none _⟩
end Mine
end

section
open PySem PySem.W PyProof.Rows PySem.Calls
set_option maxHeartbeats 20000
namespace Mine
noncomputable abbrev kInst (c dx : Addr) (x : Value) : Obj := { cls := .ref c, dict := some dx, data := .plain, slots := #[some x] }
theorem lookup_all {h : Heap} {a : Addr} {o : Obj} (K : Frag) (hK : ∀ p ∈ K, h.get? p.1 = some p.2) (hp : (a, o) ∈ K) : K.lookup a = some o := by
  induction K with
  | nil => cases hp
  | cons q K ih =>
    rw [List.lookup_cons]
    cases e : a == q.1 with
    | true =>
      have h1 := hK q (.head _)
      have h2 := hK (a, o) hp
      rw [← beq_iff_eq.mp e, h2] at h1
      exact h1.symm
    | false =>
      rcases List.mem_cons.mp hp with h | h
      · rw [← h, beq_self_eq_true] at e; cases e
      · exact ih (fun p hp => hK p (.tail _ hp)) h
noncomputable def KA.es (P : Params) (A : KA) : Array DictEntry := match (A.ns P).data with | .dict es _ => es | _ => #[]
noncomputable abbrev initRow : Nat × Str × Str × Nat := (2, "__init__", "cmp_to_key.<locals>.K.__init__", 13)
/-- the class, its names, the slot, __init__ -/
noncomputable def KA.frag (P : Params) (a : KA) : Frag := [(a.c + 175, a.cls), (a.n + 175, a.ns P), (a.d + 175, a.ds), (a.f 2 + 175, a.fn initRow)]
noncomputable abbrev KA.At (P : Params) (a : KA) (h : Heap) : Prop := ∀ p ∈ a.frag P, h.get? p.1 = some p.2
theorem KF.at_ {P : Params} {a : KA} {F : Fz} {h : Heap} (x : KF P a F) (f : F.In h) : a.At P h := fun p hp => by
  simp only [KA.frag, List.mem_cons, List.not_mem_nil, or_false] at hp
  rcases hp with rfl | rfl | rfl | rfl
  · exact (f _ _ x.cls).1
  · exact (f _ _ x.ns).1
  · exact (f _ _ x.ds).1
  · exact (f _ _ (x.fn initRow (.head _))).1
section
variable {P : Params} {a : KA} {h : Heap}
theorem KA.At.in_ (hK : a.At P h) : (a.frag P).In h := fun b o e => hK (b, o) (mem_of_lookupK e)
theorem KA.At.c (hK : a.At P h) : (a.frag P).lookup (a.c + 175) = some a.cls := lookup_all _ hK (.head _)
theorem KA.At.n (hK : a.At P h) : (a.frag P).lookup (a.n + 175) = some (a.ns P) := lookup_all _ hK (.tail _ (.head _))
theorem KA.At.d (hK : a.At P h) : (a.frag P).lookup (a.d + 175) = some a.ds := lookup_all _ hK (.tail _ (.tail _ (.head _)))
theorem KA.At.f (hK : a.At P h) : (a.frag P).lookup (a.f 2 + 175) = some (a.fn initRow) := lookup_all _ hK (.tail _ (.tail _ (.tail _ (.head _))))
noncomputable def nsE (es : Array DictEntry) (name : Str) : Option (Option Value) := match es.toList.find? (·.key.isStr name) with
  | some e => some (some e.val)
  | none => if es.toList.any (·.refKey) then none else some none
noncomputable def findE (es : Array DictEntry) (name : Str) : Option (Option Value) := match nsE es name with
  | some (some v) => some (some v)
  | some none => alongIn [] name [.type "object"]
  | none => none
theorem KA.At.find (hK : a.At P h) {name : Str} {r : Option (Option Value)} (e : findE (a.es P) name = r) : findIn (a.frag P) (.ref (a.c + 175)) name = r := by
  have h2 : nsIn (a.frag P) (a.n + 175) name = nsE (a.es P) name := by unfold nsIn; rw [hK.n]; rfl
  have h1 : ownIn (a.frag P) name (.ref (a.c + 175)) = nsE (a.es P) name := by unfold ownIn; dsimp only; rw [hK.c]; exact h2
  rw [← e]
  unfold findIn
  dsimp only
  rw [hK.c]
  show alongIn _ _ [.ref (a.c + 175), .type "object"] = _
  unfold alongIn
  rw [h1]
  rfl
theorem KA.At.ga (hK : a.At P h) : findIn (a.frag P) (.ref (a.c + 175)) "__getattribute__" = some (some (.builtin "object.__getattribute__")) := hK.find (by kernel_rfl)
theorem KA.At.gr (hK : a.At P h) : findIn (a.frag P) (.ref (a.c + 175)) "__getattr__" = some none := hK.find (by kernel_rfl)
theorem KA.At.sa (hK : a.At P h) : findIn (a.frag P) (.ref (a.c + 175)) "__setattr__" = some (some (.builtin "object.__setattr__")) := hK.find (by kernel_rfl)
theorem KA.At.obj (hK : a.At P h) : findIn (a.frag P) (.ref (a.c + 175)) "obj" = some (some (.ref (a.d + 175))) := hK.find (by kernel_rfl)
theorem KA.At.init (hK : a.At P h) : findIn (a.frag P) (.ref (a.c + 175)) "__init__" = some (some (.ref (a.f 2 + 175))) := hK.find (by kernel_rfl)
theorem KA.At.tyD (hK : a.At P h) : typeIn (a.frag P) (.ref (a.d + 175)) = some (.type "member_descriptor") := by unfold typeIn; dsimp only; rw [hK.d]; rfl
theorem KA.At.tyF (hK : a.At P h) : typeIn (a.frag P) (.ref (a.f 2 + 175)) = some (.type "function") := by unfold typeIn; dsimp only; rw [hK.f]; rfl
theorem KA.At.tyC (hK : a.At P h) : typeIn (a.frag P) (.ref (a.c + 175)) = some (.type "type") := by unfold typeIn; dsimp only; rw [hK.c]; rfl
theorem KA.At.spD (hK : a.At P h) : specialIn (a.frag P) (.ref (a.d + 175)) "__get__" = some (some (.builtin "member_descriptor.__get__")) := by unfold specialIn; rw [hK.tyD]; kernel_rfl
theorem KA.At.tkD (hK : a.At P h) : takesIn (a.frag P) (.ref (a.d + 175)) = some true := by
  have e : specialIn (a.frag P) (.ref (a.d + 175)) "__set__" = some (some (.builtin "member_descriptor.__set__")) := by unfold specialIn; rw [hK.tyD]; kernel_rfl
  unfold takesIn; rw [e]
theorem KA.At.cd (hK : a.At P h) : ∃ cd, clsIn (a.frag P) (a.c + 175) = some cd ∧ cd.mro = [.ref (a.c + 175), .type "object"] ∧ cd.slotNames.length = 1 := by unfold clsIn; rw [hK.c]; exact ⟨_, rfl, rfl, rfl⟩
theorem KA.At.slot (hK : a.At P h) : slotIn (a.frag P) (a.d + 175) (a.c + 175) = some 0 := by
  obtain ⟨cd, e1, e2, e3⟩ := hK.cd
  have e4 : recIn (a.frag P) (a.d + 175) "member_descriptor" = some [.str "obj" (a.t 17), .ref (a.c + 175), .builtin "proto.slot", .builtin "proto.slot#set", .int 0 0] := by unfold recIn; rw [hK.d]; rfl
  unfold slotIn
  rw [e1, e4]
  simp [e2, e3]
theorem KA.At.over (hK : a.At P h) : plainOver (a.frag P) (a.c + 175) = true := by
  obtain ⟨cd, e1, e2, e3⟩ := hK.cd
  unfold plainOver
  rw [e1]
  show onlyObject cd.mro = true
  rw [e2]; rfl
theorem KA.At.taker (hK : a.At P h) : takerIn (a.frag P) (a.c + 175) "obj" = some (some (.ref (a.d + 175))) := by
  unfold takerIn
  rw [hK.obj]
  show (takesIn (a.frag P) (.ref (a.d + 175))).map _ = _
  rw [hK.tkD]; rfl
theorem KA.At.makes (hK : a.At P h) : makesIn (a.frag P) (a.c + 175) = true := by
  have e1 : specialIn (a.frag P) (.ref (a.c + 175)) "__call__" = some (some (.builtin "type.__call__")) := by unfold specialIn; rw [hK.tyC]; kernel_rfl
  have e2 : instIn (a.frag P) (.ref (a.c + 175)) (.type "type") = some true := by unfold instIn; rw [hK.tyC]; kernel_rfl
  unfold makesIn
  rw [hK.c]
  show (_ && _ && _ && _ && _ && _ && _ && _) = true
  rw [e1, e2]
  simp
end
end Mine
end

section
open PySem PySem.W PyProof.Rows PySem.Calls
set_option maxHeartbeats 400000
namespace Mine
/-- an object of the class, that holds a text -/
noncomputable def rI0 (P : Params) (A : KA) (l : List Nat) : Rp := ⟨fun F v => ∃ (b dd : Addr) (t : Tok), v = .ref b ∧ KF P A F ∧ F b = some (kInst (A.c + 175) dd (.str (S l) t)) ∧ F dd = some emptyDict, fun _ _ _ le ⟨b, dd, t, e, x, g, g'⟩ => ⟨b, dd, t, e, x.mono le, le _ _ g, le _ _ g'⟩⟩
/-- the same, the comparison's cell too -/
noncomputable def rInst (P : Params) (N : Nat) (u : Value) (A : KA) (l : List Nat) : Rp := ⟨fun F v => KC P N u A F ∧ (rI0 P A l).p F v, fun _ _ _ le ⟨x, g⟩ => ⟨x.mono le, (rI0 P A l).mono _ _ _ le g⟩⟩
theorem alls_split {h : Heap} {L x : Addr} {o : Obj} (e : h.get? x = some o) (ne : x ≠ L) : ∃ pre post, alls h L = pre ++ (x, o) :: post ∧ (∀ p ∈ pre, p.1 ≠ x) ∧ ∀ p ∈ post, p.1 ≠ x := by
  obtain ⟨pre, post, q⟩ := List.append_of_mem (mem_alls.mpr ⟨e, ne⟩)
  have nd := alls_nodup h L
  rw [q, List.map_append, List.map_cons, List.nodup_append, List.nodup_cons] at nd
  refine ⟨pre, post, q, fun p hp e => nd.2.2 p.1 (List.mem_map.mpr ⟨p, hp, rfl⟩) x (.head _) e, fun p hp e => nd.2.1.1 (List.mem_map.mpr ⟨p, hp, e⟩)⟩
/-- two of the call's own objects change -/
theorem Ext.but2 {B s s₂ : Shared} {F F₂ : Fz} (x : Ext B s F s₂ F₂) {L d : Addr} {oL od : Obj} {h' : Heap} (hB : B.heap.objs.size ≤ s.heap.objs.size) (hL : s₂.heap.get? L = some oL) (sL : soft oL) (nL : F₂ L = none) (lL : s.heap.objs.size ≤ L)
    (hd : s₂.heap.get? d = some od) (sd : soft od) (nd : F₂ d = none) (ld : s.heap.objs.size ≤ d) (hk : ∀ b o, s₂.heap.get? b = some o → b ≠ L → b ≠ d → h'.get? b = some o) (hz : s.heap.objs.size ≤ h'.objs.size) (t : Tok) : Ext B s F { s₂ with heap := h', toks := t } F₂ := by
  have sft : Sft s₂.heap h' := fun b o e q => hk b o e (by rintro rfl; rw [hL] at e; cases e; exact sL q) (by rintro rfl; rw [hd] at e; cases e; exact sd q)
  have lt : ∀ {b a : Nat}, b < s.heap.objs.size → s.heap.objs.size ≤ a → b ≠ a := fun p q => Nat.ne_of_lt (Nat.lt_of_lt_of_le p q)
  exact ⟨⟨fun b o e q => hk b o (x.inv.keep b o e q) (lt (Nat.lt_of_lt_of_le (Heap.lt_size e) hB) lL) (lt (Nat.lt_of_lt_of_le (Heap.lt_size e) hB) ld), Nat.le_trans hB hz, x.inv.t1.sft sft fun _ _ q => q.sft sft, x.inv.t2.sft sft fun _ _ ⟨q, y⟩ => ⟨q, y.sft sft⟩, x.inv.t3.sft sft, x.inv.os, x.inv.gens⟩,
    hz, fun b o e q => hk b o (x.keep b o e q) (lt (Heap.lt_size e) lL) (lt (Heap.lt_size e) ld), x.le, x.new, fun a o e => ⟨hk a o (x.fin a o e).1 (by rintro rfl; rw [nL] at e; cases e) (by rintro rfl; rw [nd] at e; cases e), (x.fin a o e).2⟩⟩
theorem init_body : ∃ p1 p2 p3 p4, mBody 2 = [.Assign [.Attribute (.Name "self" p1) "obj" p2] (.Name "obj" p3) p4] := ⟨_, _, _, _, rfl⟩
section
variable {w : World} {B : Shared} {n : Nat}
/-- the one statement of __init__ -/
theorem init_step {a : KA} {A : Around} {s₀ s : Shared} {F₀ F : Fz} {env : Env} {x dx : Addr} {v : Value} {Q : Shared → Prop} (R : Rn B s₀ F₀ env [("obj", rVal v), ("self", rVal (.ref x))] F s) (H : a.At w.params s.heap) (hx : s.heap.get? x = some (instObj (a.c + 175) dx)) (hd : s.heap.get? dx = some emptyDict) (hL : x ≠ env.locals)
    (hQ : ∀ h' t, h'.get? x = some (kInst (a.c + 175) dx v) → (∀ b o, s.heap.get? b = some o → b ≠ env.locals → b ≠ x → h'.get? b = some o) → Q { s with heap := h', toks := t }) : W w A (execs (mBody 2) env) (fun f s' => f = .next ∧ Q s') s := by
  obtain ⟨p1, p2, p3, p4, e⟩ := init_body
  rw [e]
  obtain ⟨m, hm⟩ := R.st.eok.loc
  obtain ⟨pre, post, q, h1, h2⟩ := alls_split hx hL
  have N := news_of s.heap env.locals
  rw [q] at N
  have I : InstAt s.heap x (instObj (a.c + 175) dx) (a.c + 175) (some emptyDict) := ⟨hx, rfl, rfl, hd⟩
  refine wpAny_execs_cons (wpAny_Assign_stores (loads_name R.st .here (fun v' e => ?_) (by decide) (by decide)) rfl rfl)
  cases (show v' = v from e)
  show W w A (assign (.Attribute (.Name "self" p1) "obj" p2) env v) _ s
  rw [arm_assign_Attribute]
  refine wpAny_bind (wpAny_holding (loads_name R.st (.there .here) (fun v' e => ?_) (by decide) (by decide)))
  cases (show v' = .ref x from e)
  refine wpAny_bind (wpAny_standAt (wpAny_bind (wpAny_holding (set_plain H.in_ I H.sa (osa_descr KF.slot_mset (s := { s with toks := s.toks + 1 }) H.in_ I H.over H.taker H.tyD (slot_set (s := { s with toks := s.toks + 1 }) (fr_of hm) N H.in_ I H.slot (by decide) h1 h2 rfl rfl fun h' F' N' => ?_))))))
  refine wpAny_release (wpAny_execs_nil ⟨rfl, hQ h' _ (N' _ (List.mem_append_right _ (.head _))).1 fun b o e hb hx' => ?_⟩)
  refine (N' (b, o) ?_).1
  have hp := mem_alls.mpr ⟨e, hb⟩
  rw [q] at hp
  rcases List.mem_append.mp hp with hp | hp
  · exact List.mem_append_left _ hp
  · rcases List.mem_cons.mp hp with hp | hp
    · cases hp; exact absurd rfl hx'
    · exact List.mem_append_right _ (.tail _ hp)
/-- __init__ is called on the object just made -/
theorem init_call {a : KA} {A : Around} {B s₀ s : Shared} {F : Fz} {x dx : Addr} {v : Value} {R : Result → Shared → Prop} (hr : A.depth < recursionLimit) (hl : B.heap.NoLimit) (hk : KF w.params a F) (x0 : Ext B s₀ F s F) (hB : B.heap.objs.size ≤ s₀.heap.objs.size)
    (hx : s.heap.get? x = some (instObj (a.c + 175) dx)) (hd : s.heap.get? dx = some emptyDict) (h0 : s₀.heap.objs.size ≤ x) (hne : dx ≠ x) (hF : F x = none)
    (hQ : ∀ s', Ext B s₀ F s' F → s'.heap.get? x = some (kInst (a.c + 175) dx v) → s'.heap.get? dx = some emptyDict → R (.ok (.ret .none)) s') : codeAny (model PG w) A (.call (.ref (a.f 2 + 175)) ⟨[.ref x, v], []⟩) R s := by
  have i := x0.inv
  have fi := x0.fin
  obtain ⟨ocd, vc, tq, g1, c1, c2, c3⟩ := hk.cd (13, "cmp_to_key.<locals>.K.__init__") (nth_mem (n := 0) rfl)
  have c0 : CodeOk s.heap (.ref (a.m + 13)) "cmp_to_key.<locals>.K.__init__" := ⟨_, _, _, _, rfl, (fi _ _ g1).1, c1, c2, c3⟩
  have b0 : BindsTo s (fdOf "__init__" "cmp_to_key.<locals>.K.__init__" (mArgs 2) (.stmts (mBody 2)) (mScope 2) [] .none .none (.ref (a.m + 13)) (.str "law_kt0022_01" 596) .none (a.ct 2) none) ⟨[.ref x, v], []⟩ [("self", .ref x), ("obj", v)] := .of_eq rfl
  refine codeAny_call_function hr (fi _ _ (hk.fn initRow (.head _))).1 rfl rfl rfl rfl c0.rec (b0 _ _ _ _ ?_)
  refine W.toE (wp_newEnv i fi rfl rfl (fun _ _ e => (nomatch e)) (fun _ _ _ e => (nomatch e)) (show ([Str.ofString "self", Str.ofString "obj"] : List Str).Nodup by decide) (fun p hp => ?_) fun s₁ R₁ => ⟨R₁.st.inv.lim hl, codeAny_func (W.toE ?_)⟩)
  · simp only [List.mem_cons, List.not_mem_nil, or_false] at hp
    rcases hp with rfl | rfl <;> exact .inl (by kernel_rfl)
  have hx₁ := R₁.ext.keep _ _ hx fun q => by cases q.1
  have hd₁ := R₁.ext.keep _ _ hd fun q => by cases q.1
  obtain ⟨m, oL, es, ep, eL, dL, _⟩ := R₁.st.eok.loc
  have hL : x ≠ s.heap.objs.size := Nat.ne_of_lt (Heap.lt_size hx)
  refine (init_step (v := v) (Q := fun s' => R (.ok (.ret .none)) s') R₁ (hk.at_ R₁.st.fin) hx₁ hd₁ hL fun h' t e k => ?_).mono fun f s' ⟨e, q⟩ => by subst e; exact q
  have x1 := x0.trans R₁.ext
  refine hQ _ (Ext.but2 x1 hB eL (soft_of fun vs q => by rw [dL] at q; cases q) R₁.st.eok.locF (Nat.le_trans h0 (Nat.le_of_lt (Heap.lt_size hx))) hx₁ (soft_of fun vs q => by cases q) hF h0 k (Nat.le_trans h0 (Nat.le_of_lt (Heap.lt_size e))) t) e (k _ _ hd₁ (Nat.ne_of_lt (Heap.lt_size hd)) hne)
end
end Mine
end

section
open PySem PySem.W PyProof.Rows PySem.Calls
set_option maxHeartbeats 0
namespace Mine
theorem KA.cls_exc (A : KA) : A.cls = excClassObj (Str.ofString "K") (Str.ofString "cmp_to_key.<locals>.K") (A.c + 175) (A.n + 175) [.type "object"] [.type "object"] false [Str.ofString "obj"] [] false none none (some (.ref (A.ad 0))) none (some (.str "K" (A.t 0))) (some (.str "cmp_to_key.<locals>.K" (A.t 1))) (some (.bool false)) "object.__new__" := rfl
theorem KA.ns_ns {P : Params} {A : KA} {h : Heap} (e : h.get? (A.n + 175) = some (A.ns P)) : h.Ns (A.n + 175) (nsFind (A.es P)) :=
  ⟨_, _, _, e, rfl, fun q hq => by
    simp only [List.mem_toArray, List.mem_cons, List.not_mem_nil, or_false] at hq
    rcases hq with rfl | rfl | rfl | rfl | rfl | rfl | rfl | rfl | rfl | rfl | rfl | rfl | rfl <;> exact ⟨_, _, rfl⟩, fun _ => rfl⟩
section
variable {w : World} {B : Shared} {n : Nat} {env : Env} {vars : Vars}
/-- what a value that is not known beforehand gives when it is called -/
structure CalR (w : World) (B : Shared) (n : Nat) (rf : Rp) (rs : List Rp) (r : Rp) : Prop where
  go : ∀ A s F v vs, Le A n → Inv B s → F.In s.heap → rf.p F v → Ares F vs rs → W w A (call v vs) (Gives B s F r) s
theorem new_cal {u : Value} {N : Nat} {a : KA} {l : List Nat} (K : KTx w B) (hn : n ≤ 60) : CalR w B n (rKA w.params N u a) [rS l] (rInst w.params N u a l) := .mk fun A s F v vs hA i fi hv are => by
  obtain ⟨e, hk⟩ := hv
  subst e
  obtain ⟨x, vs', rfl, ⟨tx, ex⟩, q⟩ := are.cons_inv
  have e2 := q.nil_inv
  subst e2; subst ex
  have H := hk.1.at_ fi
  obtain ⟨h, g, d, t, os⟩ := s
  dsimp only at H fi
  have x1 : Ext B ⟨h, g, d, t, os⟩ F ⟨h.push emptyDict, g, d, t, os⟩ F := Ext.push i fi emptyDict
  have x0 := x1.trans (Ext.push x1.inv x1.fin (instObj (a.c + 175) h.objs.size))
  dsimp only at x0
  refine wpAny_call (make_core (makes_of H.in_ H.makes) (looks_findIn H.in_ H.init) (fun self => bind_fn H.in_ self H.tyF) (.inl rfl) ?_)
  refine init_call (a := a) (by have := hA.depth; show A.depth + 1 < 1000; (lia)) K.lim hk.1 x0 i.size (by heap_get) (dx := h.objs.size) (by heap_get) (Nat.le_succ _) (Nat.ne_of_lt (Nat.lt_succ_self _)) (Fz.none_of_in fi (Nat.le_succ _)) fun s' x₁ gx gd => ⟨rfl, ?_⟩
  have x₂ := x₁.freezeHard gx (fun q => by cases q.1) (.inl (Nat.le_succ _))
  have x₃ := x₂.freezeHard gd (fun q => by cases q.1) (.inl (Nat.le_refl _))
  exact ⟨_, x₃, hk.mono x₃.le, _, _, tx, rfl, hk.1.mono x₃.le, by unfold Fz.put; rw [if_neg (Nat.succ_ne_self _), if_pos rfl], Fz.put_self ..⟩
theorem Ev.callK {x : Str} {np pos : Pos} {es : List Expr} {rs : List Rp} {u : Value} {N : Nat} {a : KA} {r : Rp} (hf : Ev w B n env vars (.Name x np) (rKA w.params N u a)) (h : EvL w B n env vars es rs) (k : CalR w B n (rKA w.params N u a) rs r) :
    Ev w B n env vars (.Call (.Name x np) es [] pos) r := .mk fun A s F hA S => wpAny_Call_NameR ((hf.go A s F hA S).mono fun f s₁ ⟨F₁, x₁, hfv⟩ => by
  obtain ⟨e, hk⟩ := id hfv
  have ha := evalArgs_of (f := f) (pos := pos) h hA (S.ext x₁)
  obtain ⟨ts, ht⟩ := h.1 pos
  have hplain : (backTo pos (starEach es env)).any (·.1) = false := by rw [ht]; simp
  unfold callWith
  refine wpAny_bind (wpAny_holding (ha.mono fun ar s₂ ⟨e2, F₂, x₂, p⟩ => wpAny_bind (wpAny_standAt ?_)))
  obtain ⟨ps, kw⟩ := ar
  cases (show kw = [] from e2)
  simp only [hplain, List.any_nil, Bool.or_false, List.nil_append]
  subst e
  refine wpAny_bind (wpAny_keeperOf_exc (C := a.c + 175) (by rw [← KA.cls_exc a]; exact (x₂.fin _ _ (x₂.le _ _ hk.1.cls)).1) ?_)
  exact wpAny_bind ((k.go A s₂ F₂ _ ps hA x₂.inv x₂.fin ((rKA w.params N u a).mono _ _ _ x₂.le hfv) p).mono fun v s' g => wpAny_bind (wpAny_holding (wpAny_point (wpAny_pure (g.from (x₁.trans x₂))))))
)
theorem attr_obj {A : Around} {s : Shared} {F : Fz} {v : Value} {a : KA} {l : List Nat} {Q : Value → Shared → Prop} (fi : F.In s.heap) (hv : (rI0 w.params a l).p F v) (hQ : ∀ t t', Q (.str (S l) t') { s with toks := t }) : W w A (getAttr v "obj" true) Q s := by
  obtain ⟨b, dx, tx, rfl, hk, g, gd⟩ := hv
  have H := hk.at_ fi
  have I : InstAt s.heap b (kInst (a.c + 175) dx (.str (S l) tx)) (a.c + 175) (some emptyDict) := ⟨(fi _ _ g).1, rfl, rfl, (fi _ _ gd).1⟩
  obtain ⟨cd, hc, _, _⟩ := H.cd
  exact get_bind H.in_ I H.ga (findObj_data (by rw [hc]; rfl) H.obj H.spD H.tkD) H.gr (wpAny_call (slot_get (s := { s with toks := s.toks + 1 }) H.in_ I H.slot (v := .str (S l) tx) rfl (handed_on (by kernel_rfl) (hQ _ tx))))
theorem Ev.attrO {x : Str} {a : KA} {l : List Nat} {xp pos : Pos} (hn : n ≤ 60) (h : Ev w B n env vars (.Name x xp) (rI0 w.params a l)) : Ev w B n env vars (.Attribute (.Name x xp) "obj" pos) (rS l) := .mk fun A s F hA S => by
  rw [arm_eval_Attribute, aB_name]
  refine wpAny_bind ((h.go A s F hA S).mono fun v s₁ ⟨F₁, x₁, hv⟩ => ?_)
  refine wpAny_bind (wpAny_standAt (wpAny_bind (wpAny_holding (attr_obj x₁.fin hv fun t t' => wpAny_bind (wpAny_letTemporaryGo (wpAny_pure ?_))))))
  exact ⟨F₁, x₁.trans (Ext.tok x₁.inv x₁.fin t), t', rfl⟩
end
end Mine
end

section
open PySem PySem.W PyProof.Rows PySem.Calls
set_option maxHeartbeats 0
namespace Mine
theorem del_at {F : Fz} {c a : Addr} {oc o : Obj} {u : Option Value} (hc : F c = some oc) (hd : oc.data = .cell u) (ha : F a = some o) (ho : ∀ u, o.data ≠ .cell u) : (F.del c) a = some o := by
  unfold Fz.del
  split
  · rename_i e; subst e
    rw [ha] at hc; cases hc
    exact absurd hd (ho u)
  · exact ha
theorem Fz.In.del {F : Fz} {h : Heap} (f : F.In h) (c : Addr) : (F.del c).In h := fun a o e => by
  unfold Fz.del at e
  split at e
  · cases e
  · exact f a o e
section
variable {w : World} {B : Shared} {n : Nat} {env : Env} {vars : Vars}
/-- a cell that nothing changes taken out, and put back -/
theorem W.thawed {A : Around} {s : Shared} {F : Fz} {c : Addr} {o : Obj} {t : Sem Value} {r : Rp} (fi : F.In s.heap) (hF : F c = some o) (h : W w A t (Gives B s (F.del c) r) s) (hr : flat r) : W w A t (Gives B s F r) s :=
  h.mono fun v s' ⟨F', x, p⟩ => ⟨F'.put c o, ⟨x.inv, x.size, x.keep, fun b o' e => by
    unfold Fz.put
    split
    · rename_i q; subst q
      rw [hF] at e; exact e
    · rename_i q
      refine x.le b o' ?_
      unfold Fz.del; rw [if_neg q]; exact e, fun b o' e => by
    unfold Fz.put at e
    split at e
    · rename_i q; subst q; cases e; exact .inl hF
    · rename_i q
      refine (x.new b o' e).imp (fun e' => ?_) id
      unfold Fz.del at e'
      rw [if_neg q] at e'; exact e', fun b o' e => by
    unfold Fz.put at e
    split at e
    · rename_i q; subst q; cases e
      exact ⟨x.keep _ _ (fi _ _ hF).1 (fi _ _ hF).2, (fi _ _ hF).2⟩
    · exact x.fin b o' e⟩, hr _ _ _ p⟩
theorem KF.del {P : Params} {a : KA} {F : Fz} {c : Addr} {oc : Obj} {u : Option Value} (x : KF P a F) (hc : F c = some oc) (hd : oc.data = .cell u) : KF P a (F.del c) where
  cls := del_at hc hd x.cls fun u e => by cases e
  ns := del_at hc hd x.ns fun u e => by cases e
  ds := del_at hc hd x.ds fun u e => by cases e
  fn p hp := del_at hc hd (x.fn p hp) fun u e => by cases e
  cd p hp := let ⟨o, vs, t, e, c1, c2, c3⟩ := x.cd p hp; ⟨o, vs, t, del_at hc hd e fun u q => (by rw [c2] at q; cases q), c1, c2, c3⟩
theorem rI0_del {P : Params} {a : KA} {F : Fz} {c : Addr} {oc : Obj} {u : Option Value} {l : List Nat} {v : Value} (x : (rI0 P a l).p F v) (hc : F c = some oc) (hd : oc.data = .cell u) : (rI0 P a l).p (F.del c) v :=
  let ⟨b, dd, t, e, k, g, g₂⟩ := x; ⟨b, dd, t, e, k.del hc hd, del_at hc hd g fun u q => (by cases q), del_at hc hd g₂ fun u q => by cases q⟩
/-- one of the class's comparisons is called -/
theorem meth_call {i : Nat} {nm qual : Str} {off : Nat} {a : KA} {l m : List Nat} {r : Rp} (T : Tx B) (hn : n ≤ 55) (hfn : (i, nm, qual, off) ∈ kFns) (hcd : (off, qual) ∈ kCodes) (hi : i ≠ 2) (hr : flat r)
    (hb : ∀ v u, Binds (fdOf nm qual (mArgs i) (.stmts (mBody i)) (mScope i) [(Str.ofString "mycmp", a.k + 175)] .none .none) ⟨[v, u], []⟩ [("self", v), ("other", u)])
    (hx : (mScope i).names.lookup ("self" : Str) = some .local) (hy : (mScope i).names.lookup ("other" : Str) = some .local) (hz : (mScope i).names.lookup ("mycmp" : Str) = some .free)
    (hcf : ∀ k c, (cellsFrom k (mScope i).names [(Str.ofString "mycmp", c)]).lookup ("mycmp" : Str) = some c)
    (hk : (mScope i).kind = .function) (hco : (mScope i).isCoroutine = false) (hgen : (mScope i).isGenerator = false)
    (h : ∀ s F env, FE (mScope i) s.heap.objs.size env → Xs w B s F (n + 1) env [("self", rI0 w.params a l), ("other", rI0 w.params a m), ("mycmp", rVal (.ref 142))] [] (mBody i) (Back B s F r)) :
    ∀ A s F x y, Le A n → Inv B s → F.In s.heap → (rInst w.params B.heap.objs.size (.ref 142) a l).p F x → (rInst w.params B.heap.objs.size (.ref 142) a m).p F y → W w A (call (.ref (a.f i + 175)) [x, y]) (Gives B s F r) s := fun A s F x y hA iv fi hx' hy' => by
  obtain ⟨oc, gc, dc⟩ := hx'.1.2.1
  refine W.thawed fi gc ?_ hr
  have hK := hx'.1.1.del gc dc
  have fi' := fi.del (a.k + 175)
  obtain ⟨ocd, vc, tq, g1, c1, c2, c3⟩ := hK.cd _ hcd
  refine call_def hA hn iv fi' T.lim ⟨_, .ref (a.m + off), .str "law_kt0022_01" 596, .none, a.ct i, none, (fi' _ _ (hK.fn _ hfn)).1, ?_, ⟨_, _, _, _, rfl, (fi' _ _ g1).1, c1, c2, c3⟩⟩ (cl := [(Str.ofString "mycmp", a.k + 175)])
    (fun z c e => ?_) (fun z z' c e e' => ?_) (fun cd pm doc ct an => hb x y s cd pm doc ct an) (show ([Str.ofString "self", Str.ofString "other"] : List Str).Nodup by decide) (fun p hp => ?_) hk hco hgen [("self", rI0 w.params a l), ("other", rI0 w.params a m)] [("mycmp", rVal (.ref 142))] (fun p hp => ?_) (fun p hp => ?_) fun cd env _ fe => h s _ env fe
  · show Data.func _ = _
    match i, hi with
    | 0, _ => rfl
    | 1, _ => rfl
    | n + 3, _ => rfl
  · simp only [List.lookup] at e
    split at e
    · cases e
      exact ⟨⟨_, oc, (fi _ _ gc).1, dc⟩, by unfold Fz.del; rw [if_pos rfl], hx'.1.2.2⟩
    · cases e
  · simp only [List.lookup] at e e'
    split at e
    · split at e'
      · rename_i q _ q'
        rw [beq_iff_eq] at q q'
        rw [q, q']
      · cases e'
    · cases e
  · simp at hp; rcases hp with rfl | rfl
    · exact .inl hx
    · exact .inl hy
  · simp at hp; rcases hp with rfl | rfl
    · exact ⟨x, .head _, rI0_del hx'.2 gc dc⟩
    · exact ⟨y, .tail _ (.head _), rI0_del hy'.2 gc dc⟩
  · simp at hp; subst hp
    exact ⟨a.k + 175, .ref 142, hcf _ _, ⟨oc, (fi _ _ gc).1, dc⟩, rfl, hz⟩
end
end Mine
end

section
open PySem PySem.W PyProof.Rows PySem.Calls
set_option maxHeartbeats 0
namespace Mine
section
variable {w : World} {B : Shared} {n : Nat} {env : Env} {vars : Vars}
theorem own_cmp {op : CmpOp} {sym : String} {f r : Str} {i : Nat} {fo : Obj} {N : Nat} {u : Value} {a : KA} {l m : List Nat} {b : Bool} {y0 : Option Value} (hn : n ≤ 60) (hop : cmpInfo op = (sym, f, r)) (hplain : op ≠ .Is ∧ op ≠ .IsNot ∧ op ≠ .In ∧ op ≠ .NotIn)
    (hB : typeLookup (.type "object") f = pure y0) (hm : nsFind (a.es w.params) f = some (.ref (a.f i + 175))) (hfo : ∀ F, KF w.params a F → F (a.f i + 175) = some fo) (hfc : fo.cls = .type "function")
    (hcall : ∀ A s F x y, Le A n → Inv B s → F.In s.heap → (rInst w.params N u a l).p F x → (rInst w.params N u a m).p F y → W w A (call (.ref (a.f i + 175)) [x, y]) (Gives B s F (rBool b)) s) :
    Op2 w B n (compareOp op) (rInst w.params N u a l) (rInst w.params N u a m) (rBool b) := .mk fun A s F x y hA iv fi hx hy => by
  have hc := hcall A s F x y hA iv fi hx hy
  obtain ⟨hk, bx, dx, tx, rfl, kf, gx, _⟩ := hx
  obtain ⟨_, by', dy, ty, rfl, _, gy, _⟩ := hy
  have hC := (fi _ _ kf.cls).1
  have hN := KA.ns_ns (fi _ _ kf.ns).1
  have hf := (fi _ _ (hfo F kf)).1
  have hX := (fi _ _ gx).1
  have hY := (fi _ _ gy).1
  obtain ⟨h, g, d, t, os⟩ := s
  dsimp only at hC hN hf hX hY
  rw [KA.cls_exc] at hC
  refine compareOp_own_same (B := "object") hop hplain ⟨_, _, _, _, _, _, _, _, _, _, _, _, _, _, _, _, _, _, _, _, _, hX, rfl, hC, hN, hm, hf, hfc, PySem.F.mro_object, hB⟩ hY rfl (by have := hA.units; show A.units < 9900; (lia)) (hc.mono fun v s' ⟨F', x₁, e⟩ => ⟨b, e, F', x₁, rfl⟩)
theorem lk_obj_lt : typeLookup (.type "object") "__lt__" = pure (some (.builtin "object.__lt__")) := by rw [typeLookup_type, builtinLookup_eq_fast]; kernel_rfl
theorem oi_lt {a : KA} {l m : List Nat} (T : Tx B) (hn : n ≤ 48) (hl : l.length ≤ 4) (hm : m.length ≤ 4) : Op2 w B n (compareOp .Lt) (rInst w.params B.heap.objs.size (.ref 142) a l) (rInst w.params B.heap.objs.size (.ref 142) a m) (rBool (decide (told l m < 0))) :=
  own_cmp (i := 3) (by (exact Nat.le_trans hn (by decide))) (show cmpInfo .Lt = ("<", Str.ofString "__lt__", Str.ofString "__gt__") from rfl) (by decide) lk_obj_lt (by kernel_rfl) (fun F k => k.fn (3, "__lt__", "cmp_to_key.<locals>.K.__lt__", 21) (nth_mem (n := 1) rfl)) rfl
    (meth_call T (by (exact Nat.le_trans hn (by decide))) (nth_mem (n := 1) rfl) (nth_mem (n := 1) rfl) (by decide) flat.val (fun v u s cd pm doc ct an => .of_eq rfl) (by kernel_rfl) (by kernel_rfl) (by kernel_rfl) (fun k c => by kernel_rfl) (by kernel_rfl) (by kernel_rfl) (by kernel_rfl)
      fun s F env fe => Xs.ret (Ev.cmp (Ev.callF (Ev.name (.there (.there .here))) (.cons (Ev.attrO (by (exact Nat.lt_of_le_of_lt hn (by decide))) (Ev.name .here)) (.cons (Ev.attrO (by (exact Nat.lt_of_le_of_lt hn (by decide))) (Ev.name (.there .here))) .nil)) T.compared (compared_cal T (by (exact Nat.lt_of_le_of_lt hn (by decide))) hl hm)) Ev.int cmp_lt))
theorem lk_obj_gt : typeLookup (.type "object") "__gt__" = pure (some (.builtin "object.__gt__")) := by rw [typeLookup_type, builtinLookup_eq_fast]; kernel_rfl
theorem oi_gt {a : KA} {l m : List Nat} (T : Tx B) (hn : n ≤ 48) (hl : l.length ≤ 4) (hm : m.length ≤ 4) : Op2 w B n (compareOp .Gt) (rInst w.params B.heap.objs.size (.ref 142) a l) (rInst w.params B.heap.objs.size (.ref 142) a m) (rBool (decide (told l m > 0))) :=
  own_cmp (i := 4) (by (exact Nat.le_trans hn (by decide))) (show cmpInfo .Gt = (">", Str.ofString "__gt__", Str.ofString "__lt__") from rfl) (by decide) lk_obj_gt (by kernel_rfl) (fun F k => k.fn (4, "__gt__", "cmp_to_key.<locals>.K.__gt__", 29) (nth_mem (n := 2) rfl)) rfl
    (meth_call T (by (exact Nat.le_trans hn (by decide))) (nth_mem (n := 2) rfl) (nth_mem (n := 2) rfl) (by decide) flat.val (fun v u s cd pm doc ct an => .of_eq rfl) (by kernel_rfl) (by kernel_rfl) (by kernel_rfl) (fun k c => by kernel_rfl) (by kernel_rfl) (by kernel_rfl) (by kernel_rfl)
      fun s F env fe => Xs.ret (Ev.cmp (Ev.callF (Ev.name (.there (.there .here))) (.cons (Ev.attrO (by (exact Nat.lt_of_le_of_lt hn (by decide))) (Ev.name .here)) (.cons (Ev.attrO (by (exact Nat.lt_of_le_of_lt hn (by decide))) (Ev.name (.there .here))) .nil)) T.compared (compared_cal T (by (exact Nat.lt_of_le_of_lt hn (by decide))) hl hm)) Ev.int cmp_gt))
theorem lk_obj_eq : typeLookup (.type "object") "__eq__" = pure (some (.builtin "object.__eq__")) := by rw [typeLookup_type, builtinLookup_eq_fast]; kernel_rfl
theorem oi_eq {a : KA} {l m : List Nat} (T : Tx B) (hn : n ≤ 48) (hl : l.length ≤ 4) (hm : m.length ≤ 4) : Op2 w B n (compareOp .Eq) (rInst w.params B.heap.objs.size (.ref 142) a l) (rInst w.params B.heap.objs.size (.ref 142) a m) (rBool (decide (told l m = 0))) :=
  own_cmp (i := 5) (by (exact Nat.le_trans hn (by decide))) (show cmpInfo .Eq = ("==", Str.ofString "__eq__", Str.ofString "__eq__") from rfl) (by decide) lk_obj_eq (by kernel_rfl) (fun F k => k.fn (5, "__eq__", "cmp_to_key.<locals>.K.__eq__", 37) (nth_mem (n := 3) rfl)) rfl
    (meth_call T (by (exact Nat.le_trans hn (by decide))) (nth_mem (n := 3) rfl) (nth_mem (n := 3) rfl) (by decide) flat.val (fun v u s cd pm doc ct an => .of_eq rfl) (by kernel_rfl) (by kernel_rfl) (by kernel_rfl) (fun k c => by kernel_rfl) (by kernel_rfl) (by kernel_rfl) (by kernel_rfl)
      fun s F env fe => Xs.ret (Ev.cmp (Ev.callF (Ev.name (.there (.there .here))) (.cons (Ev.attrO (by (exact Nat.lt_of_le_of_lt hn (by decide))) (Ev.name .here)) (.cons (Ev.attrO (by (exact Nat.lt_of_le_of_lt hn (by decide))) (Ev.name (.there .here))) .nil)) T.compared (compared_cal T (by (exact Nat.lt_of_le_of_lt hn (by decide))) hl hm)) Ev.int cmp_eq))
theorem lk_obj_le : typeLookup (.type "object") "__le__" = pure (some (.builtin "object.__le__")) := by rw [typeLookup_type, builtinLookup_eq_fast]; kernel_rfl
theorem oi_le {a : KA} {l m : List Nat} (T : Tx B) (hn : n ≤ 48) (hl : l.length ≤ 4) (hm : m.length ≤ 4) : Op2 w B n (compareOp .LtE) (rInst w.params B.heap.objs.size (.ref 142) a l) (rInst w.params B.heap.objs.size (.ref 142) a m) (rBool (decide (told l m ≤ 0))) :=
  own_cmp (i := 6) (by (exact Nat.le_trans hn (by decide))) (show cmpInfo .LtE = ("<=", Str.ofString "__le__", Str.ofString "__ge__") from rfl) (by decide) lk_obj_le (by kernel_rfl) (fun F k => k.fn (6, "__le__", "cmp_to_key.<locals>.K.__le__", 45) (nth_mem (n := 4) rfl)) rfl
    (meth_call T (by (exact Nat.le_trans hn (by decide))) (nth_mem (n := 4) rfl) (nth_mem (n := 4) rfl) (by decide) flat.val (fun v u s cd pm doc ct an => .of_eq rfl) (by kernel_rfl) (by kernel_rfl) (by kernel_rfl) (fun k c => by kernel_rfl) (by kernel_rfl) (by kernel_rfl) (by kernel_rfl)
      fun s F env fe => Xs.ret (Ev.cmp (Ev.callF (Ev.name (.there (.there .here))) (.cons (Ev.attrO (by (exact Nat.lt_of_le_of_lt hn (by decide))) (Ev.name .here)) (.cons (Ev.attrO (by (exact Nat.lt_of_le_of_lt hn (by decide))) (Ev.name (.there .here))) .nil)) T.compared (compared_cal T (by (exact Nat.lt_of_le_of_lt hn (by decide))) hl hm)) Ev.int cmp_le))
theorem lk_obj_ge : typeLookup (.type "object") "__ge__" = pure (some (.builtin "object.__ge__")) := by rw [typeLookup_type, builtinLookup_eq_fast]; kernel_rfl
theorem oi_ge {a : KA} {l m : List Nat} (T : Tx B) (hn : n ≤ 48) (hl : l.length ≤ 4) (hm : m.length ≤ 4) : Op2 w B n (compareOp .GtE) (rInst w.params B.heap.objs.size (.ref 142) a l) (rInst w.params B.heap.objs.size (.ref 142) a m) (rBool (decide (told l m ≥ 0))) :=
  own_cmp (i := 7) (by (exact Nat.le_trans hn (by decide))) (show cmpInfo .GtE = (">=", Str.ofString "__ge__", Str.ofString "__le__") from rfl) (by decide) lk_obj_ge (by kernel_rfl) (fun F k => k.fn (7, "__ge__", "cmp_to_key.<locals>.K.__ge__", 53) (nth_mem (n := 5) rfl)) rfl
    (meth_call T (by (exact Nat.le_trans hn (by decide))) (nth_mem (n := 5) rfl) (nth_mem (n := 5) rfl) (by decide) flat.val (fun v u s cd pm doc ct an => .of_eq rfl) (by kernel_rfl) (by kernel_rfl) (by kernel_rfl) (fun k c => by kernel_rfl) (by kernel_rfl) (by kernel_rfl) (by kernel_rfl)
      fun s F env fe => Xs.ret (Ev.cmp (Ev.callF (Ev.name (.there (.there .here))) (.cons (Ev.attrO (by (exact Nat.lt_of_le_of_lt hn (by decide))) (Ev.name .here)) (.cons (Ev.attrO (by (exact Nat.lt_of_le_of_lt hn (by decide))) (Ev.name (.there .here))) .nil)) T.compared (compared_cal T (by (exact Nat.lt_of_le_of_lt hn (by decide))) hl hm)) Ev.int cmp_ge))
end
end Mine
end

section
open PySem PySem.W PyProof.Rows PySem.Calls
set_option maxHeartbeats 0
namespace Mine
section
variable {w : World} {B : Shared} {n : Nat} {env : Env} {vars : Vars}
noncomputable def ctk_rp : Pos := ⟨29, 4, 29, 12⟩
theorem body3 : bodyAt 3 = kSt :: (bodyAt 3).drop 1 := by kernel_rfl
theorem ctk_env (k : Nat) : envF (Str.ofString "cmp_to_key") (scopeAt 3) [] k 45 (.ref 44) = kEnv k := by kernel_rfl
theorem ctk_cells (k : Nat) : (kEnv (k + 174)).cells.lookup ("mycmp" : Str) = some (k + 175) := by kernel_rfl
theorem ctk_cal (T : Tx B) (K : KTx w B) (hn : n ≤ 50) : Cal w B n (.ref 45) [rVal (.ref 142)] (rK w.params B.heap.objs.size (.ref 142)) := .mk fun A s F vs hA iv fi are => by
  obtain ⟨v, vs', rfl, e, q⟩ := are.cons_inv
  have e2 := q.nil_inv
  subst e2
  obtain ⟨k, hk⟩ : ∃ k, s.heap.objs.size = k + 174 := Nat.exists_eq_add_of_le' (Nat.le_trans (Nat.le_of_succ_le K.size) iv.size)
  refine call_topC (c := .ref 44) hA (by (exact Nat.le_trans hn (by decide))) iv fi T.lim T.ctk (binds := [("mycmp", v)]) (fun cd pm doc ct an => .of_eq rfl) (by simp) (fun p hp => ?_) rfl rfl rfl [("mycmp", rVal (.ref 142))] (fun p hp => ?_) K.code fun env _ e1 fe => ?_
  · simp at hp; subst hp
    exact .inr (show (scopeAt 3).names.lookup ("mycmp" : Str) = some .cell by decide +kernel)
  · simp at hp; subst hp
    exact ⟨v, .head _, e⟩
  · have hE : env = kEnv (k + 174) := by rw [e1, hk]; exact ctk_env _
    rw [body3]
    refine Xs.clsK (vars' := [("mycmp", rVal (.ref 142))]) T K (by (exact Nat.lt_of_le_of_lt hn (by decide))) hE fe (fun p hp => ⟨hp, by simp at hp; subst hp; decide⟩) ?_
    refine .mk fun A₁ s₁ F₁ hA₁ R M => ?_
    refine wpAny_execs_cons (wpAny_Return_some (loads_name (x := "K") R.st .here (fun v hv => ?_) (by decide) (by decide)))
    obtain ⟨a, rfl, ek, kf⟩ := hv
    obtain ⟨u, eu, hu⟩ := R.st.vars ("mycmp", rVal (.ref 142)) (.tail _ (.head _))
    cases (show u = .ref 142 from eu)
    rcases hu with ⟨hl, _⟩ | ⟨_, c, hc, o, g, d⟩
    · have : env.kindOf ("mycmp" : Str) = some .cell := fe.ce.kd _ _ (by decide +kernel) (by decide)
      rw [this] at hl; cases hl
    · rw [hE, ctk_cells] at hc
      cases hc
      have hsz : s.heap.objs.size ≤ k + 175 := by (lia)
      have x := R.ext.freezeHard g (fun q => by obtain ⟨_, vs, q⟩ := q; rw [d] at q; cases q) (.inl hsz)
      refine ⟨_, rfl, _, x, a, rfl, kf.mono ?_, ⟨o, ?_, d⟩, ?_⟩
      · intro b o' e'
        unfold Fz.put
        split
        · rename_i h; subst h
          rw [(R.st.fin _ _ e').1] at g; exact g.symm
        · exact e'
      · rw [← ek]; exact Fz.put_self ..
      · rw [← ek]; exact Nat.le_trans iv.size hsz
end
end Mine
end

section
open PySem PySem.W PyProof.Rows
namespace Mine
/-- what the asking sort does when the answers are given by keys: every place asked about is within bounds, and R holds of what comes out -/
noncomputable def Kt {α : Type} (z : Nat → Nat) (N : Nat) : KasT α → (α → Prop) → Prop
  | .ret a, R => R a
  | .ask i j k, R => i < N ∧ j < N ∧ Kt z N (k (decide (z i < z j))) R
theorem Kt.bind {α β : Type} {z : Nat → Nat} {N : Nat} {f : α → KasT β} {R : β → Prop} : ∀ {t : KasT α}, Kt z N t (fun a => Kt z N (f a) R) → Kt z N (t.bind f) R
  | .ret _, h => h
  | .ask _ _ k, h => ⟨h.1, h.2.1, Kt.bind (t := k _) h.2.2⟩
theorem Kt.mono {α : Type} {z : Nat → Nat} {N : Nat} {R R' : α → Prop} (hr : ∀ a, R a → R' a) : ∀ {t : KasT α}, Kt z N t R → Kt z N t R'
  | .ret _, h => hr _ h
  | .ask _ _ k, h => ⟨h.1, h.2.1, Kt.mono hr (t := k _) h.2.2⟩
/-- the walk of it -/
theorem Kt.wp {α : Type} {z : Nat → Nat} {N : Nat} {I : Shared → Prop} {cmp : Nat → Nat → (Bool → Shared → Prop) → Shared → Prop} (hc : ∀ i j C s, i < N → j < N → I s → (∀ s', I s' → C (decide (z i < z j)) s') → cmp i j C s) {R : α → Prop} {Q : α → Shared → Prop} :
    ∀ (t : KasT α) (s : Shared), Kt z N t R → I s → (∀ a s', R a → I s' → Q a s') → t.kasWp cmp Q s
  | .ret a, s, h, i, q => q a s h i
  | .ask a b k, s, h, i, q => hc a b _ s h.1 h.2.1 i fun s' i' => Kt.wp hc (k _) s' h.2.2 i' q

noncomputable def Pm (N : Nat) (p : Array Nat) : Prop := p.Perm (List.range N).toArray
theorem Pm.size {N : Nat} {p : Array Nat} (h : Pm N p) : p.size = N := by
  have := h.size_eq
  simpa using this
theorem Pm.lt {N : Nat} {p : Array Nat} (h : Pm N p) {k : Nat} (hk : k < N) : p.getD k 0 < N := by
  have hs : k < p.size := by rw [h.size]; exact hk
  have e : p.getD k 0 = p[k] := by simp [Array.getD, hs]
  rw [e]
  have hm : p[k] ∈ p := Array.getElem_mem hs
  have := h.mem_iff.mp hm
  simpa using this
theorem getD_of {p q : Array Nat} {a b : Nat} (h : p[a]? = q[b]?) : p.getD a 0 = q.getD b 0 := by
  simp only [Array.getD_eq_getD_getElem?, h]
theorem rev_get {p : Array Nat} {i j : Nat} (hj : j ≤ p.size) (k : Nat) : (kas_rev p i j).getD k 0 = if i ≤ k ∧ k < j then p.getD (i + j - 1 - k) 0 else p.getD k 0 := by
  have h := getElem?_mirror_all (xs := p) (i := i) hj k
  show (mirror p i j ((j - i) / 2)).getD k 0 = _
  split
  · rename_i hk; rw [if_pos hk] at h; exact getD_of h
  · rename_i hk; rw [if_neg hk] at h; exact getD_of h
theorem Pm.rev {N : Nat} {p : Array Nat} (h : Pm N p) (i j : Nat) : Pm N (kas_rev p i j) := (mirror_perm p i j _).trans h
theorem Pm.bub {N : Nat} {p : Array Nat} (h : Pm N p) (i j : Nat) : Pm N (bubble p i j) := (bubble_perm p i j).trans h
variable {z : Nat → Nat} {N : Nat}
noncomputable abbrev ky (z : Nat → Nat) (p : Array Nat) (k : Nat) : Nat := z (p.getD k 0)
noncomputable def Asc (z : Nat → Nat) (p : Array Nat) (m : Nat) : Prop := ∀ k, 1 ≤ k → k < m → ky z p (k - 1) ≤ ky z p k
noncomputable def Dsc (z : Nat → Nat) (p : Array Nat) (m : Nat) : Prop := ∀ k, 1 ≤ k → k < m → ky z p k ≤ ky z p (k - 1)
theorem asc_ {p : Array Nat} (hp : Pm N p) : ∀ (f m : Nat), 1 ≤ m → m + f ≤ N → Kt z N (kas_asc p f m) fun r => m ≤ r ∧ r ≤ m + f ∧ (∀ k, m ≤ k → k < r → ky z p (k - 1) ≤ ky z p k) ∧ (r < m + f → ky z p r < ky z p (r - 1))
  | 0, m, h1, h2 => ⟨Nat.le_refl _, Nat.le_refl _, fun k a b => absurd b (Nat.not_lt.mpr a), fun h => absurd h (Nat.lt_irrefl _)⟩
  | f + 1, m, h1, h2 => by
    refine ⟨hp.lt (by (lia)), hp.lt (by (lia)), ?_⟩
    by_cases c : z (p.getD m 0) < z (p.getD (m - 1) 0)
    · rw [decide_eq_true c]; dsimp only; rw [if_pos rfl]
      exact ⟨Nat.le_refl _, by (exact Nat.le_add_right _ _), fun k a b => absurd b (Nat.not_lt.mpr a), fun _ => c⟩
    · rw [decide_eq_false c]; dsimp only; rw [if_neg (by simp)]
      refine (asc_ hp f (m + 1) (by (exact Nat.le_add_left _ _)) (by (lia))).mono fun r h => ⟨by (exact Nat.le_of_lt h.1), by (omega), fun k a b => ?_, fun h' => h.2.2.2 (by (omega))⟩
      by_cases e : k = m
      · subst e; exact Nat.le_of_not_lt c
      · exact h.2.2.1 k (by (lia)) b
theorem eq_rev {p : Array Nat} {i j : Nat} (hj : j ≤ p.size) (he : ∀ k, i ≤ k → k < j → ky z p k = ky z p (j - 1)) (k : Nat) : ky z (kas_rev p i j) k = ky z p k := by
  unfold ky
  rw [rev_get hj]
  split
  · rename_i h
    have a := he k h.1 h.2
    have b := he (i + j - 1 - k) (by (lia)) (by (lia))
    exact b.trans a.symm
  · rfl
theorem desc_ : ∀ (f : Nat) (p : Array Nat) (n q : Nat), Pm N p → 1 ≤ n → n + f ≤ N → q + 1 ≤ n → Dsc z p n → (∀ k, n - (q + 1) ≤ k → k < n → ky z p k = ky z p (n - 1)) →
    Kt z N (kas_desc f p n q) fun r => Pm N r.1 ∧ 1 ≤ r.2.1 ∧ r.2.1 ≤ n + f ∧ r.2.2 + 1 ≤ r.2.1 ∧ Dsc z r.1 r.2.1 ∧ ∀ k, r.2.1 - (r.2.2 + 1) ≤ k → k < r.2.1 → ky z r.1 k = ky z r.1 (r.2.1 - 1)
  | 0, p, n, q, hp, h1, h2, hq, hd, he => ⟨hp, h1, Nat.le_refl _, hq, hd, he⟩
  | f + 1, p, n, q, hp, h1, h2, hq, hd, he => by
    refine ⟨hp.lt (by (lia)), hp.lt (by (lia)), ?_⟩
    by_cases c : z (p.getD n 0) < z (p.getD (n - 1) 0)
    · rw [decide_eq_true c]; dsimp only; rw [if_pos rfl]
      have hd' : Dsc z p (n + 1) := fun k a b => by
        by_cases e : k = n
        · subst e; exact Nat.le_of_lt c
        · exact hd k a (by (lia))
      split
      · have er := eq_rev (z := z) (p := p) (i := n - (q + 1)) (j := n) (by rw [hp.size]; (exact Nat.le_trans (Nat.le_add_right _ _) h2)) he
        refine (desc_ f (kas_rev p (n - (q + 1)) n) (n + 1) 0 (hp.rev _ _) (by (exact Nat.le_add_left _ _)) (by (lia)) (by (exact Nat.le_add_left _ _)) (fun k a b => ?_) fun k a b => ?_).mono fun r h => ⟨h.1, h.2.1, by (omega), h.2.2.2⟩
        · rw [er, er]; exact hd' k a b
        · have : k = n := by (lia)
          subst this; rfl
      · refine (desc_ f p (n + 1) 0 hp (by (exact Nat.le_add_left _ _)) (by (lia)) (by (exact Nat.le_add_left _ _)) hd' fun k a b => ?_).mono fun r h => ⟨h.1, h.2.1, by (omega), h.2.2.2⟩
        have : k = n := by (lia)
        subst this; rfl
    · rw [decide_eq_false c]; dsimp only; rw [if_neg (by simp)]
      refine ⟨hp.lt (by (lia)), hp.lt (by (lia)), ?_⟩
      by_cases d : z (p.getD (n - 1) 0) < z (p.getD n 0)
      · rw [decide_eq_true d]; dsimp only; rw [if_pos rfl]
        exact ⟨hp, h1, Nat.le_add_right n _, hq, hd, he⟩
      · rw [decide_eq_false d]; dsimp only; rw [if_neg (by simp)]
        have eq : ky z p n = ky z p (n - 1) := Nat.le_antisymm (Nat.le_of_not_lt d) (Nat.le_of_not_lt c)
        refine (desc_ f p (n + 1) (q + 1) hp (by (exact Nat.le_add_left _ _)) (by (lia)) (by (exact Nat.succ_le_succ hq)) (fun k a b => ?_) fun k a b => ?_).mono fun r h => ⟨h.1, h.2.1, by (omega), h.2.2.2⟩
        · by_cases e : k = n
          · subst e; exact Nat.le_of_eq eq
          · exact hd k a (by (lia))
        · show ky z p k = ky z p n
          by_cases e : k = n
          · subst e; rfl
          · rw [eq]; exact he k (by (lia)) (by (lia))
theorem tail3_ {n : Nat} {p : Array Nat} (hp : Pm N p) (h1 : 1 ≤ n) (h2 : n ≤ N) (hd : Dsc z p n) : Kt z N (kas_tail3 n N p) fun r => Pm N r.2 ∧ r.1 ≤ N ∧ Asc z r.2 r.1 := by
  refine Kt.bind ((asc_ (hp.rev 0 n) (N - n) n h1 (by (lia))).mono fun m h => ⟨hp.rev 0 n, by show m ≤ N; (omega), fun k a b => ?_⟩)
  by_cases hk : k < n
  · show ky z (kas_rev p 0 n) (k - 1) ≤ ky z (kas_rev p 0 n) k
    unfold ky
    rw [rev_get (by rw [hp.size]; exact h2), rev_get (by rw [hp.size]; exact h2), if_pos ⟨by (exact Nat.le_add_left _ _), by (exact Nat.lt_of_le_of_lt (Nat.sub_le _ _) hk)⟩, if_pos ⟨by (exact Nat.le_add_left _ _), hk⟩]
    have := hd (n - k) (by (lia)) (by (omega))
    unfold ky at this
    rw [show 0 + n - 1 - (k - 1) = n - k by (lia), show 0 + n - 1 - k = n - k - 1 by (lia)]
    exact this
  · exact h.2.2.1 k (by (lia)) b
theorem descPart_ {n : Nat} {p : Array Nat} (hp : Pm N p) (h1 : 1 ≤ n) (h2 : n + 1 ≤ N) (hd : Dsc z p (n + 1)) : Kt z N (kas_descPart n N p) fun r => Pm N r.2 ∧ r.1 ≤ N ∧ Asc z r.2 r.1 := by
  refine Kt.bind ((desc_ (N - (n + 1)) p (n + 1) 0 hp (by (exact Nat.le_add_left _ _)) (by (lia)) (by (exact Nat.le_add_left _ _)) hd fun k a b => ?_).mono fun r h => ?_)
  · have : k = n := by (lia)
    subst this; rfl
  · obtain ⟨a1, a2, a3, a4, a5, a6⟩ := h
    split
    · have er := eq_rev (z := z) (p := r.1) (i := r.2.1 - (r.2.2 + 1)) (j := r.2.1) (by rw [a1.size]; (omega)) a6
      exact tail3_ (a1.rev _ _) a2 (by (omega)) fun k a b => by rw [er, er]; exact a5 k a b
    · exact tail3_ a1 a2 (by (omega)) a5
theorem count_ {p : Array Nat} (hp : Pm N p) (h1 : 1 ≤ N) : Kt z N (kas_count N p) fun r => Pm N r.2 ∧ r.1 ≤ N ∧ Asc z r.2 r.1 := by
  refine Kt.bind ((asc_ hp (N - 1) 1 (by (exact Nat.le_refl _)) (by (lia))).mono fun n h => ?_)
  obtain ⟨a1, a2, a3, a4⟩ := h
  have hA : Asc z p n := fun k a b => a3 k a b
  split
  · exact ⟨hp, by show n ≤ N; (lia), hA⟩
  · rename_i ne
    have ne' : n ≠ N := fun e => ne (by simp [e])
    have hl := a4 (by (lia))
    split
    · rename_i g
      refine ⟨hp.lt (by (assumption)), hp.lt (by (lia)), ?_⟩
      by_cases c : z (p.getD 0 0) < z (p.getD (n - 1) 0)
      · rw [decide_eq_true c]; dsimp only; rw [if_pos rfl]
        exact ⟨hp, by show n ≤ N; (lia), hA⟩
      · rw [decide_eq_false c]; dsimp only; rw [if_neg (by simp)]
        have up : ∀ k, k < n → ky z p k ≤ ky z p (n - 1) := fun k hk => by
          have : ∀ d, k + d < n → ky z p k ≤ ky z p (k + d) := fun d => by
            induction d with
            | zero => intro _; exact Nat.le_refl _
            | succ d ih => intro h; exact Nat.le_trans (ih (by (exact Nat.le_of_lt h))) (hA (k + (d + 1)) (by (exact Nat.le_add_left _ _)) h)
          have := this (n - 1 - k) (by (lia))
          rwa [show k + (n - 1 - k) = n - 1 by (lia)] at this
        have dn : ∀ k, k < n → ky z p 0 ≤ ky z p k := fun k => by
          induction k with
          | zero => intro _; exact Nat.le_refl _
          | succ k ih => intro h; exact Nat.le_trans (ih (by (exact Nat.le_of_lt h))) (hA (k + 1) (by (exact Nat.le_add_left _ _)) h)
        have he : ∀ k, 0 ≤ k → k < n → ky z p k = ky z p (n - 1) := fun k _ hk => Nat.le_antisymm (up k hk) (Nat.le_trans (Nat.le_of_not_lt c) (dn k hk))
        have er := eq_rev (z := z) (p := p) (i := 0) (j := n) (by rw [hp.size]; (lia)) he
        refine descPart_ (hp.rev 0 n) (by (assumption)) (by (lia)) fun k a b => ?_
        rw [er, er]
        by_cases e : k = n
        · subst e; exact Nat.le_of_lt hl
        · rw [he k (by (exact Nat.le_add_left _ _)) (by (lia)), he (k - 1) (by (exact Nat.le_add_left _ _)) (by (lia))]; exact Nat.le_refl _
    · have e1 : n = 1 := by (lia)
      subst e1
      refine descPart_ hp (by (assumption)) (by (lia)) fun k a b => ?_
      have : k = 1 := by (lia)
      subst this; exact Nat.le_of_lt hl
theorem place_ {p : Array Nat} {k : Nat} (hp : Pm N p) (hk : k < N) (hA : Asc z p k) : ∀ (f l r : Nat), r - l ≤ f → l ≤ r → r ≤ k → (∀ i, i < l → ky z p i ≤ ky z p k) → (∀ i, r ≤ i → i < k → ky z p k < ky z p i) →
    Kt z N (kas_place p k f l r) fun x => x ≤ k ∧ (∀ i, i < x → ky z p i ≤ ky z p k) ∧ ∀ i, x ≤ i → i < k → ky z p k < ky z p i
  | 0, l, r, h, h1, h2, a, b => ⟨by show l ≤ k; (exact Nat.le_trans h1 h2), a, fun i hi => b i (by (lia))⟩
  | f + 1, l, r, h, h1, h2, a, b => by
    unfold kas_place
    split
    · exact ⟨by show l ≤ k; (exact Nat.le_trans h1 h2), a, fun i hi => b i (by (lia))⟩
    · have mono : ∀ i d, i + d < k → ky z p i ≤ ky z p (i + d) := fun i d => by
        induction d with
        | zero => intro _; exact Nat.le_refl _
        | succ d ih => intro h; exact Nat.le_trans (ih (by (exact Nat.le_of_lt h))) (hA (i + (d + 1)) (by (exact Nat.le_add_left _ _)) h)
      refine ⟨hp.lt hk, hp.lt (by (lia)), ?_⟩
      by_cases c : z (p.getD k 0) < z (p.getD ((l + r) / 2) 0)
      · rw [decide_eq_true c]; dsimp only; rw [if_pos rfl]
        refine place_ hp hk hA f l ((l + r) / 2) (by (omega)) (by (lia)) (by (lia)) a fun i hi hik => ?_
        have := mono ((l + r) / 2) (i - (l + r) / 2) (by (omega))
        rw [show (l + r) / 2 + (i - (l + r) / 2) = i by (omega)] at this
        exact Nat.lt_of_lt_of_le c this
      · rw [decide_eq_false c]; dsimp only; rw [if_neg (by simp)]
        refine place_ hp hk hA f ((l + r) / 2 + 1) r (by (omega)) (by (lia)) h2 (fun i hi => ?_) b
        have := mono i ((l + r) / 2 - i) (by (lia))
        rw [show i + ((l + r) / 2 - i) = (l + r) / 2 by (omega)] at this
        exact Nat.le_trans this (Nat.le_of_not_lt c)
theorem bin_ : ∀ (f : Nat) (p : Array Nat) (k : Nat), Pm N p → k + f = N → Asc z p k → Kt z N (kas_bin f p k) fun r => Pm N r ∧ Asc z r N
  | 0, p, k, hp, h, hA => ⟨hp, by rw [← h]; exact hA⟩
  | f + 1, p, k, hp, h, hA => by
    refine Kt.bind ((place_ hp (by (lia)) hA k 0 k (by (exact Nat.le_refl _)) (by (exact Nat.le_add_left _ _)) (Nat.le_refl _) (fun i hi => absurd hi (Nat.not_lt_zero _)) (fun i a b => absurd b (Nat.not_lt.mpr a))).mono fun l hl => ?_)
    obtain ⟨h1, h2, h3⟩ := hl
    have get : ∀ i, (bubble p k (k - l)).getD i 0 = if i = l then p.getD k 0 else if l < i ∧ i ≤ k then p.getD (i - 1) 0 else p.getD i 0 := fun i => by
      have g := getElem?_bubble (xs := p) (src := k) (by rw [hp.size]; (lia)) (k - l) (by (exact Nat.sub_le _ _)) i
      rw [show k - (k - l) = l by (lia)] at g
      split
      · rename_i e; rw [if_pos e] at g; exact getD_of g
      · rename_i e
        rw [if_neg e] at g
        split
        · rename_i e2; rw [if_pos e2] at g; exact getD_of g
        · rename_i e2; rw [if_neg e2] at g; exact getD_of g
    refine bin_ f _ (k + 1) (hp.bub _ _) (by (lia)) fun i a b => ?_
    unfold ky
    rw [get, get]
    by_cases e1 : i < l
    · rw [if_neg (by (lia)), if_neg (by (lia)), if_neg (by (lia)), if_neg (by (lia))]
      exact hA i a (by (exact Nat.le_trans e1 h1))
    · by_cases e2 : i = l
      · subst e2
        rw [if_neg (by (lia)), if_neg (by (lia)), if_pos rfl]
        exact h2 (i - 1) (by (lia))
      · by_cases e3 : i - 1 = l
        · rw [if_pos e3, if_neg e2, if_pos ⟨by (lia), by (exact Nat.le_of_lt_succ b)⟩]
          have := h3 (i - 1) (by (lia)) (by (lia))
          exact Nat.le_of_lt this
        · rw [if_neg e3, if_pos ⟨by (lia), by (lia)⟩, if_neg e2, if_pos ⟨by (lia), by (exact Nat.le_of_lt_succ b)⟩]
          exact hA (i - 1) (by (lia)) (by (lia))
/-- it sorts -/
theorem sort_ (h1 : 1 ≤ N) : Kt z N (kas_sort N) fun r => Pm N r ∧ Asc z r N := by
  refine Kt.bind ((count_ (p := (List.range N).toArray) (Array.Perm.refl _) h1).mono fun r h => ?_)
  obtain ⟨a, b, c⟩ := h
  split
  · refine bin_ _ _ _ a (by (lia)) fun k x y => ?_
    by_cases e : r.1 = 0
    · (lia)
    · exact c k x (by (lia))
  · exact ⟨a, by rw [show N = r.1 by (lia)]; exact c⟩
end Mine
end

section
open PySem PySem.W PyProof.Rows PySem.Calls
namespace Mine
section
variable {w : World} {B : Shared} {n : Nat} {s : Shared} {F : Fz} {L D kS : Addr} {m : Str → Option Value} {oD oK : Obj} {F' : Fz} {s' : Shared}
/-- where the sort stands -/
structure SI (B s : Shared) (F : Fz) (L : Addr) (m : Str → Option Value) (D kS : Addr) (oD oK : Obj) (F' : Fz) (s' : Shared) : Prop where
  inv : Inv B s'
  fin : F'.In s'.heap
  ns : s'.heap.Ns L m
  keep : ∀ b o, s.heap.get? b = some o → ¬ IsTab o → b ≠ L → s'.heap.get? b = some o
  le : F.Le F'
  new : ∀ a o, F' a = some o → F a = some o ∨ s.heap.objs.size ≤ a ∨ Hard o
  lb : B.heap.objs.size ≤ L
  lf : F' L = none
  sb : B.heap.objs.size ≤ s.heap.objs.size
  dat : s'.heap.get? D = some oD
  kat : s'.heap.get? kS = some oK
  dsoft : ∃ xs k, oD = lst xs k
  ksoft : ∃ xs k, oK = lst xs k
  df : F' D = none
  kf : F' kS = none
  db : s.heap.objs.size ≤ D
  kb : s.heap.objs.size ≤ kS
  dk : D ≠ kS
  dl : D ≠ L
  kl : kS ≠ L
theorem lst_soft {xs : List Value} {k : Nat} : soft (lst xs k) := soft_of fun vs e => by cases e
theorem SI.ext (I : SI B s F L m D kS oD oK F' s') {s2 : Shared} {F2 : Fz} (x : Ext B s' F' s2 F2) : SI B s F L m D kS oD oK F2 s2 := by
  obtain ⟨xd, kd, rfl⟩ := I.dsoft
  obtain ⟨xk, kk, rfl⟩ := I.ksoft
  obtain ⟨oL, es, ep, eL, dL, rL⟩ := id I.ns
  have hs : s.heap.objs.size ≤ s'.heap.objs.size := Nat.le_trans I.db (Nat.le_of_lt (Heap.lt_size I.dat))
  exact { inv := x.inv, fin := x.fin, ns := Ns.ext I.ns x.keep, keep := fun b o e q hb => x.keep _ _ (I.keep b o e q hb) q, le := I.le.trans x.le, new := fun a o e => (x.new a o e).elim (I.new a o) fun h => .inr (h.imp (Nat.le_trans hs) id), lb := I.lb, lf := x.noneAt eL (soft_of fun vs q => by rw [dL] at q; cases q) I.lf, sb := I.sb, dat := x.keep _ _ I.dat lst_soft.ntab, kat := x.keep _ _ I.kat lst_soft.ntab, dsoft := ⟨_, _, rfl⟩, ksoft := ⟨_, _, rfl⟩, df := x.noneAt I.dat lst_soft I.df, kf := x.noneAt I.kat lst_soft I.kf, db := I.db, kb := I.kb, dk := I.dk, dl := I.dl, kl := I.kl }
/-- the heap that comes next: one of the two lists has changed -/
theorem SI.next (I : SI B s F L m D kS oD oK F' s') {h' : Heap} {d : Addr} {oD' oK' : Obj} (hns : h'.Ns L m) (hd : h'.get? D = some oD') (hk : h'.get? kS = some oK') (hds : ∃ xs k, oD' = lst xs k) (hks : ∃ xs k, oK' = lst xs k) (hor : d = D ∨ d = kS)
    (hkeep : ∀ b o, s'.heap.get? b = some o → b ≠ L → b ≠ d → h'.get? b = some o) : SI B s F L m D kS oD' oK' F' { s' with heap := h' } := by
  have hdB : B.heap.objs.size ≤ d := by rcases hor with rfl | rfl; exact Nat.le_trans I.sb I.db; exact Nat.le_trans I.sb I.kb
  have hdF : F' d = none := by rcases hor with rfl | rfl; exact I.df; exact I.kf
  have hds' : s.heap.objs.size ≤ d := by rcases hor with rfl | rfl; exact I.db; exact I.kb
  obtain ⟨oL, es, ep, eL, dL, rL⟩ := id I.ns
  obtain ⟨xd, kd, ed⟩ := I.dsoft
  obtain ⟨xk, kk, ek⟩ := I.ksoft
  have sft : Sft s'.heap h' := fun b o e q => by
    refine hkeep b o e ?_ ?_
    · rintro rfl; rw [eL] at e; cases e
      obtain ⟨_, vs, q⟩ := q
      rw [dL] at q; cases q
    · rintro rfl
      rcases hor with rfl | rfl
      · rw [I.dat, ed] at e; cases e; exact lst_soft q
      · rw [I.kat, ek] at e; cases e; exact lst_soft q
  refine { inv := ⟨fun b o e q => hkeep b o (I.inv.keep b o e q) ?_ ?_, ?_, I.inv.t1.sft sft fun _ _ q => q.sft sft, I.inv.t2.sft sft fun _ _ ⟨q, y⟩ => ⟨q, y.sft sft⟩, I.inv.t3.sft sft, I.inv.os, I.inv.gens⟩, fin := fun a o e => ⟨hkeep a o (I.fin a o e).1 ?_ ?_, (I.fin a o e).2⟩, ns := hns, keep := fun b o e q hb => hkeep b o (I.keep b o e q hb) hb ?_, le := I.le, new := I.new, lb := I.lb, lf := I.lf, sb := I.sb, dat := hd, kat := hk, dsoft := hds, ksoft := hks, df := I.df, kf := I.kf, db := I.db, kb := I.kb, dk := I.dk, dl := I.dl, kl := I.kl }
  · exact Nat.ne_of_lt (Nat.lt_of_lt_of_le (Heap.lt_size e) I.lb)
  · exact Nat.ne_of_lt (Nat.lt_of_lt_of_le (Heap.lt_size e) hdB)
  · exact Nat.le_trans I.sb (Nat.le_trans I.db (Nat.le_of_lt (Heap.lt_size hd)))
  · rintro rfl; rw [I.lf] at e; cases e
  · rintro rfl; rw [hdF] at e; cases e
  · exact Nat.ne_of_lt (Nat.lt_of_lt_of_le (Heap.lt_size e) hds')
theorem SI.fr (I : SI B s F L m D kS oD oK F' s') : Fr hz L s'.heap m := fr_of I.ns
theorem SI.updK (I : SI B s F L m D kS oD oK F' s') : ∃ g, UpdF kS oK (alls s'.heap L) g ∧ ∀ h' ys c, Fr hz L h' m → News hz L h' (g (lst ys c)) → SI B s F L m D kS oD (lst ys c) F' { s' with heap := h' } := by
  obtain ⟨g, u, hg⟩ := upd_of (alls_nodup s'.heap L) (mem_alls.mpr ⟨I.kat, I.kl⟩)
  refine ⟨g, u, fun h' ys c fr nw => I.next (d := kS) fr.ns ?_ ?_ I.dsoft ⟨_, _, rfl⟩ (.inr rfl) fun b o e hb hd => ?_⟩
  · exact (nw _ ((hg _).2 (D, oD) (mem_alls.mpr ⟨I.dat, I.dl⟩) I.dk)).1
  · exact (nw _ (hg _).1).1
  · exact (nw _ ((hg _).2 (b, o) (mem_alls.mpr ⟨e, hb⟩) hd)).1
theorem SI.updD (I : SI B s F L m D kS oD oK F' s') : ∃ g, UpdF D oD (alls s'.heap L) g ∧ ∀ h' ys c, Fr hz L h' m → News hz L h' (g (lst ys c)) → SI B s F L m D kS (lst ys c) oK F' { s' with heap := h' } := by
  obtain ⟨g, u, hg⟩ := upd_of (alls_nodup s'.heap L) (mem_alls.mpr ⟨I.dat, I.dl⟩)
  refine ⟨g, u, fun h' ys c fr nw => I.next (d := D) fr.ns ?_ ?_ ⟨_, _, rfl⟩ I.ksoft (.inl rfl) fun b o e hb hd => ?_⟩
  · exact (nw _ (hg _).1).1
  · exact (nw _ ((hg _).2 (kS, oK) (mem_alls.mpr ⟨I.kat, I.kl⟩) I.dk.symm)).1
  · exact (nw _ ((hg _).2 (b, o) (mem_alls.mpr ⟨e, hb⟩) hd)).1
end
end Mine
end

section
open PySem PySem.W PyProof.Rows PySem.Calls
set_option maxHeartbeats 0
namespace Mine
section
variable {w : World} {B : Shared} {n : Nat} {s : Shared} {F : Fz} {L D kS : Addr} {m : Str → Option Value} {oD oK : Obj} {F' : Fz} {s' : Shared} {a : KA}
noncomputable abbrev U142 : Value := .ref 142
/-- the sort's own question about two of the class's objects -/
theorem ask_lt {A : Around} {l r : List Nat} {x y : Value} {C : Bool → Shared → Prop} (T : Tx B) (hA : Le A n) (hn : n ≤ 48) (i : Inv B s') (fi : F'.In s'.heap) (hl : l.length ≤ 4) (hr : r.length ≤ 4)
    (hx : (rInst w.params B.heap.objs.size U142 a l).p F' x) (hy : (rInst w.params B.heap.objs.size U142 a r).p F' y) (h : ∀ s2 F2, Ext B s' F' s2 F2 → C (decide (told l r < 0)) s2) :
    wpAny (model PG w) A (keyLt' oneType' x y) C (fun _ _ => False) s' := by
  have hc := meth_call (w := w) (B := B) (n := n) (i := 3) (nm := "__lt__") (qual := "cmp_to_key.<locals>.K.__lt__") (off := 21) (a := a) (l := l) (m := r) (r := rBool (decide (told l r < 0))) T (by (exact Nat.le_trans hn (by decide))) (nth_mem (n := 1) rfl) (nth_mem (n := 1) rfl) (by decide) flat.val (fun v u s cd pm doc ct an => .of_eq rfl) (by kernel_rfl) (by kernel_rfl) (by kernel_rfl) (fun k c => by kernel_rfl) (by kernel_rfl) (by kernel_rfl) (by kernel_rfl)
      (fun s F env fe => Xs.ret (Ev.cmp (Ev.callF (Ev.name (.there (.there .here))) (.cons (Ev.attrO (by (exact Nat.lt_of_le_of_lt hn (by decide))) (Ev.name .here)) (.cons (Ev.attrO (by (exact Nat.lt_of_le_of_lt hn (by decide))) (Ev.name (.there .here))) .nil)) T.compared (compared_cal T (by (exact Nat.lt_of_le_of_lt hn (by decide))) hl hr)) Ev.int cmp_lt)) A s' F' x y hA i fi hx hy
  obtain ⟨hk, bx, dx, tx, rfl, kf, gx, _⟩ := hx
  have hC := (fi _ _ kf.cls).1
  have hN := KA.ns_ns (fi _ _ kf.ns).1
  have hf := (fi _ _ (kf.fn (3, "__lt__", "cmp_to_key.<locals>.K.__lt__", 21) (nth_mem (n := 1) rfl))).1
  have hX := (fi _ _ gx).1
  obtain ⟨h₁, g, d, t, os⟩ := s'
  dsimp only at hC hN hf hX
  rw [KA.cls_exc] at hC
  rw [keyLt'_oneType, oneLt'_eq]
  simp only [if_true]
  refine wpAny_bind (wpAny_cRoomFor (by have := hA.units; show A.units < 9900; (lia)) ?_)
  refine wpAny_bind (wpAny_callSpecialIfBound?_own (C := a.c + 175) (f := a.f 3 + 175) (B := "object") ⟨_, _, _, _, _, _, _, _, _, _, _, _, _, _, _, _, _, _, _, _, _, hX, rfl, hC, hN, (by kernel_rfl), hf, rfl, PySem.F.mro_object, lk_obj_lt⟩ (hc.mono fun v s2 ⟨F2, x2, e⟩ => ?_))
  cases (show v = .bool _ from e)
  exact wpAny_truthy_bool (h s2 F2 x2)
/-- the keys are made, one by one -/
theorem keys_walk {A : Around} {Fin : List Value → Nat → Shared → Prop} (K : KTx w B) (hA : Le A n) (hn : n ≤ 60) : ∀ (r : List Value) (xr : List (List Nat)) (ks : List Value) (xk : List (List Nat)) (e : Nat) (s₁ : Shared) (F₁ : Fz),
    SI B s F L m D kS oD (lst ks e) F₁ s₁ → (rKA w.params B.heap.objs.size U142 a).p F₁ (.ref (a.c + 175)) → Are rS F₁ r xr → Are (rInst w.params B.heap.objs.size U142 a) F₁ ks xk →
    (∀ ks' e' s₂ F₂, SI B s F L m D kS oD (lst ks' e') F₂ s₂ → F₁.Le F₂ → Are (rInst w.params B.heap.objs.size U142 a) F₂ ks' (xk ++ xr) → Fin ks' e' s₂) →
    KatKeys PG w A hz L m kS (.ref (a.c + 175)) Fin r ks e s₁
  | [], xr, ks, xk, e, s₁, F₁, I, hK, hr, hk, h => by
    have : xr = [] := by have := hr.1; cases xr with | nil => rfl | cons _ _ => simp at this
    subst this
    exact .nil (h ks e s₁ F₁ I (Fz.Le.refl _) (by rw [List.append_nil]; exact hk))
  | v :: r, xr, ks, xk, e, s₁, F₁, I, hK, hr, hk, h => by
    obtain ⟨x, xr', rfl⟩ : ∃ x xr', xr = x :: xr' := by
      have := hr.1
      cases xr with
      | nil => simp at this
      | cons x xr' => exact ⟨_, _, rfl⟩
    obtain ⟨v', r', e', hv, hr'⟩ := hr.cons_inv
    cases e'
    refine .cons (((new_cal (l := x) K hn).go A s₁ F₁ _ [v] hA I.inv I.fin hK (Are.cons hv Are.nil)).mono fun k s₂ ⟨F₂, x₂, pk⟩ => ?_)
    have I₂ := I.ext x₂
    obtain ⟨g, u, hg⟩ := I₂.updK
    exact .intro (news := alls s₂.heap L) I₂.fr (news_of _ _) u fun h' c fr nw => keys_walk K hA hn r xr' (ks ++ [k]) (xk ++ [x]) c _ F₂ (hg h' (ks ++ [k]) c fr nw) ((rKA w.params B.heap.objs.size U142 a).mono _ _ _ x₂.le hK) (hr'.mono x₂.le) ((hk.mono x₂.le).append (Are.cons pk Are.nil))
      fun ks' e' s₃ F₃ I₃ l₃ hk₃ => h ks' e' s₃ F₃ I₃ (x₂.le.trans l₃) (by rw [List.append_assoc] at hk₃; exact hk₃)
end
end Mine
end

section
open PySem PySem.W PyProof.Rows PySem.Calls
set_option maxHeartbeats 0
namespace Mine
section
variable {w : World} {B : Shared} {n : Nat} {s : Shared} {F : Fz} {L : Addr} {m : Str → Option Value} {a : KA}
/-- the two lists before the sort: a copy, and the one that is sorted -/
theorem sorted_front {A : Around} {l q : Addr} {vs : List Value} {Q : Value → Shared → Prop} (hl : s.heap.IsList l vs.toArray) (hz : vs.length ≤ sizeLine)
    (h : ∀ H, H.get? (s.heap.objs.size + 1) = some (lst vs 0) → (∀ b o, s.heap.get? b = some o → H.get? b = some o) → wpAny (model PG w) A.in1.in1 (ksk_tree (s.heap.objs.size + 1) (.ref q) false) (fun fin s' => ∃ v, fin = .done (.ret v) ∧ Q (.ref (s.heap.objs.size + 1)) s') (fun _ _ => False) { s with heap := H }) :
    W w A (call (.builtin "sorted") [.ref l] [(Str.ofString "key", .ref q)]) Q s := by
  have k1 : ∀ b o, s.heap.get? b = some o → ((s.heap.push (lst [] 0)).update s.heap.objs.size (Obj.mapSeq (· ++ vs.toArray))).get? b = some o := fun b o e => by
    rw [Heap.get?_update_ne _ _ _ _ (Nat.ne_of_lt (Heap.lt_size e))]
    exact Heap.get?_push_of_some _ e
  have z1 : ((s.heap.push (lst [] 0)).update s.heap.objs.size (Obj.mapSeq (· ++ vs.toArray))).objs.size = s.heap.objs.size + 1 := by rw [Heap.size_update, size_push']
  have z2 := Heap.get?_push_size ((s.heap.push (lst [] 0)).update s.heap.objs.size (Obj.mapSeq (· ++ vs.toArray))) (o := lst vs 0) rfl
  rw [z1] at z2
  have hh := h _ z2 fun b o e => Heap.get?_push_of_some _ (k1 b o e)
  refine call_function_entry_kw kind_sorted plain_sorted entry_sorted (ksk_s1 _ _) ?_
  unfold Builtin.«sorted»
  refine wpAny_bind (m := checkCount "sorted" 1 1 _) (wpAny_pure ?_)
  refine wpAny_bind (collect_list hl ?_ hz)
  refine wpAny_bind (wpAny_newList ?_ hz)
  show wpAny _ _ _ _ _ { s with heap := ((s.heap.push (lst [] 0)).update s.heap.objs.size (Obj.mapSeq (· ++ vs.toArray))).push (lst vs 0) }
  rw [z1]
  refine wpAny_bind (wpAny_holding (wpAny_call_entry_kw slot_list_sort ⟨_, z2, rfl⟩ entry_list_sort ?_ (ksk_l1 _ _)))
  rw [ksk_t1]
  exact wpAny_mono hh (fun fin s' ⟨v, e, q⟩ => ⟨v, e, wpAny_pure ⟨_, rfl, q⟩⟩) fun _ _ x => x
/-- how the heap stands behind the sort -/
structure After (B s : Shared) (F : Fz) (L : Addr) (m : Str → Option Value) (F' : Fz) (s' : Shared) : Prop where
  inv : Inv B s'
  fin : F'.In s'.heap
  ns : s'.heap.Ns L m
  keep : ∀ b o, s.heap.get? b = some o → ¬ IsTab o → b ≠ L → s'.heap.get? b = some o
  le : F.Le F'
  new : ∀ a o, F' a = some o → F a = some o ∨ s.heap.objs.size ≤ a ∨ Hard o
  lf : F' L = none
  size : s.heap.objs.size ≤ s'.heap.objs.size
theorem sorted_walk {A : Around} {l : Addr} {c : Nat} {vs : List Value} {xs : List (List Nat)} {z : Nat → Nat} {Q : Value → Shared → Prop} (T : Tx B) (K : KTx w B) (hA : Le A n) (hn : n ≤ 44) (i : Inv B s) (fi : F.In s.heap) (hns : s.heap.Ns L m) (hLB : B.heap.objs.size ≤ L) (hLF : F L = none)
    (hl : F l = some (lst vs c)) (hv : Are rS F vs xs) (h4 : ∀ x ∈ xs, x.length ≤ 4) (h2 : 2 ≤ xs.length) (h64 : xs.length < 64) (hK : (rKA w.params B.heap.objs.size U142 a).p F (.ref (a.c + 175)))
    (hz' : ∀ i j x y, xs[i]? = some x → xs[j]? = some y → decide (told x y < 0) = decide (z i < z j))
    (hQ : ∀ D p c' F' s', Pm xs.length p → Asc z p xs.length → After B s F L m F' s' → F' D = some (lst (p.toList.map fun i => vs.getD i .none) c') → Q (.ref D) s') :
    W w A (call (.builtin "sorted") [.ref l] [(Str.ofString "key", .ref (a.c + 175))]) Q s := by
  have hlen : vs.length = xs.length := hv.1
  have hsz : vs.length ≤ sizeLine := by rw [hlen, sizeLine_eq]; (lia)
  refine sorted_front ⟨_, (fi _ _ hl).1, rfl, _, rfl⟩ hsz fun H hD hH => ?_
  have hLlt : L < s.heap.objs.size := hns.lt
  obtain ⟨oL, es, ep, eL, dL, rL⟩ := id hns
  refine kat_keyed (h₀ := hz) (L := L) (m := m) (news := alls s.heap L) (n := 0) (fr_of ⟨oL, es, ep, hH _ _ eL, dL, rL⟩) (fun p hp => ?_) hD (Nat.ne_of_gt (Nat.lt_succ_of_lt hLlt)) (hz_none _) (fun p hp => ?_) (by rw [hlen]; exact h2) (by rw [hlen]; exact h64) fun kS e1 h' fr nw lt1 lt2 => ?_
  · have := mem_alls.mp (show (p.1, p.2) ∈ _ from hp)
    exact ⟨hH _ _ this.1, this.2, hz_none _⟩
  · have := mem_alls.mp (show (p.1, p.2) ∈ _ from hp)
    exact Nat.ne_of_lt (Nat.lt_succ_of_lt (Heap.lt_size this.1))
  have kp : ∀ b o, s.heap.get? b = some o → b ≠ L → h'.get? b = some o := fun b o e ne => (nw (b, o) (.tail _ (.tail _ (mem_alls.mpr ⟨e, ne⟩)))).1
  have nk := nw _ (.head _)
  have nd := nw _ (.tail _ (.head _))
  have sft : Sft s.heap h' := fun b o e q => kp b o e (by
    rintro rfl; rw [eL] at e; cases e
    obtain ⟨_, vs, q⟩ := q
    rw [dL] at q; cases q)
  have I : SI B s F L m (s.heap.objs.size + 1) kS (lst [] e1) (lst [] 0) F { s with heap := h' } := {
    inv := ⟨fun b o e q => kp b o (i.keep b o e q) (Nat.ne_of_lt (Nat.lt_of_lt_of_le (Heap.lt_size e) hLB)), Nat.le_trans i.size (Nat.le_trans (Nat.le_succ _) (Nat.le_of_lt (Heap.lt_size nd.1))), i.t1.sft sft fun _ _ q => q.sft sft, i.t2.sft sft fun _ _ ⟨q, y⟩ => ⟨q, y.sft sft⟩, i.t3.sft sft, i.os, i.gens⟩
    fin := fun b o e => ⟨kp b o (fi b o e).1 (by rintro rfl; rw [hLF] at e; cases e), (fi b o e).2⟩
    ns := fr.ns
    keep := fun b o e _ ne => kp b o e ne
    le := Fz.Le.refl _
    new := fun _ _ e => .inl e
    lb := hLB
    lf := hLF
    sb := i.size
    dat := nd.1
    kat := nk.1
    dsoft := ⟨_, _, rfl⟩
    ksoft := ⟨_, _, rfl⟩
    df := Fz.none_of_in fi (Nat.le_succ _)
    kf := Fz.none_of_in fi (Nat.le_of_lt (Nat.lt_trans (Nat.lt_succ_self _) lt1))
    db := Nat.le_succ _
    kb := Nat.le_of_lt (Nat.lt_trans (Nat.lt_succ_self _) lt1)
    dk := Nat.ne_of_lt lt1
    dl := nd.2.1
    kl := nk.2.1 }
  have hA2 : Le A.in1.in1 (n + 2) := hA.in1.in1
  refine keys_walk K hA2 (by (exact Nat.le_trans (Nat.add_le_add_right hn _) (by decide))) vs xs [] [] 0 _ F I hK hv Are.nil fun ks e s₁ F₁ I₁ l₁ hks => ?_
  rw [List.nil_append] at hks
  have hkl : ks.length = xs.length := hks.1
  refine kas_kind (T := .ref (a.c + 175)) (by rw [hkl]; exact h2) (fun v hv => ?_) rfl (by simp) ?_
  · obtain ⟨j, hj⟩ := List.mem_iff_getElem?.mp hv
    have hjl : j < xs.length := by rw [← hkl]; exact (List.getElem?_eq_some_iff.mp hj).1
    obtain ⟨v', hv', _, bx, dx, tx, e', _, gx, _⟩ := hks.get (List.getElem?_eq_getElem hjl)
    rw [hj] at hv'; cases hv'
    subst e'
    intro A Q E s₂ k hq
    exact wpAny_typeOf_ref (k _ _ (I₁.fin _ _ gx).1) hq
  · show (kas_sort vs.length).kasWp _ _ _
    rw [hlen]
    refine Kt.wp (z := z) (N := xs.length) (I := fun s₂ => ∃ F₂, F₁.Le F₂ ∧ SI B s F L m (s.heap.objs.size + 1) kS (lst [] e1) (lst ks e) F₂ s₂) (fun i' j C s₂ hi hj ⟨F₂, l₂, I₂⟩ hC => ?_) (kas_sort xs.length) s₁ (sort_ (by (exact Nat.le_of_lt h2))) ⟨F₁, Fz.Le.refl _, I₁⟩ fun p s₃ ⟨pm, as⟩ ⟨F₃, l₃, I₃⟩ => ?_
    rotate_left
    · obtain ⟨x, hx, px⟩ := hks.get (List.getElem?_eq_getElem hi)
      obtain ⟨y, hy, py⟩ := hks.get (List.getElem?_eq_getElem hj)
      show wpAny (model PG w) A.in1.in1 (keyLt' oneType' (ks.getD i' .none) (ks.getD j .none)) C (fun _ _ => False) s₂
      rw [show ks.getD i' .none = x by simp [List.getD, hx], show ks.getD j .none = y by simp [List.getD, hy]]
      refine ask_lt T hA2 (by (exact Nat.le_trans (Nat.add_le_add_right hn _) (by decide))) I₂.inv I₂.fin (h4 _ (List.getElem_mem hi)) (h4 _ (List.getElem_mem hj)) ((rInst _ _ _ _ _).mono _ _ _ l₂ px) ((rInst _ _ _ _ _).mono _ _ _ l₂ py) fun s₄ F₄ x₄ => ?_
      rw [hz' i' j _ _ (List.getElem?_eq_getElem hi) (List.getElem?_eq_getElem hj)]
      exact hC s₄ ⟨F₄, l₂.trans x₄.le, I₂.ext x₄⟩
    · obtain ⟨g, u, hg⟩ := I₃.updK
      refine KatFin.intro (news := alls s₃.heap L) I₃.fr (news_of _ _) u fun h₅ c₅ fr₅ nw₅ => ?_
      have I₅ := hg h₅ [] c₅ fr₅ nw₅
      obtain ⟨g', u', hg'⟩ := I₅.updD
      refine KasFin.intro (news := alls h₅ L) I₅.fr (news_of _ _) u' fun h₆ c₆ fr₆ nw₆ => ?_
      have I₆ := hg' h₆ (p.toList.map fun i => vs.getD i .none) c₆ fr₆ nw₆
      refine ⟨_, rfl, hQ (s.heap.objs.size + 1) p c₆ (F₃.put (s.heap.objs.size + 1) (lst (p.toList.map fun i => vs.getD i .none) c₆)) _ pm as ⟨I₆.inv, fun b o e => ?_, I₆.ns, I₆.keep, fun b o e => ?_, fun b o e => ?_, ?_, Nat.le_trans I₆.db (Nat.le_of_lt (Heap.lt_size I₆.dat))⟩ (Fz.put_self ..)⟩
      · unfold Fz.put at e
        split at e
        · rename_i q; subst q; cases e; exact ⟨I₆.dat, lst_soft.ntab⟩
        · exact I₆.fin b o e
      · have := I₆.le b o e
        unfold Fz.put
        split
        · rename_i q; subst q
          rw [I₆.df] at this; cases this
        · exact this
      · unfold Fz.put at e
        split at e
        · rename_i q; subst q; exact .inr (.inl (Nat.le_succ _))
        · exact I₆.new b o e
      · unfold Fz.put
        rw [if_neg I₆.dl.symm]; exact I₆.lf
end
end Mine
end

section
open PySem PySem.W PyProof.Rows PySem.Calls
namespace Mine
theorem compTurn_two0 (elt t1 i1 t2 i2 : Expr) (ifs : List Expr) (scope : Scope) (pos : Pos) (it acc : Value) (env : Env) :
    compTurn (.ListComp elt [⟨t1, i1, [], 0⟩, ⟨t2, i2, ifs, 0⟩] scope pos) 0 it acc env = (do
      standAt i1.pos
      match ← pyNext it with
      | none => pure (.done .next)
      | some v =>
        letOwnedTupleGo t1 it v
        assign t1 env v
        let x ← eval i2 env
        standAt i2.pos
        let x ← foldedSetIterable i2 env x
        let _ ← runOwn (.compStart (.ListComp elt [⟨t1, i1, [], 0⟩, ⟨t2, i2, ifs, 0⟩] scope pos) 1 (← holding [x] (pyIter x)) acc env) env
        again (.compLoop (.ListComp elt [⟨t1, i1, [], 0⟩, ⟨t2, i2, ifs, 0⟩] scope pos) 0 it acc env)) := by rfl
theorem compTurn_two1 (elt t1 i1 t2 i2 : Expr) (ifs : List Expr) (scope : Scope) (pos : Pos) (it acc : Value) (env : Env) :
    compTurn (.ListComp elt [⟨t1, i1, [], 0⟩, ⟨t2, i2, ifs, 0⟩] scope pos) 1 it acc env = (do
      standAt i2.pos
      match ← pyNext it with
      | none => pure (.done .next)
      | some v =>
        letOwnedTupleGo t2 it v
        assign t2 env v
        let mut ok := true
        for c in ifs do
          if ok then ok ← isTrue c env (eval c env)
        if ok then
          (do let _ ← call (.builtin "list.append") [acc, ← eval elt env])
        again (.compLoop (.ListComp elt [⟨t1, i1, [], 0⟩, ⟨t2, i2, ifs, 0⟩] scope pos) 1 it acc env)) := by rfl
section
variable {w : World} {A : Around} {R : Result → Shared → Prop} {s : Shared}
theorem code_two1 {elt t1 i1 t2 i2 : Expr} {ifs : List Expr} {scope : Scope} {pos : Pos} {it acc : Value} {env : Env} (I : Nat → Shared → Prop)
    (turn : ∀ n s, I n s → W w A (pyNext it) (fun r s₁ => match r with
      | none => R (.ok .next) s₁
      | some v => W w A (assign t2 env v) (fun _ s₂ =>
          W w A (forIn ifs true fun c r => if r = true then do let ok ← isTrue c env (eval c env); pure (ForInStep.yield ok) else pure (ForInStep.yield r)) (fun ok s₃ =>
            if ok = true then W w A (eval elt env) (fun x s₄ => W w A (call (.builtin "list.append") [acc, x]) (fun _ s₅ => ∃ m, m < n ∧ I m s₅) s₄) s₃
            else ∃ m, m < n ∧ I m s₃) s₂) s₁) s)
    (n : Nat) (h : I n s) (ht : ∀ v, letOwnedTupleGo t2 it v = pure () := by intro _; rfl) :
    codeAny (model PG w) A (.compLoop (.ListComp elt [⟨t1, i1, [], 0⟩, ⟨t2, i2, ifs, 0⟩] scope pos) 1 it acc env) R s := by
  refine codeAny_loop rfl I (fun n s hI => ?_) n h
  show wpAny _ A ((compTurn (.ListComp elt [⟨t1, i1, [], 0⟩, ⟨t2, i2, ifs, 0⟩] scope pos) 1 it acc env).onRaise (fun x => do noteFrame x env; theTreesLotGoes x)) _ _ s
  refine wpAny_noted ?_
  rw [compTurn_two1]
  refine wpAny_bind (wpAny_standAt (wpAny_bind (W.toE ((turn n s hI).mono fun r s₁ h₁ => ?_))))
  cases r with
  | none => exact wpAny_pure h₁
  | some v =>
    refine wpAny_bind (wpAny_of_eq (ht v) ?_)
    refine wpAny_bind (W.toE (W.mono h₁ fun _ s₂ h₂ => wpAny_bind (W.toE (W.mono h₂ fun ok s₃ h₃ => ?_))))
    cases ok with
    | false => exact wpAny_pure ⟨rfl, h₃⟩
    | true =>
      exact wpAny_bind (wpAny_bind (W.toE (W.mono h₃ fun x s₄ h₄ => wpAny_bind (W.toE (W.mono h₄ fun _ s₅ h₅ => wpAny_pure (wpAny_pure ⟨rfl, h₅⟩))))))
theorem code_two0 {elt t1 i1 t2 i2 : Expr} {ifs : List Expr} {scope : Scope} {pos : Pos} {it acc : Value} {env : Env} (I : Nat → Shared → Prop)
    (turn : ∀ n s, I n s → W w A (pyNext it) (fun r s₁ => match r with
      | none => R (.ok .next) s₁
      | some v => W w A (assign t1 env v) (fun _ s₂ => W w A (eval i2 env) (fun x s₃ => W w A (pyIter x) (fun it' s₄ =>
          codeAny (model PG w) (A.mark none) (.compStart (.ListComp elt [⟨t1, i1, [], 0⟩, ⟨t2, i2, ifs, 0⟩] scope pos) 1 it' acc env) (fun r s₅ => r = .ok .next ∧ ∃ m, m < n ∧ I m s₅) s₄) s₃) s₂) s₁) s)
    (n : Nat) (h : I n s) (ht : ∀ v, letOwnedTupleGo t1 it v = pure () := by intro _; rfl) (hs : ∀ x, foldedSetIterable i2 env x = pure x := by intro _; rfl) :
    codeAny (model PG w) A (.compLoop (.ListComp elt [⟨t1, i1, [], 0⟩, ⟨t2, i2, ifs, 0⟩] scope pos) 0 it acc env) R s := by
  refine codeAny_loop rfl I (fun n s hI => ?_) n h
  show wpAny _ A ((compTurn (.ListComp elt [⟨t1, i1, [], 0⟩, ⟨t2, i2, ifs, 0⟩] scope pos) 0 it acc env).onRaise (fun x => do noteFrame x env; theTreesLotGoes x)) _ _ s
  refine wpAny_noted ?_
  rw [compTurn_two0]
  refine wpAny_bind (wpAny_standAt (wpAny_bind (W.toE ((turn n s hI).mono fun r s₁ h₁ => ?_))))
  cases r with
  | none => exact wpAny_pure h₁
  | some v =>
    refine wpAny_bind (wpAny_of_eq (ht v) ?_)
    refine wpAny_bind (W.toE (W.mono h₁ fun _ s₂ h₂ => ?_))
    refine wpAny_bind (W.toE (W.mono h₂ fun x s₃ h₃ => wpAny_bind (wpAny_standAt (wpAny_bind (wpAny_of_eq (hs x) (wpAny_bind (wpAny_holding (W.toE (W.mono h₃ fun it' s₄ h₄ => ?_)))))))))
    refine wpAny_bind (wpAny_runOwn ?_)
    refine codeAny_mono h₄ fun r s₅ ⟨e, hm⟩ => ?_
    subst e
    exact wpAny_pure ⟨rfl, hm⟩
end
end Mine
end

section
open PySem PySem.W PyProof.Rows PySem.Calls
namespace Mine
section
variable {w : World} {B : Shared} {n : Nat}
theorem code_start1 {A : Around} {R : Result → Shared → Prop} {s : Shared} {elt t1 i1 t2 i2 : Expr} {ifs : List Expr} {scope : Scope} {pos : Pos} {it acc : Value} {env : Env}
    (h0 : codeAny (model PG w) A (.compLoop (.ListComp elt [⟨t1, i1, [], 0⟩, ⟨t2, i2, ifs, 0⟩] scope pos) 1 it acc env) R s)
    (h : W w A (pyIter it) (fun it' s' => codeAny (model PG w) A (.compLoop (.ListComp elt [⟨t1, i1, [], 0⟩, ⟨t2, i2, ifs, 0⟩] scope pos) 1 it' acc env) R s') s) :
    codeAny (model PG w) A (.compStart (.ListComp elt [⟨t1, i1, [], 0⟩, ⟨t2, i2, ifs, 0⟩] scope pos) 1 it acc env) R s := by
  refine codeAny_of_tree ?_
  show wpAny _ _ ((compStart (.ListComp elt [⟨t1, i1, [], 0⟩, ⟨t2, i2, ifs, 0⟩] scope pos) 1 it acc env).onRaise (fun x => do noteFrame x env; standAt theWindowsPlace)) _ _ s
  refine wpAny_notedAt ?_
  unfold compStart
  show wpAny _ _ (ask >>= _) _ _ s
  refine wpAny_bind (wpAny_askSetting (wpAny_ite ?_))
  split
  · first
      | exact wpAny_bind (wpAny_pure (wpAny_pure (And.intro rfl h0)))
      | exact wpAny_pure (And.intro rfl h0)
  · first
      | exact wpAny_bind (wpAny_rule (wpAny_bind (wpAny_standAt (wpAny_bind (W.toE (h.mono fun it' s' h' => wpAny_pure (And.intro rfl h')))))))
      | (refine wpAny_bind (wpAny_rule ?_); show wpAny _ _ (standAt i2.pos >>= _) _ _ s; exact wpAny_bind (wpAny_standAt (wpAny_bind (W.toE (h.mono fun it' s' h' => wpAny_pure (And.intro rfl h'))))))
theorem comp2_in {β γ : Type} {elt t1 i1 i2 : Expr} {y : Str} {py : Pos} {ifs : List Expr} {scope : Scope} {pos : Pos} {cenv : Env} {cap : Vars} {bs : List β} {f2 : β → Rp} {hh : γ → Rp} {g : β → γ} {p : β → Bool} {A : Around} {s₀ s : Shared} {F₀ F : Fz} {I D J : Addr} {oJ : Obj} {fp : List Addr} {Sn : Nat → Heap → Prop} {m : Nat} {zs0 : List γ} {ys0 : List Value} {R : Result → Shared → Prop}
    (hA : Le A n) (r : Rn B s₀ F₀ cenv cap F s) (S : Src w I fp F (bs.map f2) Sn) (st : Sn 0 s.heap) (hI : s₀.heap.objs.size ≤ I) (hBI : B.heap.objs.size ≤ I) (hFI : F I = none) (pD : Soft B F s D (lst ys0 m)) (are0 : Are hh F ys0 zs0) (hD : s₀.heap.objs.size ≤ D) (pJ : Soft B F s J oJ) (hJI : J ≠ I) (hJD : J ≠ D)
    (hz : zs0.length + bs.length ≤ sizeLine) (hx : Own cenv s₀.heap.objs.size y) (hcx : ∀ p ∈ cap, p.1 ≠ y)
    (ht : ∀ b ∈ bs, Tests w B n cenv ((y, f2 b) :: cap) ifs (p b)) (he : ∀ b ∈ bs, p b = true → Ev w B n cenv ((y, f2 b) :: cap) elt (hh (g b)))
    (hR : ∀ s' F' ys m', F.Le F' → Rn B s₀ F₀ cenv cap F' s' → Soft B F' s' D (lst ys m') → Soft B F' s' J oJ → Are hh F' ys (zs0 ++ (bs.filter p).map g) → R (.ok .next) s') :
    WC w A (.compLoop (.ListComp elt [⟨t1, i1, [], 0⟩, ⟨.Name y py, i2, ifs, 0⟩] scope pos) 1 (.ref I) (.ref D) cenv) R s := by
  refine code_two1 (fun k s' => ∃ F' i ys m', k = bs.length + 1 - i ∧ i ≤ bs.length ∧ F.Le F' ∧ F' I = none ∧ Rn B s₀ F₀ cenv cap F' s' ∧ Soft B F' s' D (lst ys m') ∧ Soft B F' s' J oJ ∧ Sn i s'.heap ∧ Are hh F' ys (zs0 ++ ((bs.take i).filter p).map g)) ?_ (bs.length + 1)
    ⟨F, 0, ys0, m, rfl, Nat.zero_le _, Fz.Le.refl _, hFI, r, pD, pJ, st, by simpa using are0⟩
  rintro k s₁ ⟨F₁, i, ys, m₁, rfl, hi, l₁, hFI₁, r₁, p₁, j₁, st₁, are₁⟩
  by_cases hlt : i < bs.length
  · have hget : bs[i]? = some bs[i] := List.getElem?_eq_getElem hlt
    have hmem : bs[i] ∈ bs := List.getElem_mem hlt
    generalize bs[i] = a at hget hmem
    refine next_item hA r₁ S l₁ st₁ (by rw [List.getElem?_map, hget]; rfl) hI hBI hFI₁ fun v s₂ r₂ st₂ hv k₂ => ?_
    obtain ⟨oI, vs, eI, dI, qI⟩ := S.obj _ _ st₁
    have neD : D ≠ I := ne_of_get p₁.at_ eI (by rw [dI]; intro e; cases e)
    have p₂ : Soft B F₁ s₂ D (lst ys m₁) := ⟨k₂ _ _ neD p₁.at_, p₁.soft, p₁.dict, p₁.cell, p₁.base, p₁.out⟩
    have j₂ : Soft B F₁ s₂ J oJ := ⟨k₂ _ _ hJI j₁.at_, j₁.soft, j₁.dict, j₁.cell, j₁.base, j₁.out⟩
    refine (wpAny_assign_Name (store' (vars' := cap) r₂ hv hx (fun q hq => ⟨hq, hcx q hq⟩) fun s₃ r₃ k₃ => ?_))
    have st₃ : Sn (i + 1) s₃.heap := by
      obtain ⟨o, vs, e, d, q⟩ := S.obj _ _ st₂
      exact S.keep st₂ (fun a o e => r₂.st.fin a o (l₁ a o e)) (fun a o e => r₃.st.fin a o (l₁ a o e)) fun o' e' => k₃ _ _ e' (by rw [e] at e'; cases e'; rw [d]; intro _ _ h; cases h) (by rw [e] at e'; cases e'; rw [d]; intro _ h; cases h)
    have p₃ := p₂.keep k₃
    have j₃ := j₂.keep k₃
    refine ((((ht a hmem).go A s₃ F₁ hA r₃.st)).mono fun ok s₄ ⟨eok, F₄, x₄⟩ => ?_)
    subst eok
    have r₄ := (r₃.of_ext x₄)
    have st₄ := S.keeps st₃ l₁ r₃.st.fin x₄
    have p₄ := p₃.ext x₄
    have j₄ := j₃.ext x₄
    have hFI₄ : F₄ I = none := by
      obtain ⟨o, vs, e, d, q⟩ := S.obj _ _ st₃
      exact x₄.noneAt e q hFI₁
    have htake : (bs.take (i + 1)).filter p = (bs.take i).filter p ++ (if p a then [a] else []) := take_succ_filter p bs i a hget
    cases hp : p a with
    | false =>
      simp only [Bool.false_eq_true, if_false]
      refine ⟨bs.length + 1 - (i + 1), turn_lt hlt, F₄, i + 1, ys, m₁, rfl, hlt, l₁.trans x₄.le, hFI₄, ⟨r₄.st.sub fun q hq => .tail _ hq, r₄.ext⟩, p₄, j₄, st₄, ?_⟩
      rw [htake, hp]
      simpa using are₁.mono x₄.le
    | true =>
      simp only [if_true]
      refine (((he a hmem hp).go A s₄ F₄ hA r₄.st).mono fun y s₅ ⟨F₅, x₅, py⟩ => ?_)
      have r₅ := r₄.of_ext x₅
      have st₅ := S.keeps st₄ (l₁.trans x₄.le) r₄.st.fin x₅
      have p₅ := p₄.ext x₅
      have j₅ := j₄.ext x₅
      have hFI₅ : F₅ I = none := by
        obtain ⟨o, vs, e, d, q⟩ := S.obj _ _ st₄
        exact x₅.noneAt e q hFI₄
      have hlen : ys.length ≤ sizeLine := by
        have e1 := are₁.1
        rw [List.length_append, List.length_map] at e1
        have e2 : ((bs.take i).filter p).length ≤ (bs.take i).length := List.length_filter_le _ _
        have e3 : (bs.take i).length ≤ bs.length := by rw [List.length_take]; (lia)
        (lia)
      refine (push_list r₅ p₅ hD hlen fun s₆ m₆ r₆ p₆ k₆ => ?_)
      refine ⟨bs.length + 1 - (i + 1), turn_lt hlt, F₅, i + 1, ys ++ [y], m₆, rfl, hlt, (l₁.trans x₄.le).trans x₅.le, hFI₅, ⟨r₆.st.sub fun q hq => .tail _ hq, r₆.ext⟩, p₆, ⟨k₆ _ _ hJD j₅.at_, j₅.soft, j₅.dict, j₅.cell, j₅.base, j₅.out⟩, ?_, ?_⟩
      · exact S.keep st₅ (fun a o e => x₅.fin a o (x₅.le _ _ (x₄.le _ _ (l₁ a o e)))) (fun a o e => r₆.st.fin a o (x₅.le _ _ (x₄.le _ _ (l₁ a o e)))) fun o e => k₆ _ _ (Ne.symm neD) e
      · rw [htake, hp]
        simpa using (are₁.mono (x₄.le.trans x₅.le)).append (Are.cons py Are.nil)
  · have hin : i = bs.length := by (lia)
    subst hin
    refine (next_done hA r₁ S l₁ (by simpa using st₁) hI hBI hFI₁ fun s₂ r₂ k₂ => ?_)
    obtain ⟨oI, vs, eI, dI, qI⟩ := S.obj _ _ st₁
    have neD : D ≠ I := ne_of_get p₁.at_ eI (by rw [dI]; intro e; cases e)
    rw [List.take_length] at are₁
    exact hR s₂ F₁ ys m₁ l₁ r₂ ⟨k₂ _ _ neD p₁.at_, p₁.soft, p₁.dict, p₁.cell, p₁.base, p₁.out⟩ ⟨k₂ _ _ hJI j₁.at_, j₁.soft, j₁.dict, j₁.cell, j₁.base, j₁.out⟩ are₁
end
end Mine
end

section
open PySem PySem.W PyProof.Rows PySem.Calls
namespace Mine
/-- what a comprehension of two clauses gives -/
noncomputable def flat2 {α β γ : Type} (yss : α → List β) (p : α → β → Bool) (gg : α → β → γ) (xs : List α) : List γ := xs.flatMap fun a => ((yss a).filter (p a)).map (gg a)
theorem flat2_len {α β γ : Type} {yss : α → List β} {p : α → β → Bool} {gg : α → β → γ} {M : Nat} : ∀ {xs : List α}, (∀ a ∈ xs, (yss a).length ≤ M) → (flat2 yss p gg xs).length ≤ xs.length * M
  | [], _ => by simp [flat2]
  | a :: xs, h => by
    have ih := flat2_len (p := p) (gg := gg) (xs := xs) fun b hb => h b (.tail _ hb)
    have h1 := h a (.head _)
    have h2 : ((yss a).filter (p a)).length ≤ (yss a).length := List.length_filter_le _ _
    have e : (flat2 yss p gg (a :: xs)).length = ((yss a).filter (p a)).length + (flat2 yss p gg xs).length := by simp [flat2]
    rw [e, List.length_cons, Nat.succ_mul]; (lia)
theorem flat2_snoc {α β γ : Type} {yss : α → List β} {p : α → β → Bool} {gg : α → β → γ} {xs : List α} {a : α} : flat2 yss p gg (xs ++ [a]) = flat2 yss p gg xs ++ ((yss a).filter (p a)).map (gg a) := by simp [flat2]
section
variable {w : World} {B : Shared} {n : Nat}
theorem comp2_out {α β γ : Type} {elt i1 i2 : Expr} {x y : Str} {px py : Pos} {ifs : List Expr} {scope : Scope} {pos : Pos} {cenv : Env} {cap : Vars} {xs : List α} {f1 : α → Rp} {yss : α → List β} {f2 : β → Rp} {rI2 : α → Rp} {hh : γ → Rp} {gg : α → β → γ} {p : α → β → Bool} {M : Nat} {A : Around} {s₀ s : Shared} {F₀ F : Fz} {I D : Addr} {fp : List Addr} {Sn : Nat → Heap → Prop} {m : Nat} {R : Result → Shared → Prop}
    (hA : Le A n) (r : Rn B s₀ F₀ cenv cap F s) (S : Src w I fp F (xs.map f1) Sn) (st : Sn 0 s.heap) (hI : s₀.heap.objs.size ≤ I) (hBI : B.heap.objs.size ≤ I) (hFI : F I = none) (pD : Soft B F s D (lst [] m)) (hD : s₀.heap.objs.size ≤ D)
    (hM : ∀ a ∈ xs, (yss a).length ≤ M) (hz : (xs.length + 1) * M ≤ sizeLine) (hx : Own cenv s₀.heap.objs.size x) (hy : Own cenv s₀.heap.objs.size y) (hcx : ∀ q ∈ cap, q.1 ≠ x ∧ q.1 ≠ y) (hxy : x ≠ y)
    (hi2 : ∀ a ∈ xs, Ev w B n cenv ((x, f1 a) :: cap) i2 (rI2 a)) (it2 : ∀ a ∈ xs, Iterable w B n (rI2 a) ((yss a).map f2))
    (ht : ∀ a ∈ xs, ∀ b ∈ yss a, Tests w B n cenv ((y, f2 b) :: (x, f1 a) :: cap) ifs (p a b)) (he : ∀ a ∈ xs, ∀ b ∈ yss a, p a b = true → Ev w B n cenv ((y, f2 b) :: (x, f1 a) :: cap) elt (hh (gg a b)))
    (hR : ∀ s' F' ys m', Rn B s₀ F₀ cenv cap F' s' → Soft B F' s' D (lst ys m') → Are hh F' ys (flat2 yss p gg xs) → R (.ok .next) s') (hs : ∀ x, foldedSetIterable i2 cenv x = pure x := by intro _; rfl) :
    WC w A (.compLoop (.ListComp elt [⟨.Name x px, i1, [], 0⟩, ⟨.Name y py, i2, ifs, 0⟩] scope pos) 0 (.ref I) (.ref D) cenv) R s := by
  refine code_two0 (fun k s' => ∃ F' i ys m', k = xs.length + 1 - i ∧ i ≤ xs.length ∧ F.Le F' ∧ F' I = none ∧ Rn B s₀ F₀ cenv cap F' s' ∧ Soft B F' s' D (lst ys m') ∧ Sn i s'.heap ∧ Are hh F' ys (flat2 yss p gg (xs.take i))) ?_ (xs.length + 1)
    ⟨F, 0, [], m, rfl, Nat.zero_le _, Fz.Le.refl _, hFI, r, pD, st, by simpa [flat2] using Are.nil⟩ (hs := hs)
  rintro k s₁ ⟨F₁, i, ys, m₁, rfl, hi, l₁, hFI₁, r₁, p₁, st₁, are₁⟩
  by_cases hlt : i < xs.length
  · have hget : xs[i]? = some xs[i] := List.getElem?_eq_getElem hlt
    have hmem : xs[i] ∈ xs := List.getElem_mem hlt
    have htk : xs.take (i + 1) = xs.take i ++ [xs[i]] := by rw [List.take_add_one, hget]; rfl
    generalize xs[i] = a at hget hmem htk
    refine next_item hA r₁ S l₁ st₁ (by rw [List.getElem?_map, hget]; rfl) hI hBI hFI₁ fun v s₂ r₂ st₂ hv k₂ => ?_
    obtain ⟨oI, vs, eI, dI, qI⟩ := S.obj _ _ st₁
    have neD : D ≠ I := ne_of_get p₁.at_ eI (by rw [dI]; intro e; cases e)
    have p₂ : Soft B F₁ s₂ D (lst ys m₁) := ⟨k₂ _ _ neD p₁.at_, p₁.soft, p₁.dict, p₁.cell, p₁.base, p₁.out⟩
    refine (wpAny_assign_Name (store' (vars' := cap) r₂ hv hx (fun q hq => ⟨hq, (hcx q hq).1⟩) fun s₃ r₃ k₃ => ?_))
    have st₃ : Sn (i + 1) s₃.heap := by
      obtain ⟨o, vs, e, d, q⟩ := S.obj _ _ st₂
      exact S.keep st₂ (fun a o e => r₂.st.fin a o (l₁ a o e)) (fun a o e => r₃.st.fin a o (l₁ a o e)) fun o' e' => k₃ _ _ e' (by rw [e] at e'; cases e'; rw [d]; intro _ _ h; cases h) (by rw [e] at e'; cases e'; rw [d]; intro _ h; cases h)
    have p₃ := p₂.keep k₃
    refine ((hi2 a hmem).go A s₃ F₁ hA r₃.st).mono fun xv s₄ ⟨F₄, x₄, pv⟩ => ?_
    have r₄ := r₃.of_ext x₄
    have st₄ := S.keeps st₃ l₁ r₃.st.fin x₄
    have p₄ := p₃.ext x₄
    obtain ⟨oJ, vJ, eJ, dJ, qJ⟩ := S.obj _ _ st₄
    have hFI₄ : F₄ I = none := by
      obtain ⟨o, vs, e, d, q⟩ := S.obj _ _ st₃
      exact x₄.noneAt e q hFI₁
    have j₄ : Soft B F₄ s₄ I oJ := Soft.fields eJ dJ qJ hBI hFI₄
    refine ((it2 a hmem).go A s₄ F₄ xv hA r₄.st.inv r₄.st.fin pv).mono fun itv s₅ ⟨o, fp2, Sn2, ofr, eit, es, src2, st2⟩ => ?_
    subst eit
    have x₅ : Ext B s₄ F₄ s₅ F₄ := by rw [es]; exact Ext.push r₄.st.inv r₄.st.fin o
    have r₅ := r₄.of_ext x₅
    have p₅ := p₄.ext x₅
    have j₅ := j₄.ext x₅
    have FJ : F₄ s₄.heap.objs.size = none := Fz.none_of_in r₄.st.fin (Nat.le_refl _)
    have loop : WC w (A.mark none) (.compLoop (.ListComp elt [⟨.Name x px, i1, [], 0⟩, ⟨.Name y py, i2, ifs, 0⟩] scope pos) 1 (.ref s₄.heap.objs.size) (.ref D) cenv) (fun r s₆ => r = .ok .next ∧ ∃ m', m' < xs.length + 1 - i ∧ ∃ F' i' ys m'', m' = xs.length + 1 - i' ∧ i' ≤ xs.length ∧ F.Le F' ∧ F' I = none ∧ Rn B s₀ F₀ cenv cap F' s₆ ∧ Soft B F' s₆ D (lst ys m'') ∧ Sn i' s₆.heap ∧ Are hh F' ys (flat2 yss p gg (xs.take i'))) s₅ := by
      have hlen : (flat2 yss p gg (xs.take i)).length ≤ (xs.take i).length * M := flat2_len fun b hb => hM b (List.mem_of_mem_take hb)
      have ht1 : (xs.take i).length * M ≤ xs.length * M := Nat.mul_le_mul_right _ (by rw [List.length_take]; (lia))
      have ha := hM a hmem
      refine comp2_in (fp := fp2) (Sn := Sn2) hA.mark r₅ src2 st2 (Nat.le_trans r₃.ext.size x₄.size) (Nat.le_trans r₃.st.inv.size x₄.size) FJ p₅ (are₁.mono x₄.le) hD j₅ (Nat.ne_of_lt (Heap.lt_size eJ)) neD.symm ?_ hy (fun q hq => ?_) (ht a hmem) (he a hmem) fun s₆ F₆ ys₆ m₆ l₆ r₆ p₆ j₆ are₆ => ?_
      · rw [Nat.succ_mul] at hz; (lia)
      · rcases List.mem_cons.mp hq with rfl | hq
        · exact hxy
        · exact (hcx q hq).2
      · refine ⟨rfl, xs.length + 1 - (i + 1), turn_lt hlt, F₆, i + 1, ys₆, m₆, rfl, hlt, (l₁.trans x₄.le).trans l₆, j₆.out, ⟨r₆.st.sub fun q hq => .tail _ hq, r₆.ext⟩, p₆, ?_, ?_⟩
        · have lF : F.Le F₄ := l₁.trans x₄.le
          have st₅ := S.keeps st₄ lF r₄.st.fin x₅
          exact S.keep st₅ (fun a o e => x₅.fin a o (lF a o e)) (fun a o e => r₆.st.fin a o (l₆ a o (lF a o e))) fun o' e' => by rw [j₅.at_] at e'; cases e'; exact j₆.at_
        · rw [htk, flat2_snoc]; exact are₆
    exact code_start1 loop (W.toE ((src2.walks (A.mark none) hA.mark.handled).self 0 s₅ _ _ st2 loop))
  · have hin : i = xs.length := by (lia)
    subst hin
    refine (next_done hA r₁ S l₁ (by simpa using st₁) hI hBI hFI₁ fun s₂ r₂ k₂ => ?_)
    obtain ⟨oI, vs, eI, dI, qI⟩ := S.obj _ _ st₁
    have neD : D ≠ I := ne_of_get p₁.at_ eI (by rw [dI]; intro e; cases e)
    rw [List.take_length] at are₁
    exact hR s₂ F₁ ys m₁ r₂ ⟨k₂ _ _ neD p₁.at_, p₁.soft, p₁.dict, p₁.cell, p₁.base, p₁.out⟩ are₁
end
end Mine
end

section
open PySem PySem.W PyProof.Rows PySem.Calls
namespace Mine
section
variable {w : World} {B : Shared} {n : Nat} {env : Env} {vars : Vars}
/-- what the block wants of its parts -/
structure Parts2 {α β γ : Type} (w : World) (B : Shared) (n : Nat) (cenv : Env) (cap : Vars) (elt i2 : Expr) (x y : Str) (ifs : List Expr) (xs : List α) (f1 : α → Rp) (yss : α → List β) (f2 : β → Rp) (rI2 : α → Rp) (hh : γ → Rp) (gg : α → β → γ) (p : α → β → Bool) : Prop where
  i2 : ∀ a ∈ xs, Ev w B n cenv ((x, f1 a) :: cap) i2 (rI2 a)
  it : ∀ a ∈ xs, Iterable w B n (rI2 a) ((yss a).map f2)
  ts : ∀ a ∈ xs, ∀ b ∈ yss a, Tests w B n cenv ((y, f2 b) :: (x, f1 a) :: cap) ifs (p a b)
  el : ∀ a ∈ xs, ∀ b ∈ yss a, p a b = true → Ev w B n cenv ((y, f2 b) :: (x, f1 a) :: cap) elt (hh (gg a b))
theorem comp_block2 {α β γ : Type} {elt i1 i2 : Expr} {x y : Str} {px py : Pos} {ifs : List Expr} {scope : Scope} {pos : Pos} {cap : Vars} {xs : List α} {f1 : α → Rp} {yss : α → List β} {f2 : β → Rp} {rI2 : α → Rp} {hh : γ → Rp} {gg : α → β → γ} {p : α → β → Bool} {M : Nat} {A : Around} {s s₁ : Shared} {F₀ F : Fz} {rI : Rp} {xv : Value} {cl : List (Str × Addr)} {RR : Value → Addr → Result → Shared → Prop}
    (hA : Le A n) (S : St B env vars F₀ s) (x₁ : Ext B s F₀ s₁ F) (it : Iterable w B n rI (xs.map f1)) (hv : rI.p F xv) (ok : scOk scope = true) (hf : frees scope = cap.map (·.1)) (hc : Cap env vars cap) (hcl : closureFor scope env = pure cl)
    (hM : ∀ a ∈ xs, (yss a).length ≤ M) (hz : (xs.length + 1) * M ≤ sizeLine) (hxl : scope.names.lookup x = some .local ∨ scope.names.lookup x = some .cell) (hyl : scope.names.lookup y = some .local ∨ scope.names.lookup y = some .cell) (hxy : x ≠ y)
    (hb : ∀ N cenv, FE scope N cenv → Parts2 w B n cenv cap elt i2 x y ifs xs f1 yss f2 rI2 hh gg p) (hs : ∀ cenv x, foldedSetIterable i2 cenv x = pure x)
    (hR : ∀ D C s' F', Ext B s₁ F s' F' → (rList hh (flat2 yss p gg xs)).p F' (.ref D) → (∃ m, s'.heap.Ns C m) → F' C = none → s₁.heap.objs.size ≤ C → B.heap.objs.size ≤ C → RR (.ref D) C (.ok .next) s') :
    W w A (pyIter xv) (fun it s₂ => W w A (newList []) (fun acc s₃ => W w A (newFunctionEnv scope env.globals cl [] env.qual none .none (some env)) (fun cenv s₄ =>
      WC w A (.compStart (.ListComp elt [⟨.Name x px, i1, [], 0⟩, ⟨.Name y py, i2, ifs, 0⟩] scope pos) 0 it acc { cenv with scope := relabel scope env }) (RR acc cenv.locals) s₄) s₃) s₂) s₁ := by
  have S₁ := S.ext x₁
  refine (it.go A s₁ F xv hA S₁.inv S₁.fin hv).mono fun itv s₂ ⟨o, fp, Sn, ofr, eit, es, src, st⟩ => ?_
  subst eit
  have hI₂ : s₂.heap.objs.size = s₁.heap.objs.size + 1 := by rw [es]; simp
  have x₂ : Ext B s₁ F s₂ F := by rw [es]; exact Ext.push S₁.inv S₁.fin o
  refine wpAny_newObj_type ?_
  generalize hs₃ : ({ s₂ with heap := s₂.heap.push { cls := .type "list", dict := none, data := .seq ([] : List Value).toArray } } : Shared) = s₃
  have x₃ : Ext B s₂ F s₃ F := by rw [← hs₃]; exact Ext.push x₂.inv x₂.fin _
  have x₁₃ := x₂.trans x₃
  obtain ⟨cl', e', en⟩ := enter (w := w) (A := A) S (x₁.trans x₁₃) ok hf hc
  have ecl : cl = cl' := by rw [hcl] at e'; injection e'
  subst ecl
  refine en fun s₄ r => ?_
  show WC w A (.compStart _ 0 _ _ { newEnv scope s₃.heap.objs.size mainGlobals (cellsFrom (s₃.heap.objs.size + 1) scope.names cl) env.qual none .none (some env) 0 with scope := relabel scope env }) (RR _ s₃.heap.objs.size) s₄
  rw [cenv_eq S.eok.gl]
  have fe := cenv_fe (env := env) (scope := scope) (cl := cl) (N := s₃.heap.objs.size)
  have P := hb _ _ fe
  have getD : s₃.heap.get? s₂.heap.objs.size = some (lst [] 0) := by rw [← hs₃]; exact Heap.get?_push_size _ rfl
  have sD : s₃.heap.objs.size = s₂.heap.objs.size + 1 := by rw [← hs₃]; simp
  have FN : ∀ a, s₁.heap.objs.size ≤ a → F a = none := fun a ha => Fz.none_of_in S₁.fin ha
  have bs : B.heap.objs.size ≤ s₁.heap.objs.size := S₁.inv.size
  have p₃ : Soft B F s₃ s₂.heap.objs.size (lst [] 0) := Soft.lst getD (by (lia)) (FN _ (by (lia)))
  have r' : Rn B s₁ F (cenvOf scope cl s₃.heap.objs.size env) cap F s₄ := r.rebase x₁₃
  have st₄ : Sn 0 s₄.heap := src.keeps st (Fz.Le.refl _) x₂.fin (x₃.trans r.ext)
  have ownx : ∀ z, scope.names.lookup z = some .local ∨ scope.names.lookup z = some .cell → Own (cenvOf scope cl s₃.heap.objs.size env) s₁.heap.objs.size z := fun z hz => by
    rcases fe.own z hz with ⟨a, b⟩ | ⟨a, c, b, d⟩
    · exact .inl ⟨a, by show s₁.heap.objs.size ≤ _; (lia)⟩
    · exact .inr ⟨a, c, b, Nat.le_trans (by (lia)) d⟩
  have off : ∀ z, scope.names.lookup z = some .local ∨ scope.names.lookup z = some .cell → ∀ q ∈ cap, q.1 ≠ z := fun z hxl q hq e => by
    simp only [scOk, Bool.and_eq_true, beq_iff_eq, decide_eq_true_eq] at ok
    have : q.1 ∈ frees scope := by rw [hf]; exact List.mem_map.mpr ⟨q, hq, rfl⟩
    unfold frees at this
    obtain ⟨u, hu, ez⟩ := List.mem_map.mp this
    obtain ⟨hz1, hz2⟩ := List.mem_filter.mp hu
    have := nodup_lookup ok.2 (show (z, u.2) ∈ scope.names from by rw [← e, ← ez]; exact hz1)
    have k2 : u.2 = .free := by simpa using hz2
    rw [k2] at this
    rcases hxl with h | h <;> (rw [h] at this; cases this)
  have loop : WC w A (.compLoop (.ListComp elt [⟨.Name x px, i1, [], 0⟩, ⟨.Name y py, i2, ifs, 0⟩] scope pos) 0 (.ref s₁.heap.objs.size) (.ref s₂.heap.objs.size) (cenvOf scope cl s₃.heap.objs.size env)) (RR (.ref s₂.heap.objs.size) s₃.heap.objs.size) s₄ := by
    refine comp2_out hA r' src st₄ (Nat.le_refl _) bs (FN _ (Nat.le_refl _)) (p₃.ext r.ext) (by (lia)) hM hz (ownx x hxl) (ownx y hyl) (fun q hq => ⟨off x hxl q hq, off y hyl q hq⟩) hxy P.i2 P.it P.ts P.el (fun s' F' ys m' R' pD are => ?_) (hs _)
    have fz := R'.ext.freeze (a := s₂.heap.objs.size) (by (lia)) pD.at_ pD.out
    have hl := R'.st.eok.loc
    have hlF := R'.st.eok.locF
    have ne : (s₃.heap.objs.size : Addr) ≠ s₂.heap.objs.size := by rw [sD]; exact Nat.succ_ne_self _
    refine hR _ _ s' _ fz ⟨_, ys, m', rfl, Fz.put_self .., are.mono (Fz.le_put pD.out)⟩ hl ?_ (by (lia)) (by (lia))
    show (if _ then _ else _) = none
    rw [if_neg ne]; exact hlF
  exact codeAny_compStart_list loop (W.toE ((src.walks A hA.handled).self 0 s₄ _ _ st₄ loop))
theorem Ev.comp2 {α β γ : Type} {elt i1 i2 : Expr} {x y : Str} {px py : Pos} {ifs : List Expr} {scope : Scope} {pos : Pos} {xs : List α} {f1 : α → Rp} {yss : α → List β} {f2 : β → Rp} {rI2 : α → Rp} {hh : γ → Rp} {gg : α → β → γ} {p : α → β → Bool} {M : Nat} {rI : Rp} (cap : Vars)
    (hi : Ev w B n env vars i1 rI) (it : Iterable w B n rI (xs.map f1)) (hM : ∀ a ∈ xs, (yss a).length ≤ M) (hz : (xs.length + 1) * M ≤ sizeLine) (hc : Cap env vars cap)
    (hb : ∀ N cenv, FE scope N cenv → Parts2 w B n cenv cap elt i2 x y ifs xs f1 yss f2 rI2 hh gg p) (ok : scOk scope = true := by decide +kernel) (hf : frees scope = cap.map (·.1) := by kernel_rfl)
    (hxl : scope.names.lookup x = some .local ∨ scope.names.lookup x = some .cell := by decide +kernel) (hyl : scope.names.lookup y = some .local ∨ scope.names.lookup y = some .cell := by decide +kernel) (hxy : x ≠ y := by decide)
    (hs : ∀ x, foldedSetIterable i1 env x = pure x := by intro _; rfl) (hs2 : ∀ cenv x, foldedSetIterable i2 cenv x = pure x := by intro _ _; rfl) : Ev w B n env vars (.ListComp elt [⟨.Name x px, i1, [], 0⟩, ⟨.Name y py, i2, ifs, 0⟩] scope pos) (rList hh (flat2 yss p gg xs)) := .mk fun A s F hA S => by
  rw [eval_ListComp]
  have okk := ok
  simp only [scOk, Bool.and_eq_true, beq_iff_eq, decide_eq_true_eq] at okk
  obtain ⟨cl, ecl, _⟩ := enter (w := w) (A := A) S (Ext.refl S.inv S.fin) ok hf hc
  refine wpAny_comprehension_free (use := Option.none) rfl hs ecl okk.1 (fun y hy e => e ▸ nodup_lookup okk.2 hy) ((hi.go A s F hA S).mono fun xv s₁ ⟨F₁, x₁, hv⟩ => ?_)
  refine comp_block2 (RR := fun acc C => compPost (model PG w) A _ Option.none _ acc C) hA S x₁ it hv ok hf hc ecl hM hz hxl hyl hxy hb hs2 fun D C s' F' x' hr ⟨m, hm⟩ hC hC1 hC2 => ⟨m, hm, fun h' hs' => ?_⟩
  obtain ⟨o, es, ep, e, d, _⟩ := id hm
  refine ⟨F', ?_, hr⟩
  exact (x₁.trans x').same hs' e (soft_of fun _ q => by rw [d] at q; cases q) hC2 (Nat.le_trans x₁.size hC1) hC _
end
end Mine
end

section
open PySem PySem.W PyProof.Rows PySem.Calls
namespace Mine
noncomputable abbrev tup (vs : List Value) (n : Nat) : Obj := { cls := .type "tuple", data := .seq vs.toArray n }
/-- two things together -/
noncomputable def rPair (r₁ r₂ : Rp) : Rp := ⟨fun F v => ∃ b k x y, v = .ref b ∧ F b = some (tup [x, y] k) ∧ r₁.p F x ∧ r₂.p F y, fun _ _ _ l ⟨b, k, x, y, e, g, h₁, h₂⟩ => ⟨b, k, x, y, e, l _ _ g, r₁.mono _ _ _ l h₁, r₂.mono _ _ _ l h₂⟩⟩
section
variable {w : World} {B : Shared} {n : Nat} {env : Env} {vars : Vars} {ms : Mss} {s₀ : Shared} {F₀ : Fz} {Q : Flow → Shared → Prop} {scope : Scope}
theorem Ev.pair {e₁ e₂ : Expr} {k : Nat} {pos : Pos} {r₁ r₂ : Rp} (h : EvL w B n env vars [e₁, e₂] [r₁, r₂]) : Ev w B n env vars (.Tuple [e₁, e₂] k pos) (rPair r₁ r₂) := .mk fun A s F hA S =>
  wpAny_Tuple_spliced ((h.2 A s F pos hA S).mono fun vs s₁ ⟨F₁, x₁, are⟩ => by
    obtain ⟨x, vs', rfl, hx, q⟩ := are.cons_inv
    obtain ⟨y, vs'', rfl, hy, q2⟩ := q.cons_inv
    have e := q2.nil_inv
    subst e
    have hf : F₁ s₁.heap.objs.size = Option.none := Fz.none_of_in x₁.fin (Nat.le_refl _)
    have z := (x₁.trans (Ext.push x₁.inv x₁.fin (tup [x, y] 0))).freeze x₁.size (Heap.get?_push_size _ rfl) hf
    have l := Fz.le_put (o := tup [x, y] 0) hf
    exact ⟨by simp [sizeLine], _, z, _, 0, x, y, rfl, Fz.put_self .., r₁.mono _ _ _ l hx, r₂.mono _ _ _ l hy⟩)
/-- what is walked by a list's own iterator -/
structure IterableL (w : World) (B : Shared) (n : Nat) (r : Rp) (rs : List Rp) : Prop where
  go : ∀ A s F v, Le A n → Inv B s → F.In s.heap → r.p F v →
  W w A (pyIter v) (fun it s' => ∃ o fp Sn, o.isFreed = false ∧ it = .ref s.heap.objs.size ∧ s' = { s with heap := s.heap.push o } ∧ Src w s.heap.objs.size fp F rs Sn ∧ Sn 0 s'.heap ∧ ∀ i h, Sn i h → ∃ o, h.get? s.heap.objs.size = some o ∧ o.cls = .type "list_iterator") s
theorem IterableL.list {α : Type} {f : α → Rp} {xs : List α} : IterableL w B n (rList f xs) (xs.map f) := .mk fun A s F v hA i fi ⟨a, vs, k, e, g, are⟩ => by
  subst e
  have hl : s.heap.IsList a vs.toArray := ⟨_, (fi _ _ g).1, rfl, k, rfl⟩
  have ha := Heap.lt_size ((fi _ _ g).1)
  refine wpAny_pyIter_list hl ⟨_, [s.heap.objs.size, a], (fun j h => h.IsListIter s.heap.objs.size a j ∧ h.IsList a vs.toArray), rfl, rfl, rfl, ⟨fun A' hA' => ?_, fun j h st => ?_, fun b hb => ?_⟩, ⟨⟨_, Heap.get?_push_size _ rfl, rfl, rfl⟩, ⟨_, Heap.get?_push_of_some _ ((fi _ _ g).1), rfl, k, rfl⟩⟩, fun j h st => let ⟨⟨o, e, c, _⟩, _⟩ := st; ⟨o, e, c⟩⟩
  · have W := Walks.list (prog := PG) (w := w) hA' s.heap.objs.size a (Nat.ne_of_lt ha) vs.toArray
    have hsz : vs.toArray.size = (xs.map f).length := by simp [are.1]
    rw [← hsz]
    refine W.weaken fun j u hu => ?_
    have hj : vs[j]? = some u := by simpa using hu
    have hlt : j < xs.length := by rw [← are.1]; exact (List.getElem?_eq_some_iff.mp hj).1
    obtain ⟨u', hu', p⟩ := are.get (List.getElem?_eq_getElem hlt)
    rw [hj] at hu'; cases hu'
    exact ⟨f xs[j], by rw [List.getElem?_map, List.getElem?_eq_getElem hlt]; rfl, p⟩
  · obtain ⟨⟨o, e, c, d⟩, _⟩ := st
    exact ⟨o, _, e, d, soft_cls c (by decide)⟩
  · rcases List.mem_cons.mp hb with h | h
    · exact .inl h
    · rw [List.mem_singleton.mp h]; exact .inr ⟨_, g⟩
theorem no_letgo {A : Around} {s : Shared} {es : List Expr} {k : Nat} {p : Pos} {I b : Addr} {o : Obj} {vs : Array Value} {Q : Unit → Shared → Prop} (ho : s.heap.get? I = some o) (hd : o.data = .fields vs) (hc : o.cls = .type "list_iterator") (h : Q () s) :
    W w A (letOwnedTupleGo (.Tuple es k p) (.ref I) (.ref b)) Q s := by
  unfold letOwnedTupleGo
  refine wpAny_bind (wpAny_load ho ?_)
  rw [hc, hd]
  dsimp only
  rw [if_neg (by simp)]
  exact wpAny_pure h
/-- a loop over pairs -/
theorem Xs.forT {α : Type} {x y : Str} {px py tp pos : Pos} {k : Nat} {iter : Expr} {body rest : List Stmt} {xs : List α} {f1 f2 : α → Rp} {rI : Rp} {vs : Nat → Vars} (hi : Ev w B n env vars iter rI) (it : IterableL w B n rI (xs.map fun a => rPair (f1 a) (f2 a)))
    (h0 : ∀ p ∈ vs 0, p ∈ vars) (hox : Own env s₀.heap.objs.size x) (hoy : Own env s₀.heap.objs.size y) (hv : ∀ i, ∀ p ∈ vs i, p.1 ≠ x ∧ p.1 ≠ y) (hxy : x ≠ y)
    (step : ∀ F₁ i a q, xs[i]? = some a → Xs w B s₀ F₁ n env ((y, f2 a) :: (x, f1 a) :: vs i) [q] body fun fl s' => (fl = .next ∨ fl = .cont) ∧ At B s₀ F₁ env (vs (i + 1)) [q] s')
    (kk : Xs w B s₀ F₀ n env (vs xs.length) [] rest Q) (hs : ∀ x, foldedSetIterable iter env x = pure x := by intro _; rfl) : Xs w B s₀ F₀ n env vars [] (.For (.Tuple [.Name x px, .Name y py] k tp) iter body [] pos :: rest) Q := .mk fun A s F hA R M => by
  refine wpAny_execs_cons (wpAny_For ((hi.go A s F hA R.st).mono fun v s₁ ⟨F₁, x₁, hvI⟩ => ?_) hs)
  have R₁ := R.of_ext x₁
  refine (it.go A s₁ F₁ v hA R₁.st.inv R₁.st.fin hvI).mono fun itv s₂ ⟨o, fp, Sn, ofr, eit, es, src, st, hcls⟩ => ?_
  subst eit
  have x₂ : Ext B s₁ F₁ s₂ F₁ := by rw [es]; exact Ext.push R₁.st.inv R₁.st.fin o
  have R₂ := R₁.of_ext x₂
  have hI0 : s₀.heap.objs.size ≤ s₁.heap.objs.size := R₁.ext.size
  have hBI : B.heap.objs.size ≤ s₁.heap.objs.size := R₁.st.inv.size
  have FI : F₁ s₁.heap.objs.size = none := Fz.none_of_in R₁.st.fin (Nat.le_refl _)
  have entry : ∀ {i F' s'}, Sn i s'.heap → F' s₁.heap.objs.size = none → ∃ o, Soft B F' s' s₁.heap.objs.size o := fun {i F' s'} st' hf => let ⟨o, us, e, d, q⟩ := src.obj i _ st'; ⟨o, Soft.fields e d q hBI hf⟩
  refine codeAny_forLoop_any (fun k s' => ∃ F' i o, k = xs.length + 1 - i ∧ i ≤ xs.length ∧ F₁.Le F' ∧ Rn B s₀ F₀ env (vs i) F' s' ∧ Ms B s₀ [(s₁.heap.objs.size, mObj o)] F' s' ∧ Sn i s'.heap) ?_ (xs.length + 1) ?_
  · rintro k' s₃ ⟨F₃, i, oI, rfl, hi', l₃, R₃, M₃, st₃⟩
    have hFI : F₃ s₁.heap.objs.size = none := let ⟨_, _, so, _⟩ := M₃.at_ _ (.head _); so.out
    by_cases hlt : i < xs.length
    · have hget : xs[i]? = some xs[i] := List.getElem?_eq_getElem hlt
      generalize xs[i] = a at hget
      refine W.toE (next_item hA.mark R₃ src l₃ st₃ (by rw [List.getElem?_map, hget]; rfl) hI0 hBI hFI fun v s₄ R₄ st₄ hv' k₄ => ?_)
      obtain ⟨b, kt, u₁, u₂, rfl, gb, p₁, p₂⟩ := hv'
      obtain ⟨o₄', vs₄, e₄, d₄, q₄⟩ := src.obj _ _ st₄
      obtain ⟨o₄'', e₄', c₄⟩ := hcls _ _ st₄
      rw [e₄] at e₄'; cases e₄'
      refine W.toE (no_letgo e₄ d₄ c₄ ?_)
      obtain ⟨o₄, so₄⟩ := entry st₄ hFI
      have M₄ := M₃.but (m' := mObj o₄) k₄ so₄ rfl
      rw [arm_assign_Tuple]
      refine wpAny_bind (wpAny_standAt ?_)
      show wpAny _ _ (holding [Value.ref b] (unpackItems (.ref b) 2 Option.none) >>= fun l => assignInOrder [PySem.assign (Expr.Name x px) env, PySem.assign (Expr.Name y py) env] l) _ _ _
      refine wpAny_bind (wpAny_holding (W.toE (W.size (wpAny_unpackItems_tuple (items := #[u₁, u₂]) hA.mark.handled ⟨_, (R₄.st.fin _ _ gb).1, rfl, kt, rfl⟩ fun h' hx hz => W.toE ?_))))
      have hk : ∀ b o, s₄.heap.get? b = some o → h'.get? b = some o := fun b o e => hx b o (Nat.ne_of_lt (Heap.lt_size e)) e
      have x₅ : Ext B s₄ F₃ { s₄ with heap := h' } F₃ := Ext.upAll R₄.st.inv R₄.st.fin hk hz _
      have R₅ := R₄.of_ext x₅
      have M₅ := M₄.ext x₅
      refine assignInOrder_cons (wpAny_assign_Name (store' (vars' := vs i) R₅ p₁ hox (fun q hq => ⟨hq, (hv i q hq).1⟩) fun s₆ R₆ k₆ => ?_))
      refine assignInOrder_cons (wpAny_assign_Name (store' (vars' := (x, f1 a) :: vs i) R₆ p₂ hoy (fun q hq => ⟨hq, ?_⟩) fun s₇ R₇ k₇ => ?_))
      · rcases List.mem_cons.mp hq with rfl | hq
        · exact hxy
        · exact (hv i q hq).2
      refine assignInOrder_nil ?_
      have M₇ := (M₅.keep k₆).keep k₇
      have st₅ : Sn (i + 1) h' := src.keep st₄ (fun a o e => R₄.st.fin a o (l₃ a o e)) (fun a o e => x₅.fin a o (l₃ a o e)) fun o e => hk _ _ e
      have st₇ : Sn (i + 1) s₇.heap := by
        have ii := M₅.at_ _ (.head _)
        obtain ⟨_, o₅, so₅, e₅⟩ := ii
        obtain ⟨_, o₇, so₇, e₇⟩ := M₇.at_ _ (.head _)
        have e₅' : o₅ = o₄ := e₅
        have e₇' : o₇ = o₄ := e₇
        subst e₅'; subst e₇'
        exact src.keep st₅ (fun a o e => R₅.st.fin a o (l₃ a o e)) (fun a o e => R₇.st.fin a o (l₃ a o e)) fun o' e' => by
          rw [so₅.at_] at e'; cases e'; exact so₇.at_
      refine W.toE (((step F₃ i a (s₁.heap.objs.size, mObj o₄) hget).go _ s₇ F₃ hA.mark (Rn.base (F₁ := F₃) R₇) M₇).mono fun fl s₈ ⟨hfl, F₈, R₈, M₈⟩ => ?_)
      have y' := R₈.ext
      have R₈' : Rn B s₀ F₀ env (vs (i + 1)) F₈ s₈ := ⟨R₈.st, R₇.ext.rebase y'⟩
      have st₈ : Sn (i + 1) s₈.heap := by
        obtain ⟨_, o₈, so₈, e₈⟩ := M₈.at_ _ (.head _)
        obtain ⟨_, o₇, so₇, e₇⟩ := M₇.at_ _ (.head _)
        have e₈' : o₈ = o₄ := e₈
        have e₇' : o₇ = o₄ := e₇
        subst e₈'; subst e₇'
        exact src.keep st₇ (fun a o e => R₇.st.fin a o (l₃ a o e)) (fun a o e => R₈.st.fin a o (y'.le _ _ (l₃ a o e))) fun o' e' => by
          rw [so₇.at_] at e'; cases e'; exact so₈.at_
      rcases hfl with rfl | rfl <;> exact ⟨xs.length + 1 - (i + 1), turn_lt hlt, F₈, i + 1, o₄, rfl, hlt, l₃.trans y'.le, R₈', M₈, st₈⟩
    · have hin : i = xs.length := by (lia)
      subst hin
      refine W.toE (next_done hA.mark R₃ src l₃ (by simpa using st₃) hI0 hBI hFI fun s₄ R₄ k₄ => ?_)
      refine W.toE (wpAny_execs_nil ?_)
      exact kk.go A s₄ F₃ hA R₄ ⟨List.nodup_nil, fun _ e => nomatch e⟩
  · obtain ⟨o', so'⟩ := entry st FI
    refine ⟨F₁, 0, o', rfl, Nat.zero_le _, Fz.Le.refl _, ⟨R₂.st.sub h0, R₂.ext⟩, ?_, st⟩
    exact Ms.push (ms := []) ⟨List.nodup_nil, fun _ e => nomatch e⟩ (fun q hq => nomatch hq) hI0 so' rfl
end
end Mine
end

section
open PySem PySem.W PyProof.Rows PySem.Calls
local macro_rules | `(tactic| k_is) => `(tactic| first | (with_reducible exact Mine.Has.here) | (with_reducible refine Mine.Has.there ?_; k_is))
local macro_rules | `(tactic| k_asm) => `(tactic| first | (with_reducible exact Mine.Keep.nil) | (with_reducible exact Mine.Sub.nil) | (with_reducible refine Mine.Keep.cons ?_ ?_ ?_; (k_is); (decide); (k_asm)) | (with_reducible refine Mine.Sub.cons ?_ ?_; (k_is); (k_asm)))
namespace Mine
section
variable {w : World} {B : Shared} {n : Nat} {env : Env} {vars : Vars} {scope : Scope} {s₀ : Shared} {F₀ : Fz} {ms : Mss} {Q : Flow → Shared → Prop}
/-- a comparison of three -/
theorem EvT.chain {l c₁ c₂ : Expr} {op₁ op₂ : CmpOp} {pos : Pos} {rl ra rb : Rp} {b₁ b₂ : Bool} (h : Ev w B n env vars l rl) (h₁ : Ev w B n env vars c₁ ra) (h₂ : Ev w B n env vars c₂ rb) (o₁ : Op2 w B n (compareOp op₁) rl ra (rBool b₁)) (o₂ : Op2 w B n (compareOp op₂) ra rb (rBool b₂))
    (hm : lastMarks [op₁, op₂] [c₁, c₂] = false := by with_unfolding_all rfl) : EvT w B n env vars (.Compare l [op₁, op₂] [c₁, c₂] pos) (b₁ && b₂) := .mk fun A s F hA S => by
  refine isTrue_chain ((h.go A s F hA S).mono fun u s₁ ⟨F₁, x₁, p₁⟩ => ?_) hm
  refine test_link ((h₁.go A s₁ F₁ hA (S.ext x₁)).mono fun v s₂ ⟨F₂, x₂, p₂⟩ => ?_)
  refine (o₁.go A s₂ F₂ u v hA x₂.inv x₂.fin (rl.mono _ _ _ x₂.le p₁) p₂).mono fun c s₃ ⟨F₃, x₃, e⟩ => ?_
  cases (show c = .bool b₁ from e)
  refine wpAny_truthy_bool ?_
  cases b₁ with
  | false => exact ⟨rfl, F₃, (x₁.trans x₂).trans x₃⟩
  | true =>
    refine test_last ((h₂.go A s₃ F₃ hA (((S.ext x₁).ext x₂).ext x₃)).mono fun y s₄ ⟨F₄, x₄, p₄⟩ => ?_)
    refine (o₂.go A s₄ F₄ v y hA x₄.inv x₄.fin (ra.mono _ _ _ x₄.le (ra.mono _ _ _ x₃.le p₂)) p₄).mono fun c s₅ ⟨F₅, x₅, e⟩ => ?_
    cases (show c = .bool b₂ from e)
    exact wpAny_truthy_bool ⟨rfl, F₅, (((x₁.trans x₂).trans x₃).trans x₄).trans x₅⟩
/-- what is got is one of several: it is opened -/
theorem Xs.setE {α : Type} {x : Str} {p pos : Pos} {e : Expr} {rest : List Stmt} {r : Rp} (f : α → Rp) (vars' : Vars) (fe : FE scope s₀.heap.objs.size env) (h : EvM w B s₀ n env vars ms e r) (hr : ∀ F v, r.p F v → ∃ a, (f a).p F v)
    (k : ∀ a, Xs w B s₀ F₀ n env ((x, f a) :: vars') ms rest Q) (hv : Keep vars x vars' := by k_asm) (ho : scope.names.lookup x = some .local ∨ scope.names.lookup x = some .cell := by decide +kernel)
    (hs : swapsWith e (some (.Name x p)) pos.line env = pure false := by rfl) : Xs w B s₀ F₀ n env vars ms (.Assign [.Name x p] e pos :: rest) Q := .mk fun A s F hA R M =>
  wpAny_execs_cons (wpAny_Assign_Name ((h.go A s F hA R.st M).mono fun v s₁ ⟨F₁, x₁, q⟩ => by
    obtain ⟨a, qa⟩ := hr _ _ q
    exact store' (R.of_ext x₁) qa (fe.own _ ho) hv.mem fun s' R' k' => (k a).go A s' F₁ hA R' ((M.ext x₁).keep k')) hs)
/-- the five answers, of the keys and of the rows -/
noncomputable def fiveK (a b : List Nat) : List Bool := [decide (told a b < 0), decide (told a b > 0), decide (told a b = 0), decide (told a b ≤ 0), decide (told a b ≥ 0)]
noncomputable def fiveR (a b : List Nat) : List Bool := [ltN a b, gtN a b, a == b, leN a b, geN a b]
noncomputable def near (j : Nat) : List Int := [(j : Int) - 1, j, (j : Int) + 1]
noncomputable def nears (L : Nat) : List (Nat × Int) := flat2 near (fun _ k => decide (0 ≤ k) && decide (k < (L : Int))) Prod.mk (List.range L)
theorem nears_lt {L : Nat} {q : Nat × Int} (h : q ∈ nears L) : q.1 < L ∧ 0 ≤ q.2 ∧ q.2 < L := by
  unfold nears flat2 at h
  obtain ⟨a, ha, hq⟩ := List.mem_flatMap.mp h
  obtain ⟨b, hb, rfl⟩ := List.mem_map.mp hq
  have := (List.mem_filter.mp hb).2
  simp only [Bool.and_eq_true, decide_eq_true_eq] at this
  exact ⟨List.mem_range.mp ha, this.1, this.2⟩
theorem keys_body {s : Shared} {F : Fz} {xs rows : List (List Nat)} (T : Tx B) (K : KTx w B) (hn : n ≤ 44) (hz : rows.length ≤ 60) (hl : xs.length = rows.length) (h4 : ∀ x ∈ xs, x.length ≤ 4)
    (H : ∀ (j k : Nat) a b c d, xs[j]? = some a → xs[k]? = some b → rows[j]? = some c → rows[k]? = some d → fiveK a b = fiveR c d) (fe : FE (scopeAt 30) s.heap.objs.size env) :
    Xs w B s F n env [("writings", rList rS xs), ("rows", rList (rList rNat) rows)] [] (bodyAt 30) (Back B s F (rBool true)) := by
  refine Xs.setE (rKA w.params B.heap.objs.size U142) [("writings", rList rS xs), ("rows", rList (rList rNat) rows)] fe (Ev.m (Ev.cF fe T.g_ctk T.ctk (.cons (Ev.gg fe T.g_compared) .nil) (ctk_cal T K (by (exact Nat.le_trans hn (by decide)))))) (fun F v h => h) fun a => ?_
  have hj : ∀ q ∈ nears rows.length, ∃ c d e f, xs[q.1]? = some c ∧ xs[q.2.toNat]? = some d ∧ rows[q.1]? = some e ∧ rows[q.2.toNat]? = some f ∧ rInt q.2 = rNat q.2.toNat ∧ q.1 < 60 ∧ q.2.toNat < 60 := fun q hq => by
    obtain ⟨h1, h2, h3⟩ := nears_lt hq
    have h5 : q.2.toNat < rows.length := by (lia)
    refine ⟨_, _, _, _, List.getElem?_eq_getElem (by (lia)), List.getElem?_eq_getElem (by (lia)), List.getElem?_eq_getElem h1, List.getElem?_eq_getElem h5, ?_, by (exact Nat.lt_of_lt_of_le h1 hz), by (exact Nat.le_trans h5 hz)⟩
    show rInt q.2 = rInt (q.2.toNat : Int)
    rw [Int.toNat_of_nonneg h2]
  refine Xs.forT (xs := nears rows.length) (f1 := fun q => rNat q.1) (f2 := fun q => rInt q.2) (vs := fun _ => [("key", rKA w.params B.heap.objs.size U142 a), ("writings", rList rS xs), ("rows", rList (rList rNat) rows)])
    (Ev.comp2 (xs := List.range rows.length) (f1 := fun j => rNat j) (yss := near) (f2 := rInt) (rI2 := fun j => rList rInt (near j)) (hh := fun q : Nat × Int => rPair (rNat q.1) (rInt q.2)) (gg := Prod.mk) (p := fun _ k => decide (0 ≤ k) && decide (k < (rows.length : Int))) (M := 3) [("rows", rList (rList rNat) rows)]
      (Ev.cT fe T.range (.cons (Ev.cB fe T.len (.cons .nm .nil) (Cal.len_list (by (exact Nat.lt_of_le_of_lt hz (by decide))))) .nil) Cal.range1) (Iterable.range1 (by (exact Nat.lt_of_le_of_lt hz (by decide)))) (fun j _ => by simp [near]) (by simp [sizeLine]; (lia)) (.cons (by k_is) fe.cf .nil)
      (fun N cenv ce => ⟨fun j _ => by
        refine Ev.unmap (f := fun r : Rp => r) (g := rInt) (xs := near j) ?_
        exact Ev.list (.cons (Ev.bin .nm (Ev.int (i := 1)) op_sub) (.cons .nm (.cons (Ev.bin .nm (Ev.int (i := 1)) op_add) .nil))) (by show 3 ≤ sizeLine; decide), fun j _ => .list,
        fun j _ k _ => .one (EvT.chain (Ev.int (i := 0)) .nm (Ev.cB ce T.len (.cons .nm .nil) (Cal.len_list (by (exact Nat.lt_of_le_of_lt hz (by decide))))) cmp_le cmp_lt), fun j _ k _ _ => Ev.pair (.cons .nm (.cons .nm .nil))⟩))
    .list (fun p h => h) fe.o fe.o (fun i p hp => ?_) (by decide) (fun F₁ i q m hq => ?_) (Xs.ret Ev.bool)
  · simp at hp; rcases hp with rfl | rfl | rfl <;> (dsimp only; decide)
  · obtain ⟨c, d, e, f, h1, h2, h3, h5, eq, z1, z2⟩ := hj q (List.mem_of_getElem? hq)
    rw [eq]
    have hc4 := h4 c (List.mem_of_getElem? h1)
    have hd4 := h4 d (List.mem_of_getElem? h2)
    refine Xs.two (rInst w.params B.heap.objs.size U142 a c) (rInst w.params B.heap.objs.size U142 a d) [("k", rNat q.2.toNat), ("j", rNat q.1), ("key", rKA w.params B.heap.objs.size U142 a), ("writings", rList rS xs), ("rows", rList (rList rNat) rows)] fe
      (Ev.m (Ev.callK .nm (.cons (Ev.item .nm .nm h1 (by (exact Nat.lt_of_lt_of_le z1 (by decide)))) .nil) (new_cal K (by (exact Nat.le_trans hn (by decide)))))) (Ev.m (Ev.callK .nm (.cons (Ev.item .nm .nm h2 (by (exact Nat.le_trans z2 (by decide)))) .nil) (new_cal K (by (exact Nat.le_trans hn (by decide)))))) ?_
    refine Xs.set (rList rBool (fiveK c d)) [("k", rNat q.2.toNat), ("j", rNat q.1), ("key", rKA w.params B.heap.objs.size U142 a), ("writings", rList rS xs), ("rows", rList (rList rNat) rows)] fe (Ev.m (by
      refine Ev.unmap (f := fun r : Rp => r) (g := rBool) (xs := fiveK c d) ?_
      exact Ev.list (.cons (Ev.cmp .nm .nm (oi_lt T (by (exact Nat.le_trans hn (by decide))) hc4 hd4)) (.cons (Ev.cmp .nm .nm (oi_gt T (by (exact Nat.le_trans hn (by decide))) hc4 hd4)) (.cons (Ev.cmp .nm .nm (oi_eq T (by (exact Nat.le_trans hn (by decide))) hc4 hd4)) (.cons (Ev.cmp .nm .nm (oi_le T (by (exact Nat.le_trans hn (by decide))) hc4 hd4)) (.cons (Ev.cmp .nm .nm (oi_ge T (by (exact Nat.le_trans hn (by decide))) hc4 hd4)) .nil))))) (by show 5 ≤ sizeLine; decide))) ?_
    refine Xs.if_in (b := false) [("key", rKA w.params B.heap.objs.size U142 a), ("writings", rList rS xs), ("rows", rList (rList rNat) rows)] [m] (EvT.m (.ext (.cmp .nm (r₂ := rList rBool (fiveR e f)) (by
      refine Ev.unmap (f := fun r : Rp => r) (g := rBool) (xs := fiveR e f) ?_
      exact Ev.list (.cons (Ev.cmp (Ev.item .nm .nm h3 (by (exact Nat.le_trans z1 (by decide)))) (Ev.item .nm .nm h5 (by (exact Nat.le_trans z2 (by decide)))) (on_ltl (by (exact Nat.le_trans hn (by decide))))) (.cons (Ev.cmp (Ev.item .nm .nm h3 (by (exact Nat.le_trans z1 (by decide)))) (Ev.item .nm .nm h5 (by (exact Nat.le_trans z2 (by decide)))) (on_gtl (by (exact Nat.le_trans hn (by decide))))) (.cons (Ev.cmp (Ev.item .nm .nm h3 (by (exact Nat.le_trans z1 (by decide)))) (Ev.item .nm .nm h5 (by (exact Nat.le_trans z2 (by decide)))) (ol_eqn (by (exact Nat.le_trans hn (by decide))))) (.cons (Ev.cmp (Ev.item .nm .nm h3 (by (exact Nat.le_trans z1 (by decide)))) (Ev.item .nm .nm h5 (by (exact Nat.le_trans z2 (by decide)))) (on_lel (by (exact Nat.le_trans hn (by decide))))) (.cons (Ev.cmp (Ev.item .nm .nm h3 (by (exact Nat.le_trans z1 (by decide)))) (Ev.item .nm .nm h5 (by (exact Nat.le_trans z2 (by decide)))) (on_gel (by (exact Nat.le_trans hn (by decide))))) .nil))))) (by show 5 ≤ sizeLine; decide)) (ol_neB (by (exact Nat.le_trans hn (by decide)))) .bool) (by rw [H q.1 q.2.toNat c d e f h1 h2 h3 h5]; simp))) (fun h => by cases h) (fun _ => ?_) ?_
    · exact Xs.done (by k_asm) (.refl _)
    · exact Xs.nextP (by k_asm) (.refl _)
theorem keys_cal {xs rows : List (List Nat)} (T : Tx B) (K : KTx w B) (hn : n ≤ 43) (hz : rows.length ≤ 60) (hl : xs.length = rows.length) (h4 : ∀ x ∈ xs, x.length ≤ 4)
    (H : ∀ (j k : Nat) a b c d, xs[j]? = some a → xs[k]? = some b → rows[j]? = some c → rows[k]? = some d → fiveK a b = fiveR c d) : Cal w B n (.ref 164) [rList rS xs, rList (rList rNat) rows] (rBool true) :=
  Cal.def2 (x := "writings") (y := "rows") T.keys T.lim (by (exact Nat.le_trans hn (by decide))) (fun v u s cd pm doc ct an => .of_eq rfl) fun s F env fe => keys_body T K (by (exact Nat.succ_le_succ hn)) hz hl h4 H fe
end
end Mine
end

section
open PySem PySem.W PyProof.Rows PySem.Calls PySem.SeqAt
local macro_rules | `(tactic| k_is) => `(tactic| first | (with_reducible exact Mine.Has.here) | (with_reducible refine Mine.Has.there ?_; k_is))
local macro_rules | `(tactic| k_asm) => `(tactic| first | (with_reducible exact Mine.Keep.nil) | (with_reducible exact Mine.Sub.nil) | (with_reducible refine Mine.Keep.cons ?_ ?_ ?_; (k_is); (decide); (k_asm)) | (with_reducible refine Mine.Sub.cons ?_ ?_; (k_is); (k_asm)))
namespace Mine
section
variable {w : World} {B : Shared} {n : Nat} {env : Env} {vars : Vars}
theorem comp_blockC {α : Type} {elt iter : Expr} {x : Str} {px : Pos} {ifs : List Expr} {scope : Scope} {pos : Pos} {cap : Vars} {xs : List α} {f g : α → Rp} {p : α → Bool} {A : Around} {s s₁ : Shared} {F₀ F : Fz} {rI : Rp} {xv : Value} {cl : List (Str × Addr)} {RR : Value → Addr → Result → Shared → Prop}
    (hA : Le A n) (S : St B env vars F₀ s) (x₁ : Ext B s F₀ s₁ F) (it : Iterable w B n rI (xs.map f)) (hv : rI.p F xv) (ok : scOk scope = true) (hf : frees scope = cap.map (·.1)) (hc : Cap env vars cap) (hcl : closureFor scope env = pure cl)
    (hz : xs.length ≤ sizeLine) (hxl : scope.names.lookup x = some .local ∨ scope.names.lookup x = some .cell)
    (hb : ∀ N cenv, FE scope N cenv → cenv.code = env.code → cenv.qual = env.qual → (∀ a ∈ xs, Tests w B n cenv ((x, f a) :: cap) ifs (p a)) ∧ ∀ a ∈ xs, p a = true → Ev w B n cenv ((x, f a) :: cap) elt (g a))
    (hR : ∀ D C s' F', Ext B s₁ F s' F' → (rList g (xs.filter p)).p F' (.ref D) → (∃ m, s'.heap.Ns C m) → F' C = none → s₁.heap.objs.size ≤ C → B.heap.objs.size ≤ C → RR (.ref D) C (.ok .next) s') :
    W w A (pyIter xv) (fun it s₂ => W w A (newList []) (fun acc s₃ => W w A (newFunctionEnv scope env.globals cl [] env.qual none .none (some env)) (fun cenv s₄ =>
      WC w A (.compStart (.ListComp elt [⟨.Name x px, iter, ifs, 0⟩] scope pos) 0 it acc { cenv with scope := relabel scope env }) (RR acc cenv.locals) s₄) s₃) s₂) s₁ := by
  have S₁ := S.ext x₁
  refine (it.go A s₁ F xv hA S₁.inv S₁.fin hv).mono fun itv s₂ ⟨o, fp, Sn, ofr, eit, es, src, st⟩ => ?_
  subst eit
  have hI₂ : s₂.heap.objs.size = s₁.heap.objs.size + 1 := by rw [es]; simp
  have x₂ : Ext B s₁ F s₂ F := by rw [es]; exact Ext.push S₁.inv S₁.fin o
  have i₂ : Inv B s₂ := x₂.inv
  refine wpAny_newObj_type ?_
  generalize hs₃ : ({ s₂ with heap := s₂.heap.push { cls := .type "list", dict := none, data := .seq ([] : List Value).toArray } } : Shared) = s₃
  have x₃ : Ext B s₂ F s₃ F := by rw [← hs₃]; exact Ext.push x₂.inv x₂.fin _
  have x₁₃ := x₂.trans x₃
  obtain ⟨cl', e', en⟩ := enter (w := w) (A := A) S (x₁.trans x₁₃) ok hf hc
  have ecl : cl = cl' := by rw [hcl] at e'; injection e'
  subst ecl
  refine en fun s₄ r => ?_
  show WC w A (.compStart _ 0 _ _ { newEnv scope s₃.heap.objs.size mainGlobals (cellsFrom (s₃.heap.objs.size + 1) scope.names cl) env.qual none .none (some env) 0 with scope := relabel scope env }) (RR _ s₃.heap.objs.size) s₄
  rw [cenv_eq S.eok.gl]
  have fe := cenv_fe (env := env) (scope := scope) (cl := cl) (N := s₃.heap.objs.size)
  obtain ⟨bt, be⟩ := hb _ _ fe rfl rfl
  have src₃ := src
  have getD : s₃.heap.get? s₂.heap.objs.size = some (lst [] 0) := by rw [← hs₃]; exact Heap.get?_push_size _ rfl
  have sD : s₃.heap.objs.size = s₂.heap.objs.size + 1 := by rw [← hs₃]; simp
  have FN : ∀ a, s₁.heap.objs.size ≤ a → F a = none := fun a ha => Fz.none_of_in S₁.fin ha
  have bs : B.heap.objs.size ≤ s₁.heap.objs.size := S₁.inv.size
  have p₃ : Soft B F s₃ s₂.heap.objs.size (lst [] 0) := Soft.lst getD (by (lia)) (FN _ (by (lia)))
  have r' : Rn B s₁ F (cenvOf scope cl s₃.heap.objs.size env) cap F s₄ := r.rebase x₁₃
  have st₄ : Sn 0 s₄.heap := src.keeps st (Fz.Le.refl _) x₂.fin (x₃.trans r.ext)
  have loop : WC w A (.compLoop (.ListComp elt [⟨.Name x px, iter, ifs, 0⟩] scope pos) 0 (.ref s₁.heap.objs.size) (.ref s₂.heap.objs.size) (cenvOf scope cl s₃.heap.objs.size env)) (RR (.ref s₂.heap.objs.size) s₃.heap.objs.size) s₄ := by
    refine comp_loop hA r' src st₄ (Nat.le_refl _) bs (FN _ (Nat.le_refl _)) (p₃.ext r.ext) (by (lia)) hz ?_ ?_ bt be fun s' F' ys m' R' pD are => ?_
    · have := fe.own x hxl
      rcases this with ⟨a, b⟩ | ⟨a, c, b, d⟩
      · exact .inl ⟨a, by show s₁.heap.objs.size ≤ _; (lia)⟩
      · exact .inr ⟨a, c, b, Nat.le_trans (by (lia)) d⟩
    · intro q hq e
      simp only [scOk, Bool.and_eq_true, beq_iff_eq, decide_eq_true_eq] at ok
      have : q.1 ∈ frees scope := by rw [hf]; exact List.mem_map.mpr ⟨q, hq, rfl⟩
      unfold frees at this
      obtain ⟨z, hz, ez⟩ := List.mem_map.mp this
      obtain ⟨hz1, hz2⟩ := List.mem_filter.mp hz
      have := nodup_lookup ok.2 (show (x, z.2) ∈ scope.names from by rw [← e, ← ez]; exact hz1)
      have k2 : z.2 = .free := by simpa using hz2
      rw [k2] at this
      rcases hxl with h | h <;> (rw [h] at this; cases this)
    · have fz := R'.ext.freeze (a := s₂.heap.objs.size) (by (lia)) pD.at_ pD.out
      have hl := R'.st.eok.loc
      have hlF := R'.st.eok.locF
      have ne : (s₃.heap.objs.size : Addr) ≠ s₂.heap.objs.size := by rw [sD]; exact Nat.succ_ne_self _
      refine hR _ _ s' _ fz ⟨_, ys, m', rfl, Fz.put_self .., are.mono (Fz.le_put pD.out)⟩ hl ?_ (by (lia)) (by (lia))
      show (if _ then _ else _) = none
      rw [if_neg ne]; exact hlF
  exact codeAny_compStart_list loop (W.toE ((src.walks A hA.handled).self 0 s₄ _ _ st₄ loop))

/-- a lambda that closes over nothing -/
noncomputable def rLam (qual : Str) (params : Arguments) (body : Expr) (scope : Scope) : Rp := ⟨fun F v => ∃ f c pm ctv o vs t, v = .ref f ∧ F f = some (kla_obj "<lambda>" qual params body scope [] pm c ctv) ∧ F c = some o ∧ o.cls = .type "code" ∧ o.data = .fields vs ∧ vs[1]? = some (.str qual t),
  fun _ _ _ l ⟨f, c, pm, ctv, o, vs, t, e, g, k, r⟩ => ⟨f, c, pm, ctv, o, vs, t, e, l _ _ g, l _ _ k, r⟩⟩
theorem lam_cal {qual : Str} {params : Arguments} {body : Expr} {scope : Scope} {x y : Str} {r₁ r₂ r : Rp} (T : Tx B) (hn : n ≤ 50)
    (hb : ∀ v u (s : Shared) pm cd ct, BindsTo s (kla_fn "<lambda>" qual params body scope [] pm cd ct) ⟨[v, u], []⟩ [(x, v), (y, u)]) (hne : x ≠ y)
    (hx : scope.names.lookup x = some .local ∨ scope.names.lookup x = some .cell) (hy : scope.names.lookup y = some .local ∨ scope.names.lookup y = some .cell)
    (hk : scope.kind = .function) (hco : scope.isCoroutine = false) (hgen : scope.isGenerator = false)
    (h : ∀ N env, FE scope N env → Ev w B (n + 1) env [(x, r₁), (y, r₂)] body r) : CalR w B n (rLam qual params body scope) [r₁, r₂] r := .mk fun A s F v vs hA i fi hv are => by
  obtain ⟨f, c, pm, ctv, o, cs, t, rfl, g, k, c1, c2, c3⟩ := hv
  obtain ⟨v, vs', rfl, pv, q⟩ := are.cons_inv
  obtain ⟨u, vs'', rfl, p2, q2⟩ := q.cons_inv
  have e := q2.nil_inv
  subst e
  refine wpAny_call (kla_callFunE (hA.room (by (exact Nat.le_trans hn (by decide)))) (fi _ _ g).1 rfl hco hgen rfl ⟨c, o, cs, t, rfl, (fi _ _ k).1, c2, c3⟩ (hb v u s pm (.ref c) ctv _ _ _ _ ?_))
  refine W.toE (wp_newEnv (binds := [(x, v), (y, u)]) i fi hk rfl (fun _ _ e => nomatch e) (fun _ _ _ e => nomatch e) (by simpa using hne) (fun p hp => ?_) fun s₁ R => ⟨R.st.inv.lim T.lim, kla_codeExpr (W.toE (((h _ _ envF_ok).go _ s₁ F (hA.deeper _) ⟨R.st.inv, R.st.fin, R.st.eok, fun p hp => ?_⟩).mono ?_))⟩)
  · simp at hp; rcases hp with rfl | rfl
    · exact hx
    · exact hy
  · simp at hp; rcases hp with rfl | rfl
    · obtain ⟨z, hz, kz⟩ := R.st.vars (x, rVal v) (by simp [valVars])
      cases (show z = v from hz)
      exact ⟨v, pv, kz⟩
    · obtain ⟨z, hz, kz⟩ := R.st.vars (y, rVal u) (by simp [valVars])
      cases (show z = u from hz)
      exact ⟨u, p2, kz⟩
  · rintro z s' gz
    exact gz.from R.ext
/-- a lambda made in law -/
theorem Ev.lam1 {params : Arguments} {body : Expr} {scope : Scope} {pos : Pos} (m : Mk B 173 171) (hcode : env.code = .ref 173) (hq : env.qual = "law.<locals>.") (hcl : closureFor scope env = pure [] := by rfl) (hdef : defaultsOf params env = ([], []) := by rfl) :
    Ev w B n env vars (.Lambda params body scope pos) (rLam "law.<locals>.<lambda>" params body scope) := .mk fun A s F hA S => by
  refine kla_eval hdef ?_
  rw [show env.qual ++ "<lambda>" = ("law.<locals>.<lambda>" : Str) by rw [hq]; rfl]
  obtain ⟨mg, hg, hb⟩ := m.bm' S.inv
  obtain ⟨ps, hP, ht, hqq⟩ := S.inv.t1
  cases hf : codeAmong pos ps.toList with
  | some cv =>
    obtain ⟨c, oc, cvs, tc, rfl, gc, k1, k2, k3⟩ := hqq _ _ hf
    refine kla_makeFunctionHit hcl S.eok.gl hg hcode (m.hd' S.inv) hP ht hf hb fun ctv h' tk hk hz => ?_
    have x₁ := Ext.upAll S.inv S.fin hk hz tk
    have x₂ := x₁.freezeHard (hk _ _ gc) (ntab k1) (.inr ⟨.inr k1, _, k2⟩)
    exact (made (r := rLam "law.<locals>.<lambda>" params body scope) x₂.inv x₂.fin rfl tk fun F' le e => ⟨_, c, _, _, oc, cvs, tc, rfl, e, le _ _ (Fz.put_self ..), k1, k2, k3⟩).from x₂
  | none =>
    refine lam_miss hcl S.eok.gl hg hcode (m.hd' S.inv) hP ht hf (by decide) hb fun c' ctv h' tk hx hz ck hP' => ?_
    have x₁ := Ext.grown S.inv S.fin (.inl rfl) hP hx hz (fun _ => TabAt.grow hP ht hqq hP' (fun p v q => q.but hx hP) fun p => ck) (fun h => by cases h) (fun h => by cases h) tk
    obtain ⟨c, oc, cvs, tc, ec, gc, k1, k2, k3⟩ := ck
    cases ec
    have x₂ := x₁.freezeHard gc (ntab k1) (.inr ⟨.inr k1, _, k2⟩)
    exact (made (r := rLam "law.<locals>.<lambda>" params body scope) x₂.inv x₂.fin rfl tk fun F' le e => ⟨_, c', _, _, oc, cvs, tc, rfl, e, le _ _ (Fz.put_self ..), k1, k2, k3⟩).from x₂
end
end Mine
end

section
open PySem PySem.W PyProof.Rows PySem.Calls
local macro_rules | `(tactic| k_is) => `(tactic| first | (with_reducible exact Mine.Has.here) | (with_reducible refine Mine.Has.there ?_; k_is))
local macro_rules | `(tactic| k_asm) => `(tactic| first | (with_reducible exact Mine.Keep.nil) | (with_reducible exact Mine.Sub.nil) | (with_reducible refine Mine.Keep.cons ?_ ?_ ?_; (k_is); (decide); (k_asm)) | (with_reducible refine Mine.Sub.cons ?_ ?_; (k_is); (k_asm)))
namespace Mine
section
variable {w : World} {B : Shared} {n : Nat} {env : Env} {vars : Vars} {scope : Scope} {s₀ : Shared} {F₀ : Fz} {ms : Mss} {Q : Flow → Shared → Prop}
/-- an iterator that has been made, and the object it is -/
structure Itr (w : World) (I : Addr) (rs : List Rp) (F₁ : Fz) (o : Obj) : Prop where
  src : ∃ fp Sn, Src w I fp F₁ rs Sn ∧ ∀ F h, F₁.Le F → F.In h → h.get? I = some o → Sn 0 h
theorem call_iter {A : Around} {s : Shared} {v : Value} {Q : Value → Shared → Prop} (h : W w A.in1 (pyIter v) Q s) : W w A (call (.builtin "iter") [v]) Q s := by
  refine call_function_entry (by decide +kernel) (by decide +kernel) kdk_entry_iter (kdk_args_iter _) ?_
  unfold Builtin.«iter»
  refine wpAny_bind (m := someArgs "iter" 1 2 _) (wpAny_of_eq (a := [v]) (by first | rfl | kernel_rfl!) ?_)
  show wpAny _ _ (pyIter v >>= _) _ _ _
  exact wpAny_bind (h.mono fun u s' q => wpAny_pure ⟨_, rfl, q⟩)
/-- x = iter(e) -/
theorem Xs.iter {x : Str} {p np cp pos : Pos} {e : Expr} {rest : List Stmt} {rI : Rp} {rs : List Rp} (vars' : Vars) (fe : FE scope s₀.heap.objs.size env) (G : BltAt B "iter" (.builtin "iter")) (h : Ev w B n env vars e rI) (it : Iterable w B (n + 1) rI rs)
    (k : ∀ F₁ I o, Itr w I rs F₁ o → Xs w B s₀ F₁ n env ((x, rVal (.ref I)) :: vars') [(I, mObj o)] rest fun f s' => (∀ s'' F'', Ext B s₀ F₁ s'' F'' → Ext B s₀ F₀ s'' F'') → Q f s') (hv : Keep vars x vars' := by k_asm) (ho : scope.names.lookup x = some .local ∨ scope.names.lookup x = some .cell := by decide +kernel)
    (hk : scope.names.lookup ("iter" : Str) = some .globalImplicit := by decide +kernel) (hst : starEach [e] env = (false, eval e env) :: starEach [] env := by rfl) (hs : swapsWith (.Call (.Name "iter" np) [e] [] cp) (some (.Name x p)) pos.line env = pure false := by rfl) :
    Xs w B s₀ F₀ n env vars [] (.Assign [.Name x p] (.Call (.Name "iter" np) [e] [] cp) pos :: rest) Q := .mk fun A s F hA R M => by
  refine wpAny_execs_cons (wpAny_Assign_Name ?_ hs)
  refine wpAny_Call_NameR (((Ev.bb fe G hk).go A s F hA R.st).mono fun f s₁ ⟨F₁, x₁, ef⟩ => ?_)
  cases (show f = .builtin "iter" from ef)
  have hl : EvL w B n env vars [e] [rI] := .cons h .nil hst
  have ha := evalArgs_of (f := .builtin "iter") (pos := cp) hl hA (R.st.ext x₁)
  obtain ⟨ts, ht⟩ := hl.1 cp
  refine callWith_builtin (by rw [ht]; simp) (ha.mono fun ar s₂ ⟨e2, F₂, x₂, are⟩ => ?_)
  obtain ⟨ps, kw⟩ := ar
  cases (show kw = [] from e2)
  obtain ⟨v, vs', e3, hvI, q⟩ := are.cons_inv
  have e4 := q.nil_inv
  subst e4
  dsimp only at e3
  subst e3
  have R₂ := (R.of_ext x₁).of_ext x₂
  refine call_iter ((it.go A.in1 s₂ F₂ v hA.in1 R₂.st.inv R₂.st.fin hvI).mono fun itv s₃ ⟨o, fp, Sn, ofr, eit, es, src, st⟩ => ?_)
  subst eit
  have x₃ : Ext B s₂ F₂ s₃ F₂ := by rw [es]; exact Ext.push R₂.st.inv R₂.st.fin o
  have R₃ := R₂.of_ext x₃
  have FI : F₂ s₂.heap.objs.size = none := Fz.none_of_in R₂.st.fin (Nat.le_refl _)
  have gI : s₃.heap.get? s₂.heap.objs.size = some o := by rw [es]; exact Heap.get?_push_size _ ofr
  obtain ⟨o', us, eo, d, qo⟩ := src.obj 0 _ st
  rw [gI] at eo; cases eo
  have so : Soft B F₂ s₃ s₂.heap.objs.size o := Soft.fields gI d qo R₂.st.inv.size FI
  have itr : Itr w s₂.heap.objs.size rs F₂ o := ⟨fp, Sn, src, fun F' h l f e => src.keep st (fun a ob e' => R₃.st.fin a ob e') (fun a ob e' => f a ob (l a ob e')) fun ob e' => by rw [gI] at e'; cases e'; exact e⟩
  refine store' (r := rVal (.ref s₂.heap.objs.size)) R₃ rfl (fe.own _ ho) hv.mem fun s₄ R₄ k₄ => ?_
  have M₄ : Ms B s₀ [(s₂.heap.objs.size, mObj o)] F₂ s₄ := (Ms.push (ms := []) ⟨List.nodup_nil, fun _ e => nomatch e⟩ (fun q hq => nomatch hq) R₂.ext.size so rfl).keep k₄
  refine ((k F₂ _ o itr).go A s₄ F₂ hA (Rn.base (F₁ := F₂) R₄) M₄).mono fun f s' hq => hq fun s'' F'' y => R₄.ext.rebase y
theorem Back.rebase {F₁ : Fz} {r : Rp} {f : Flow} {s' : Shared} (h : Back B s₀ F₁ r f s') (k : ∀ s'' F'', Ext B s₀ F₁ s'' F'' → Ext B s₀ F₀ s'' F'') : Back B s₀ F₀ r f s' :=
  let ⟨v, e, F', x, p⟩ := h; ⟨v, e, F', k _ _ x, p⟩
/-- a loop over an iterator that stands already -/
theorem Xs.forI {α : Type} {x y : Str} {px py pos : Pos} {body rest : List Stmt} {xs : List α} {f : α → Rp} {vs : Nat → Vars} {I : Addr} {o : Obj} (fe : FE scope s₀.heap.objs.size env) (hy : Has vars y (rVal (.ref I))) (it : Itr w I (xs.map f) F₀ o)
    (h0 : ∀ p ∈ vs 0, p ∈ vars) (hv : ∀ i, ∀ p ∈ vs i, p.1 ≠ x)
    (step : ∀ F₁ i a q, xs[i]? = some a → Xs w B s₀ F₁ n env ((x, f a) :: vs i) [q] body fun fl s' => (fl = .next ∨ fl = .cont) ∧ At B s₀ F₁ env (vs (i + 1)) [q] s')
    (k : Xs w B s₀ F₀ n env (vs xs.length) [] rest Q) (ho : scope.names.lookup x = some .local ∨ scope.names.lookup x = some .cell := by decide +kernel) (hs : ∀ x, foldedSetIterable (.Name y py) env x = pure x := by intro _; rfl)
    (hd : (y == ("__debug__" : Str)) = false := by decide) (hc : (y == ("__classdict__" : Str)) = false := by decide) : Xs w B s₀ F₀ n env vars [(I, mObj o)] (.For (.Name x px) (.Name y py) body [] pos :: rest) Q := .mk fun A s F hA R M => by
  obtain ⟨fp, Sn, src, hst⟩ := it.src
  refine wpAny_execs_cons (wpAny_For (loads_name R.st hy (fun v hva => ?_) hd hc) hs)
  cases (show v = .ref I from hva)
  obtain ⟨hI0, o₁, so₁, e₁⟩ := M.at_ _ (.head _)
  have e₁' : o₁ = o := e₁
  subst e₁'
  have hBI : B.heap.objs.size ≤ I := so₁.base
  have st : Sn 0 s.heap := hst F s.heap R.ext.le R.st.fin so₁.at_
  have entry : ∀ {i F' s'}, Sn i s'.heap → F' I = none → ∃ o, Soft B F' s' I o := fun {i F' s'} st' hf => let ⟨o, us, e, d, q⟩ := src.obj i _ st'; ⟨o, Soft.fields e d q hBI hf⟩
  refine W.toE ((src.walks A hA.handled).self 0 s _ _ st ?_)
  refine codeAny_forLoop (fun k s' => ∃ F' i o, k = xs.length + 1 - i ∧ i ≤ xs.length ∧ F₀.Le F' ∧ Rn B s₀ F₀ env (vs i) F' s' ∧ Ms B s₀ [(I, mObj o)] F' s' ∧ Sn i s'.heap) ?_ (xs.length + 1) ⟨F, 0, o₁, rfl, Nat.zero_le _, R.ext.le, ⟨R.st.sub h0, R.ext⟩, M, st⟩
  rintro k' s₃ ⟨F₃, i, oI, rfl, hi', l₃, R₃, M₃, st₃⟩
  have hFI : F₃ I = none := let ⟨_, _, so, _⟩ := M₃.at_ _ (.head _); so.out
  by_cases hlt : i < xs.length
  · have hget : xs[i]? = some xs[i] := List.getElem?_eq_getElem hlt
    generalize xs[i] = a at hget
    refine W.toE (next_item hA.mark R₃ src l₃ st₃ (by rw [List.getElem?_map, hget]; rfl) hI0 hBI hFI fun v s₄ R₄ st₄ hv' k₄ => ?_)
    obtain ⟨o₄, so₄⟩ := entry st₄ hFI
    have M₄ := M₃.but (m' := mObj o₄) k₄ so₄ rfl
    refine W.toE (wpAny_assign_Name (store' (vars' := vs i) R₄ hv' (fe.own _ ho) (fun q hq => ⟨hq, hv i q hq⟩) fun s₅ R₅ k₅ => ?_))
    have M₅ := M₄.keep k₅
    have st₅ : Sn (i + 1) s₅.heap := src.keep st₄ (fun a o e => R₄.st.fin a o (l₃ a o e)) (fun a o e => R₅.st.fin a o (l₃ a o e)) fun o' e' => k₅ _ _ e' (by rw [so₄.at_] at e'; cases e'; exact so₄.dict) (by rw [so₄.at_] at e'; cases e'; exact so₄.cell)
    refine W.toE (((step F₃ i a (I, mObj o₄) hget).go _ s₅ F₃ hA.mark (Rn.base (F₁ := F₃) R₅) M₅).mono fun fl s₆ ⟨hfl, F₆, R₆, M₆⟩ => ?_)
    have y := R₆.ext
    have R₆' : Rn B s₀ F₀ env (vs (i + 1)) F₆ s₆ := ⟨R₆.st, R₅.ext.rebase y⟩
    have st₆ : Sn (i + 1) s₆.heap := by
      obtain ⟨_, o₆, so₆, e₆⟩ := M₆.at_ _ (.head _)
      have e₆' : o₆ = o₄ := e₆
      subst e₆'
      refine src.keep st₅ (fun a o e => R₅.st.fin a o (l₃ a o e)) (fun a o e => R₆.st.fin a o (y.le _ _ (l₃ a o e))) fun o' e' => ?_
      obtain ⟨_, o₅, so₅, e₅⟩ := M₅.at_ _ (.head _)
      have e₅' : o₅ = o₆ := e₅
      subst e₅'
      rw [so₅.at_] at e'; cases e'
      exact so₆.at_
    rcases hfl with rfl | rfl <;> exact ⟨xs.length + 1 - (i + 1), turn_lt hlt, F₆, i + 1, o₄, rfl, hlt, l₃.trans y.le, R₆', M₆, st₆⟩
  · have hin : i = xs.length := by (lia)
    subst hin
    refine W.toE (next_done hA.mark R₃ src l₃ (by simpa using st₃) hI0 hBI hFI fun s₄ R₄ k₄ => ?_)
    refine W.toE (wpAny_execs_nil ?_)
    exact k.go A s₄ F₃ hA R₄ ⟨List.nodup_nil, fun _ e => nomatch e⟩
end
end Mine
end

section
open PySem PySem.W PyProof.Rows PySem.Calls
local macro_rules | `(tactic| k_is) => `(tactic| first | (with_reducible exact Mine.Has.here) | (with_reducible refine Mine.Has.there ?_; k_is))
local macro_rules | `(tactic| k_asm) => `(tactic| first | (with_reducible exact Mine.Keep.nil) | (with_reducible exact Mine.Sub.nil) | (with_reducible refine Mine.Keep.cons ?_ ?_ ?_; (k_is); (decide); (k_asm)) | (with_reducible refine Mine.Sub.cons ?_ ?_; (k_is); (k_asm)))
namespace Mine
/-- more facts of the top -/
structure T2 (B : Shared) : Prop where
  iter : BltAt B "iter" (.builtin "iter")
  miss : GlobAt B "_initial_missing" (.ref 46)
  sum : BltAt B "sum" (.builtin "sum")
  sorted : BltAt B "sorted" (.builtin "sorted")
  red : ∀ o fd, B.heap.get? 54 = some o → o.data = .func fd → fd.code = .ref 53
  law : ∀ o fd, B.heap.get? 174 = some o → o.data = .func fd → fd.code = .ref 173
  mk1 : Mk B 173 171
  mk2 : Mk B 114 110
section
variable {w : World} {B : Shared} {n : Nat} {env : Env} {vars : Vars} {scope : Scope} {s₀ : Shared} {F₀ : Fz} {ms : Mss} {Q : Flow → Shared → Prop}
theorem op_is_int {a : Int} {d : Addr} : Op2 w B n (compareOp .Is) (rInt a) (rVal (.ref d)) (rBool false) := .mk fun A s F u v hA i fi ⟨t, e⟩ e' => by
  subst e; cases (show v = .ref d from e')
  show W w A ((pure (Value.int a t == .ref d) : Sem Bool) >>= fun b => (pure (Value.bool b) : Sem Value)) _ s
  exact wpAny_bind (wpAny_pure (wpAny_pure ⟨F, Ext.refl i fi, rfl⟩))
theorem Ev.callL {x : Str} {np pos : Pos} {es : List Expr} {rs : List Rp} {r : Rp} {qual : Str} {params : Arguments} {body : Expr} {sc : Scope} (hf : Ev w B n env vars (.Name x np) (rLam qual params body sc)) (h : EvL w B n env vars es rs) (k : CalR w B n (rLam qual params body sc) rs r) :
    Ev w B n env vars (.Call (.Name x np) es [] pos) r := .mk fun A s F hA S => wpAny_Call_NameR ((hf.go A s F hA S).mono fun f s₁ ⟨F₁, x₁, hfv⟩ => by
  obtain ⟨fa, c, pm, ctv, o, cs, t, e, g, r'⟩ := id hfv
  subst e
  have ha := evalArgs_of (f := .ref fa) (pos := pos) h hA (S.ext x₁)
  refine callWith_function (o := kla_obj "<lambda>" qual params body sc [] pm c ctv) (fd := kla_fn "<lambda>" qual params body sc [] pm (.ref c) ctv) (ha.mono fun a s₂ ⟨e, F₂, x₂, p⟩ => ⟨⟨(x₂.fin _ _ (x₂.le _ _ g)).1, rfl⟩, ?_⟩)
  rw [e]
  exact (k.go A s₂ F₂ _ a.pos hA x₂.inv x₂.fin ((rLam qual params body sc).mono _ _ _ x₂.le hfv) p).mono fun v s' g => g.from (x₁.trans x₂))
noncomputable def fold2 (v : Nat) (xs : List Nat) : Nat := xs.foldl (fun a b => a * 256 + b) v
theorem reduce_body {s : Shared} {F : Fz} {xs : List Nat} {v : Nat} {qual : Str} {params : Arguments} {body : Expr} {sc : Scope} (T : Tx B) (U : T2 B) (hn : n ≤ 44)
    (hf : ∀ i, i < xs.length → CalR w B n (rLam qual params body sc) [rNat (fold2 v (xs.take i)), rNat (xs.getD i 0)] (rNat (fold2 v (xs.take (i + 1))))) (fe : FE (scopeAt 5) s.heap.objs.size env) :
    Xs w B s F n env [("function", rLam qual params body sc), ("sequence", rList rNat xs), ("initial", rNat v)] [] (bodyAt 5) (Back B s F (rNat (fold2 v xs))) := by
  refine Xs.iter (rs := xs.map rNat) [("function", rLam qual params body sc), ("sequence", rList rNat xs), ("initial", rNat v)] fe U.iter .nm .list fun F₁ I o itr => ?_
  refine Xs.if_in (b := false) [("value", rNat (fold2 v (xs.take 0))), ("it", rVal (.ref I)), ("function", rLam qual params body sc)] [(I, mObj o)] (EvT.m (.cmp .nm (Ev.gg fe U.miss) op_is_int .bool)) (fun h => by cases h) (fun _ => ?_) ?_
  · exact Xs.set (rNat (fold2 v (xs.take 0))) [("it", rVal (.ref I)), ("function", rLam qual params body sc)] fe (Ev.m (Ev.eq (r := rNat v) .nm (by simp [fold2]))) (Xs.done (by k_asm) (.refl _))
  · refine Xs.forI (xs := xs) (f := rNat) (vs := fun i => [("value", rNat (fold2 v (xs.take i))), ("it", rVal (.ref I)), ("function", rLam qual params body sc)]) fe (by k_is) itr (fun p hp => hp) (fun i p hp => by simp at hp; rcases hp with rfl | rfl | rfl <;> (dsimp only; decide)) (fun F₂ i a q ha => ?_) ?_
    · have hi := (List.getElem?_eq_some_iff.mp ha).1
      have hg : xs.getD i 0 = a := by simp [List.getD, ha]
      have hc := hf i hi
      rw [hg] at hc
      exact Xs.set (rNat (fold2 v (xs.take (i + 1)))) [("it", rVal (.ref I)), ("function", rLam qual params body sc)] fe (Ev.m (Ev.callL .nm (.cons .nm (.cons .nm .nil)) hc)) (Xs.nextP (by k_asm) (.refl _))
    · refine Xs.imp (Xs.ret (r := rNat (fold2 v xs)) (Ev.eq .nm (by rw [List.take_length]))) fun f s' h k => Back.rebase h k
theorem red_cal {xs : List Nat} {v : Nat} {qual : Str} {params : Arguments} {body : Expr} {sc : Scope} (T : Tx B) (U : T2 B) (hn : n ≤ 43)
    (hf : ∀ i, i < xs.length → CalR w B (n + 1) (rLam qual params body sc) [rNat (fold2 v (xs.take i)), rNat (xs.getD i 0)] (rNat (fold2 v (xs.take (i + 1))))) : Cal w B n (.ref 54) [rLam qual params body sc, rList rNat xs, rNat v] (rNat (fold2 v xs)) := by
  refine Cal.def3 (x := "function") (y := "sequence") (z := "initial") T.red T.lim (by (exact Nat.le_trans hn (by decide))) (fun a b c s iv cd pm doc ct an => ?_) fun s F env fe => reduce_body T U (by (exact Nat.succ_le_succ hn)) hf fe
  obtain ⟨o, m, ho, hd⟩ := T.at47
  first
    | exact .of_eq rfl
    | exact .of_defaults (T := 47) rfl (iv.keep _ _ ho (fun ⟨⟨_, vs, q⟩, _⟩ => by rw [hd] at q; cases q)) hd rfl rfl
end
end Mine
end

section
open PySem PySem.W PyProof.Rows PySem.Calls
namespace Mine
theorem sum_ofNat : ∀ ns : List Nat, (ns.map Int.ofNat).sum = (ns.sum : Int)
  | [] => rfl
  | a :: ns => by
    rw [List.map_cons, List.sum_cons, List.sum_cons, sum_ofNat ns]; simp
theorem sum_take_le : ∀ (ns : List Nat) (j : Nat), (ns.take j).sum ≤ ns.sum
  | [], j => by simp
  | a :: ns, 0 => by simp
  | a :: ns, j + 1 => by
    have := sum_take_le ns j
    simp only [List.take_succ_cons, List.sum_cons]; (lia)
theorem getD_le_sum : ∀ (ns : List Nat) (j : Nat), ns.getD j 0 ≤ ns.sum
  | [], j => by simp
  | a :: ns, 0 => by simp
  | a :: ns, j + 1 => by
    have := getD_le_sum ns j
    simp only [List.getD_cons_succ, List.sum_cons]; (lia)
section
variable {w : World} {B : Shared} {n : Nat}
theorem Cal.sum {ns : List Nat} (hs : ns.sum < 2 ^ 60) : Cal w B n (.builtin "sum") [rList rNat ns] (rNat ns.sum) := .mk fun A s F vs hA i fi are => by
  obtain ⟨v, vs', rfl, pv, q⟩ := are.cons_inv
  have e := q.nil_inv
  subst e
  refine W.size (call_sum_walk (((Iterable.list (w := w) (B := B) (n := n + 1) (f := rNat) (xs := ns)).go A.in1 s F v hA.in1 i fi pv).mono fun itv s₂ ⟨o, fp, Sn, ofr, eit, es, src, st⟩ => ?_))
  have hlen : (ns.map rNat).length = ns.length := by simp
  have W₀ := src.walks A.in1 hA.in1.handled
  rw [hlen] at W₀
  refine ⟨s.heap.objs.size, fp, [s.heap.objs.size], ns.length, _, Sn, (fun i => (ns.map Int.ofNat).getD i 0), eit, W₀, st, fun b hb => ?_, fun j u ⟨r, hr, pu⟩ => ?_, fun j hj => ?_, fun h' tk t' hk hz => ?_⟩
  · rcases src.fro b hb with rfl | ⟨o', e⟩
    · rw [es]; simp
    · have := Heap.lt_size (fi _ _ e).1
      rw [es]
      show b < (s.heap.push o).objs.size
      rw [Heap.size_push]; exact Nat.lt_succ_of_lt this
  · rw [List.getElem?_map] at hr
    obtain ⟨x, hx, rfl⟩ := Option.map_eq_some_iff.mp hr
    obtain ⟨t, rfl⟩ := pu
    exact ⟨t, by simp [List.getD, hx]⟩
  · have h1 := getD_le_sum ns j
    have h2 := sum_take_le ns (j + 1)
    have e1 : (ns.map Int.ofNat).getD j 0 = ((ns.getD j 0 : Nat) : Int) := by
      simp only [List.getD_eq_getElem?_getD, List.getElem?_map]
      cases ns[j]? <;> rfl
    have e2 : preSum (fun i => (ns.map Int.ofNat).getD i 0) (j + 1) = (((ns.take (j + 1)).sum : Nat) : Int) := by
      rw [preSum_getD, ← List.map_take, sum_ofNat]
    show InLong ((ns.map Int.ofNat).getD j 0) ∧ _
    rw [e1, e2]
    unfold InLong
    constructor <;> constructor <;> (lia)
  · have e2 : preSum (fun i => (ns.map Int.ofNat).getD i 0) ns.length = (ns.sum : Int) := by
      rw [preSum_getD, List.take_of_length_le (by simp), sum_ofNat]
    rw [e2]
    have kp : ∀ b o, s.heap.get? b = some o → h'.get? b = some o := fun b o' e => hk b o' (by simp; exact Nat.ne_of_lt (Heap.lt_size e)) (by rw [es]; exact Heap.get?_push_of_some _ e)
    subst es
    exact ⟨F, Ext.upAll i fi kp hz tk, t', rfl⟩
end
end Mine
end

section
open PySem PySem.W PyProof.Rows PySem.Calls PySem.SeqAt
namespace Mine
section
variable {w : World} {B : Shared} {n : Nat}
theorem ol_add {α : Type} {f : α → Rp} {xs ys : List α} (hz : xs.length + ys.length ≤ sizeLine) : Op2 w B n (binaryOp .Add) (rList f xs) (rList f ys) (rList f (xs ++ ys)) := .mk fun A s F u v hA i fi ⟨a, us, k, e, g, p⟩ ⟨b, vs, k', e', g', p'⟩ => by
  subst e; subst e'
  refine PySem.P.add_list (l := a) (b := b) (items := us.toArray) (items2 := vs.toArray) (n := k) (n2 := k') (fi _ _ g).1 (fi _ _ g').1 ?_ (by have h1 := p.1; have h2 := p'.1; simp; (lia))
  exact made i fi rfl _ fun F' le e => ⟨_, us ++ vs, 0, rfl, by rw [e]; simp [Mine.lst], (p.append p').mono le⟩
end
end Mine
end

section
open PySem PySem.W PyProof.Rows PySem.Calls
local macro_rules | `(tactic| k_is) => `(tactic| first | (with_reducible exact Mine.Has.here) | (with_reducible refine Mine.Has.there ?_; k_is))
local macro_rules | `(tactic| k_asm) => `(tactic| first | (with_reducible exact Mine.Keep.nil) | (with_reducible exact Mine.Sub.nil) | (with_reducible refine Mine.Keep.cons ?_ ?_ ?_; (k_is); (decide); (k_asm)) | (with_reducible refine Mine.Sub.cons ?_ ?_; (k_is); (k_asm)))
namespace Mine
section
variable {w : World} {B : Shared} {n : Nat} {env : Env} {vars : Vars} {scope : Scope} {s₀ : Shared} {F₀ : Fz} {ms : Mss} {Q : Flow → Shared → Prop}
theorem After.noneAt {s s' : Shared} {F F' : Fz} {L : Addr} {m : Str → Option Value} (x : After B s F L m F' s') {a : Addr} {o : Obj} (ho : s.heap.get? a = some o) (hq : soft o) (hL : a ≠ L) (h : F a = none) : F' a = none := by
  cases e : F' a with
  | none => rfl
  | some o' =>
    rcases x.new a o' e with q | q | q
    · rw [h] at q; cases q
    · exact absurd (Heap.lt_size ho) (Nat.not_lt.mpr q)
    · have h1 := x.keep a o ho (soft.ntab hq) hL
      rw [(x.fin a o' e).1] at h1
      cases h1; exact absurd q hq
/-- the walk goes on behind the sort -/
theorem After.rn {s s' : Shared} {F F' : Fz} {m : Str → Option Value} (x : After B s F env.locals m F' s') (R : Rn B s₀ F₀ env vars F s) (hm : s.heap.Ns env.locals m) (hL : s₀.heap.objs.size ≤ env.locals) : Rn B s₀ F₀ env vars F' s' := by
  obtain ⟨oL, es, ep, eL, dL, rL⟩ := id hm
  have neL : ∀ {c : Addr} {o : Obj} {v : Option Value}, s.heap.get? c = some o → o.data = .cell v → c ≠ env.locals := fun e d h => by
    subst h; rw [eL] at e; cases e; rw [dL] at d; cases d
  have cellk : ∀ {c : Addr} {v : Option Value}, s.heap.IsCell c v → s'.heap.IsCell c v := fun ⟨o, e, d⟩ => ⟨o, x.keep _ _ e (fun ⟨_, vs, q⟩ => by rw [d] at q; cases q) (neL e d), d⟩
  refine ⟨⟨x.inv, x.fin, ⟨R.st.eok.kd, R.st.eok.gl, R.st.eok.bi, ⟨m, x.ns⟩, x.lf, R.st.eok.locB, fun y c h => ?_, R.st.eok.apart⟩, fun p hp => ?_⟩, ⟨x.inv, Nat.le_trans R.ext.size x.size, fun b o e q => ?_, R.ext.le.trans x.le, fun a o e => ?_, x.fin⟩⟩
  · obtain ⟨⟨v, hv⟩, f, b⟩ := R.st.eok.cells y c h
    obtain ⟨o, e, d⟩ := id hv
    exact ⟨⟨v, cellk hv⟩, x.noneAt e (soft_of fun vs q => by rw [d] at q; cases q) (neL e d) f, b⟩
  · obtain ⟨v, hv, k⟩ := R.st.vars p hp
    refine ⟨v, p.2.mono _ _ _ x.le hv, k.imp (fun ⟨a, m', b, c⟩ => ⟨a, m, x.ns, ?_⟩) fun ⟨a, c, b, d⟩ => ⟨a, c, b, cellk d⟩⟩
    rw [Ns.uniq hm b]; exact c
  · refine x.keep b o (R.ext.keep b o e q) q ?_
    exact Nat.ne_of_lt (Nat.lt_of_lt_of_le (Heap.lt_size e) hL)
  · rcases x.new a o e with h | h | h
    · exact R.ext.new a o h
    · exact .inr (.inl (Nat.le_trans R.ext.size h))
    · exact .inr (.inr h)
theorem Are.pick {f : List Nat → Rp} {F : Fz} {vs : List Value} {xs : List (List Nat)} (h : Are f F vs xs) : ∀ (ps : List Nat), (∀ i ∈ ps, i < xs.length) → Are f F (ps.map fun i => vs.getD i .none) (ps.map fun i => xs.getD i [])
  | [], _ => Are.nil
  | i :: ps, hp => by
    have hi := hp i (.head _)
    obtain ⟨v, hv, p⟩ := h.get (List.getElem?_eq_getElem hi)
    refine Are.cons ?_ (h.pick ps fun j hj => hp j (.tail _ hj))
    show (f (xs.getD i [])).p F (vs.getD i .none)
    rw [show vs.getD i .none = v by simp [List.getD, hv], show xs.getD i [] = xs[i] by simp [List.getD, hi]]
    exact p
/-- y = sorted(x, key=..) -/
theorem Xs.sortedK {y : Str} {py np cp pos kp : Pos} {e ke : Expr} {rest : List Stmt} {xs : List (List Nat)} {z : Nat → Nat} (vars' : Vars) (T : Tx B) (K : KTx w B) (U : T2 B) (hn : n ≤ 44) (fe : FE scope s₀.heap.objs.size env) (hL : s₀.heap.objs.size ≤ env.locals) (h : Ev w B n env vars e (rList rS xs)) (hk : Ev w B n env vars ke (rK w.params B.heap.objs.size U142))
    (h4 : ∀ x ∈ xs, x.length ≤ 4) (h2 : 2 ≤ xs.length) (h64 : xs.length < 64) (hz : ∀ i j x y, xs[i]? = some x → xs[j]? = some y → decide (told x y < 0) = decide (z i < z j))
    (k : ∀ p, Pm xs.length p → Asc z p xs.length → Xs w B s₀ F₀ n env ((y, rList rS (p.toList.map fun i => xs.getD i [])) :: vars') [] rest Q) (hv : Keep vars y vars' := by k_asm) (ho : scope.names.lookup y = some .local ∨ scope.names.lookup y = some .cell := by decide +kernel) (hs : scope.names.lookup ("sorted" : Str) = some .globalImplicit := by decide +kernel)
    (he : backTo cp (starEach [e] env) = [(false, eval e env)] := by rfl) (hsw : swapsWith (.Call (.Name "sorted" np) [e] [⟨some "key", ke, kp⟩] cp) (some (.Name y py)) pos.line env = pure false := by rfl) :
    Xs w B s₀ F₀ n env vars [] (.Assign [.Name y py] (.Call (.Name "sorted" np) [e] [⟨some "key", ke, kp⟩] cp) pos :: rest) Q := .mk fun A s F hA R M => by
  refine wpAny_execs_cons (wpAny_Assign_Name ?_ hsw)
  refine wpAny_Call_Name_kw (((Ev.bb fe U.sorted hs).go A s F hA R.st).mono fun g s₁ ⟨F₁, x₁, eg⟩ => ?_)
  cases (show g = .builtin "sorted" from eg)
  refine callWith_kw ?_ (by rw [he]; rfl) (by rw [he]; rfl) rfl rfl
  rw [he]
  refine spliced_cons ((h.go A s₁ F₁ hA (R.st.ext x₁)).mono fun v s₂ ⟨F₂, x₂, pv⟩ => spliced_nil (kwAll_cons ((hk.go A s₂ F₂ hA ((R.st.ext x₁).ext x₂)).mono fun kv s₃ ⟨F₃, x₃, pk⟩ => kwAll_nil ?_)))
  have R₃ := ((R.of_ext x₁).of_ext x₂).of_ext x₃
  obtain ⟨l, vs, c, rfl, gl, are⟩ := pv
  obtain ⟨a, ea, hkc⟩ := pk
  subst ea
  obtain ⟨m, hm⟩ := R₃.st.eok.loc
  refine sorted_walk T K hA hn R₃.st.inv R₃.st.fin hm R₃.st.eok.locB R₃.st.eok.locF (x₃.le _ _ gl) (are.mono x₃.le) h4 h2 h64 ⟨rfl, hkc⟩ hz fun D p c' F' s' pm as af hD => ?_
  have R₄ := af.rn R₃ hm hL
  have hp : ∀ i ∈ p.toList, i < xs.length := fun i hi => by
    have := pm.mem_iff.mp (Array.mem_toList_iff.mp hi)
    simpa using this
  refine store' (r := rList rS (p.toList.map fun i => xs.getD i [])) R₄ ⟨D, _, c', rfl, hD, ((are.mono x₃.le).mono af.le).pick _ hp⟩ (fe.own _ ho) hv.mem fun s₅ R₅ k₅ => ?_
  exact (k p pm as).go A s₅ F' hA R₅ ⟨List.nodup_nil, fun _ e => nomatch e⟩
end
end Mine
end

section
open PySem PySem.W PyProof.Rows PySem.Calls PySem.SeqAt
local macro_rules | `(tactic| k_is) => `(tactic| first | (with_reducible exact Mine.Has.here) | (with_reducible refine Mine.Has.there ?_; k_is))
local macro_rules | `(tactic| k_asm) => `(tactic| first | (with_reducible exact Mine.Keep.nil) | (with_reducible exact Mine.Sub.nil) | (with_reducible refine Mine.Keep.cons ?_ ?_ ?_; (k_is); (decide); (k_asm)) | (with_reducible refine Mine.Sub.cons ?_ ?_; (k_is); (k_asm)))
namespace Mine
noncomputable def inputs (script : List Int) : List Int := script.take 3 ++ [77, 4173, 61691, 65531, 251, 5570893, 77]
noncomputable def rowsOf (script : List Int) : List (List Nat) := (inputs script).map fun x => octs (low x)
noncomputable def wr (row : List Nat) : List Nat := writ (sixes row)
section
variable {w : World} {B : Shared} {n : Nat} {env : Env} {vars : Vars} {scope : Scope} {s₀ : Shared} {F₀ : Fz} {ms : Mss} {Q : Flow → Shared → Prop}
theorem is_B {l : List Nat} : ∀ F (s : Shared) v, (rB l).p F v → F.In s.heap → s.TypeIs v "bytes" := fun F s v ⟨t, e⟩ _ => by subst e; exact typeIs_bytes _ _ _
theorem nd_B {l : List Nat} : ∀ F (s : Shared) v, (rB l).p F v → F.In s.heap → ∀ a, v = .ref a → ∃ o, s.heap.get? a = some o ∧ o.dict = Option.none := fun F s v ⟨t, e⟩ _ a h => by subst e; cases h
theorem sg_lt (k : Nat) : sg k < 128 := by
  unfold sg
  have h : ∀ c ∈ al, c < 128 := by decide +kernel
  simp only [List.getD_eq_getElem?_getD]
  cases e : al[k]? with
  | none => decide
  | some c => exact h c (List.mem_of_getElem? e)
theorem wr_len {row : List Nat} (h : Row row) : ∃ a b c d, wr row = [a, b, c, d] ∧ a < 128 ∧ b < 128 ∧ c < 128 ∧ d < 128 := by
  obtain ⟨h1, h2, _⟩ := h
  match row, h1, h2 with
  | [x], _, _ => exact ⟨_, _, _, _, rfl, sg_lt _, sg_lt _, by decide, by decide⟩
  | [x, y], _, _ => exact ⟨_, _, _, _, rfl, sg_lt _, sg_lt _, sg_lt _, by decide⟩
  | [x, y, z], _, _ => exact ⟨_, _, _, _, rfl, sg_lt _, sg_lt _, sg_lt _, sg_lt _⟩
theorem Ev.writing {o : Str} {row : List Nat} {p q r t u : Pos} {k : Nat} {p2 p3 p4 : Pos} {N : Nat} (T : Tx B) (fe : FE scope N env) (hn : n ≤ 38) (hr : Row row) (h : Has vars o (rList rNat row)) (h1 : scope.names.lookup ("b64encode" : Str) = some .globalImplicit) (h2 : scope.names.lookup ("bytes" : Str) = some .globalImplicit) (hd : (o == ("__debug__" : Str)) = false) (hc : (o == ("__classdict__" : Str)) = false) (hline : (q.endLine == r.line) = true) :
    Ev w B n env vars (.Call (.Attribute (.Call (.Name "b64encode" p) [.Call (.Name "bytes" p2) [.Name o p3] [] t] [] u) "decode" q) [.Constant (.str "ascii") k p4] [] r) (rS (wr row)) := by
  obtain ⟨a, b, c, d, e, ha, hb, hc', hd'⟩ := wr_len hr
  rw [e]
  refine Ev.meth (T := "bytes") (r₁ := rB [a, b, c, d]) ?_ is_B nd_B PySem.W.FB.plainAttrs_bytes PySem.W.FB.slot_bytes_decode PySem.W.FB.type_bytes_decode (.cons (Ev.lit (l := [97, 115, 99, 105, 105])) .nil) (Cal.ascii ha hb hc' hd') (hline := hline)
  rw [← e]
  exact Ev.cF fe T.g_b64 T.b64 (.cons (Ev.cT fe T.bytes_ (.cons (Ev.name h hd hc) .nil) (Cal.bytes hr.2.2 (by have := hr.2.1; (exact Nat.le_trans this (by decide)))) h2) .nil) (b64_cal T hn hr) h1
end
end Mine
end

section
open PySem PySem.W PyProof.Rows PySem.Calls PySem.SeqAt
local macro_rules | `(tactic| k_is) => `(tactic| first | (with_reducible exact Mine.Has.here) | (with_reducible refine Mine.Has.there ?_; k_is))
local macro_rules | `(tactic| k_asm) => `(tactic| first | (with_reducible exact Mine.Keep.nil) | (with_reducible exact Mine.Sub.nil) | (with_reducible refine Mine.Keep.cons ?_ ?_ ?_; (k_is); (decide); (k_asm)) | (with_reducible refine Mine.Sub.cons ?_ ?_; (k_is); (k_asm)))
namespace Mine
section
variable {w : World} {B : Shared} {n : Nat} {env : Env} {vars : Vars} {scope : Scope} {s₀ : Shared} {F₀ : Fz} {ms : Mss} {Q : Flow → Shared → Prop}
/-- what is asked of the rows, in plain words -/
structure LawH (rows due : List (List Nat)) (z : Nat → Nat) : Prop where
  len : 2 ≤ rows.length ∧ rows.length ≤ 10
  row : ∀ r ∈ rows, Row r
  slot : slots rows rows.length = due.map some
  duer : ∀ r ∈ due, Row r
  duel : due.length = rows.length
  rank : ∀ i j x y, (rows.map wr)[i]? = some x → (rows.map wr)[j]? = some y → decide (told x y < 0) = decide (z i < z j)
  ord : ∀ p, Pm rows.length p → Asc z p rows.length → (p.toList.map fun i => (rows.map wr).getD i []) = due.map wr
  fold : ∀ r ∈ rows, fold2 1 r = 256 ^ r.length + ((List.range r.length).map fun k => r.getD (r.length - 1 - k) 0 * 256 ^ k).sum
  five : ∀ (j k : Nat) a b c d, (due.map wr)[j]? = some a → (due.map wr)[k]? = some b → due[j]? = some c → due[k]? = some d → fiveK a b = fiveR c d
theorem law_body1 {s : Shared} {F : Fz} {script : List Int} {due : List (List Nat)} {z : Nat → Nat} (T : Tx B) (K : KTx w B) (U : T2 B) (hn : n ≤ 36) (hz : script.length ≤ 63) (H : LawH (rowsOf script) due z)
    (fe : FE (scopeAt 32) s.heap.objs.size env) (hL : s.heap.objs.size ≤ env.locals)
    (kk : Xs w B s F n env [("due", rList (rList rNat) due), ("ordered", rList rS (due.map wr)), ("rows", rList (rList rNat) (rowsOf script))] [] ((bodyAt 32).drop 4) Q) :
    Xs w B s F n env [("script", rList rInt script)] [] (bodyAt 32) Q := by
  have hlen : (rowsOf script).length ≤ 10 := H.len.2
  refine Xs.setLc (inputs script) rInt (fun x => rList rNat (octs (low x))) [] [] fe
    (Ev.bin (Ev.eq (Ev.sub (T := "list") .nm (Ev.slice .no (.nat (Ev.nat 3))) is_list slot_list_getitem.lookup (it_cut (by (exact Nat.lt_of_le_of_lt hz (by decide))))) (congrArg _ (cut_to 3 script))) (by
      refine Ev.unmap (f := fun r : Rp => r) (g := rInt) (xs := [77, 4173, 61691, 65531, 251, 5570893, 77]) ?_
      exact Ev.list (.cons Ev.int (.cons Ev.int (.cons Ev.int (.cons Ev.int (.cons Ev.int (.cons Ev.int (.cons Ev.int .nil))))))) (by show 7 ≤ sizeLine; decide)) (ol_add (by simp [sizeLine]; (lia))))
    .list .nil (fun N cenv ce x hx => Ev.cF ce T.g_row T.row (.cons .nm .nil) (row_cal T (by (exact Nat.le_trans hn (by decide))))) (by simp [inputs, sizeLine]; (lia)) ?_
  refine Xs.sub (vars' := [("rows", rList (rList rNat) (rowsOf script))]) ?_ (fun p hp => by simp at hp; subst hp; exact ⟨_, .head _, rfl, fun F v h => rList.map.mp h⟩)
  refine Xs.setLc (rowsOf script) (rList rNat) (fun r => rS (wr r)) [("rows", rList (rList rNat) (rowsOf script))] [] fe .nm .list .nil (fun N cenv ce r hr => by
    refine Ev.writing T ce ?_ (H.row r hr) ?_ ?_ ?_ ?_ ?_ ?_
    · (exact Nat.le_trans hn (by decide))
    · k_is
    · decide +kernel
    · decide +kernel
    · decide
    · decide
    · rfl) (by simp [sizeLine]; (exact Nat.le_trans hlen (by decide))) ?_
  refine Xs.sub (vars' := [("writings", rList rS ((rowsOf script).map wr)), ("rows", rList (rList rNat) (rowsOf script))]) ?_ (fun p hp => by
    simp at hp; rcases hp with rfl | rfl
    · exact ⟨_, .head _, rfl, fun F v h => rList.map.mp h⟩
    · exact ⟨_, .tail _ (.head _), rfl, fun F v h => h⟩)
  refine Xs.sortedK (z := z) [("rows", rList (rList rNat) (rowsOf script))] T K U (by (exact Nat.le_trans hn (by decide))) fe hL .nm (Ev.cF fe T.g_ctk T.ctk (.cons (Ev.gg fe T.g_compared) .nil) (ctk_cal T K (by (exact Nat.le_trans hn (by decide))))) (fun x hx => ?_) (by simp; exact H.len.1) (by simp; (exact Nat.lt_of_le_of_lt hlen (by decide))) H.rank fun p pm as => ?_
  · obtain ⟨r, hr, rfl⟩ := List.mem_map.mp hx
    obtain ⟨a, b, c, d, e, _⟩ := wr_len (H.row r hr)
    rw [e]; exact Nat.le_refl 4
  rw [List.length_map] at pm as
  rw [H.ord p pm as]
  refine Xs.set (rList (rList rNat) due) [("ordered", rList rS (due.map wr)), ("rows", rList (rList rNat) (rowsOf script))] fe (Ev.m (by
    refine Ev.unmap (f := fun r : Rp => r) (g := rList rNat) (xs := due) ?_
    refine Ev.eq (r := rL ((slots (rowsOf script) (rowsOf script).length).map optR)) (Ev.cF fe T.g_ordered T.ordered (.cons .nm .nil) (ordered_cal T (by (exact Nat.le_trans hn (by decide))) (by (exact Nat.le_trans hlen (by decide))))) ?_
    rw [H.slot, List.map_map]; rfl)) kk
end
end Mine
end

section
open PySem PySem.W PyProof.Rows PySem.Calls PySem.SeqAt
local macro_rules | `(tactic| k_is) => `(tactic| first | (with_reducible exact Mine.Has.here) | (with_reducible refine Mine.Has.there ?_; k_is))
local macro_rules | `(tactic| k_asm) => `(tactic| first | (with_reducible exact Mine.Keep.nil) | (with_reducible exact Mine.Sub.nil) | (with_reducible refine Mine.Keep.cons ?_ ?_ ?_; (k_is); (decide); (k_asm)) | (with_reducible refine Mine.Sub.cons ?_ ?_; (k_is); (k_asm)))
namespace Mine
section
variable {w : World} {B : Shared} {n : Nat} {env : Env} {vars : Vars} {s₀ : Shared} {F₀ : Fz} {ms : Mss} {Q : Flow → Shared → Prop}
theorem Xs.compC {α : Type} {elt iter : Expr} {x y : Str} {px py spos : Pos} {ifs : List Expr} {scope : Scope} {pos : Pos} {xs : List α} {f g : α → Rp} {p : α → Bool} {rI : Rp} {rest : List Stmt} {vars' : Vars} (cap : Vars)
    (hi : Ev w B n env vars iter rI) (it : Iterable w B n rI (xs.map f)) (ok : scOk scope = true) (hf : frees scope = cap.map (·.1)) (hc : Cap env vars cap)
    (hz : xs.length ≤ sizeLine) (hxl : scope.names.lookup x = some .local ∨ scope.names.lookup x = some .cell)
    (hb : ∀ N cenv, FE scope N cenv → cenv.code = env.code → cenv.qual = env.qual → (∀ a ∈ xs, Tests w B n cenv ((x, f a) :: cap) ifs (p a)) ∧ ∀ a ∈ xs, p a = true → Ev w B n cenv ((x, f a) :: cap) elt (g a))
    (ho : Own env s₀.heap.objs.size y) (hv' : ∀ p ∈ vars', p ∈ vars ∧ p.1 ≠ y) (k : Xs w B s₀ F₀ n env ((y, rList g (xs.filter p)) :: vars') ms rest Q)
    (hsw : swapsWith (.ListComp elt [⟨.Name x px, iter, ifs, 0⟩] scope pos) (some (.Name y py)) spos.line env = pure true)
    (hs : ∀ x, foldedSetIterable iter env x = pure x := by intro _; rfl) : Xs w B s₀ F₀ n env vars ms (.Assign [.Name y py] (.ListComp elt [⟨.Name x px, iter, ifs, 0⟩] scope pos) spos :: rest) Q := .mk fun A s F hA R M => by
  refine wpAny_execs_cons ?_
  rw [exec_Assign_Name_used _ _ _ _ hsw]
  refine wpAny_bind (wpAny_standAt (wpAny_bind ?_))
  show wpAny _ A (do let _ ← comprehension (.ListComp elt [⟨.Name x px, iter, ifs, 0⟩] scope pos) scope env _ (newList []) false (eval iter env) (some (PySem.assign (.Name y py) env))) _ _ s
  have okk := ok
  simp only [scOk, Bool.and_eq_true, beq_iff_eq, decide_eq_true_eq] at okk
  obtain ⟨cl, ecl, _⟩ := enter (w := w) (A := A) R.st (Ext.refl R.st.inv R.st.fin) ok hf hc
  refine wpAny_bind (wpAny_mono (wpAny_comprehension_free (use := some (PySem.assign (.Name y py) env)) (Q := fun _ s' => wpAny (model PG w) A (execs rest env) Q (fun _ _ => False) s') rfl hs ecl okk.1 (fun y hy e => e ▸ nodup_lookup okk.2 hy)
    ((hi.go A s F hA R.st).mono fun xv s₁ ⟨F₁, x₁, hv⟩ => ?_)) (fun _ s' hq => wpAny_pure (wpAny_pure hq)) fun _ _ e => e)
  refine comp_blockC (RR := fun acc C => compPost (model PG w) A _ (some (PySem.assign (.Name y py) env)) _ acc C) hA R.st x₁ it hv ok hf hc ecl hz hxl hb fun D C s' F' x' hr ⟨m, hm⟩ hC hC1 hC2 => ?_
  show wpAny _ A (PySem.assign (.Name y py) env (.ref D)) _ _ _
  have R' := (R.of_ext x₁).of_ext x'
  obtain ⟨mL, hL⟩ := R.st.eok.loc
  have hCl : C ≠ env.locals := fun e => by subst e; exact absurd (Nat.lt_of_lt_of_le hL.lt (Nat.le_trans x₁.size hC1)) (Nat.lt_irrefl _)
  refine wpAny_assign_Name (store'' R' hr ho hv' fun s₂ R₂ k₂ => ?_)
  obtain ⟨o, es, ep, e, d, z⟩ := id hm
  have e₂ := k₂ C o e hCl fun v q => by rw [d] at q; cases q
  refine ⟨m, ⟨o, es, ep, e₂, d, z⟩, fun h' hs' => ?_⟩
  have hC0 : s.heap.objs.size ≤ C := Nat.le_trans x₁.size hC1
  have old : ∀ b o', s.heap.get? b = some o' → b ≠ C := fun b o' e' => Nat.ne_of_lt (Nat.lt_of_lt_of_le (Heap.lt_size e') hC0)
  have sC : soft o := soft_of fun _ q => by rw [d] at q; cases q
  refine k.go A _ F' hA ⟨⟨R₂.st.inv.same hs' e₂ sC hC2 _, R₂.st.fin.same hs' hC, ?_, fun p hp => ?_⟩, R₂.ext.same hs' e₂ sC hC2 (Nat.le_trans R.ext.size hC0) hC _⟩ ?_
  · obtain ⟨m₂, hm₂⟩ := R₂.st.eok.loc
    refine ⟨R₂.st.eok.kd, R₂.st.eok.gl, R₂.st.eok.bi, ⟨m₂, hm₂.sameBut hs' (Ne.symm hCl)⟩, R₂.st.eok.locF, R₂.st.eok.locB, fun y c hy => ?_, R₂.st.eok.apart⟩
    obtain ⟨⟨u, hu⟩, f, b⟩ := R₂.st.eok.cells y c hy
    obtain ⟨⟨u', hu'⟩, _⟩ := R.st.eok.cells y c hy
    exact ⟨⟨u, hu.sameBut hs' (let ⟨_, e', _⟩ := hu'; old _ _ e')⟩, f, b⟩
  · obtain ⟨v, hv, q⟩ := R₂.st.vars p hp
    refine ⟨v, hv, q.imp (fun ⟨a, m', b, c⟩ => ⟨a, m', b.sameBut hs' (Ne.symm hCl), c⟩) fun ⟨a, c, b, dd⟩ => ⟨a, c, b, dd.sameBut hs' ?_⟩⟩
    obtain ⟨⟨u', hu'⟩, _⟩ := R.st.eok.cells p.1 c b
    exact let ⟨_, e', _⟩ := hu'; old _ _ e'
  · have M₂ := ((M.ext x₁).ext x').keep (s' := s₂) fun b o e k1 k2 => k₂ b o e (by rintro rfl; obtain ⟨m₃, o₃, _, _, e₃, d₃, _⟩ := R'.st.eok.loc; rw [e₃] at e; cases e; exact k1 _ _ d₃) k2
    refine M₂.keep fun b o₂ e9 k1 _ => (hs'.2 b ?_).trans e9
    rintro rfl
    rw [e₂] at e9; cases e9
    exact k1 _ _ d

end
section
variable {w : World} {B : Shared} {n : Nat}
theorem Xs.setLcC {α : Type} {elt iter : Expr} {x y : Str} {px py spos : Pos} {sc scope : Scope} {pos : Pos} (xs : List α) (f g : α → Rp) {rI : Rp} {rest : List Stmt} (vars' : Vars) (cap : Vars)
    (fe : FE scope s₀.heap.objs.size env) (hi : Ev w B n env vars iter rI) (it : Iterable w B n rI (xs.map f)) (hc : Cap env vars cap)
    (hb : ∀ N cenv, FE sc N cenv → cenv.code = env.code → cenv.qual = env.qual → ∀ a ∈ xs, Ev w B n cenv ((x, f a) :: cap) elt (g a))
    (hz : xs.length ≤ sizeLine) (k : Xs w B s₀ F₀ n env ((y, rList g xs) :: vars') ms rest Q) (hv' : Keep vars y vars' := by k_asm)
    (ok : scOk sc = true := by decide +kernel) (hf : frees sc = cap.map (·.1) := by kernel_rfl) (hxl : sc.names.lookup x = some .local ∨ sc.names.lookup x = some .cell := by decide +kernel)
    (hy : scope.names.lookup y = some .local := by decide +kernel) (hp : (py.line == pos.line && !(sc.names.any fun (n, k) => n == y && (k == .local || k == .cell))) = true := by decide +kernel)
    (hs : ∀ x, foldedSetIterable iter env x = pure x := by intro _; rfl) : Xs w B s₀ F₀ n env vars ms (.Assign [.Name y py] (.ListComp elt [⟨.Name x px, iter, [], 0⟩] sc pos) spos :: rest) Q :=
  Xs.kd fun kd => Xs.compC (p := fun _ => true) cap hi it ok hf hc hz hxl (fun N cenv ce e1 e2 => ⟨fun a _ => Tests.nil, fun a ha _ => hb N cenv ce e1 e2 a ha⟩) (fe.own _ (.inl hy)) hv'.mem (by rwa [show xs.filter (fun _ => true) = xs from List.filter_eq_self.mpr (by simp)]) (swaps_yes kd (fe.ce.kd _ _ hy (by decide)) hp) hs
end
end Mine
end

section
open PySem PySem.W PyProof.Rows PySem.Calls PySem.SeqAt
local macro_rules | `(tactic| k_is) => `(tactic| first | (with_reducible exact Mine.Has.here) | (with_reducible refine Mine.Has.there ?_; k_is))
local macro_rules | `(tactic| k_asm) => `(tactic| first | (with_reducible exact Mine.Keep.nil) | (with_reducible exact Mine.Sub.nil) | (with_reducible refine Mine.Keep.cons ?_ ?_ ?_; (k_is); (decide); (k_asm)) | (with_reducible refine Mine.Sub.cons ?_ ?_; (k_is); (k_asm)))
namespace Mine
theorem fold2_lt : ∀ (xs : List Nat) (v : Nat), (∀ x ∈ xs, x < 256) → fold2 v xs < (v + 1) * 256 ^ xs.length
  | [], v, _ => by simp [fold2]
  | x :: xs, v, h => by
    have ih := fold2_lt xs (v * 256 + x) fun y hy => h y (.tail _ hy)
    have hx := h x (.head _)
    show fold2 (v * 256 + x) xs < _
    refine Nat.lt_of_lt_of_le ih ?_
    rw [List.length_cons, Nat.pow_succ, Nat.mul_comm (256 ^ xs.length) 256, ← Nat.mul_assoc]
    exact Nat.mul_le_mul_right _ (by (lia))
theorem fold2_take {xs : List Nat} {v i : Nat} (h : i < xs.length) : fold2 v (xs.take (i + 1)) = fold2 v (xs.take i) * 256 + xs.getD i 0 := by
  unfold fold2
  rw [List.take_add_one, List.getElem?_eq_getElem h, List.foldl_append]
  simp [List.getD, h]
theorem fold2_small {r : List Nat} (h : Row r) (i : Nat) : fold2 1 (r.take i) < 2 ^ 40 := by
  have h1 := fold2_lt (r.take i) 1 fun x hx => h.2.2 x (List.mem_of_mem_take hx)
  have h2 : (r.take i).length ≤ 3 := by rw [List.length_take]; have := h.2.1; (lia)
  have h3 : 256 ^ (r.take i).length ≤ 256 ^ 3 := Nat.pow_le_pow_right (by decide) h2
  (lia)
noncomputable def lamE : Expr := match (match (bodyAt 32).getD 4 (.Pass ⟨0, 0, 0, 0⟩) with | .Assign _ e _ => e | _ => .Constant .none 0 ⟨0, 0, 0, 0⟩) with | .ListComp (.Call _ (l :: _) _ _) _ _ _ => l | _ => .Constant .none 0 ⟨0, 0, 0, 0⟩
section
variable {w : World} {B : Shared} {n : Nat} {env : Env} {vars : Vars} {s₀ : Shared} {F₀ : Fz} {ms : Mss} {Q : Flow → Shared → Prop}
theorem law_fold {s : Shared} {F : Fz} {rows : List (List Nat)} {vs : Rp × Rp} (T : Tx B) (U : T2 B) (hn : n ≤ 36) (hrow : ∀ r ∈ rows, Row r) (hz : rows.length ≤ 10) (fe : FE (scopeAt 32) s.heap.objs.size env) (hcode : env.code = .ref 173) (hq : env.qual = "law.<locals>.")
    (kk : Xs w B s F n env [("folded", rList rNat (rows.map (fold2 1))), ("due", vs.1), ("ordered", vs.2), ("rows", rList (rList rNat) rows)] [] ((bodyAt 32).drop 5) Q) :
    Xs w B s F n env [("due", vs.1), ("ordered", vs.2), ("rows", rList (rList rNat) rows)] [] ((bodyAt 32).drop 4) Q := by
  refine Xs.setLcC rows (rList rNat) (fun r => rNat (fold2 1 r)) [("due", vs.1), ("ordered", vs.2), ("rows", rList (rList rNat) rows)] [] fe .nm .list .nil (fun N cenv ce e1 e2 r hr => ?_) (by simp [sizeLine]; (exact Nat.le_trans hz (by decide))) ?_
  · refine Ev.cF ce T.g_red T.red (.cons (Ev.lam1 U.mk1 (e1.trans hcode) (e2.trans hq)) (.cons .nm (.cons (Ev.nat 1) .nil))) (red_cal T U (by (exact Nat.le_trans hn (by decide))) fun i hi => ?_)
    have hs := fold2_small (hrow r hr) i
    rw [fold2_take hi]
    refine lam_cal (x := "told") (y := "octet") T (by (exact Nat.lt_of_le_of_lt hn (by decide))) (fun v u s pm cd ct => .of_eq rfl) (by decide) (by decide +kernel) (by decide +kernel) rfl rfl rfl fun N env fe' => ?_
    exact Ev.bin (Ev.bin .nm (Ev.nat 256) (on_mul (by (exact Nat.lt_of_lt_of_le hs (by decide))))) .nm on_add
  · refine Xs.sub kk (fun p hp => ?_)
    simp at hp; rcases hp with rfl | rfl | rfl | rfl
    · exact ⟨_, .head _, rfl, fun F v h => rList.map.mp h⟩
    · exact ⟨_, .tail _ (.head _), rfl, fun F v h => h⟩
    · exact ⟨_, .tail _ (.tail _ (.head _)), rfl, fun F v h => h⟩
    · exact ⟨_, .tail _ (.tail _ (.tail _ (.head _))), rfl, fun F v h => h⟩
end
end Mine
end

section
open PySem PySem.W PyProof.Rows PySem.Calls PySem.SeqAt
local macro_rules | `(tactic| k_is) => `(tactic| first | (with_reducible exact Mine.Has.here) | (with_reducible refine Mine.Has.there ?_; k_is))
local macro_rules | `(tactic| k_asm) => `(tactic| first | (with_reducible exact Mine.Keep.nil) | (with_reducible exact Mine.Sub.nil) | (with_reducible refine Mine.Keep.cons ?_ ?_ ?_; (k_is); (decide); (k_asm)) | (with_reducible refine Mine.Sub.cons ?_ ?_; (k_is); (k_asm)))
namespace Mine
noncomputable def placed (r : List Nat) : Nat := 256 ^ r.length + ((List.range r.length).map fun k => r.getD (r.length - 1 - k) 0 * 256 ^ k).sum
section
variable {w : World} {B : Shared} {n : Nat} {env : Env} {vars : Vars} {s₀ : Shared} {F₀ : Fz} {ms : Mss} {Q : Flow → Shared → Prop} {scope : Scope} {N : Nat}
theorem sum_map_le {f : Nat → Nat} {M : Nat} : ∀ (l : List Nat), (∀ k ∈ l, f k ≤ M) → (l.map f).sum ≤ l.length * M
  | [], _ => by simp
  | a :: l, h => by
    have ih := sum_map_le l fun k hk => h k (.tail _ hk)
    have := h a (.head _)
    rw [List.map_cons, List.sum_cons, List.length_cons, Nat.succ_mul]; (first | lia | omega)
theorem placed_part {r : List Nat} (h : Row r) {k : Nat} (hk : k < r.length) : r.getD (r.length - 1 - k) 0 * 256 ^ k ≤ 256 * 256 ^ 3 := by
  have h1 : r.getD (r.length - 1 - k) 0 < 256 := by
    have hl : r.length - 1 - k < r.length := by (first | lia | omega)
    rw [show r.getD (r.length - 1 - k) 0 = r[r.length - 1 - k] by simp [List.getD, hl]]
    exact h.2.2 _ (List.getElem_mem hl)
  exact Nat.mul_le_mul (Nat.le_of_lt h1) (Nat.pow_le_pow_right (by decide) (by have := h.2.1; (first | lia | omega)))
theorem law_test1 {s : Shared} {F : Fz} {rows : List (List Nat)} {vs : Rp × Rp} (T : Tx B) (U : T2 B) (hn : n ≤ 36) (hrow : ∀ r ∈ rows, Row r) (hz : rows.length ≤ 10) (hf : ∀ r ∈ rows, fold2 1 r = placed r) (fe : FE (scopeAt 32) s.heap.objs.size env)
    (kk : Xs w B s F n env [("due", vs.1), ("ordered", vs.2)] [] ((bodyAt 32).drop 6) Q) :
    Xs w B s F n env [("folded", rList rNat (rows.map (fold2 1))), ("due", vs.1), ("ordered", vs.2), ("rows", rList (rList rNat) rows)] [] ((bodyAt 32).drop 5) Q := by
  refine Xs.if_in (b := false) [("due", vs.1), ("ordered", vs.2)] [] (EvT.m (.ext (.cmp (r₂ := rList rNat (rows.map placed)) .nm (Ev.map (f := rNat) (g := placed) (Ev.lc0 rows (rList rNat) (fun r => rNat (placed r)) [] .nm .list .nil (fun N cenv ce r hr => ?_) (by simp [sizeLine]; (first | lia | omega)))) (ol_nen (by (first | lia | omega))) .bool) ?_)) (fun h => by cases h) (fun _ => Xs.done (by k_asm) (.refl _)) kk
  · have hr3 := (hrow r hr).2.1
    refine Ev.bin (Ev.bin (Ev.nat 256) (Ev.cB ce T.len (.cons .nm .nil) (Cal.len_list (by (first | lia | omega)))) (on_pow (by decide) (by (first | lia | omega)))) (Ev.cB ce U.sum (.cons (Ev.map (f := rNat) (g := fun k => r.getD (r.length - 1 - k) 0 * 256 ^ k) (Ev.lc0 (List.range r.length) (fun k => rNat k) (fun k => rNat (r.getD (r.length - 1 - k) 0 * 256 ^ k)) [("row", rList rNat r)]
      (Ev.cT ce T.range (.cons (Ev.cB ce T.len (.cons .nm .nil) (Cal.len_list (by (first | lia | omega)))) .nil) Cal.range1) (Iterable.range1 (by (first | lia | omega))) (.cons (by k_is) ce.cf .nil) (fun N' cenv' ce' k hk => ?_) (by simp [sizeLine]; (first | lia | omega)))) .nil) (Cal.sum ?_)) on_add
    · have hk' := List.mem_range.mp hk
      have hp := placed_part (hrow r hr) hk'
      have hl : r.length - 1 - k < r.length := by (first | lia | omega)
      have hx : r[((-1 - (k : Int)) + r.length).toNat]? = some (r.getD (r.length - 1 - k) 0) := by
        rw [show ((-1 - (k : Int)) + r.length).toNat = r.length - 1 - k by (first | lia | omega), List.getElem?_eq_getElem hl]
        simp [List.getD, hl]
      refine Ev.bin (Ev.sub (T := "list") .nm (Ev.bin (Ev.neg (Ev.int (i := 1))) .nm op_sub) is_list slot_list_getitem.lookup (it_list_neg (by (first | lia | omega)) (by (first | lia | omega)) (by (first | lia | omega)) hx)) (Ev.bin (Ev.nat 256) .nm (on_pow (by decide) (by (first | lia | omega)))) (on_mul ?_)
      have h1 : r.getD (r.length - 1 - k) 0 < 256 := by
        rw [show r.getD (r.length - 1 - k) 0 = r[r.length - 1 - k] by simp [List.getD, hl]]
        exact (hrow r hr).2.2 _ (List.getElem_mem hl)
      (first | lia | omega)
    · have := sum_map_le (f := fun k => r.getD (r.length - 1 - k) 0 * 256 ^ k) (M := 256 * 256 ^ 3) (List.range r.length) fun k hk => placed_part (hrow r hr) (List.mem_range.mp hk)
      rw [List.length_range] at this
      have h2 : r.length * (256 * 256 ^ 3) ≤ 3 * (256 * 256 ^ 3) := Nat.mul_le_mul_right _ hr3
      (first | lia | omega)
  · rw [show rows.map (fold2 1) = rows.map placed from List.map_congr_left hf]; simp
end
end Mine
end

section
open PySem PySem.W PyProof.Rows PySem.Calls PySem.SeqAt
local macro_rules | `(tactic| k_is) => `(tactic| first | (with_reducible exact Mine.Has.here) | (with_reducible refine Mine.Has.there ?_; k_is))
local macro_rules | `(tactic| k_asm) => `(tactic| first | (with_reducible exact Mine.Keep.nil) | (with_reducible exact Mine.Sub.nil) | (with_reducible refine Mine.Keep.cons ?_ ?_ ?_; (k_is); (decide); (k_asm)) | (with_reducible refine Mine.Sub.cons ?_ ?_; (k_is); (k_asm)))
namespace Mine
theorem six_of {r : List Nat} (h : Row r) : Six (sixes r) := by
  have hl : (sixes r).length = r.length + 1 := by simp [sixes]
  refine ⟨by rw [hl]; have := h.1; (exact Nat.succ_le_succ this), by rw [hl]; have := h.2.1; (exact Nat.succ_le_succ this), fun k hk => ?_⟩
  unfold sixes at hk
  obtain ⟨j, _, rfl⟩ := List.mem_map.mp hk
  exact Nat.mod_lt _ (by decide)
section
variable {w : World} {B : Shared} {n : Nat} {env : Env} {vars : Vars} {s₀ : Shared} {F₀ : Fz} {ms : Mss} {Q : Flow → Shared → Prop} {scope : Scope} {N : Nat}
theorem law_end {s : Shared} {F : Fz} {due : List (List Nat)} (T : Tx B) (K : KTx w B) (hn : n ≤ 36) (hrow : ∀ r ∈ due, Row r) (hz : due.length ≤ 10)
    (five : ∀ (j k : Nat) a b c d, (due.map wr)[j]? = some a → (due.map wr)[k]? = some b → due[j]? = some c → due[k]? = some d → fiveK a b = fiveR c d)
    (RC : Cal w B n (.ref 169) [rList (rList rNat) (due.map sixes), rList rS (due.map wr)] (rBool true)) (fe : FE (scopeAt 32) s.heap.objs.size env) :
    Xs w B s F n env [("due", rList (rList rNat) due), ("ordered", rList rS (due.map wr))] [] ((bodyAt 32).drop 6) (Back B s F (rBool true)) := by
  have h4 : ∀ x ∈ due.map wr, x.length ≤ 4 := fun x hx => by
    obtain ⟨r, hr, rfl⟩ := List.mem_map.mp hx
    obtain ⟨a, b, c, d, e, _⟩ := wr_len (hrow r hr)
    rw [e]; exact Nat.le_refl 4
  refine Xs.if_in (b := false) [("due", rList (rList rNat) due), ("ordered", rList rS (due.map wr))] [] (EvT.m (.ext (.bop (.or_cons (a := false) (b := false) (.ext (.cmp (r₂ := rList rS (due.map wr)) .nm (Ev.map (f := rS) (g := wr) (Ev.lc0 due (rList rNat) (fun r => rS (wr r)) [] .nm .list .nil (fun N cenv ce r hr => Ev.cF ce T.g_written T.written (.cons (Ev.cF ce T.g_sixes T.sixes (.cons .nm .nil) (sixes_cal T (by (exact Nat.le_trans hn (by decide))) (hrow r hr))) .nil) (written_cal T (by (exact Nat.le_trans hn (by decide))) (six_of (hrow r hr)))) (by simp [sizeLine]; (exact Nat.le_trans hz (by decide))))) (ol_neS (by (exact Nat.le_trans hn (by decide)))) .bool) (by simp))
    fun _ => .one_or (.ext (.not (.of (Ev.cF fe T.g_keys T.keys (.cons .nm (.cons .nm .nil)) (keys_cal T K (by (exact Nat.le_trans hn (by decide))) (by (exact Nat.le_trans hz (by decide))) (by simp) h4 five)))) (by rfl)))) (by rfl))) (fun h => by cases h) (fun _ => Xs.done (by k_asm) (.refl _)) ?_
  exact Xs.ret (Ev.cF fe T.g_right T.right (.cons (Ev.map (f := rList rNat) (g := sixes) (Ev.lc0 due (rList rNat) (fun r => rList rNat (sixes r)) [] .nm .list .nil (fun N cenv ce r hr => Ev.cF ce T.g_sixes T.sixes (.cons .nm .nil) (sixes_cal T (by (exact Nat.le_trans hn (by decide))) (hrow r hr))) (by simp [sizeLine]; (exact Nat.le_trans hz (by decide))))) (.cons .nm .nil)) RC)
/-- law, but for its last function -/
theorem law_walk {s : Shared} {F : Fz} {script : List Int} {due : List (List Nat)} {z : Nat → Nat} (T : Tx B) (K : KTx w B) (U : T2 B) (hn : n ≤ 36) (hz : script.length ≤ 63) (H : LawH (rowsOf script) due z)
    (RC : Cal w B n (.ref 169) [rList (rList rNat) (due.map sixes), rList rS (due.map wr)] (rBool true)) (fe : FE (scopeAt 32) s.heap.objs.size env) (hcode : env.code = .ref 173) (hq : env.qual = "law.<locals>.") (hL : s.heap.objs.size ≤ env.locals) :
    Xs w B s F n env [("script", rList rInt script)] [] (bodyAt 32) (Back B s F (rBool true)) :=
  law_body1 T K U hn hz H fe hL (law_fold (vs := (rList (rList rNat) due, rList rS (due.map wr))) T U hn H.row H.len.2 fe hcode hq
    (law_test1 (vs := (rList (rList rNat) due, rList rS (due.map wr))) T U hn H.row H.len.2 H.fold fe (law_end T K hn H.duer (by rw [H.duel]; exact H.len.2) H.five RC fe)))
end
end Mine
end

section
open PySem PySem.W PyProof.Rows PySem.Calls PySem.SeqAt
local macro_rules | `(tactic| k_is) => `(tactic| first | (with_reducible exact Mine.Has.here) | (with_reducible refine Mine.Has.there ?_; k_is))
local macro_rules | `(tactic| k_asm) => `(tactic| first | (with_reducible exact Mine.Keep.nil) | (with_reducible exact Mine.Sub.nil) | (with_reducible refine Mine.Keep.cons ?_ ?_ ?_; (k_is); (decide); (k_asm)) | (with_reducible refine Mine.Sub.cons ?_ ?_; (k_is); (k_asm)))
namespace Mine
/-- translate's expression for the second pattern -/
noncomputable def txt2 (l : List Nat) : List Nat := [40, 63, 115, 58] ++ (esc l ++ ([40, 63, 33, 41] ++ tl))
section
variable {w : World} {B : Shared} {n : Nat} {env : Env} {vars : Vars} {s₀ : Shared} {F₀ : Fz} {ms : Mss} {Q : Flow → Shared → Prop} {scope : Scope} {N : Nat}
theorem Iterable.range12 {m : Nat} (h : m < 2 ^ 60) : Iterable w B n (rRange 1 ((m : Int) + 1) 1) ((List.range m).map fun i => rNat (i + 1)) := by
  have e : ((List.range m).map fun i => rNat (i + 1)) = (List.range m).map fun i : Nat => rInt (1 + i * 1) := List.map_congr_left fun i _ => by
    show rInt _ = rInt _
    congr 1
    (lia)
  rw [e]
  refine Iterable.range ?_ (small_one (by decide) (by decide) (by (lia)) (by (lia)))
  rw [rangeSize_one]
  (lia)
theorem txt_cut (l : List Nat) : cut none (some (-5)) (txt l) = [40, 63, 115, 58] ++ esc l := by
  have hl : (txt l).length = (4 + (esc l).length) + 5 := by simp [txt, tl]; (lia)
  have hc : clipAt (txt l).length (-5) = 4 + (esc l).length := by
    unfold clipAt
    rw [hl]
    split <;> (lia)
  unfold cut
  simp only [Option.elim, List.drop_zero, Nat.sub_zero]
  rw [hc, show txt l = ([40, 63, 115, 58] ++ esc l) ++ tl by simp [txt]]
  exact List.take_left' (by simp; (lia))
theorem right_body {s : Shared} {F : Fz} {sx ws : List (List Nat)} (T : Tx B) (hn : n ≤ 36) (hl : ws.length = sx.length) (hz : sx.length ≤ 10) (h4 : ∀ x ∈ ws, x.length ≤ 4) (hs : ∀ x ∈ sx, x.length ≤ 4)
    (hsg : ∀ (j : Nat) (x y : List Nat), sx[j]? = some x → ws[j]? = some y → ∀ m, m ≤ x.length → Sg (y.take m) ∧ m ≤ y.length)
    (hhit : ∀ (j : Nat) (x y : List Nat), sx[j]? = some x → ws[j]? = some y → ∀ m, 1 ≤ m → m ≤ x.length → hits (y.take m) ws = (List.range sx.length).filter fun k => (at0 sx k).take m == x.take m)
    (TR2 : ∀ l, Sg l → 1 ≤ l.length → l.length ≤ 4 → Cal w B n (.ref 96) [rS (l ++ [91, 98, 45, 97, 93, 42])] (rS (txt2 l))) (fe : FE (scopeAt 31) s.heap.objs.size env) :
    Xs w B s F n env [("sixes", rList (rList rNat) sx), ("writings", rList rS ws)] [] (bodyAt 31) (Back B s F (rBool true)) := by
  refine Xs.each (List.range sx.length) (fun j => rNat j) (fun _ => [("sixes", rList (rList rNat) sx), ("writings", rList rS ws)]) (fun _ => []) fe rfl
    (Ev.m (Ev.cT fe T.range (.cons (Ev.cB fe T.len (.cons .nm .nil) (Cal.len_list (by (exact Nat.lt_of_le_of_lt hz (by decide))))) .nil) Cal.range1)) (Iterable.range1 (by (exact Nat.lt_of_le_of_lt hz (by decide)))) (fun F₁ i j q hj => ?_) (Xs.ret Ev.bool) (by k_asm)
  have hji : j < sx.length := List.mem_range.mp (List.mem_of_getElem? hj)
  have hx := List.getElem?_eq_getElem hji
  have hy := List.getElem?_eq_getElem (show j < ws.length by (lia))
  have hxl := hs _ (List.getElem_mem hji)
  have hyl := h4 _ (List.getElem_mem (show j < ws.length by (lia)))
  generalize sx[j] = x at hx hxl
  generalize ws[j] = y at hy hyl
  refine Xs.each (List.range x.length) (fun i => rNat (i + 1)) (fun _ => [("j", rNat j), ("sixes", rList (rList rNat) sx), ("writings", rList rS ws)]) (fun _ => [q]) fe rfl
    (Ev.m (Ev.cT fe T.range (.cons (Ev.int (i := 1)) (.cons (Ev.bin (Ev.cB fe T.len (.cons (Ev.item .nm .nm hx (by (lia))) .nil) (Cal.len_list (by (exact Nat.lt_of_le_of_lt hxl (by decide))))) (Ev.int (i := 1)) op_add) .nil)) Cal.range2)) (Iterable.range12 (by (exact Nat.lt_of_le_of_lt hxl (by decide)))) (fun F₂ i' m q' hm => ?_) (Xs.next (by k_asm)) (by k_asm)
  have hmx : m < x.length := List.mem_range.mp (List.mem_of_getElem? hm)
  obtain ⟨sg1, hmy⟩ := hsg j x y hx hy (m + 1) hmx
  have htl : (y.take (m + 1)).length = m + 1 := by rw [List.length_take]; (lia)
  have fr : ∀ {V : Vars} {vv vm vj : Pos} {p1 p2 p3 : Pos}, Has V "writings" (rList rS ws) → Has V "j" (rNat j) → Has V "many" (rNat (m + 1)) → Ev w B n env V (.Subscript (.Subscript (.Name "writings" vv) (.Name "j" vj) p1) (.Slice Option.none (some (.Name "many" vm)) Option.none p2) p3) (rS (y.take (m + 1))) := fun h1 h2 h3 =>
    Ev.scut (Ev.item (Ev.name h1) (Ev.name h2) hy (by (lia))) .no (.nat (Ev.name h3)) (by (exact Nat.le_trans hyl (by decide))) (cut_to (m + 1) y)
  refine Xs.two (rS (y.take (m + 1))) (rS (txt (y.take (m + 1)))) [("many", rNat (m + 1)), ("j", rNat j), ("sixes", rList (rList rNat) sx), ("writings", rList rS ws)] fe (Ev.m (fr (by k_is) (by k_is) (by k_is)))
    (Ev.m (Ev.cF fe T.g_trans T.trans (.cons (Ev.bin (fr (by k_is) (by k_is) (by k_is)) (Ev.lit (l := [42])) (os_add (by simp; (lia)))) .nil) (translate1_cal T (by (exact Nat.le_trans hn (by decide))) sg1 (by (lia)) (by (lia))))) ?_
  have el := esc_len (y.take (m + 1))
  have tl1 := txt_len (y.take (m + 1))
  refine Xs.if_in (b := false) [("front", rS (y.take (m + 1))), ("text", rS (txt (y.take (m + 1)))), ("j", rNat j), ("sixes", rList (rList rNat) sx), ("writings", rList rS ws)] [q', q] (EvT.m (.ext (.cmp (r₂ := rList rNat ((List.range sx.length).filter fun k => (at0 sx k).take (m + 1) == x.take (m + 1))) (Ev.cF fe T.g_taken T.taken (.cons .nm (.cons .nm .nil)) (taken_cal T (by (exact Nat.le_trans hn (by decide))) sg1 (by (lia)) (by (lia)) (fun z hz => by have := h4 z hz; (exact Nat.le_trans this (by decide)))))
    (Ev.lc (List.range sx.length) (fun k => rNat k) (fun k => rNat k) (fun k => (at0 sx k).take (m + 1) == x.take (m + 1)) [("j", rNat j), ("many", rNat (m + 1)), ("sixes", rList (rList rNat) sx)]
      (Ev.cT fe T.range (.cons (Ev.cB fe T.len (.cons .nm .nil) (Cal.len_list (by (exact Nat.lt_of_le_of_lt hz (by decide))))) .nil) Cal.range1) (Iterable.range1 (by (exact Nat.lt_of_le_of_lt hz (by decide)))) (.cons (by k_is) fe.cf (.cons (by k_is) fe.cf (.cons (by k_is) fe.cf .nil)))
      (fun N cenv ce => ⟨fun k hk => ?_, fun k hk _ => .nm⟩) (by simp [sizeLine]; (exact Nat.le_trans hz (by decide)))) (ol_nen (by (exact Nat.le_trans hn (by decide)))) .bool) ?_)) (fun h => by cases h) (fun _ => Xs.done (by k_asm) (.refl _)) ?_
  · have hk' := List.mem_range.mp hk
    have hxk := hs _ (List.mem_of_getElem? (at0_get hk'))
    exact .one (.cmp (Ev.eq (Ev.sub (T := "list") (Ev.item .nm .nm (at0_get hk') (by (lia))) (Ev.slice .no (.nat .nm)) is_list slot_list_getitem.lookup (it_cut (by (exact Nat.lt_of_le_of_lt hxk (by decide))))) (congrArg _ (cut_to _ _)))
      (Ev.eq (Ev.sub (T := "list") (Ev.item .nm .nm hx (by (lia))) (Ev.slice .no (.nat .nm)) is_list slot_list_getitem.lookup (it_cut (by (exact Nat.lt_of_le_of_lt hxl (by decide))))) (congrArg _ (cut_to _ _))) (ol_eqn (by (exact Nat.le_trans hn (by decide)))) .bool)
  · rw [hhit j x y hx hy (m + 1) (by (exact Nat.le_add_left _ _)) hmx]; simp
  · refine Xs.if_in (b := false) [("j", rNat j), ("sixes", rList (rList rNat) sx), ("writings", rList rS ws)] [q', q] (EvT.m (.ext (.cmp (r₂ := rS (([40, 63, 115, 58] ++ esc (y.take (m + 1)) ++ [40, 63, 33, 41]) ++ tl)) (Ev.cF fe T.g_trans T.trans (.cons (Ev.bin .nm (Ev.lit (l := [91, 98, 45, 97, 93, 42])) (os_add (by simp; (lia)))) .nil) (TR2 _ sg1 (by (lia)) (by (lia))))
      (Ev.bin (Ev.bin (Ev.scut .nm .no (.int (Ev.neg (Ev.int (i := 5)))) (by (lia)) (txt_cut _)) (Ev.lit (l := [40, 63, 33, 41])) (os_add (by simp; (lia)))) (Ev.lit (l := tl)) (os_add (by simp [tl]; (lia)))) os_ne .bool) (by simp [txt2]))) (fun h => by cases h) (fun _ => Xs.done (by k_asm) (.refl _)) ?_
    exact Xs.nextP (by k_asm) (.refl _)
theorem right_cal {sx ws : List (List Nat)} (T : Tx B) (hn : n ≤ 35) (hl : ws.length = sx.length) (hz : sx.length ≤ 10) (h4 : ∀ x ∈ ws, x.length ≤ 4) (hs : ∀ x ∈ sx, x.length ≤ 4)
    (hsg : ∀ (j : Nat) (x y : List Nat), sx[j]? = some x → ws[j]? = some y → ∀ m, m ≤ x.length → Sg (y.take m) ∧ m ≤ y.length)
    (hhit : ∀ (j : Nat) (x y : List Nat), sx[j]? = some x → ws[j]? = some y → ∀ m, 1 ≤ m → m ≤ x.length → hits (y.take m) ws = (List.range sx.length).filter fun k => (at0 sx k).take m == x.take m)
    (TR2 : ∀ l, Sg l → 1 ≤ l.length → l.length ≤ 4 → Cal w B (n + 1) (.ref 96) [rS (l ++ [91, 98, 45, 97, 93, 42])] (rS (txt2 l))) : Cal w B n (.ref 169) [rList (rList rNat) sx, rList rS ws] (rBool true) :=
  Cal.def2 (x := "sixes") (y := "writings") T.right T.lim (by (exact Nat.le_trans hn (by decide))) (fun v u s cd pm doc ct an => .of_eq rfl) fun s F env fe => right_body T (by (exact Nat.succ_le_succ hn)) hl hz h4 hs hsg hhit TR2 fe
end
end Mine
end

section
open PySem PySem.W PyProof.Rows
namespace Mine
theorem low_lt (x : Int) : low x < 2 ^ 24 := by
  unfold low
  have h1 : 0 ≤ x.fmod (2 ^ 24) := Int.fmod_nonneg_of_pos x (by decide)
  have h2 : x.fmod (2 ^ 24) < 2 ^ 24 := Int.fmod_lt_of_pos x (by decide)
  (lia)
theorem row_octs (v : Nat) : Row (octs v) := by
  have hl : (octs v).length ≤ 3 := by
    unfold octs
    rw [List.length_map]
    exact Nat.le_trans (List.length_filter_le _ _) (by simp)
  have h1 : 1 ≤ (octs v).length := by
    unfold octs
    rw [List.length_map]
    have : 0 ∈ (List.range 3).filter fun k => k == 0 || decide (v / 256 ^ k > 0) := List.mem_filter.mpr ⟨by simp, by simp⟩
    exact List.length_pos_of_mem this
  refine ⟨h1, hl, fun y hy => ?_⟩
  unfold octs at hy
  obtain ⟨k, _, rfl⟩ := List.mem_map.mp hy
  exact Nat.mod_lt _ (by decide)
theorem rows_row {script : List Int} : ∀ r ∈ rowsOf script, Row r := fun r hr => by
  obtain ⟨x, _, rfl⟩ := List.mem_map.mp hr
  exact row_octs _
theorem rows_len (script : List Int) : 2 ≤ (rowsOf script).length ∧ (rowsOf script).length ≤ 10 := by
  simp [rowsOf, inputs]; (lia)
theorem fold_placed {r : List Nat} (h : Row r) : fold2 1 r = placed r := by
  obtain ⟨h1, h2, _⟩ := h
  match r, h1, h2 with
  | [x], _, _ => simp [fold2, placed, List.range_succ]
  | [x, y], _, _ => simp [fold2, placed, List.range_succ]; (lia)
  | [x, y, z], _, _ => simp [fold2, placed, List.range_succ]; (lia)
end Mine
end

section
open PySem PySem.W PyProof.Rows
namespace Mine
theorem place_sg {k : Nat} (h : k < 64) : place (sg k) = (k : Int) := by
  have : ∀ k, k < 64 → place (sg k) = (k : Int) := by decide +kernel
  exact this k h
theorem place_eq : place 61 = -1 := by decide +kernel
/-! the order of lists of ints -/
theorem ltL_cons {x y : Int} {xs ys : List Int} : ltL (x :: xs) (y :: ys) = true ↔ x < y ∨ (x = y ∧ ltL xs ys = true) := by
  show (if x == y then ltL xs ys else decide (x < y)) = true ↔ _
  by_cases h : x = y
  · subst h; simp
  · simp [h]
theorem lex_swap {c d : Int → Int → Bool} {z u : Nat → Nat → Bool} (hc : ∀ x y, x ≠ y → c x y = d y x) (hz : ∀ m n, z m n = u n m) : ∀ (xs ys : List Int), lexB c z xs ys = lexB d u ys xs
  | [], [] => hz 0 0
  | [], _ :: ys => hz 0 (ys.length + 1)
  | _ :: xs, [] => hz (xs.length + 1) 0
  | x :: xs, y :: ys => by
    show (if x == y then lexB c z xs ys else c x y) = if y == x then lexB d u ys xs else d y x
    by_cases h : x = y
    · subst h; rw [if_pos (by simp), if_pos (by simp), lex_swap hc hz xs ys]
    · rw [if_neg (by simpa using h), if_neg (by simpa using Ne.symm h), hc x y h]
theorem lex_not {c d : Int → Int → Bool} {z u : Nat → Nat → Bool} (hc : ∀ x y, x ≠ y → c x y = !d x y) (hz : ∀ m n, z m n = !u m n) : ∀ (xs ys : List Int), lexB c z xs ys = !lexB d u xs ys
  | [], [] => hz 0 0
  | [], _ :: ys => hz 0 (ys.length + 1)
  | _ :: xs, [] => hz (xs.length + 1) 0
  | x :: xs, y :: ys => by
    show (if x == y then lexB c z xs ys else c x y) = !(if x == y then lexB d u xs ys else d x y)
    by_cases h : x = y
    · rw [if_pos (by simpa using h), if_pos (by simpa using h), lex_not hc hz xs ys]
    · rw [if_neg (by simpa using h), if_neg (by simpa using h), hc x y h]
theorem gt_lt (a b : List Int) : gtL a b = ltL b a := lex_swap (fun _ _ _ => rfl) (fun _ _ => rfl) a b
theorem ge_lt (a b : List Int) : geL a b = !ltL a b := lex_not (fun x y _ => by rw [Bool.eq_iff_iff]; simp) (fun m n => by rw [Bool.eq_iff_iff]; simp) a b
theorem le_gt (a b : List Int) : leL a b = !gtL a b := lex_not (fun x y _ => by rw [Bool.eq_iff_iff]; simp) (fun m n => by rw [Bool.eq_iff_iff]; simp) a b
theorem lt_tri : ∀ (a b : List Int), ltL a b = true ∨ a = b ∨ ltL b a = true
  | [], [] => .inr (.inl rfl)
  | [], _ :: _ => .inl rfl
  | _ :: _, [] => .inr (.inr rfl)
  | x :: xs, y :: ys => by
    rw [ltL_cons, ltL_cons]
    rcases Int.lt_trichotomy x y with h | h | h
    · exact .inl (.inl h)
    · subst h
      rcases lt_tri xs ys with q | q | q
      · exact .inl (.inr ⟨rfl, q⟩)
      · subst q; exact .inr (.inl rfl)
      · exact .inr (.inr (.inr ⟨rfl, q⟩))
    · exact .inr (.inr (.inl h))
theorem lt_asym : ∀ (a b : List Int), ltL a b = true → ltL b a = true → False
  | [], [], h, _ => nomatch h
  | [], _ :: _, _, h => nomatch h
  | _ :: _, [], h, _ => nomatch h
  | x :: xs, y :: ys, h, k => by
    rw [ltL_cons] at h k
    rcases h with h | ⟨h, h'⟩
    · rcases k with k | ⟨k, _⟩
      · exact Int.lt_asymm h k
      · subst k; exact Int.lt_irrefl _ h
    · subst h
      rcases k with k | ⟨_, k⟩
      · exact Int.lt_irrefl _ k
      · exact lt_asym xs ys h' k
theorem ints_inj : ∀ {a b : List Nat}, intsOf a = intsOf b → a = b
  | [], [], _ => rfl
  | [], _ :: _, h => nomatch h
  | _ :: _, [], h => nomatch h
  | x :: a, y :: b, h => by
    injection h with h1 h2
    rw [Int.ofNat_inj.mp h1, ints_inj h2]
theorem ltN_cons {x y : Nat} {xs ys : List Nat} : ltN (x :: xs) (y :: ys) = true ↔ x < y ∨ (x = y ∧ ltN xs ys = true) := by
  show ltL ((x : Int) :: intsOf xs) ((y : Int) :: intsOf ys) = true ↔ _
  rw [ltL_cons, Int.ofNat_lt, Int.ofNat_inj]; rfl
theorem lt_rows (f : List Nat → List Int) (P : List Nat → Prop) (mono : ∀ a b, P a → P b → ltN a b = true → ltL (f a) (f b) = true) {a b : List Nat} (ha : P a) (hb : P b) : ltL (f a) (f b) = ltN a b := by
  rw [Bool.eq_iff_iff]
  refine ⟨fun h => ?_, mono a b ha hb⟩
  rcases lt_tri (intsOf a) (intsOf b) with q | q | q
  · exact q
  · cases ints_inj q
    exact (lt_asym _ _ h h).elim
  · exact (lt_asym _ _ h (mono b a hb ha q)).elim
/-! the places of a row's writing -/
noncomputable def plU (c : Nat) : List Nat → List Int
  | [] => [((c * 4 : Nat) : Int), -1]
  | z :: _ => [((c * 4 + z / 64 : Nat) : Int), ((z % 64 : Nat) : Int)]
noncomputable def plT (c : Nat) : List Nat → List Int
  | [] => [((c * 16 : Nat) : Int), -1, -1]
  | y :: r => ((c * 16 + y / 16 : Nat) : Int) :: plU (y % 16) r
noncomputable def plR : List Nat → List Int
  | [] => []
  | x :: r => ((x / 4 : Nat) : Int) :: plT (x % 4) r
noncomputable abbrev Oct (r : List Nat) : Prop := ∀ x ∈ r, x < 256
theorem lt_at {a b : Nat} {xs ys : List Int} (h : a < b ∨ (a = b ∧ ltL xs ys = true)) : ltL ((a : Int) :: xs) ((b : Int) :: ys) = true :=
  ltL_cons.mpr (h.imp Int.ofNat_lt.mpr fun ⟨e, q⟩ => ⟨congrArg _ e, q⟩)
theorem div_lt (k : Nat) (hk : 0 < k) {x u : Nat} (h : x < u) : x / k < u / k ∨ (x / k = u / k ∧ x % k < u % k) := by
  rcases Nat.lt_or_eq_of_le (Nat.div_le_div_right (c := k) (Nat.le_of_lt h)) with q | q
  · exact .inl q
  · refine .inr ⟨q, ?_⟩
    have h1 := Nat.div_add_mod x k
    have h2 := Nat.div_add_mod u k
    rw [q] at h1
    (lia)
theorem U_lt {c : Nat} {r s : List Nat} (hr : r.length ≤ 1) (hs : s.length ≤ 1) (h : ltN r s = true) : ltL (plU c r) (plU c s) = true :=
  match r, s, hr, hs, h with
  | [], [], _, _, h => nomatch h
  | _ :: _, [], _, _, h => nomatch h
  | [], w :: _, _, _, _ => lt_at (by
    rcases Nat.eq_zero_or_pos (w / 64) with q | q
    · exact .inr ⟨by rw [q]; rfl, ltL_cons.mpr (.inl (Int.lt_of_lt_of_le (by decide) (Int.natCast_nonneg _)))⟩
    · exact .inl (Nat.lt_add_of_pos_right q))
  | [z], [w], _, _, h => lt_at (by
    rcases ltN_cons.mp h with q | ⟨_, q⟩
    · rcases div_lt 64 (by decide) q with p | ⟨p, p'⟩
      · exact .inl (Nat.add_lt_add_left p _)
      · exact .inr ⟨by rw [p], lt_at (.inl p')⟩
    · exact nomatch q)
theorem U_head {c : Nat} : ∀ {r : List Nat}, Oct r → ∃ e t, plU c r = ((c * 4 + e : Nat) : Int) :: t ∧ e < 4
  | [], _ => ⟨0, _, rfl, by decide⟩
  | z :: _, h => ⟨z / 64, _, rfl, Nat.div_lt_of_lt_mul (h z (.head _))⟩
theorem part_lt {k c c' e e' : Nat} (h : c < c') (he : e < k) : c * k + e < c' * k + e' :=
  Nat.lt_of_lt_of_le (Nat.lt_of_lt_of_le (Nat.add_lt_add_left he _) (Nat.le_of_eq (Nat.succ_mul c k).symm)) (Nat.le_trans (Nat.mul_le_mul_right k h) (Nat.le_add_right ..))
theorem T_lt {c : Nat} {r s : List Nat} (hr : r.length ≤ 2) (hs : s.length ≤ 2) (or : Oct r) (os : Oct s) (h : ltN r s = true) : ltL (plT c r) (plT c s) = true :=
  match r, s, hr, hs, or, os, h with
  | [], [], _, _, _, _, h => nomatch h
  | _ :: _, [], _, _, _, _, h => nomatch h
  | [], v :: s, _, _, _, os, _ => lt_at (by
    rcases Nat.eq_zero_or_pos (v / 16) with q | q
    · obtain ⟨e, t, q', _⟩ := U_head (c := v % 16) fun x hx => os x (.tail _ hx)
      exact .inr ⟨by rw [q]; rfl, by rw [q']; exact ltL_cons.mpr (.inl (Int.lt_of_lt_of_le (by decide) (Int.natCast_nonneg _)))⟩
    · exact .inl (Nat.lt_add_of_pos_right q))
  | y :: r, v :: s, hr, hs, or, os, h => lt_at (by
    rcases ltN_cons.mp h with q | ⟨q, q'⟩
    · rcases div_lt 16 (by decide) q with p | ⟨p, p'⟩
      · exact .inl (Nat.add_lt_add_left p _)
      · obtain ⟨e, t, e1, e2⟩ := U_head (c := y % 16) fun x hx => or x (.tail _ hx)
        obtain ⟨e', t', e1', _⟩ := U_head (c := v % 16) fun x hx => os x (.tail _ hx)
        exact .inr ⟨by rw [p], by rw [e1, e1']; exact lt_at (.inl (part_lt p' e2))⟩
    · subst q
      exact .inr ⟨rfl, U_lt (Nat.le_of_succ_le_succ hr) (Nat.le_of_succ_le_succ hs) q'⟩)
theorem T_head {c : Nat} : ∀ {r : List Nat}, Oct r → ∃ e t, plT c r = ((c * 16 + e : Nat) : Int) :: t ∧ e < 16
  | [], _ => ⟨0, _, rfl, by decide⟩
  | y :: _, h => ⟨y / 16, _, rfl, Nat.div_lt_of_lt_mul (h y (.head _))⟩
theorem R_lt {a b : List Nat} (ha : Row a) (hb : Row b) (h : ltN a b = true) : ltL (plR a) (plR b) = true :=
  match a, b, ha, hb, h with
  | [], [], _, _, h => nomatch h
  | _ :: _, [], _, _, h => nomatch h
  | [], _ :: _, ha, _, _ => nomatch ha.1
  | x :: r, u :: s, ha, hb, h => lt_at (by
    have or : Oct r := fun x hx => ha.2.2 x (.tail _ hx)
    have os : Oct s := fun x hx => hb.2.2 x (.tail _ hx)
    rcases ltN_cons.mp h with q | ⟨q, q'⟩
    · rcases div_lt 4 (by decide) q with p | ⟨p, p'⟩
      · exact .inl p
      · obtain ⟨e, t, e1, e2⟩ := T_head (c := x % 4) or
        obtain ⟨e', t', e1', _⟩ := T_head (c := u % 4) os
        exact .inr ⟨p, by rw [e1, e1']; exact lt_at (.inl (part_lt p' e2))⟩
    · subst q
      exact .inr ⟨rfl, T_lt (Nat.le_of_succ_le_succ ha.2.1) (Nat.le_of_succ_le_succ hb.2.1) or os q'⟩)
/-- a row as a number, by which rows are ordered -/
noncomputable def val2 : List Nat → Nat
  | [] => 0
  | z :: _ => z + 1
noncomputable def val1 : List Nat → Nat
  | [] => 0
  | y :: r => (y + 1) * 257 + val2 r
noncomputable def val : List Nat → Nat
  | [] => 0
  | x :: r => (x + 1) * 66049 + val1 r
theorem val2_lt : ∀ {r : List Nat}, Oct r → val2 r < 257
  | [], _ => by decide
  | z :: _, h => Nat.succ_lt_succ (h z (.head _))
theorem val1_lt : ∀ {r : List Nat}, Oct r → val1 r < 66049
  | [], _ => by decide
  | y :: r, h => by
    have := val2_lt fun x hx => h x (.tail _ hx)
    have := h y (.head _)
    show (y + 1) * 257 + val2 r < 66049
    (lia)
theorem val_mono {a b : List Nat} (ha : Row a) (hb : Row b) (h : ltN a b = true) : val a < val b :=
  match a, b, ha, hb, h with
  | [], [], _, _, h => nomatch h
  | _ :: _, [], _, _, h => nomatch h
  | [], _ :: _, ha, _, _ => nomatch ha.1
  | x :: r, u :: s, ha, hb, h => by
    have or : Oct r := fun x hx => ha.2.2 x (.tail _ hx)
    rcases ltN_cons.mp h with q | ⟨q, q'⟩
    · exact part_lt (Nat.succ_lt_succ q) (val1_lt or)
    subst q
    refine Nat.add_lt_add_left ?_ _
    match r, s, or, ha.2.1, hb.2.1, q' with
    | [], [], _, _, _, h => exact nomatch h
    | _ :: _, [], _, _, _, h => exact nomatch h
    | [], v :: s, _, _, _, _ => exact Nat.lt_of_lt_of_le (by decide) (Nat.le_trans (Nat.le_mul_of_pos_left 257 (Nat.succ_pos v)) (Nat.le_add_right ..))
    | y :: r, v :: s, or, h1, h2, h =>
      rcases ltN_cons.mp h with q | ⟨q, q'⟩
      · exact part_lt (Nat.succ_lt_succ q) (val2_lt fun x hx => or x (.tail _ hx))
      subst q
      refine Nat.add_lt_add_left ?_ _
      match r, s, h1, h2, q' with
      | [], [], _, _, h => exact nomatch h
      | _ :: _, [], _, _, h => exact nomatch h
      | [], w :: _, _, _, _ => exact Nat.succ_pos w
      | [z], [w], _, _, h =>
        rcases ltN_cons.mp h with q | ⟨_, q⟩
        · exact Nat.succ_lt_succ q
        · exact nomatch q
theorem val_rows {a b : List Nat} (ha : Row a) (hb : Row b) : (ltN a b = true ↔ val a < val b) ∧ (val a = val b → a = b) := by
  rcases lt_tri (intsOf a) (intsOf b) with q | q | q
  · have h := val_mono ha hb q
    exact ⟨⟨fun _ => h, fun _ => q⟩, fun e => absurd h (by rw [e]; exact Nat.lt_irrefl _)⟩
  · cases ints_inj q
    exact ⟨⟨fun h => (lt_asym _ _ h h).elim, fun h => absurd h (Nat.lt_irrefl _)⟩, fun _ => rfl⟩
  · have h := val_mono hb ha q
    exact ⟨⟨fun h' => (lt_asym _ _ h' q).elim, fun h' => absurd h' (Nat.lt_asymm h)⟩, fun e => absurd h (by rw [e]; exact Nat.lt_irrefl _)⟩
theorem pls_of {l m : List Nat} {a : List Nat} (hs : sixes a = l) (h : ∀ k ∈ l, k < 64) (hm : List.replicate (4 - l.length) 61 = m) : pls (wr a) = (l.map fun k : Nat => (k : Int)) ++ m.map place := by
  unfold wr writ pls
  rw [hs, hm, List.map_append, List.map_map]
  congr 1
  exact List.map_congr_left fun k hk => place_sg (h k hk)
theorem sixes_row {a : List Nat} (ha : Row a) : pls (wr a) = plR a := by
  obtain ⟨h1, h2, h3⟩ := ha
  match a, h1, h2, h3 with
  | [x], _, _, h =>
    have hx := h x (.head _)
    refine (pls_of (sixes_1 hx) (m := [61, 61]) (lt_all2 (by4 hx) (by4s x)) rfl).trans ?_
    show [_, _, place 61, place 61] = _
    rw [place_eq]; rfl
  | [x, y], _, _, h =>
    have hx := h x (.head _)
    have hy := h y (.tail _ (.head _))
    refine (pls_of (sixes_2 hx hy) (m := [61]) (lt_cons (by4 hx) (lt_all2 (by4r (Nat.div_lt_of_lt_mul hy)) (by16s y))) rfl).trans ?_
    show [_, _, _, place 61] = _
    rw [place_eq]; rfl
  | [x, y, z], _, _, h =>
    have hx := h x (.head _)
    have hy := h y (.tail _ (.head _))
    have hz := h z (.tail _ (.tail _ (.head _)))
    exact pls_of (sixes_3 hx hy hz) (lt_cons (by4 hx) (lt_cons (by4r (Nat.div_lt_of_lt_mul hy)) (lt_all2 (by16r (Nat.div_lt_of_lt_mul hz)) (Nat.mod_lt _ (by decide))))) rfl
theorem five_rows {a b : List Nat} (ha : Row a) (hb : Row b) : fiveK (wr a) (wr b) = fiveR a b := by
  have hL : ltL (pls (wr a)) (pls (wr b)) = ltN a b := by rw [sixes_row ha, sixes_row hb]; exact lt_rows plR Row (fun _ _ => R_lt) ha hb
  have hG : gtL (pls (wr a)) (pls (wr b)) = gtN a b := by rw [gt_lt, sixes_row ha, sixes_row hb]; exact (lt_rows plR Row (fun _ _ => R_lt) hb ha).trans (gt_lt _ _).symm
  unfold fiveK fiveR told
  rw [hL, hG, show leN a b = !gtN a b from le_gt _ _, show geN a b = !ltN a b from ge_lt _ _]
  have e : (a == b) = (!ltN a b && !gtN a b) := by
    rw [Bool.eq_iff_iff, beq_iff_eq]
    show _ ↔ (!ltN a b && !gtL (intsOf a) (intsOf b)) = true
    rw [gt_lt]
    rcases lt_tri (intsOf a) (intsOf b) with q | q | q
    · have : ltN a b = true := q
      rw [this]
      exact ⟨fun e => by subst e; exact (lt_asym _ _ q q).elim, fun h => nomatch h⟩
    · cases ints_inj q
      cases h : ltL (intsOf a) (intsOf a) with
      | true => exact (lt_asym _ _ h h).elim
      | false => exact ⟨fun _ => by rw [show ltN a a = false from h]; rfl, fun _ => rfl⟩
    · rw [q, Bool.not_true, Bool.and_false]
      exact ⟨fun e => by subst e; exact (lt_asym _ _ q q).elim, fun h => nomatch h⟩
  rw [e]
  cases h1 : ltN a b <;> cases h2 : gtN a b
  · rfl
  · rfl
  · rfl
  · exact (lt_asym _ _ h1 ((gt_lt _ _).symm.trans h2)).elim
end Mine
end

section
open PySem PySem.W PyProof.Rows
namespace Mine
noncomputable def rank (rows : List (List Nat)) (i : Nat) : Nat := val (rows.getD i [])
theorem rank_told {rows : List (List Nat)} (h : ∀ r ∈ rows, Row r) (i j : Nat) (x y : List Nat) (hx : (rows.map wr)[i]? = some x) (hy : (rows.map wr)[j]? = some y) : decide (told x y < 0) = decide (rank rows i < rank rows j) := by
  rw [List.getElem?_map] at hx hy
  obtain ⟨a, ha, rfl⟩ := Option.map_eq_some_iff.mp hx
  obtain ⟨b, hb, rfl⟩ := Option.map_eq_some_iff.mp hy
  have Ra := h a (List.mem_of_getElem? ha)
  have Rb := h b (List.mem_of_getElem? hb)
  have f := five_rows Ra Rb
  have f1 : decide (told (wr a) (wr b) < 0) = ltN a b := by
    have := congrArg (fun l => l.head?) f
    simpa [fiveK, fiveR] using this
  rw [f1]
  unfold rank
  rw [show rows.getD i [] = a by simp [List.getD, ha], show rows.getD j [] = b by simp [List.getD, hb]]
  rw [Bool.eq_iff_iff, (val_rows Ra Rb).1, decide_eq_true_eq]
end Mine
end

section
open PySem PySem.W PyProof.Rows
namespace Mine
/-- two sorted arrangements of the same numbers are the same -/
theorem sorted_uniq : ∀ {l l' : List Nat}, l.Perm l' → l.Pairwise (· ≤ ·) → l'.Pairwise (· ≤ ·) → l = l'
  | l, l', p, h, h' => List.Perm.eq_of_pairwise (fun a b _ _ h1 h2 => Nat.le_antisymm h1 h2) h h' p
theorem asc_pairwise {z : Nat → Nat} {p : Array Nat} {n : Nat} (hs : p.size = n) (h : Asc z p n) : (p.toList.map z).Pairwise (· ≤ ·) := by
  rw [List.pairwise_iff_getElem]
  intro i j hi hj hij
  rw [List.length_map, Array.length_toList] at hi hj
  have key : ∀ d, i + d < n → z (p.getD i 0) ≤ z (p.getD (i + d) 0) := fun d => by
    induction d with
    | zero => intro _; exact Nat.le_refl _
    | succ d ih => intro h'; exact Nat.le_trans (ih (by (exact Nat.le_of_lt h'))) (h (i + (d + 1)) (by (exact Nat.le_add_left _ _)) h')
  have := key (j - i) (by (omega))
  rw [show i + (j - i) = j by (lia)] at this
  simpa [Array.getD, hi, hj] using this
end Mine
end

section
open PySem PySem.W PyProof.Rows
namespace Mine
theorem map_val_inj : ∀ {l l' : List (List Nat)}, (∀ r ∈ l, Row r) → (∀ r ∈ l', Row r) → l.map val = l'.map val → l = l'
  | [], [], _, _, _ => rfl
  | [], _ :: _, _, _, e => by cases e
  | _ :: _, [], _, _, e => by cases e
  | a :: l, b :: l', h, h', e => by
    simp only [List.map_cons, List.cons.injEq] at e
    rw [(val_rows (h _ (.head _)) (h' _ (.head _))).2 e.1, map_val_inj (fun r hr => h r (.tail _ hr)) (fun r hr => h' r (.tail _ hr)) e.2]
/-- the rows, sorted -/
noncomputable def dueOf (rows : List (List Nat)) : List (List Nat) := rows.mergeSort fun a b => decide (val a ≤ val b)
theorem due_perm (rows : List (List Nat)) : (dueOf rows).Perm rows := List.mergeSort_perm ..
theorem due_sorted (rows : List (List Nat)) : ((dueOf rows).map val).Pairwise (· ≤ ·) := by
  rw [List.pairwise_map]
  refine (List.pairwise_mergeSort (le := fun a b : List Nat => decide (val a ≤ val b)) (fun a b c h1 h2 => ?_) (fun a b => ?_) rows).imp fun h => by simpa using h
  · simp only [decide_eq_true_eq] at *; (exact Nat.le_trans h1 h2)
  · simp only [Bool.or_eq_true, decide_eq_true_eq]; (lia)
theorem due_row {rows : List (List Nat)} (h : ∀ r ∈ rows, Row r) : ∀ r ∈ dueOf rows, Row r := fun r hr => h r ((due_perm rows).mem_iff.mp hr)
end Mine
end

section
open PySem PySem.W PyProof.Rows
namespace Mine
theorem ord_rows {rows : List (List Nat)} (h : ∀ r ∈ rows, Row r) {p : Array Nat} (pm : Pm rows.length p) (as : Asc (rank rows) p rows.length) : (p.toList.map fun i => (rows.map wr).getD i []) = (dueOf rows).map wr := by
  have hp : p.toList.Perm (List.range rows.length) := by
    have := Array.perm_iff_toList_perm.mp pm
    simpa using this
  have hlt : ∀ i ∈ p.toList, i < rows.length := fun i hi => by simpa using hp.mem_iff.mp hi
  have e1 : (p.toList.map fun i => rows.getD i []) = dueOf rows := by
    have q : (p.toList.map fun i => rows.getD i []).Perm rows := by
      have a := hp.map fun i => rows.getD i []
      have b : ((List.range rows.length).map fun i => rows.getD i []) = rows := by
        apply List.ext_getElem
        · simp
        · intro i h1 h2
          simp [List.getD, h2]
      rwa [b] at a
    refine map_val_inj (fun r hr => h r (q.mem_iff.mp hr)) (due_row h) ?_
    refine sorted_uniq ((q.trans (due_perm rows).symm).map val) ?_ (due_sorted rows)
    have := asc_pairwise pm.size as
    rw [List.map_map]
    exact this
  rw [← e1, List.map_map]
  refine List.map_congr_left fun i hi => ?_
  have := hlt i hi
  simp [List.getD, this]
end Mine
end

section
open PySem PySem.W PyProof.Rows
namespace Mine
theorem slots_at {rows : List (List Nat)} (inj : ∀ i j, i < rows.length → j < rows.length → posR rows i = posR rows j → i = j) : ∀ i, i ≤ rows.length → ∀ k, k < i → (slots rows i)[posR rows k]? = some (some (at0 rows k))
  | 0, _, k, h => absurd h (Nat.not_lt_zero _)
  | i + 1, hi, k, h => by
    show ((slots rows i).set (posR rows i) (some (at0 rows i)))[posR rows k]? = _
    rw [List.getElem?_set]
    by_cases e : k = i
    · subst e
      rw [if_pos rfl, if_pos (by rw [slots_len]; exact posR_lt (by (assumption)))]
    · have ne : posR rows i ≠ posR rows k := fun q => e (inj i k (by (assumption)) (by (exact Nat.lt_of_lt_of_le h hi)) q).symm
      rw [if_neg ne]
      exact slots_at inj i (by (exact Nat.le_of_lt hi)) k (by (lia))
end Mine
end

section
open PySem PySem.W PyProof.Rows
namespace Mine
theorem countP_add_le {α : Type} {p q s : α → Bool} : ∀ (l : List α), (∀ r ∈ l, (p r).toNat + (q r).toNat ≤ (s r).toNat) → l.countP p + l.countP q ≤ l.countP s
  | [], _ => by simp
  | a :: l, h => by
    have ih := countP_add_le l fun r hr => h r (.tail _ hr)
    have h0 := h a (.head _)
    rw [List.countP_cons, List.countP_cons, List.countP_cons]
    cases hp : p a <;> cases hq : q a <;> cases hs : s a <;> simp [hp, hq, hs] at h0 ⊢ <;> (lia)
theorem less_nest {rows : List (List Nat)} (h : ∀ r ∈ rows, Row r) {a b : List Nat} (ha : Row a) (hb : Row b) (hab : val a < val b) : (rows.filter fun r => ltN r a).length + rows.count a ≤ (rows.filter fun r => ltN r b).length := by
  rw [← List.countP_eq_length_filter, ← List.countP_eq_length_filter]
  refine countP_add_le rows fun r hr => ?_
  have Rr := h r hr
  have e1 := (val_rows Rr ha).1
  have e2 := (val_rows Rr hb).1
  by_cases q : r = a
  · subst q
    have n1 : ltN r r = false := by rw [← Bool.not_eq_true, e1]; (lia)
    have n2 : ltN r b = true := e2.mpr hab
    simp [n1, n2]
  · have q' : (r == a) = false := by simpa using q
    cases n1 : ltN r a with
    | false => simp [q']
    | true =>
      have n2 : ltN r b = true := e2.mpr (Nat.lt_trans (e1.mp n1) hab)
      simp [q', n2]
theorem count_take_lt {rows : List (List Nat)} {k : Nat} (h : k < rows.length) : (rows.take k).count (at0 rows k) < rows.count (at0 rows k) := by
  have e : rows.take (k + 1) = rows.take k ++ [at0 rows k] := by rw [List.take_add_one, at0_get h]; rfl
  have h1 : (rows.take (k + 1)).count (at0 rows k) ≤ rows.count (at0 rows k) := (List.take_sublist _ _).count_le _
  rw [e, List.count_append] at h1
  simp at h1
  (assumption)
end Mine
end

section
open PySem PySem.W PyProof.Rows
namespace Mine
theorem posR_lt_of {rows : List (List Nat)} (h : ∀ r ∈ rows, Row r) {i j : Nat} (hi : i < rows.length) (hj : j < rows.length) (hv : val (at0 rows i) < val (at0 rows j)) : posR rows i < posR rows j := by
  have Ri := h _ (List.mem_of_getElem? (at0_get hi))
  have Rj := h _ (List.mem_of_getElem? (at0_get hj))
  have n := less_nest h Ri Rj hv
  have c := count_take_lt hi
  unfold posR
  (lia)
theorem posR_eq_of {rows : List (List Nat)} {i j : Nat} (hij : i < j) (hj : j < rows.length) (he : at0 rows i = at0 rows j) : posR rows i < posR rows j := by
  have hi : i < rows.length := by (exact Nat.lt_trans hij hj)
  have e : rows.take (i + 1) = rows.take i ++ [at0 rows i] := by rw [List.take_add_one, at0_get hi]; rfl
  have h1 : (rows.take (i + 1)).count (at0 rows j) ≤ (rows.take j).count (at0 rows j) := (List.take_sublist_take_left (by (assumption))).count_le _
  rw [e, List.count_append, he] at h1
  simp at h1
  unfold posR
  rw [he]
  (lia)
theorem posR_inj {rows : List (List Nat)} (h : ∀ r ∈ rows, Row r) (i j : Nat) (hi : i < rows.length) (hj : j < rows.length) (e : posR rows i = posR rows j) : i = j := by
  have Ri := h _ (List.mem_of_getElem? (at0_get hi))
  have Rj := h _ (List.mem_of_getElem? (at0_get hj))
  rcases Nat.lt_trichotomy (val (at0 rows i)) (val (at0 rows j)) with q | q | q
  · have := posR_lt_of h hi hj q; (lia)
  · have q' := (val_rows Ri Rj).2 q
    rcases Nat.lt_trichotomy i j with p | p | p
    · have := posR_eq_of p hj q'; (lia)
    · exact p
    · have := posR_eq_of p hi q'.symm; (lia)
  · have := posR_lt_of h hj hi q; (lia)
end Mine
end

section
open PySem PySem.W PyProof.Rows
namespace Mine
theorem perm_of_sub {α : Type} [BEq α] [LawfulBEq α] : ∀ {l l' : List α}, l.Nodup → (∀ x ∈ l, x ∈ l') → l'.length ≤ l.length → l.Perm l'
  | [], l', _, _, h => by rw [List.length_eq_zero_iff.mp (Nat.le_zero.mp h)]
  | a :: l, l', hn, hs, hl => by
    have ha := hs a (.head _)
    rw [List.nodup_cons] at hn
    have e := List.length_erase_of_mem ha
    have ih : l.Perm (l'.erase a) := perm_of_sub hn.2 (fun x hx => by
      have ne : x ≠ a := by rintro rfl; exact hn.1 hx
      exact (List.mem_erase_of_ne ne).mpr (hs x (.tail _ hx))) (by simp only [List.length_cons] at hl; omega)
    exact (ih.cons a).trans (List.perm_cons_erase ha).symm
theorem slot_rows {rows : List (List Nat)} (h : ∀ r ∈ rows, Row r) : slots rows rows.length = (dueOf rows).map some := by
  have inj := posR_inj h
  have sl := slots_len rows rows.length
  have P : ((List.range rows.length).map (posR rows)).Perm (List.range rows.length) := by
    refine perm_of_sub ?_ (fun x hx => ?_) (by simp)
    · refine List.pairwise_map.mpr (List.pairwise_iff_getElem.mpr fun i j hi hj hij e => ?_)
      rw [List.length_range] at hi hj
      rw [List.getElem_range, List.getElem_range] at e
      have := inj i j hi hj e
      omega
    · obtain ⟨i, hi, rfl⟩ := List.mem_map.mp hx
      exact List.mem_range.mpr (posR_lt (List.mem_range.mp hi))
  have at_ : ∀ k, k < rows.length → (slots rows rows.length).getD (posR rows k) none = some (at0 rows k) := fun k hk => by
    rw [List.getD_eq_getElem?_getD, slots_at inj rows.length (Nat.le_refl _) k hk]; rfl
  have all : ∀ p, p < rows.length → ∃ k, k < rows.length ∧ posR rows k = p := fun p hp => by
    obtain ⟨k, hk, e⟩ := List.mem_map.mp (P.mem_iff.mpr (List.mem_range.mpr hp))
    exact ⟨k, List.mem_range.mp hk, e⟩
  have self : ((List.range rows.length).map fun p => (slots rows rows.length).getD p none) = slots rows rows.length := by
    apply List.ext_getElem
    · simp [sl]
    · intro i h1 h2
      simp [List.getD_eq_getElem?_getD, h2]
  have D : slots rows rows.length = ((List.range rows.length).map fun p => ((slots rows rows.length).getD p none).getD []).map some := by
    rw [List.map_map]
    conv => lhs; rw [← self]
    refine List.map_congr_left fun p hp => ?_
    obtain ⟨k, hk, rfl⟩ := all p (List.mem_range.mp hp)
    show _ = some ((((slots rows rows.length).getD (posR rows k) none)).getD [])
    rw [at_ k hk]; rfl
  rw [D]
  congr 1
  have perm : ((List.range rows.length).map fun p => ((slots rows rows.length).getD p none).getD []).Perm rows := by
    have a := P.symm.map fun p => ((slots rows rows.length).getD p none).getD []
    rw [List.map_map] at a
    have b : ((List.range rows.length).map ((fun p => ((slots rows rows.length).getD p none).getD []) ∘ posR rows)) = rows := by
      apply List.ext_getElem
      · simp
      · intro i h1 h2
        rw [List.getElem_map, List.getElem_range]
        show ((slots rows rows.length).getD (posR rows i) none).getD [] = _
        rw [at_ i h2]
        simp [at0, List.getD, h2]
    rwa [b] at a
  refine map_val_inj (fun r hr => h r (perm.mem_iff.mp hr)) (due_row h) (sorted_uniq ((perm.trans (due_perm rows).symm).map val) ?_ (due_sorted rows))
  rw [List.map_map, List.pairwise_map]
  refine List.pairwise_iff_getElem.mpr fun i j hi hj hij => ?_
  rw [List.length_range] at hi hj
  rw [List.getElem_range, List.getElem_range]
  obtain ⟨k, hk, rfl⟩ := all i hi
  obtain ⟨k', hk', rfl⟩ := all j hj
  show val (((slots rows rows.length).getD (posR rows k) none).getD []) ≤ val (((slots rows rows.length).getD (posR rows k') none).getD [])
  rw [at_ k hk, at_ k' hk']
  show val (at0 rows k) ≤ val (at0 rows k')
  refine Nat.le_of_not_lt fun hlt => ?_
  have := posR_lt_of h hk' hk hlt
  omega
end Mine
end

section
open PySem PySem.W PyProof.Rows
namespace Mine
theorem sg_inj {a b : Nat} (ha : a < 64) (hb : b < 64) (h : sg a = sg b) : a = b := by
  have h1 := place_sg ha
  have h2 := place_sg hb
  rw [h, h2] at h1
  (lia)
theorem sg_ne {k : Nat} (h : k < 64) : sg k ≠ 61 := by
  have : ∀ k, k < 64 → sg k ≠ 61 := by decide +kernel
  exact this k h
theorem writ_len {x : List Nat} (h : Six x) : (writ x).length = 4 := by
  unfold writ
  have := h.2.1
  simp; (omega)
theorem writ_get {x : List Nat} {j : Nat} (h : Six x) (hj : j < 4) : (writ x)[j]? = some (if j < x.length then sg (x.getD j 0) else 61) := by
  have h4 := h.2.1
  unfold writ
  by_cases hl : j < x.length
  · rw [List.getElem?_append_left (by simpa using hl), List.getElem?_map, List.getElem?_eq_getElem hl, if_pos hl]
    simp [hl]
  · rw [List.getElem?_append_right (by simp; (lia)), if_neg hl, List.getElem?_replicate, if_pos (by simp; (omega))]
theorem six_at {x : List Nat} {j : Nat} (h : Six x) (hj : j < x.length) : x.getD j 0 < 64 := by
  rw [List.getD_eq_getElem?_getD, List.getElem?_eq_getElem hj]
  exact h.2.2 _ (List.getElem_mem hj)
/-- a beginning of a writing tells that of the sixes -/
theorem begin_iff {x z : List Nat} {m : Nat} (hx : Six x) (hz : Six z) (hm : m ≤ x.length) : (∀ j, j < m → (writ z)[j]? = (writ x)[j]?) ↔ z.take m = x.take m := by
  have h4 := hx.2.1
  constructor
  · intro h
    have key : ∀ j, j < m → j < z.length ∧ z.getD j 0 = x.getD j 0 := fun j hj => by
      have e := h j hj
      rw [writ_get hz (by (lia)), writ_get hx (by (lia)), if_pos (show j < x.length by (exact Nat.le_trans hj hm))] at e
      have hxj := six_at hx (show j < x.length by (exact Nat.le_trans hj hm))
      split at e
      · rename_i hl
        exact ⟨hl, sg_inj (six_at hz hl) hxj (Option.some.inj e)⟩
      · exact absurd (Option.some.inj e).symm (sg_ne hxj)
    have hzl : m ≤ z.length := by
      rcases Nat.eq_zero_or_pos m with h0 | h0
      · (lia)
      · have := (key (m - 1) (by (omega))).1; (omega)
    apply List.ext_getElem
    · simp; (lia)
    · intro j h1 h2
      rw [List.length_take] at h1
      have k := key j (by (lia))
      rw [List.getElem_take, List.getElem_take]
      have e := k.2
      rw [List.getD_eq_getElem?_getD, List.getD_eq_getElem?_getD, List.getElem?_eq_getElem k.1, List.getElem?_eq_getElem (show j < x.length by (lia))] at e
      simpa using e
  · intro h j hj
    have hzl : m ≤ z.length := by
      have := congrArg List.length h
      simp at this; (lia)
    rw [writ_get hz (by (lia)), writ_get hx (by (lia)), if_pos (by (exact Nat.le_trans hj hzl)), if_pos (by (exact Nat.le_trans hj hm))]
    have e : (z.take m)[j]? = (x.take m)[j]? := by rw [h]
    rw [List.getElem?_take, List.getElem?_take, if_pos hj, if_pos hj] at e
    rw [List.getD_eq_getElem?_getD, List.getD_eq_getElem?_getD, e]
theorem take1_eq {l : List Nat} {j c : Nat} : (((l.drop j).take 1) == [c]) = (l[j]? == some c) := by
  have e : l[j]? = (l.drop j)[0]? := by rw [List.getElem?_drop, Nat.add_zero]
  rw [e]
  cases l.drop j with
  | nil => rfl
  | cons a r => simp
theorem hit_one {l v : List Nat} : (((List.range l.length).filter fun j => !([[], ((v.drop j).take 1)].any fun t => t == [hits.sgAt l j])) == []) = true ↔ ∀ j, j < l.length → v[j]? = l[j]? := by
  rw [beq_iff_eq, List.filter_eq_nil_iff]
  constructor
  · intro h j hj
    have := h j (List.mem_range.mpr hj)
    rw [sgAt_get hj]
    simp only [List.any_cons, List.any_nil, Bool.or_false, take1_eq] at this
    simpa using this
  · intro h j hj
    have hj := List.mem_range.mp hj
    have := h j hj
    rw [sgAt_get hj] at this
    simp only [List.any_cons, List.any_nil, Bool.or_false, take1_eq, this]
    simp
theorem hits_rows {sx : List (List Nat)} (h6 : ∀ x ∈ sx, Six x) (j : Nat) (x y : List Nat) (hx : sx[j]? = some x) (hy : (sx.map writ)[j]? = some y) (m : Nat) (h1 : 1 ≤ m) (hm : m ≤ x.length) :
    hits (y.take m) (sx.map writ) = (List.range sx.length).filter fun k => (at0 sx k).take m == x.take m := by
  rw [List.getElem?_map, hx] at hy
  cases (Option.some.inj hy)
  have X := h6 x (List.mem_of_getElem? hx)
  have h4 := X.2.1
  have hl : ((writ x).take m).length = m := by rw [List.length_take, writ_len X]; (lia)
  unfold hits
  rw [List.length_map]
  refine List.filter_congr fun k hk => ?_
  have hk := List.mem_range.mp hk
  have Z := h6 _ (List.mem_of_getElem? (at0_get hk))
  have ez : at0 (sx.map writ) k = writ (at0 sx k) := by
    have a := at0_get (rows := sx.map writ) (k := k) (by simpa using hk)
    rw [List.getElem?_map, at0_get hk] at a
    exact (Option.some.inj a).symm
  rw [ez, Bool.eq_iff_iff, hit_one, beq_iff_eq, hl, ← begin_iff X Z hm]
  refine forall_congr' fun j => forall_congr' fun hj => ?_
  rw [List.getElem?_take, if_pos hj]
theorem sg_mem {k : Nat} (h : k < 64) : sg k ∈ al := List.mem_of_getElem? (al_get h)
theorem sg_rows {sx : List (List Nat)} (h6 : ∀ x ∈ sx, Six x) (j : Nat) (x y : List Nat) (hx : sx[j]? = some x) (hy : (sx.map writ)[j]? = some y) (m : Nat) (hm : m ≤ x.length) : Sg (y.take m) ∧ m ≤ y.length := by
  rw [List.getElem?_map, hx] at hy
  cases (Option.some.inj hy)
  have X := h6 x (List.mem_of_getElem? hx)
  have h4 := X.2.1
  refine ⟨fun c hc => ?_, by rw [writ_len X]; (exact Nat.le_trans hm h4)⟩
  unfold writ at hc
  rw [List.take_append_of_le_length (by simpa using hm), ← List.map_take] at hc
  obtain ⟨k, hk, rfl⟩ := List.mem_map.mp hc
  exact sg_mem (X.2.2 k (List.mem_of_mem_take hk))
end Mine
end

section
open PySem PySem.W PyProof.Rows PySem.Calls PySem.SeqAt
namespace Mine
/-- the plain law, whole -/
theorem lawH (script : List Int) : LawH (rowsOf script) (dueOf (rowsOf script)) (rank (rowsOf script)) where
  len := rows_len script
  row := rows_row
  slot := slot_rows rows_row
  duer := due_row rows_row
  duel := (due_perm _).length_eq
  rank := rank_told rows_row
  ord p pm as := ord_rows rows_row pm as
  fold r hr := fold_placed (rows_row r hr)
  five j k a b c d ha hb hc hd := by
    rw [List.getElem?_map, hc] at ha
    rw [List.getElem?_map, hd] at hb
    cases ha
    cases hb
    exact five_rows (due_row rows_row _ (List.mem_of_getElem? hc)) (due_row rows_row _ (List.mem_of_getElem? hd))
theorem joined_txt2 (l : List Nat) : joined (l.map esc1 ++ [[40, 63, 33, 41]]) = txt2 l := by
  unfold joined txt2 tl esc
  rw [List.flatMap_def]
  simp
section
variable {w : World} {B : Shared} {n : Nat} {env : Env}
theorem right_due {due : List (List Nat)} (T : Tx B) (V : T3 B) (hn : n ≤ 35) (hr : ∀ r ∈ due, Row r) (hz : due.length ≤ 10) : Cal w B n (.ref 169) [rList (rList rNat) (due.map sixes), rList rS (due.map wr)] (rBool true) := by
  have e : due.map wr = (due.map sixes).map writ := by rw [List.map_map]; rfl
  have h6 : ∀ x ∈ due.map sixes, Six x := fun x hx => by
    obtain ⟨r, h, rfl⟩ := List.mem_map.mp hx
    exact six_of (hr r h)
  rw [e]
  refine right_cal T hn (by simp) (by simpa using hz) (fun x hx => ?_) (fun x hx => (h6 x hx).2.1) (fun j x y hx hy m hm => sg_rows h6 j x y hx hy m hm) (fun j x y hx hy m h1 hm => hits_rows h6 j x y hx hy m h1 hm) fun l hl h1 h4 => ?_
  · obtain ⟨x', h, rfl⟩ := List.mem_map.mp hx
    rw [writ_len (h6 x' h)]; exact Nat.le_refl _
  · rw [← joined_txt2]
    exact translate2_cal T V (by (exact Nat.lt_of_le_of_lt hn (by decide))) hl h1 (by (exact Nat.le_trans h4 (by decide)))
/-- law, walked whole -/
theorem law_true {s : Shared} {F : Fz} {script : List Int} (T : Tx B) (K : KTx w B) (U : T2 B) (V : T3 B) (hn : n ≤ 35) (hz : script.length ≤ 63) (fe : FE (scopeAt 32) s.heap.objs.size env) (hcode : env.code = .ref 173) (hq : env.qual = "law.<locals>.") (hL : s.heap.objs.size ≤ env.locals) :
    Xs w B s F n env [("script", rList rInt script)] [] (bodyAt 32) (Back B s F (rBool true)) :=
  have H := lawH script
  law_walk T K U (by (exact Nat.le_succ_of_le hn)) hz H (right_due T V hn H.duer (by rw [H.duel]; exact H.len.2)) fe hcode hq hL
end
end Mine
end

section
open PySem PySem.W PyProof.Rows PySem.Calls
namespace Mine
/-- a def of the top, and its code, as they stand behind the top -/
noncomputable def fO (nm : String) (i cd : Nat) (pm : String) (pt : Tok) (dv kv : Value) : Obj := { cls := .type "function", data := .func (fdOf nm nm (argsAt i) (.stmts (bodyAt i)) (scopeAt i) [] dv kv (.ref cd) (.str pm pt) .none .none none) }
noncomputable def cO (nm : String) (t line a b c d e tab : Nat) (u v : Value) (g k : Nat) : Obj := { cls := .type "code", data := .fields #[.str nm t, .str nm (t + 1), .str "/claim/cut.py" (t + 2), .int line 0, .int a 0, .int b 0, .int c 0, .int d 0, .ref e, .bool true, .int 276 0, .ref tab, .none, u, v, .ref g, .int k 0, .int line 0, .str "/claim/cut.py" (k + 1)] }
noncomputable def fns : List (Addr × Obj) := [
  (45, fO "cmp_to_key" 3 44 "cpy313.functools" 289 (.none) (.none)),
  (54, fO "reduce" 5 53 "cpy313.functools" 289 (.ref 47) (.none)),
  (61, fO "_buffer" 7 60 "binascii" 313 (.none) (.none)),
  (68, fO "_truth" 8 67 "binascii" 313 (.none) (.none)),
  (76, fO "b2a_base64" 10 75 "binascii" 313 (.none) (.ref 69)),
  (84, fO "b64encode" 12 83 "cpy313.base64" 347 (.ref 77) (.none)),
  (96, fO "translate" 15 95 "cpy313.fnmatch" 358 (.none) (.none)),
  (108, fO "escape" 18 107 "re" 407 (.none) (.none)),
  (115, fO "_translate" 20 114 "cpy313.fnmatch" 562 (.none) (.none)),
  (122, fO "_join_translated_parts" 21 121 "cpy313.fnmatch" 562 (.none) (.none)),
  (127, fO "_law_row" 23 126 "law_kt0022_01" 596 (.none) (.none)),
  (132, fO "_law_sixes" 24 131 "law_kt0022_01" 596 (.none) (.none)),
  (137, fO "_law_written" 25 136 "law_kt0022_01" 596 (.none) (.none)),
  (142, fO "_law_compared" 26 141 "law_kt0022_01" 596 (.none) (.none)),
  (147, fO "_law_ordered" 27 146 "law_kt0022_01" 596 (.none) (.none)),
  (154, fO "_law_front" 28 153 "law_kt0022_01" 596 (.none) (.none)),
  (159, fO "_law_taken" 29 158 "law_kt0022_01" 596 (.none) (.none)),
  (164, fO "_law_keys" 30 163 "law_kt0022_01" 596 (.none) (.none)),
  (169, fO "_law_right" 31 168 "law_kt0022_01" 596 (.none) (.none)),
  (174, fO "law" 32 173 "law_kt0022_01" 596 (.none) (.none))]
noncomputable def cds : List (Addr × Obj) := [
  (53, cO "reduce" 301 32 3 0 0 3 48 49 (.ref 50) (.ref 51) 52 310),
  (60, cO "_buffer" 315 45 1 0 0 3 55 56 (.ref 57) (.ref 58) 59 320),
  (67, cO "_truth" 323 52 1 0 0 3 62 63 (.ref 64) (.ref 65) 66 328),
  (75, cO "b2a_base64" 334 58 1 1 1 3 70 71 (.ref 72) (.ref 73) 74 344),
  (83, cO "b64encode" 349 81 2 0 0 3 78 79 (.ref 80) (.ref 81) 82 355),
  (95, cO "translate" 398 89 1 0 0 3 90 91 (.ref 92) (.ref 93) 94 404),
  (107, cO "escape" 555 95 1 0 0 3 102 103 (.ref 104) (.ref 105) 106 559),
  (114, cO "_translate" 564 102 3 0 0 3 109 110 (.ref 111) (.ref 112) 113 580),
  (121, cO "_join_translated_parts" 583 164 2 0 0 3 116 117 (.ref 118) (.ref 119) 120 593),
  (126, cO "_law_row" 598 192 1 0 0 3 123 124 (.none) (.none) 125 601),
  (131, cO "_law_sixes" 604 195 1 0 0 3 128 129 (.none) (.none) 130 607),
  (136, cO "_law_written" 610 201 1 0 0 3 133 134 (.none) (.none) 135 613),
  (141, cO "_law_compared" 616 203 2 0 0 3 138 139 (.none) (.none) 140 619),
  (146, cO "_law_ordered" 622 207 1 0 0 3 143 144 (.none) (.none) 145 625),
  (153, cO "_law_front" 628 212 1 0 0 3 148 149 (.ref 150) (.ref 151) 152 634),
  (158, cO "_law_taken" 637 218 2 0 0 3 155 156 (.none) (.none) 157 640),
  (163, cO "_law_keys" 643 223 2 0 0 3 160 161 (.none) (.none) 162 646),
  (168, cO "_law_right" 649 231 2 0 0 3 165 166 (.none) (.none) 167 652),
  (173, cO "law" 655 240 1 0 0 3 170 171 (.none) (.none) 172 658)]
noncomputable def o98 : Obj := { cls := .type "dict", dict := none, data := .dict #[⟨40, .int 40 410, .str "\\(" 414⟩, ⟨41, .int 41 416, .str "\\)" 420⟩, ⟨91, .int 91 422, .str "\\[" 426⟩, ⟨93, .int 93 428, .str "\\]" 432⟩, ⟨123, .int 123 434, .str "\\{" 438⟩, ⟨125, .int 125 440, .str "\\}" 444⟩, ⟨63, .int 63 446, .str "\\?" 450⟩, ⟨42, .int 42 452, .str "\\*" 456⟩, ⟨43, .int 43 458, .str "\\+" 462⟩, ⟨45, .int 45 464, .str "\\-" 468⟩, ⟨124, .int 124 470, .str "\\|" 474⟩, ⟨94, .int 94 476, .str "\\^" 480⟩, ⟨36, .int 36 482, .str "\\$" 486⟩, ⟨92, .int 92 488, .str "\\\\" 492⟩, ⟨46, .int 46 494, .str "\\." 498⟩, ⟨38, .int 38 500, .str "\\&" 504⟩, ⟨126, .int 126 506, .str "\\~" 510⟩, ⟨35, .int 35 512, .str "\\#" 516⟩, ⟨32, .int 32 518, .str "\\ " 522⟩, ⟨9, .int 9 524, .str "\\\t" 528⟩, ⟨10, .int 10 530, .str "\\\n" 534⟩, ⟨13, .int 13 536, .str "\\\x0d" 540⟩, ⟨11, .int 11 542, .str "\\\x0b" 546⟩, ⟨12, .int 12 548, .str "\\\x0c" 552⟩] 24, slots := #[] }
noncomputable def o88 : Obj := { cls := .type "tuple", dict := none, data := .seq #[.int (14) 0, .int (14) 0, .int (4) 0, .int (1) 0, .int (1) 0, .int (9) 0, .int (0) 0, .int (64) 0, .int (0) 0, .int (1342177280) 0, .int (0) 0, .int (0) 0, .int (0) 0, .int (0) 0, .int (0) 0, .int (17) 0, .int (0) 0, .int (13) 0, .int (11) 0, .int (9) 0, .int (0) 0, .int (64) 0, .int (0) 0, .int (1342177280) 0, .int (0) 0, .int (0) 0, .int (0) 0, .int (0) 0, .int (0) 0, .int (17) 0, .int (1) 0, .int (1) 0] 0, slots := #[] }
noncomputable def o89 : Obj := { cls := .type "re.Pattern", dict := none, data := .fields #[.str "([&~|])" 361, .int (32) 396, .int (1) 0, .none, .none, .ref 88, .int (0) 0], slots := #[] }
noncomputable def o47 : Obj := { cls := .type "tuple", dict := none, data := .seq #[.ref 46] 0, slots := #[] }
noncomputable def o77 : Obj := { cls := .type "tuple", dict := none, data := .seq #[.none] 0, slots := #[] }
noncomputable def ots : List (Addr × Obj) := [(40, tabObj #[]), (110, tabObj #[]), (171, tabObj #[]), (98, o98), (88, o88), (89, o89), (47, o47), (77, o77)]
noncomputable def olds (P : Params) : List (Addr × Obj) := kOlds P ++ (fns ++ (cds ++ ots))
end Mine
end

section
open PySem PySem.W PyProof.Rows
namespace Mine
noncomputable def qV : Program := view PG [0, 32]
noncomputable def lz : List PySem.Str := ["_wall", "cmp_to_key", "_initial_missing", "reduce", "_buffer", "_truth", "_B64", "b2a_base64", "b64encode", "_twin_re_1", "translate", "_special_chars_map", "escape", "_translate", "_join_translated_parts", "_law_row", "_law_sixes", "_law_written", "_law_compared", "_law_ordered", "_law_front", "_law_taken", "_law_keys", "_law_right"].map Str.ofString
noncomputable def ads : List Nat := [2, 3, 4, 44, 45, 54, 61, 68, 76, 84, 96, 108, 115, 122, 127, 132, 137, 142, 147, 154, 159, 164, 169, 174, 53, 60, 67, 75, 83, 95, 107, 114, 121, 126, 131, 136, 141, 146, 153, 158, 163, 168, 173, 40, 110, 171, 98, 88, 89, 47, 77]
/-- what is looked at behind the top, and what is there -/
noncomputable def seenAt (s : Shared) : List (Option Obj) × Nat := (ads.map fun a => s.heap.get? a, s.heap.objs.size)
noncomputable def isAt (w : World) : List (Option Obj) × Nat := ((olds w.params).map fun p => some p.2, 175)
/-- the run of the top, over the parts that the library has in a form that the kernel reckons fast -/
noncomputable def runG (im : (String → Option Builtin) → Program → World → Nat → Shared → Thread → Option Shared) (fe : Program → Shared → Option Shared)
    (tr : (String → Option Builtin) → Program → World → Nat → Option Value → Nat → Shared → Thread → Option Shared) (tt : String → Option Builtin) (st : Program → Shared × Thread) (w : World) : Option Shared :=
  ((im tt (opening PG) w 4200 (st (opening PG)).1 (st (opening PG)).2).bind (fe PG)).bind fun s₀ => match s₀.heap.isNs mainGlobals && s₀.gens.size == 0 with
  | true => (tr tt PG w s₀.heap.objs.size (s₀.heap.nsMap mainGlobals "__annotations__") 4200 s₀ (topStub PG)).bind fun s₁ => match staticsOk (importedModules PG.main.body) s₀.heap s₁.heap && namesBound PG s₁.heap && gensDone s₁ && laidKept s₀.heap s₁.heap with
      | true => some s₁
      | false => none
  | false => none
theorem runG_eq (w : World) : openEnds treeTable PG w 4200 = runG importEnds fenceModules? topRun treeTable start w := by
  unfold openEnds fencedOpening runG
  exact congrArg (Option.bind _) (funext fun s₀ => rfl)
noncomputable abbrev runT (w : World) : Option Shared := runG PySem.W.Fast.tw10274390034422433532 PySem.W.Fast.tw14289696077712309145 PySem.W.Fast.tw14082659384304107361 PySem.W.Fast.tw14364793385576792824 PySem.W.Fast.tw1435165496053646825 w
theorem run_eq (w : World) : openEnds treeTable PG w 4200 = runT w := by
  rw [runG_eq, PySem.W.Fast.te10274390034422433532, PySem.W.Fast.te14289696077712309145, PySem.W.Fast.te14082659384304107361, PySem.W.Fast.te14364793385576792824, PySem.W.Fast.te1435165496053646825]
noncomputable abbrev Xt0 : Shared → Bool := fun _ => true
noncomputable abbrev LeftT (w : World) : Prop := (runT w).map (fun s => (PySem.W.Fast.tw4187177175401517315 qV lz (importedModules PG.main.body) Xt0 true s, seenAt s)) = some (openGood qV lz, isAt w)
theorem left_ff (w : World) : LeftT ((w.withFollow "special-get-raises" false).withFollow "comprehension-iter-twice" false) := by kernel_rfl
theorem left_ft (w : World) : LeftT ((w.withFollow "special-get-raises" true).withFollow "comprehension-iter-twice" false) := by kernel_rfl
theorem left_tf (w : World) : LeftT ((w.withFollow "special-get-raises" false).withFollow "comprehension-iter-twice" true) := by kernel_rfl
theorem left_tt (w : World) : LeftT ((w.withFollow "special-get-raises" true).withFollow "comprehension-iter-twice" true) := by kernel_rfl
theorem left_all (w : World) : LeftT w :=
  byRow2 "comprehension-iter-twice" (P := LeftT) (byRow2 "special-get-raises" (P := fun w => LeftT (w.withFollow "comprehension-iter-twice" false)) left_ff left_ft) (byRow2 "special-get-raises" (P := fun w => LeftT (w.withFollow "comprehension-iter-twice" true)) left_tf left_tt) w
theorem left : LeftO PG qV lz Xt0 seenAt isAt 4200 := fun w => by
  rw [run_eq, PySem.W.Fast.te4187177175401517315]
  exact left_all w
end Mine
end

section
open PySem PySem.W PyProof.Rows PySem.Calls
namespace Mine
/-- what stands behind the top -/
structure Bs (w : World) (B : Shared) : Prop where
  at_ : ∀ p ∈ olds w.params, B.heap.get? p.1 = some p.2
  size : 175 ≤ B.heap.objs.size
  g : ∃ mg, B.heap.Ns mainGlobals mg
  b : ∃ mb, B.heap.Ns builtinsNs mb ∧ ∀ x : Str, x ≠ "__name__" → mb x = bootBuiltins x
  lim : B.heap.NoLimit
noncomputable def es3 (P : Params) : Array DictEntry := match (o3 P).data with | .dict es _ => es | _ => #[]
noncomputable def es98 : Array DictEntry := match o98.data with | .dict es _ => es | _ => #[]
section
variable {w : World} {B : Shared}
theorem Bs.nth (X : Bs w B) (k : Nat) {a : Addr} {o : Obj} (h : (olds w.params)[k]? = some (a, o)) : B.heap.get? a = some o := X.at_ (a, o) (List.mem_of_getElem? h)
theorem Bs.ns (X : Bs w B) : B.heap.Ns mainGlobals (nsFind (es3 w.params)) := by
  obtain ⟨mg, o, es, ep, h1, h2, h3, h4⟩ := X.g
  have e := X.nth 1 (a := 3) (o := o3 w.params) rfl
  have h1' : B.heap.get? 3 = some o := h1
  rw [e] at h1'; cases h1'
  cases h2
  exact ⟨_, _, _, h1, rfl, h3, fun _ => rfl⟩
theorem Bs.glob (X : Bs w B) {x : Str} {v : Value} (h : nsFind (es3 w.params) x = some v := by kernel_rfl) : GlobAt B x v := ⟨_, X.ns, h⟩
theorem Bs.blt (X : Bs w B) {x : Str} {v : Value} (h : nsFind (es3 w.params) x = none := by kernel_rfl) (hb : bootBuiltins x = some v := by kernel_rfl) (hn : x ≠ "__name__" := by decide) : BltAt B x v :=
  let ⟨mb, h1, h2⟩ := X.b; ⟨_, mb, X.ns, h1, h, (h2 x hn).trans hb⟩
theorem Bs.df (X : Bs w B) (k : Nat) {a : Addr} {nm : String} {i cd : Nat} {pm : String} {pt : Tok} {dv kv : Value} {t line x1 x2 x3 x4 e tab : Nat} {u v : Value} {g q : Nat} (h : (olds w.params)[k]? = some (a, fO nm i cd pm pt dv kv) := by rfl)
    (hc : (olds w.params)[k + 19]? = some (cd, cO nm t line x1 x2 x3 x4 e tab u v g q) := by rfl) : Df B a nm i dv kv :=
  ⟨_, .ref cd, .str pm pt, .none, .none, none, X.nth k h, rfl, cd, _, _, _, rfl, X.nth (k + 19) hc, rfl, rfl, rfl⟩
theorem Bs.code (X : Bs w B) (k : Nat) {a : Addr} {nm : String} {i cd : Nat} {pm : String} {pt : Tok} {dv kv : Value} (h : (olds w.params)[k]? = some (a, fO nm i cd pm pt dv kv) := by rfl) : ∀ o fd, B.heap.get? a = some o → o.data = .func fd → fd.code = .ref cd := fun o fd e hd => by
  rw [X.nth k h] at e; cases e; cases hd; rfl
theorem Bs.map (X : Bs w B) (w' : World) : ∃ f, B.heap.MapOf (PySem.intKind PG w') 98 f ∧ (∀ c : Nat, c ∈ "ABCDEFGHIJKLMNOPQRSTUVWXYZabcdefghijklmnopqrstuvwxyz0123456789+/".toList.map Char.toNat → c ≠ 43 → f c = none) ∧ ∃ u, f 43 = some (.str ⟨#[92, 43]⟩ u) := by
  refine ⟨findBy Value.isInt es98, ⟨o98, es98, _, X.nth 46 rfl, ⟨rfl, rfl, rfl⟩, rfl, fun e he => ?_, fun _ => rfl⟩, fun c hc h43 => ?_, ?_⟩
  · have all : (es98.toList.all fun e => match e.key with | .int k _ => decide (e.hash = hashInt k) | _ => false) = true := by kernel_rfl
    have h := List.all_eq_true.mp all e (Array.mem_toList_iff.mpr he)
    revert h
    cases hk : e.key with
    | int k t => exact fun h => ⟨k, by show Value.isInt k (Value.int k t) = true; simp [Value.isInt], of_decide_eq_true h⟩
    | _ => exact fun h => (nomatch h)
  · have all : (("ABCDEFGHIJKLMNOPQRSTUVWXYZabcdefghijklmnopqrstuvwxyz0123456789+/".toList.map Char.toNat).all fun c => c == 43 || (findBy Value.isInt es98 (c : Int)).isNone) = true := by kernel_rfl
    have h := List.all_eq_true.mp all c hc
    rw [Bool.or_eq_true] at h
    rcases h with h | h
    · exact absurd (beq_iff_eq.mp h) h43
    · exact Option.isNone_iff_eq_none.mp h
  · have h : (findBy Value.isInt es98 43).map (fun v => match v with | .str x _ => x | _ => ⟨#[]⟩) = some ⟨#[92, 43]⟩ := by kernel_rfl
    obtain ⟨v, h1, h2⟩ := Option.map_eq_some_iff.mp h
    cases v with
    | str x t => exact ⟨t, by rw [h1]; cases h2; rfl⟩
    | _ => exact absurd h2 (by simp)
theorem Bs.tx (X : Bs w B) : Tx B where
  lim := X.lim
  row := X.df 14
  range := X.blt
  len := X.blt
  sixes := X.df 15
  written := X.df 16
  compared := X.df 17
  ordered := X.df 18
  front := X.df 19
  taken := X.df 20
  keys := X.df 21
  right := X.df 22
  g_row := X.glob
  g_sixes := X.glob
  g_written := X.glob
  g_compared := X.glob
  g_ordered := X.glob
  g_front := X.glob
  g_taken := X.glob
  g_keys := X.glob
  g_right := X.glob
  ctk := ⟨_, .ref 44, _, .none, .none, none, X.nth 4 rfl, rfl, 44, _, _, _, rfl, X.nth 3 (o := o44 w.params) rfl, rfl, rfl, rfl⟩
  red := X.df 5
  buf := X.df 6
  tru := X.df 7
  b2a := X.df 8
  b64 := X.df 9
  trans := X.df 10
  esc := X.df 11
  transU := X.df 12
  joinp := X.df 13
  g_ctk := X.glob
  g_red := X.glob
  g_buf := X.glob
  g_tru := X.glob
  g_b2a := X.glob
  g_b64 := X.glob
  g_trans := X.glob
  g_esc := X.glob
  g_transU := X.glob
  g_joinp := X.glob
  g_map := X.glob
  map98 := X.map
  isinst := X.blt
  str_ := X.blt
  obj_ := X.blt
  type_ := X.blt
  bytes_ := X.blt
  bool_ := X.blt
  b64tab := ⟨331, X.glob⟩
  at77 := ⟨o77, _, X.nth 50 rfl, rfl⟩
  at47 := ⟨o47, _, X.nth 49 rfl, rfl⟩
theorem Bs.ktx (X : Bs w B) : KTx w B where
  size := X.size
  lim := X.lim
  olds p hp := X.at_ p (List.mem_append_left _ hp)
  code := X.code 4
  bc := X.blt
theorem Bs.mkF (X : Bs w B) (k : Nat) {c : Addr} {nm : String} {t line x1 x2 x3 x4 e tab : Nat} {u v : Value} {g q : Nat} (h : (olds w.params)[k]? = some (c, cO nm t line x1 x2 x3 x4 e tab u v g q) := by rfl) (hne : c ≠ tab := by decide) (h4 : 4 ≠ tab := by decide) : Mk B c tab :=
  ⟨⟨_, _, _, _, _, _, _, _, _, X.nth k h, rfl, rfl, rfl, rfl, rfl, rfl, rfl, rfl, hne⟩, _, X.ns, 4, o4 w.params, by kernel_rfl, by decide, by decide, h4, X.nth 2 rfl, rfl, rfl, rfl⟩
theorem Bs.t2 (X : Bs w B) : T2 B where
  iter := X.blt
  miss := X.glob
  sum := X.blt
  sorted := X.blt
  red := X.code 5
  law := X.code 23
  mk1 := X.mkF 42
  mk2 := X.mkF 31
theorem Bs.t3 (X : Bs w B) : T3 B where
  pat := ⟨fun _ => 0, fun i => match i with | 0 => 361 | 1 => 396 | _ => 0, X.nth 47 rfl, X.nth 48 rfl⟩
  g_re := X.glob
  mkT := X.mkF 31
  code := X.code 12
theorem Bs.inv (X : Bs w B) (hg : AllBare B.gens) : Inv B B where
  keep _ _ e _ := e
  size := Nat.le_refl _
  t1 := ⟨#[], X.nth 45 rfl, trivial, fun _ _ h => (nomatch h)⟩
  t2 := ⟨#[], X.nth 44 rfl, trivial, fun _ _ h => (nomatch h)⟩
  t3 := .inl (X.nth 43 rfl)
  os := rfl
  gens := hg
/-- the tables of codes alone have grown -/
theorem Bs.oldK (X : Bs w B) {s : Shared} (i : Inv B s) : OldK B.heap s.heap := by
  have tab : ∀ a ps, B.heap.get? a = some (tabObj #[]) → s.heap.get? a = some (tabObj ps) → isCodeTable B.heap a → asItWas B.heap s.heap a (tabObj #[]) := fun a ps _ e c => .inr (.inl ⟨c, rfl, #[], ps, rfl, by simpa using e⟩)
  have code : ∀ k {c : Addr} {nm : String} {t line x1 x2 x3 x4 e tab : Nat} {u v : Value} {g q : Nat}, (olds w.params)[k]? = some (c, cO nm t line x1 x2 x3 x4 e tab u v g q) → isCodeTable B.heap tab := fun k {c nm t line x1 x2 x3 x4 e tab u v g q} h => ⟨c, _, _, X.nth k h, rfl, rfl, rfl⟩
  have c40 : isCodeTable B.heap 40 := ⟨44, o44 w.params, _, X.nth 3 rfl, rfl, rfl, rfl⟩
  have key : ∀ b o, B.heap.get? b = some o → asItWas B.heap s.heap b o ∧ ∃ o', s.heap.get? b = some o' := fun b o e => by
    by_cases h : Mut b
    · rcases h with rfl | rfl | rfl
      · have e0 := X.nth 45 (a := 171) rfl
        rw [e0] at e; cases e
        obtain ⟨ps, e1, _⟩ := i.t1
        exact ⟨tab _ ps e0 e1 (code 42 rfl), _, e1⟩
      · have e0 := X.nth 44 (a := 110) rfl
        rw [e0] at e; cases e
        obtain ⟨ps, e1, _⟩ := i.t2
        exact ⟨tab _ ps e0 e1 (code 31 rfl), _, e1⟩
      · have e0 := X.nth 43 (a := 40) rfl
        rw [e0] at e; cases e
        rcases i.t3 with e1 | ⟨m, t, _, e1, _⟩
        · exact ⟨tab _ #[] e0 e1 c40, _, e1⟩
        · exact ⟨tab _ _ e0 e1 c40, _, e1⟩
    · exact ⟨.inl (i.keep b o e fun q => h q.2), _, i.keep b o e fun q => h q.2⟩
  exact ⟨fun b o e => (key b o e).1, fun b o e => (key b o e).2⟩
end
end Mine
end

section
open PySem PySem.W PyProof.Rows PySem.Calls
namespace Mine
theorem said : PySem.Challenge.rw_kt0022_01.wellSaid = true := by
  rw [PySem.W.Fast.te9446332074065402090]
  kernel_rfl
theorem Bs.of {w : World} {s₀ s₁ : Shared} {mg mb : Str → Option Value} (Y : seenAt s₀ = isAt w) (k : ∀ b o, s₀.heap.get? b = some o → s₁.heap.get? b = some o) (g : s₁.heap.Ns mainGlobals mg) (b : s₁.heap.Ns builtinsNs mb) (hb : ∀ x : Str, x ≠ "__name__" → mb x = bootBuiltins x) (lim : s₁.heap.NoLimit) : Bs w s₁ := by
  have e : (olds w.params).map (fun p => s₀.heap.get? p.1) = (olds w.params).map fun p => some p.2 := congrArg Prod.fst Y
  have a : ∀ p ∈ olds w.params, s₁.heap.get? p.1 = some p.2 := fun p hp => k _ _ (List.map_inj_left.mp e p hp)
  exact ⟨a, Heap.lt_size (a (174, _) (List.mem_of_getElem? (i := 23) rfl)), ⟨_, g⟩, ⟨_, b, hb⟩, lim⟩
theorem law_call {w : World} {B s : Shared} {F : Fz} {A : Around} {n : Nat} {script : List Int} {v : Value} (X : Bs w B) (hA : Le A n) (hn : n ≤ 34) (i : Inv B s) (f : F.In s.heap) (hz : script.length ≤ 63) (hv : (rList rInt script).p F v) : W w A (call (.ref 174) [v]) (Gives B s F (rBool true)) s :=
  call_topC hA (by omega) i f X.lim (X.df 23) (binds := [("script", v)]) (fun cd pm doc ct an => .of_eq rfl) (by simp) (fun p hp => by rw [List.mem_singleton.mp hp]; exact .inl (by kernel_rfl)) rfl rfl rfl [("script", rList rInt script)] (fun p hp => by rw [List.mem_singleton.mp hp]; exact ⟨v, .head _, hv⟩) X.t2.law
    fun env hc he fe => law_true X.tx X.ktx X.t2 X.t3 (by omega) hz fe hc (by rw [he]; show ("law" : Str) ++ (".<locals>." : Str) = _; decide +kernel) (by rw [he]; exact Nat.le_refl _)
theorem script_are {F : Fz} : ∀ {vs : List Value} {ns : List Int}, IntsAre vs ns → Are rInt F vs ns
  | _, _, .nil => .nil
  | _, _, .cons k t h => .cons ⟨t, rfl⟩ (script_are h)
theorem law_hc {d : DefRec} {kwd : List (Str × Expr)} (hn : d.name = "law") : WalkX qV lz (fun _ _ => True) seenAt isAt PySem.Challenge.rw_kt0022_01.row.toRowW d kwd (fun f vs => PySem.call f vs) := by
  intro w s₀ s₁ mg mb G Y fa o pm cd doc dV kV ho hd hcd hD hmg hg args vals as L hpre hlay hrd hwl hlo
  have X : Bs w s₁ := Bs.of Y L.keeps G.T.g G.T.b G.T.builtins G.T.nolimit
  have hfa : fa = 174 := by
    rw [hn] at hmg
    have h1 := Ns.uniq G.T.g X.ns "law"
    have h2 : nsFind (es3 w.params) "law" = some (.ref 174) := by kernel_rfl
    rw [hmg, h2] at h1
    cases h1; rfl
  subst hfa
  clear ho hd hcd hD hmg
  wrow_args hpre hlay hrd hwl hlo
  rename_i ns _ _ _ _ _ aa bb l ws cc hL ra w1 r0 hI hr hlen _
  obtain ⟨ord, _, hlaid⟩ := L.laid
  obtain ⟨a, q, h1, h2, h3⟩ := layAllW_cons hlaid
  have hs1 : s₁ = q.2 := congrArg Prod.snd h3
  have hl1 : [Value.ref l] = a.1 :: q.1 := congrArg Prod.fst h3
  have h2' : some ([], a.2) = some q := h2
  cases h2'
  cases hr1 : layAllW PySem.Challenge.rw_kt0022_01.row.records (classAt s₀.heap) w.params ord (ofPys (ns.map PyData.int)) s₀ with
  | none =>
    have h1' : layW PySem.Challenge.rw_kt0022_01.row.records (classAt s₀.heap) w.params ord (.list (ofPys (ns.map PyData.int))) s₀ = some a := h1
    unfold layW at h1'
    rw [hr1] at h1'
    cases h1'
  | some r =>
    have h1' : layW PySem.Challenge.rw_kt0022_01.row.records (classAt s₀.heap) w.params ord (.list (ofPys (ns.map PyData.int))) s₀ = some a := h1
    unfold layW at h1'
    rw [hr1] at h1'
    cases h1'
    have hl2 : l = r.2.heap.objs.size := by injection hl1 with e _; injection e
    have at_ : s₁.heap.get? l = some (lst r.1 0) := by rw [hs1, hl2]; exact Heap.get?_push_size _ rfl
    have hvs : ws = r.1 := by
      obtain ⟨o', e1, _, n', e2⟩ := hL
      rw [at_] at e1; cases e1
      injection e2 with e3 _
      simpa using congrArg Array.toList e3.symm
    subst hvs
    have are : Are rInt (Fz.put (fun _ => none) l (lst r.1 0)) r.1 ns := script_are hI
    have fin : (Fz.put (fun _ => none) l (lst r.1 0)).In s₁.heap := fun b o' e => by
      unfold Fz.put at e
      split at e
      · rename_i h; subst h; cases e; exact ⟨at_, fun h => nomatch h.1⟩
      · cases e
    have inv := X.inv (.of_eq hg)
    refine wpAny_mono (law_call (n := 30) X ⟨rfl, by decide, by decide⟩ (by decide) inv fin (script := ns) (by omega) ⟨l, r.1, 0, rfl, Fz.put_self .., are⟩) (fun v s' ⟨F', x, e⟩ => ?_) fun _ _ h => h.elim
    cases (show v = .bool true from e)
    exact ⟨.inl ⟨.bool true, .bool true, [], rfl, fun _ => rfl, ReadsW.bool true, by wrow_post, fun _ => ⟨List.nodup_nil, fun _ h => nomatch h⟩⟩, X.oldK x.inv, x.inv.os, x.inv.gens⟩
end Mine
end

section
open PySem PySem.W PyProof.Rows PySem.Calls
theorem PySem.Challenge.cw_kt0022_01_holds : PySem.Challenge.rw_kt0022_01.Holds := by
  refine holds_law Mine.said fun said => ?_
  refine holds_openX (r := PySem.Challenge.rw_kt0022_01.row) (q := Mine.qV) (loose := Mine.lz) (Xt := Mine.Xt0) (XP := fun _ _ => True) (Yf := Mine.seenAt) (Ya := Mine.isAt) (N := 4200) Mine.left (fun _ _ => trivial) (fun _ _ _ _ _ => trivial) (by rfl) (by rfl) (by rfl) (fun _ _ => recFacts_nil rfl) (by rfl) said (by decide +kernel) ⟨rfl, rfl, rfl, rfl, rfl, by decide +kernel⟩ ?hw (Mine.law_hc rfl)
  w_witness2
end
