import PyProof.Rows.All

import Wide.All

import OpenK.AllK

import Wide.FinOn

import PySem.Challenge.RW_pm0068_01

set_option Elab.async false
set_option maxRecDepth 100000
set_option maxHeartbeats 8000000
set_option linter.unusedVariables false
set_option linter.unusedSimpArgs false
set_option linter.unusedSectionVars false
set_option compiler.extract_closed false
set_option genSizeOf false

section
open PySem PySem.W PyProof.Rows
set_option Elab.async false
set_option linter.unusedVariables false
namespace Mine

/-- a value as a tree; a reference stands for what is tracked, or lies in the written part -/
inductive PV where
  | none | bool (b : Bool) | int (i : Int) | flt (x : UInt64) | str (s : PySem.Str)
  | tup (l : List PV) | lst (l : List PV) | ref (a : Addr) | bi (id : String) | ty (n : String) | im (o : Obj)

def isIter (o : Obj) : Bool := match o.cls with
  | .type n => ["list_iterator", "tuple_iterator", "range_iterator", "dict_itemiterator"].contains n
  | _ => false

abbrev tupObj (vs : Array Value) (n : Nat) : Obj := { cls := .type "tuple", data := .seq vs n }
abbrev lstObj (vs : Array Value) (n : Nat) : Obj := { cls := .type "list", data := .seq vs n }

mutual
def Rep (D : List Addr) (h : Heap) : PV → Value → Prop
  | .none, v => v = .none
  | .bool b, v => v = .bool b
  | .int i, v => ∃ t, v = .int i t
  | .flt x, v => ∃ t, v = .float x t ∧ t ≠ 0
  | .str s, v => ∃ t, v = .str s t
  | .tup l, v => ∃ a vs n, v = .ref a ∧ h.get? a = some (tupObj vs n) ∧ a ∉ D ∧ RepL D h l vs.toList
  | .lst l, v => ∃ a vs n, v = .ref a ∧ h.get? a = some (lstObj vs n) ∧ a ∉ D ∧ RepL D h l vs.toList
  | .ref a, v => v = .ref a
  | .bi id, v => v = .builtin id
  | .ty n, v => v = .type n
  | .im o, v => ∃ a, v = .ref a ∧ h.get? a = some o ∧ a ∉ D ∧ isIter o = false
def RepL (D : List Addr) (h : Heap) : List PV → List Value → Prop
  | [], vs => vs = []
  | p :: l, vs => ∃ v r, vs = v :: r ∧ Rep D h p v ∧ RepL D h l r
end

/-- what may change where: the old facts off D stay, the new D is old or was free -/
def Ev (D : List Addr) (h : Heap) (D' : List Addr) (h' : Heap) : Prop :=
  (∀ a o, a ∉ D → h.get? a = some o → isIter o = false → h'.get? a = some o) ∧ ∀ a ∈ D', a ∈ D ∨ h.get? a = none

mutual
theorem Rep.ev {D D' : List Addr} {h h' : Heap} (e : Ev D h D' h') : ∀ (p : PV) (v : Value), Rep D h p v → Rep D' h' p v
  | .none, _, r => by simpa only [Rep] using r
  | .bool _, _, r => by simpa only [Rep] using r
  | .int _, _, r => by simpa only [Rep] using r
  | .flt _, _, r => by simpa only [Rep] using r
  | .str _, _, r => by simpa only [Rep] using r
  | .ref _, _, r => by simpa only [Rep] using r
  | .bi _, _, r => by simpa only [Rep] using r
  | .ty _, _, r => by simpa only [Rep] using r
  | .im o, v, r => by
    simp only [Rep] at r ⊢
    obtain ⟨a, hv, ho, ha, hi⟩ := r
    exact ⟨a, hv, e.1 a _ ha ho hi, (fun hm => (e.2 a hm).elim ha fun q => by rw [q] at ho; exact nomatch ho), hi⟩
  | .tup l, v, r => by
    simp only [Rep] at r ⊢
    obtain ⟨a, vs, n, hv, ho, ha, hl⟩ := r
    exact ⟨a, vs, n, hv, e.1 a _ ha ho rfl, (fun hm => (e.2 a hm).elim ha fun q => by rw [q] at ho; exact nomatch ho), RepL.ev e l _ hl⟩
  | .lst l, v, r => by
    simp only [Rep] at r ⊢
    obtain ⟨a, vs, n, hv, ho, ha, hl⟩ := r
    exact ⟨a, vs, n, hv, e.1 a _ ha ho rfl, (fun hm => (e.2 a hm).elim ha fun q => by rw [q] at ho; exact nomatch ho), RepL.ev e l _ hl⟩
theorem RepL.ev {D D' : List Addr} {h h' : Heap} (e : Ev D h D' h') : ∀ (l : List PV) (vs : List Value), RepL D h l vs → RepL D' h' l vs
  | [], _, r => by simpa only [RepL] using r
  | p :: l, vs, r => by
    simp only [RepL] at r ⊢
    obtain ⟨v, q, hv, h1, h2⟩ := r
    exact ⟨v, q, hv, Rep.ev e p v h1, RepL.ev e l q h2⟩
end

theorem RepL.length {D : List Addr} {h : Heap} : ∀ {l : List PV} {vs : List Value}, RepL D h l vs → vs.length = l.length
  | [], _, r => by simp only [RepL] at r; subst r; rfl
  | _ :: l, vs, r => by
    simp only [RepL] at r
    obtain ⟨v, q, rfl, _, h2⟩ := r
    simp [RepL.length h2]
theorem RepL.get {D : List Addr} {h : Heap} : ∀ {l : List PV} {vs : List Value}, RepL D h l vs → ∀ {i : Nat} {p : PV}, l[i]? = some p → ∃ v, vs[i]? = some v ∧ Rep D h p v
  | [], _, _, i, p, e => by simp at e
  | _ :: l, vs, r, i, p, e => by
    simp only [RepL] at r
    obtain ⟨v, q, rfl, h1, h2⟩ := r
    cases i with
    | zero => simp at e; subst e; exact ⟨v, by simp, h1⟩
    | succ i => simp at e; simpa using RepL.get h2 e
theorem RepL.append {D : List Addr} {h : Heap} : ∀ {l l' : List PV} {vs vs' : List Value}, RepL D h l vs → RepL D h l' vs' → RepL D h (l ++ l') (vs ++ vs')
  | [], _, _, _, r, r' => by simp only [RepL] at r; subst r; simpa using r'
  | _ :: l, l', vs, vs', r, r' => by
    simp only [RepL] at r
    obtain ⟨v, q, rfl, h1, h2⟩ := r
    simp only [List.cons_append, RepL]
    exact ⟨v, _, rfl, h1, RepL.append h2 r'⟩
theorem RepL.one {D : List Addr} {h : Heap} {p : PV} {v : Value} (r : Rep D h p v) : RepL D h [p] [v] := by
  simp only [RepL]
  exact ⟨v, [], rfl, r, rfl⟩
theorem RepL.take {D : List Addr} {h : Heap} : ∀ {l : List PV} {vs : List Value} (n : Nat), RepL D h l vs → RepL D h (l.take n) (vs.take n)
  | _, _, 0, _ => by simp [RepL]
  | [], _, n + 1, r => by simp only [RepL] at r; subst r; simp [RepL]
  | _ :: l, vs, n + 1, r => by
    simp only [RepL] at r
    obtain ⟨v, q, rfl, h1, h2⟩ := r
    simp only [List.take_succ_cons, RepL]
    exact ⟨v, _, rfl, h1, RepL.take n h2⟩
theorem RepL.drop {D : List Addr} {h : Heap} : ∀ {l : List PV} {vs : List Value} (n : Nat), RepL D h l vs → RepL D h (l.drop n) (vs.drop n)
  | _, _, 0, r => by simpa using r
  | [], _, n + 1, r => by simp only [RepL] at r; subst r; simp [RepL]
  | _ :: l, vs, n + 1, r => by
    simp only [RepL] at r
    obtain ⟨v, q, rfl, h1, h2⟩ := r
    simpa only [List.drop_succ_cons] using RepL.drop n h2
theorem RepL.reverse {D : List Addr} {h : Heap} : ∀ {l : List PV} {vs : List Value}, RepL D h l vs → RepL D h l.reverse vs.reverse
  | [], _, r => by simp only [RepL] at r; subst r; simp [RepL]
  | _ :: l, vs, r => by
    simp only [RepL] at r
    obtain ⟨v, q, rfl, h1, h2⟩ := r
    simp only [List.reverse_cons]
    exact RepL.append (RepL.reverse h2) (RepL.one h1)
theorem RepL.set {D : List Addr} {h : Heap} : ∀ {l : List PV} {vs : List Value} (n : Nat) {p : PV} {v : Value}, RepL D h l vs → Rep D h p v → RepL D h (l.set n p) (vs.set n v)
  | [], _, n, _, _, r, _ => by simp only [RepL] at r; subst r; simp [RepL]
  | _ :: l, vs, n, p, v, r, r' => by
    simp only [RepL] at r
    obtain ⟨v', q, rfl, h1, h2⟩ := r
    cases n with
    | zero => simp only [List.set_cons_zero, RepL]; exact ⟨_, _, rfl, r', h2⟩
    | succ n => simp only [List.set_cons_succ, RepL]; exact ⟨_, _, rfl, h1, RepL.set n h2 r'⟩

/-- what stands at a tracked address -/
inductive TO where
  | list (l : List PV)
  | frame (m : List (PySem.Str × PV))
  | cell (v : Option PV)
  | obj (o : Obj)

abbrev Trk := List (Addr × TO)
abbrev Hold := List (PV × Value)
abbrev dom (T : Trk) : List Addr := T.map (·.1)

def Own (D : List Addr) (h : Heap) (a : Addr) : TO → Prop
  | .list l => ∃ vs n, h.get? a = some (lstObj vs n) ∧ RepL D h l vs.toList
  | .frame m => ∃ mv, h.Ns a mv ∧ ∀ x p, m.lookup x = some p → ∃ v, mv x = some v ∧ Rep D h p v
  | .cell v => ∃ w, h.IsCell a w ∧ ∀ p, v = some p → ∃ u, w = some u ∧ Rep D h p u
  | .obj o => h.get? a = some o

theorem Own.some {D : List Addr} {h : Heap} {a : Addr} : ∀ {t : TO}, Own D h a t → ∃ o, h.get? a = some o
  | .list _, ⟨_, _, e, _⟩ => ⟨_, e⟩
  | .frame _, ⟨_, ⟨_, _, _, e, _⟩, _⟩ => ⟨_, e⟩
  | .cell _, ⟨_, ⟨_, e, _⟩, _⟩ => ⟨_, e⟩
  | .obj _, e => ⟨_, e⟩

theorem Own.ev {D D' : List Addr} {h h' : Heap} (e : Ev D h D' h') {a : Addr} (ha : h'.get? a = h.get? a) : ∀ {t : TO}, Own D h a t → Own D' h' a t
  | .list l, ⟨vs, n, ho, r⟩ => ⟨vs, n, ha.trans ho, r.ev e l _⟩
  | .frame m, ⟨mv, ⟨o, es, ep, ho, q⟩, r⟩ => ⟨mv, ⟨o, es, ep, ha.trans ho, q⟩, fun x p hx => let ⟨v, h1, h2⟩ := r x p hx; ⟨v, h1, h2.ev e p v⟩⟩
  | .cell v, ⟨w, ⟨o, ho, q⟩, r⟩ => ⟨w, ⟨o, ha.trans ho, q⟩, fun p hp => let ⟨u, h1, h2⟩ := r p hp; ⟨u, h1, h2.ev e p u⟩⟩
  | .obj o, ho => ha.trans ho

structure Cx where
  prog : Program
  w : World
  K : Frag
  p : Program
  loose : List PySem.Str
  mg : PySem.Str → Option Value
  mb : PySem.Str → Option Value
  gens : Array GenState
  drawn : Drawn
  os : OsState
  low : Nat

structure Cx.Base (c : Cx) (h : Heap) : Prop where
  K : c.K.In h
  T : TopRead c.p c.loose c.mg c.mb h
theorem Cx.Base.keeps {c : Cx} {h h' : Heap} (b : c.Base h) (k : ∀ b o, h.get? b = some o → h'.get? b = some o) : c.Base h' := ⟨b.K.keeps k, b.T.keeps k⟩

structure St (c : Cx) (h₀ : Heap) (T : Trk) (H : Hold) (s : Shared) : Prop where
  base : c.Base h₀
  keep : ∀ b o, h₀.get? b = some o → s.heap.get? b = some o
  new : ∀ p ∈ T, h₀.get? p.1 = none
  own : ∀ p ∈ T, Own (dom T) s.heap p.1 p.2
  nd : (dom T).Nodup
  held : ∀ p ∈ H, Rep (dom T) s.heap p.1 p.2
  gens : s.gens = c.gens
  drawn : s.drawn = c.drawn
  os : s.os = c.os
  tk : c.low ≤ s.toks

def AOk (n : Nat) (A : Around) : Prop := A.handled = none ∧ A.depth + n < 990 ∧ A.units + 10 * n < 9800

def W (c : Cx) (h₀ : Heap) (n : Nat) (T : Trk) (H : Hold) {α : Type} (t : Sem α) (Q : α → Trk → Hold → Prop) : Prop :=
  ∀ (A : Around) (s : Shared), AOk n A → St c h₀ T H s → wpAny (model c.prog c.w) A t (fun a s' => ∃ T' N, Q a T' N ∧ St c h₀ T' (N ++ H) s') (fun _ _ => False) s

/-- the value v stands for p, by what is held -/
def Den (H : Hold) (v : Value) (p : PV) : Prop := ∀ D h, (∀ q ∈ H, Rep D h q.1 q.2) → Rep D h p v
theorem Den.none {H : Hold} : Den H .none .none := fun _ _ _ => by simp only [Rep]
theorem Den.bool {H : Hold} {b : Bool} : Den H (.bool b) (.bool b) := fun _ _ _ => by simp only [Rep]
theorem Den.int {H : Hold} {i : Int} {t : Tok} : Den H (.int i t) (.int i) := fun _ _ _ => by simp only [Rep]; exact ⟨t, rfl⟩
theorem Den.flt {H : Hold} {i : UInt64} {t : Tok} (h : t ≠ 0) : Den H (.float i t) (.flt i) := fun _ _ _ => by simp only [Rep]; exact ⟨t, rfl, h⟩
theorem Den.str {H : Hold} {i : PySem.Str} {t : Tok} : Den H (.str i t) (.str i) := fun _ _ _ => by simp only [Rep]; exact ⟨t, rfl⟩
theorem Den.ref {H : Hold} {a : Addr} : Den H (.ref a) (.ref a) := fun _ _ _ => by simp only [Rep]
theorem Den.bi {H : Hold} {a : String} : Den H (.builtin a) (.bi a) := fun _ _ _ => by simp only [Rep]
theorem Den.ty {H : Hold} {a : String} : Den H (.type a) (.ty a) := fun _ _ _ => by simp only [Rep]
theorem Den.held {H : Hold} {v : Value} {p : PV} (h : (p, v) ∈ H) : Den H v p := fun _ _ k => k _ h

section
variable {c : Cx} {h₀ : Heap} {T T' : Trk} {H H' : Hold} {s : Shared}

theorem St.lt (S : St c h₀ T H s) {p : Addr × TO} (hp : p ∈ T) : p.1 < s.heap.objs.size := let ⟨_, e⟩ := (S.own p hp).some; Heap.lt_size e

theorem St.hold (S : St c h₀ T H s) (h : ∀ p ∈ H', Rep (dom T) s.heap p.1 p.2) : St c h₀ T H' s := ⟨S.base, S.keep, S.new, S.own, S.nd, h, S.gens, S.drawn, S.os, S.tk⟩
theorem St.drop (S : St c h₀ T (H' ++ H) s) : St c h₀ T H s := S.hold fun p hp => S.held p (List.mem_append_right _ hp)
theorem St.rep (S : St c h₀ T H s) {v : Value} {p : PV} (d : Den H v p) : Rep (dom T) s.heap p v := d _ _ S.held

/-- the heap grows, nothing that stands is turned -/
theorem St.grow (S : St c h₀ T H s) {h' : Heap} {tk : Nat} (k : ∀ b o, s.heap.get? b = some o → h'.get? b = some o) (htk : s.toks ≤ tk := by first | exact Nat.le_refl _ | exact Nat.le_succ _ | omega) : St c h₀ T H { s with heap := h', toks := tk } := by
  have e : Ev (dom T) s.heap (dom T) h' := ⟨fun a o _ ho _ => k a o ho, fun a ha => .inl ha⟩
  refine ⟨S.base, fun b o q => k b o (S.keep b o q), S.new, fun p hp => ?_, S.nd, fun p hp => (S.held p hp).ev e _ _, S.gens, S.drawn, S.os, Nat.le_trans S.tk htk⟩
  obtain ⟨o, ho⟩ := (S.own p hp).some
  exact (S.own p hp).ev e ((k _ _ ho).trans ho.symm)
theorem St.tok (S : St c h₀ T H s) {tk : Nat} (htk : s.toks ≤ tk := by first | exact Nat.le_refl _ | exact Nat.le_succ _ | omega) : St c h₀ T H { s with toks := tk } := S.grow (h' := s.heap) (fun _ _ e => e) htk

/-- one tracked place is turned -/
theorem St.turn {a : Addr} {o o' : TO} {T₁ T₂ : Trk} (S : St c h₀ (T₁ ++ (a, o) :: T₂) H s) {h' : Heap} {tk : Nat} (hs : Heap.SameBut a s.heap h')
    (ho : Own (dom (T₁ ++ (a, o) :: T₂)) h' a o') (htk : s.toks ≤ tk := by first | exact Nat.le_refl _ | exact Nat.le_succ _ | omega) : St c h₀ (T₁ ++ (a, o') :: T₂) H { s with heap := h', toks := tk } := by
  have ed : dom (T₁ ++ (a, o') :: T₂) = dom (T₁ ++ (a, o) :: T₂) := by simp
  have ma : a ∈ dom (T₁ ++ (a, o) :: T₂) := by simp
  have e : Ev (dom (T₁ ++ (a, o) :: T₂)) s.heap (dom (T₁ ++ (a, o) :: T₂)) h' := ⟨fun b q hb hq _ => (hs.2 b fun z => hb (z ▸ ma)).trans hq, fun b hb => .inl hb⟩
  have off : ∀ p : Addr × TO, p ∈ T₁ ++ T₂ → p.1 ≠ a := fun p hp z => by
    have nd := S.nd
    rw [show dom (T₁ ++ (a, o) :: T₂) = dom T₁ ++ a :: dom T₂ by simp] at nd
    have nd' := List.nodup_append.mp nd
    rcases List.mem_append.mp hp with hp | hp
    · exact nd'.2.2 p.1 (List.mem_map_of_mem hp) a (by simp) z
    · exact (List.nodup_cons.mp nd'.2.1).1 (z ▸ List.mem_map_of_mem hp)
  refine ⟨S.base, fun b q hq => (hs.2 b fun z => ?_).trans (S.keep b q hq), fun p hp => ?_, fun p hp => ?_, ed ▸ S.nd, fun p hp => ed ▸ (S.held p hp).ev e _ _, S.gens, S.drawn, S.os, Nat.le_trans S.tk htk⟩
  · have := S.new (a, o) (by simp)
    rw [z] at hq; rw [this] at hq; exact nomatch hq
  · rcases List.mem_append.mp hp with hp | hp
    · exact S.new p (by simp [hp])
    · rcases List.mem_cons.mp hp with rfl | hp
      · exact S.new (a, o) (by simp)
      · exact S.new p (by simp [hp])
  · rw [ed]
    rcases List.mem_append.mp hp with hp | hp
    · exact (S.own p (by simp [hp])).ev e (hs.2 _ (off p (by simp [hp])))
    · rcases List.mem_cons.mp hp with rfl | hp
      · exact ho
      · exact (S.own p (by simp [hp])).ev e (hs.2 _ (off p (by simp [hp])))

/-- a free place is tracked from here on -/
theorem St.track (S : St c h₀ T H s) {h' : Heap} {tk : Nat} {a : Addr} {o : TO} (hf : s.heap.get? a = none) (k : ∀ b o, s.heap.get? b = some o → h'.get? b = some o)
    (ho : Own (a :: dom T) h' a o) (htk : s.toks ≤ tk := by first | exact Nat.le_refl _ | exact Nat.le_succ _ | omega) : St c h₀ ((a, o) :: T) H { s with heap := h', toks := tk } := by
  have e : Ev (dom T) s.heap (a :: dom T) h' := ⟨fun a o _ ho _ => k a o ho, fun b hb => by
    rcases List.mem_cons.mp hb with rfl | hb
    · exact .inr hf
    · exact .inl hb⟩
  refine ⟨S.base, fun b o q => k b o (S.keep b o q), fun p hp => ?_, fun p hp => ?_, ?_, fun p hp => (S.held p hp).ev e _ _, S.gens, S.drawn, S.os, Nat.le_trans S.tk htk⟩
  · rcases List.mem_cons.mp hp with rfl | hp
    · cases q : h₀.get? a with
      | none => rfl
      | some o => have := S.keep _ _ q; rw [hf] at this; exact nomatch this
    · exact S.new p hp
  · rcases List.mem_cons.mp hp with rfl | hp
    · exact ho
    · obtain ⟨o, ho'⟩ := (S.own p hp).some
      exact (S.own p hp).ev e ((k _ _ ho').trans ho'.symm)
  · refine List.nodup_cons.mpr ⟨fun hm => ?_, S.nd⟩
    obtain ⟨p, hp, hpa⟩ := List.mem_map.mp hm
    obtain ⟨o, ho'⟩ := (S.own p hp).some
    rw [hpa, hf] at ho'; exact nomatch ho'

/-- what is no longer wanted is let go -/
theorem St.forget {p : Addr × TO} (S : St c h₀ (p :: T) H s) : St c h₀ T H s := by
  have e : Ev (dom (p :: T)) s.heap (dom T) s.heap := ⟨fun _ _ _ q _ => q, fun a ha => .inl (List.mem_cons_of_mem _ ha)⟩
  exact ⟨S.base, S.keep, fun q hq => S.new q (List.mem_cons_of_mem _ hq), fun q hq => (S.own q (List.mem_cons_of_mem _ hq)).ev e rfl, (List.nodup_cons.mp S.nd).2, fun q hq => (S.held q hq).ev e _ _, S.gens, S.drawn, S.os, S.tk⟩
theorem St.subs (S : St c h₀ T H s) (hs : T'.Sublist T) : St c h₀ T' H s := by
  have e : Ev (dom T) s.heap (dom T') s.heap := ⟨fun _ _ _ q _ => q, fun a ha => .inl ((hs.map (·.1)).subset ha)⟩
  exact ⟨S.base, S.keep, fun q hq => S.new q (hs.subset hq), fun q hq => (S.own q (hs.subset hq)).ev e rfl, (hs.map (·.1)).nodup S.nd, fun q hq => (S.held q hq).ev e _ _, S.gens, S.drawn, S.os, S.tk⟩
theorem St.perm (S : St c h₀ T H s) (hp : T'.Perm T) : St c h₀ T' H s := by
  have e : Ev (dom T) s.heap (dom T') s.heap := ⟨fun _ _ _ q _ => q, fun a ha => .inl ((hp.map (·.1)).subset ha)⟩
  exact ⟨S.base, S.keep, fun q hq => S.new q (hp.subset hq), fun q hq => (S.own q (hp.subset hq)).ev e rfl, (hp.map (·.1)).nodup_iff.mpr S.nd, fun q hq => (S.held q hq).ev e _ _, S.gens, S.drawn, S.os, S.tk⟩
end

/-- the tracked place a holds o; with o' in its stead the tracked are T' -/
inductive At (a : Addr) (o o' : TO) : Trk → Trk → Prop
  | head {r} : At a o o' ((a, o) :: r) ((a, o') :: r)
  | tail {p r r'} : At a o o' r r' → At a o o' (p :: r) (p :: r')
theorem At.split {a : Addr} {o o' : TO} {T T' : Trk} (h : At a o o' T T') : ∃ T₁ T₂, T = T₁ ++ (a, o) :: T₂ ∧ T' = T₁ ++ (a, o') :: T₂ := by
  induction h with
  | head => exact ⟨[], _, rfl, rfl⟩
  | tail h ih => exact ih.elim fun T₁ ih => ih.elim fun T₂ ih => ⟨_ :: T₁, T₂, congrArg (List.cons _) ih.1, congrArg (List.cons _) ih.2⟩
inductive In (a : Addr) (o : TO) : Trk → Prop
  | head {r} : In a o ((a, o) :: r)
  | tail {p r} : In a o r → In a o (p :: r)
theorem In.mem {a : Addr} {o : TO} {T : Trk} (h : In a o T) : (a, o) ∈ T := by
  induction h with
  | head => exact List.Mem.head _
  | tail h ih => exact List.Mem.tail _ ih

section
variable {c : Cx} {h₀ : Heap} {T T' : Trk} {H H' : Hold} {s : Shared}
theorem St.at {a : Addr} {o o' : TO} (S : St c h₀ T H s) (x : At a o o' T T') {h' : Heap} {tk : Nat} (hs : Heap.SameBut a s.heap h') (ho : Own (dom T) h' a o') (htk : s.toks ≤ tk := by first | exact Nat.le_refl _ | exact Nat.le_succ _ | omega) :
    St c h₀ T' H { s with heap := h', toks := tk } := by
  obtain ⟨T₁, T₂, rfl, rfl⟩ := x.split
  exact S.turn hs ho htk
theorem St.get {a : Addr} {o : TO} (S : St c h₀ T H s) (x : In a o T) : Own (dom T) s.heap a o := S.own (a, o) x.mem
theorem At.in {a : Addr} {o o' : TO} {T T' : Trk} (h : At a o o' T T') : In a o T := by
  induction h with
  | head => exact .head
  | tail h ih => exact .tail ih
end

/-- a variable of a frame -/
inductive Var (x : PySem.Str) (p : PV) : List (PySem.Str × PV) → Prop
  | head {r} : Var x p ((x, p) :: r)
  | tail {y q r} : x ≠ y → Var x p r → Var x p ((y, q) :: r)
theorem Var.lookup {x : PySem.Str} {p : PV} {m : List (PySem.Str × PV)} (h : Var x p m) : m.lookup x = some p := by
  induction h with
  | head => exact List.lookup_cons_self
  | tail h v ih => rw [List.lookup_cons, beq_eq_false_iff_ne.mpr h]; exact ih
inductive Put (x : PySem.Str) (p : PV) : List (PySem.Str × PV) → List (PySem.Str × PV) → Prop
  | nil : Put x p [] [(x, p)]
  | head {q r} : Put x p ((x, q) :: r) ((x, p) :: r)
  | tail {y q r r'} : x ≠ y → Put x p r r' → Put x p ((y, q) :: r) ((y, q) :: r')
theorem Put.lookup {x : PySem.Str} {p : PV} {m m' : List (PySem.Str × PV)} (h : Put x p m m') (y : PySem.Str) : m'.lookup y = if y = x then some p else m.lookup y := by
  induction h with
  | nil =>
    by_cases h : y = x
    · rw [if_pos h, h, List.lookup_cons_self]
    · rw [if_neg h, List.lookup_cons, beq_eq_false_iff_ne.mpr h]
  | head =>
    by_cases h : y = x
    · rw [if_pos h, h, List.lookup_cons_self]
    · rw [if_neg h, List.lookup_cons, List.lookup_cons, beq_eq_false_iff_ne.mpr h]
  | @tail z q r r' h v ih =>
    rw [List.lookup_cons, List.lookup_cons, ih]
    by_cases hz : y = z
    · subst hz; rw [beq_self_eq_true]; exact (if_neg (Ne.symm h)).symm
    · rw [beq_eq_false_iff_ne.mpr hz]
end Mine
end

section
open PySem PySem.W PyProof.Rows PySem.Calls
set_option Elab.async false
set_option linter.unusedVariables false
namespace Mine

abbrev give (p : PV) (k : Value → Hold → Prop) : Prop := match p with
  | .none => k .none []
  | .bool b => k (.bool b) []
  | .int i => ∀ t, k (.int i t) []
  | .flt x => ∀ t, t ≠ 0 → k (.float x t) []
  | .str s => ∀ t, k (.str s t) []
  | .ref a => k (.ref a) []
  | .bi i => k (.builtin i) []
  | .ty i => k (.type i) []
  | .tup l => ∀ a, k (.ref a) [(.tup l, .ref a)]
  | .lst l => ∀ a, k (.ref a) [(.lst l, .ref a)]
  | .im o => ∀ a, k (.ref a) [(.im o, .ref a)]
theorem give.out {D : List Addr} {h : Heap} {p : PV} {v : Value} {k : Value → Hold → Prop} (r : Rep D h p v) (g : give p k) : ∃ N, k v N ∧ ∀ q ∈ N, Rep D h q.1 q.2 := by
  cases p <;> simp only [give] at g
  case none => simp only [Rep] at r; subst r; exact ⟨_, g, fun _ h => nomatch h⟩
  case bool => simp only [Rep] at r; subst r; exact ⟨_, g, fun _ h => nomatch h⟩
  case int => simp only [Rep] at r; obtain ⟨t, rfl⟩ := r; exact ⟨_, g t, fun _ h => nomatch h⟩
  case flt => simp only [Rep] at r; obtain ⟨t, rfl, ht⟩ := r; exact ⟨_, g t ht, fun _ h => nomatch h⟩
  case str => simp only [Rep] at r; obtain ⟨t, rfl⟩ := r; exact ⟨_, g t, fun _ h => nomatch h⟩
  case ref => simp only [Rep] at r; subst r; exact ⟨_, g, fun _ h => nomatch h⟩
  case bi => simp only [Rep] at r; subst r; exact ⟨_, g, fun _ h => nomatch h⟩
  case ty => simp only [Rep] at r; subst r; exact ⟨_, g, fun _ h => nomatch h⟩
  case tup l =>
    have r' := r
    simp only [Rep] at r
    obtain ⟨a, _, _, rfl, _⟩ := r
    refine ⟨_, g a, fun q hq => ?_⟩
    rcases List.mem_singleton.mp hq with rfl
    exact r'
  case lst l =>
    have r' := r
    simp only [Rep] at r
    obtain ⟨a, _, _, rfl, _⟩ := r
    refine ⟨_, g a, fun q hq => ?_⟩
    rcases List.mem_singleton.mp hq with rfl
    exact r'
  case im o =>
    have r' := r
    simp only [Rep] at r
    obtain ⟨a, rfl, _⟩ := r
    refine ⟨_, g a, fun q hq => ?_⟩
    rcases List.mem_singleton.mp hq with rfl
    exact r'

theorem AOk.le {m n : Nat} {A : Around} (h : AOk m A) (hn : n ≤ m) : AOk n A := ⟨h.1, by have := h.2.1; omega, by have := h.2.2; omega⟩
theorem AOk.room {n : Nat} {A : Around} (h : AOk n A) : A.depth < recursionLimit := by have := h.2.1; show A.depth < 1000; omega
theorem AOk.units {n : Nat} {A : Around} (h : AOk n A) : A.units < cLine := by have := h.2.2; show A.units < 9900; omega
theorem AOk.deeper {n : Nat} {A : Around} (h : AOk (n + 1) A) (env : Env) : AOk n (A.deeper env) := ⟨h.1, by have := h.2.1; show A.depth + 1 + n < _; omega, by have := h.2.2; show A.units + 3 + _ < _; omega⟩
theorem AOk.in1 {n : Nat} {A : Around} (h : AOk (n + 1) A) : AOk n A.in1 := ⟨h.1, by have := h.2.1; show A.depth + n < _; omega, by have := h.2.2; show A.units + 1 + _ < _; omega⟩

theorem St.nz {c : Cx} {h₀ : Heap} {T : Trk} {H : Hold} {s : Shared} (S : St c h₀ T H s) (h : 0 < c.low) : s.toks ≠ 0 := by have := S.tk; omega
theorem Ne.ref {a b : Addr} (h : a ≠ b) : a ≠ b := h

section
variable {c : Cx} {h₀ : Heap} {n : Nat} {T : Trk} {H : Hold} {α β : Type} {s : Shared}

theorem St.thin {N N' : Hold} (S : St c h₀ T (N ++ (N' ++ H)) s) : St c h₀ T (N ++ H) s := S.hold fun p hp => by
  rcases List.mem_append.mp hp with hp | hp
  · exact S.held p (List.mem_append_left _ hp)
  · exact S.held p (List.mem_append_right _ (List.mem_append_right _ hp))
theorem St.more {N : Hold} (S : St c h₀ T H s) (h : ∀ q ∈ N, Rep (dom T) s.heap q.1 q.2) : St c h₀ T (N ++ H) s := S.hold fun p hp => (List.mem_append.mp hp).elim (h p) (S.held p)

theorem W.mono {t : Sem α} {Q Q' : α → Trk → Hold → Prop} (h : W c h₀ n T H t Q) (k : ∀ a T' N, Q a T' N → Q' a T' N) : W c h₀ n T H t Q' :=
  fun A s hA S => wpAny_mono (h A s hA S) (fun a s' ⟨T', N, q, S'⟩ => ⟨T', N, k a T' N q, S'⟩) fun _ _ x => x
theorem W.le {m : Nat} {t : Sem α} {Q : α → Trk → Hold → Prop} (hm : m ≤ n) (h : W c h₀ m T H t Q) : W c h₀ n T H t Q := fun A s hA S => h A s (hA.le hm) S
theorem W.pure {a : α} {Q : α → Trk → Hold → Prop} (h : Q a T []) : W c h₀ n T H (Pure.pure a) Q := fun _ _ _ S => wpAny_pure ⟨T, [], h, S⟩
theorem W.bind {m : Sem α} {f : α → Sem β} {Q : β → Trk → Hold → Prop} (h : W c h₀ n T H m fun a T' N => W c h₀ n T' (N ++ H) (f a) Q) : W c h₀ n T H (m >>= f) Q :=
  fun A s hA S => wpAny_bind (wpAny_mono (h A s hA S) (fun a s' ⟨T', N, q, S'⟩ => wpAny_mono (q A s' hA S') (fun b s'' ⟨T'', N', q', S''⟩ => ⟨T'', N', q', S''.thin⟩) fun _ _ x => x) fun _ _ x => x)
theorem W.map {m : Sem α} {f : α → β} {Q : β → Trk → Hold → Prop} (h : W c h₀ n T H m fun a T' N => Q (f a) T' N) : W c h₀ n T H (f <$> m) Q :=
  fun A s hA S => wpAny_map (h A s hA S)
theorem W.holding {vs : List Value} {m : Sem α} {Q : α → Trk → Hold → Prop} (h : W c h₀ n T H m Q) : W c h₀ n T H (PySem.holding vs m) Q := fun A s hA S => wpAny_holding (h A s hA S)
theorem W.keep {vs : List Value} {m : Sem α} {Q : α → Trk → Hold → Prop} (h : W c h₀ n T H m Q) : W c h₀ n T H (m.keep vs) Q := fun A s hA S => wpAny_keep (h A s hA S)
theorem W.standAt {pos : Pos} {Q : Unit → Trk → Hold → Prop} (h : Q () T []) : W c h₀ n T H (PySem.standAt pos) Q := fun _ _ _ S => wpAny_standAt ⟨T, [], h, S⟩
theorem W.rule {tag : String} {Q : Unit → Trk → Hold → Prop} (h : Q () T []) : W c h₀ n T H (PySem.rule tag) Q := fun _ _ _ S => wpAny_rule ⟨T, [], h, S⟩
theorem W.point {Q : Unit → Trk → Hold → Prop} (h : Q () T []) : W c h₀ n T H PySem.point Q := fun _ _ _ S => wpAny_point ⟨T, [], h, S⟩
theorem W.mkInt {i : Int} {Q : Value → Trk → Hold → Prop} (h : ∀ t, Q (.int i t) T []) : W c h₀ n T H (PySem.mkInt i) Q := fun _ _ _ S => wpAny_mkInt ⟨T, [], h _, S.tok⟩
theorem W.mkText {i : PySem.Str} {Q : Value → Trk → Hold → Prop} (h : ∀ t, Q (.str i t) T []) : W c h₀ n T H (PySem.mkText i) Q := fun _ _ _ S => wpAny_mkText ⟨T, [], h _, S.tok⟩
theorem W.eqv {t t' : Sem α} {Q : α → Trk → Hold → Prop} (e : t = t') (h : W c h₀ n T H t' Q) : W c h₀ n T H t Q := e ▸ h
theorem W.tt {p : Prop} [Decidable p] {a b : Sem α} {Q : α → Trk → Hold → Prop} (hp : p) (h : W c h₀ n T H a Q) : W c h₀ n T H (if p then a else b) Q := by rw [if_pos hp]; exact h
theorem W.ff {p : Prop} [Decidable p] {a b : Sem α} {Q : α → Trk → Hold → Prop} (hp : ¬ p) (h : W c h₀ n T H b Q) : W c h₀ n T H (if p then a else b) Q := by rw [if_neg hp]; exact h
theorem W.release {vs ks : List Value} {Q : Unit → Trk → Hold → Prop} (h : Q () T []) : W c h₀ n T H (PySem.release vs ks) Q := fun A s hA S Γ p hΓ => by
  rw [Sem.wp_release]; exact ⟨T, [], h, S⟩
theorem W.operate {vs : List Value} {m : Sem Value} {Q : Value → Trk → Hold → Prop} (h : W c h₀ n T H m Q) : W c h₀ n T H (PySem.operate vs m) Q := fun A s hA S Γ p hΓ => by
  rw [Sem.wp_operate]; exact h A s hA S Γ p hΓ
theorem W.letGo {vs ks : List Value} {Q : Unit → Trk → Hold → Prop} (h : Q () T []) : W c h₀ n T H (PySem.letGo vs ks) Q := fun A s hA S => wpAny_letGo ⟨T, [], h, S⟩
/-- what is held may be said otherwise, what is tracked too -/
theorem W.conv {T₁ : Trk} {H₁ : Hold} {t : Sem α} {Q : α → Trk → Hold → Prop} (k : ∀ s, St c h₀ T H s → St c h₀ T₁ (H₁ ++ H) s) (h : W c h₀ n T₁ (H₁ ++ H) t Q) : W c h₀ n T H t Q :=
  fun A s hA S => wpAny_mono (h A s hA (k s S)) (fun a s' ⟨T', N, q, S'⟩ => ⟨T', N, q, S'.thin⟩) fun _ _ x => x
/-- an answer from what reads alone -/
theorem W.looks {t : Sem α} {a : α} {Q : α → Trk → Hold → Prop} (k : ∀ s, St c h₀ T H s → Looks (model c.prog c.w) s.heap t a) (h : Q a T []) : W c h₀ n T H t Q :=
  fun A s hA S => by
    have := (k s S).here (A := A) (E := fun _ _ => False) (s := s) (Q := fun a s' => ∃ T' N, Q a T' N ∧ St c h₀ T' (N ++ H) s')
    exact this ⟨T, [], h, S⟩
end

section
variable {c : Cx} {h₀ : Heap} {n : Nat} {T T' : Trk} {H : Hold} {env : Env} {m m' : List (PySem.Str × PV)} {x : PySem.Str} {p : PV} {pos : Pos}

-- names
theorem W.loadLocal {Q : Value → Trk → Hold → Prop} (hk : env.scope.kind = .function) (hl : env.kindOf x = some .local) (hf : In env.locals (.frame m) T) (hv : Var x p m) (h : give p fun v N => Q v T N) :
    W c h₀ n T H (loadName env x) Q := fun A s hA S => by
  obtain ⟨mv, hn, hm⟩ := S.get hf
  obtain ⟨v, h1, h2⟩ := hm x p hv.lookup
  obtain ⟨N, hq, hN⟩ := give.out h2 h
  exact wpAny_loadName_local hk hl hn h1 ⟨T, N, hq, S.more hN⟩
theorem W.loadCell {Q : Value → Trk → Hold → Prop} {a : Addr} (hk : env.scope.kind = .function) (hl : env.kindOf x = some .cell) (hc : env.cells.lookup x = some a) (hf : In a (.cell (some p)) T) (h : give p fun v N => Q v T N) :
    W c h₀ n T H (loadName env x) Q := fun A s hA S => by
  obtain ⟨w, hn, hm⟩ := S.get hf
  obtain ⟨v, h1, h2⟩ := hm p rfl
  obtain ⟨N, hq, hN⟩ := give.out h2 h
  subst h1
  exact wpAny_loadName_cell hk hl hc hn ⟨T, N, hq, S.more hN⟩
theorem W.loadFree {Q : Value → Trk → Hold → Prop} {a : Addr} (hk : env.scope.kind = .function) (hl : env.kindOf x = some .free) (hc : env.cells.lookup x = some a) (hf : In a (.cell (some p)) T) (h : give p fun v N => Q v T N)
    (hn : (x == ("__classdict__" : PySem.Str)) = false := by decide) :
    W c h₀ n T H (loadName env x) Q := fun A s hA S => by
  obtain ⟨w, hn', hm⟩ := S.get hf
  obtain ⟨v, h1, h2⟩ := hm p rfl
  obtain ⟨N, hq, hN⟩ := give.out h2 h
  subst h1
  exact wpAny_loadName_free hk hl hc hn' ⟨T, N, hq, S.more hN⟩ hn
theorem W.Name {Q : Value → Trk → Hold → Prop} (h : W c h₀ n T H (loadName env x) Q) (hd : (x == ("__debug__" : PySem.Str)) = false := by decide) : W c h₀ n T H (eval (.Name x pos) env) Q :=
  fun A s hA S => wpAny_Name (h A s hA S) hd
theorem W.loadGlob {Q : Value → Trk → Hold → Prop} {v : Value} (hk : env.scope.kind = .function) (hg : env.globals = mainGlobals) (hl : env.kindOf x = some .globalImplicit) (e : nsIn c.K mainGlobals x = some (some v)) (h : Q v T []) :
    W c h₀ n T H (loadName env x) Q := fun A s hA S => by
  unfold loadName
  simp only [Env.blockKind, hk, hl, ScopeKind.isAnnotationScope, Bool.false_and, Bool.false_eq_true, if_false]
  exact loadGlobal_global (by rw [hg]; exact S.base.T.g.keeps S.keep) (mg_of S.base.K S.base.T.g e) ⟨T, [], h, S⟩
theorem W.loadBuiltin {Q : Value → Trk → Hold → Prop} {v : Value} (hk : env.scope.kind = .function) (hg : env.globals = mainGlobals) (hb : env.builtins = builtinsNs) (hl : env.kindOf x = some .globalImplicit) (e : nsIn c.K mainGlobals x = some none)
    (hv : bootBuiltins x = some v) (hn : x ≠ "__name__") (h : Q v T []) :
    W c h₀ n T H (loadName env x) Q := fun A s hA S => by
  unfold loadName
  simp only [Env.blockKind, hk, hl, ScopeKind.isAnnotationScope, Bool.false_and, Bool.false_eq_true, if_false]
  exact loadGlobal_builtin (by rw [hg]; exact S.base.T.g.keeps S.keep) (mg_none_of S.base.K S.base.T.g e) (by rw [hb]; exact S.base.T.b.keeps S.keep) ((S.base.T.builtins x hn).trans hv) ⟨T, [], h, S⟩

theorem W.storeLocal {Q : Unit → Trk → Hold → Prop} {v : Value} (hk : env.scope.kind = .function) (hl : env.kindOf x = some .local) (d : Den H v p) (hf : At env.locals (.frame m) (.frame m') T T') (hp : Put x p m m') (h : Q () T' []) :
    W c h₀ n T H (storeName env x v) Q := fun A s hA S => by
  obtain ⟨mv, hn, hm⟩ := S.get hf.in
  refine wpAny_storeName_local hl hn (fun h' hn' hs => ⟨T', [], h, S.at hf hs ⟨_, hn', fun y q hy => ?_⟩⟩) (by rw [hk]; rfl)
  have ed : Ev (dom T) s.heap (dom T) h' := ⟨fun b o hb ho _ => (hs.2 b fun z => hb (z ▸ List.mem_map_of_mem hf.in.mem)).trans ho, fun b hb => .inl hb⟩
  rw [hp.lookup] at hy
  by_cases e : y = x
  · rw [if_pos e] at hy; cases hy
    exact ⟨v, by rw [if_pos e], (S.rep d).ev ed _ _⟩
  · rw [if_neg e] at hy
    obtain ⟨u, h1, h2⟩ := hm y q hy
    exact ⟨u, by rw [if_neg e]; exact h1, h2.ev ed _ _⟩
theorem W.storeCell {Q : Unit → Trk → Hold → Prop} {v : Value} {a : Addr} {q : Option PV} (hk : env.scope.kind = .function) (hl : env.kindOf x = some .cell) (hc : env.cells.lookup x = some a) (d : Den H v p) (hf : At a (.cell q) (.cell (some p)) T T') (h : Q () T' []) :
    W c h₀ n T H (storeName env x v) Q := fun A s hA S => by
  obtain ⟨w, hn, hm⟩ := S.get hf.in
  refine wpAny_storeName_cell hk hl hc hn fun h' hn' hs => ?_
  have := S.at (tk := s.toks) hf hs (o' := .cell (some p)) ⟨_, hn', fun y hy => ?_⟩
  · exact ⟨T', [], h, this⟩
  have ed : Ev (dom T) s.heap (dom T) h' := ⟨fun b o hb ho _ => (hs.2 b fun z => hb (z ▸ List.mem_map_of_mem hf.in.mem)).trans ho, fun b hb => .inl hb⟩
  cases hy
  exact ⟨v, rfl, (S.rep d).ev ed _ _⟩
theorem W.bindName {Q : Unit → Trk → Hold → Prop} {v : Value} (h : W c h₀ n T H (storeName env x v) Q) : W c h₀ n T H (bindName env x v) Q := fun A s hA S => wpAny_bindName (h A s hA S)

-- constants
theorem W.Const_int {i : Int} {k : Nat} {Q : Value → Trk → Hold → Prop} (h : ∀ t, Q (.int i t) T []) : W c h₀ n T H (eval (.Constant (.int i) k pos) env) Q := fun _ _ _ S => wpAny_Constant_int ⟨T, [], h _, S.tok⟩
theorem W.Const_flt {i : UInt64} {k : Nat} {Q : Value → Trk → Hold → Prop} (hlo : 0 < c.low) (h : ∀ t, t ≠ 0 → Q (.float i t) T []) : W c h₀ n T H (eval (.Constant (.float i) k pos) env) Q := fun _ _ _ S => wpAny_Constant_float ⟨T, [], h _ (S.nz hlo), S.tok⟩
theorem W.Const_str {i : PySem.Str} {k : Nat} {Q : Value → Trk → Hold → Prop} (h : ∀ t, Q (.str i t) T []) : W c h₀ n T H (eval (.Constant (.str i) k pos) env) Q := fun _ _ _ S => wpAny_Constant_str ⟨T, [], h _, S.tok⟩
theorem W.Const_none {k : Nat} {Q : Value → Trk → Hold → Prop} (h : Q .none T []) : W c h₀ n T H (eval (.Constant .none k pos) env) Q := fun _ _ _ S => wpAny_Constant_none ⟨T, [], h, S⟩
theorem W.Const_bool {b : Bool} {k : Nat} {Q : Value → Trk → Hold → Prop} (h : Q (.bool b) T []) : W c h₀ n T H (eval (.Constant (.bool b) k pos) env) Q := fun _ _ _ S => wpAny_Constant_bool ⟨T, [], h, S⟩

-- operators
theorem W.BinOp {l r : Expr} {op : Operator} {Q : Value → Trk → Hold → Prop}
    (h : W c h₀ n T H (eval l env) fun a T₁ N₁ => W c h₀ n T₁ (N₁ ++ H) (eval r env) fun b T₂ N₂ => W c h₀ n T₂ (N₂ ++ (N₁ ++ H)) (binaryOp op a b) Q) : W c h₀ n T H (eval (.BinOp l op r pos) env) Q :=
  W.eqv (eval_BinOp env l op r pos) (W.bind (h.mono fun a T₁ N₁ h₁ => W.bind (W.holding (h₁.mono fun b T₂ N₂ h₂ => W.bind (W.standAt (W.operate h₂))))))
theorem W.Compare {l r : Expr} {op : CmpOp} {Q : Value → Trk → Hold → Prop}
    (h : W c h₀ n T H (eval l env) fun a T₁ N₁ => W c h₀ n T₁ (N₁ ++ H) (eval r env) fun b T₂ N₂ => W c h₀ n T₂ (N₂ ++ (N₁ ++ H)) (compareOp op a b) Q)
    (hm : behindInMarks op r = false := by with_unfolding_all rfl) : W c h₀ n T H (eval (.Compare l [op] [r] pos) env) Q :=
  W.eqv (eval_Compare1 env l op r pos) (W.bind (h.mono fun a T₁ N₁ h₁ => W.bind (W.holding (by rw [markedBehindIn_of_false hm]; exact h₁.mono fun b T₂ N₂ h₂ => W.bind (W.standAt (W.operate h₂))))))
theorem W.isTrue_Compare {l r : Expr} {op : CmpOp} {whole : Sem Value} {Q : Bool → Trk → Hold → Prop}
    (h : W c h₀ n T H (eval l env) fun a T₁ N₁ => W c h₀ n T₁ (N₁ ++ H) (eval r env) fun b T₂ N₂ => W c h₀ n T₂ (N₂ ++ (N₁ ++ H)) (compareOp op a b) fun v T₃ N₃ => W c h₀ n T₃ (N₃ ++ (N₂ ++ (N₁ ++ H))) (truthy v) Q)
    (hm : behindInMarks op r = false := by with_unfolding_all rfl) : W c h₀ n T H (isTrue (.Compare l [op] [r] pos) env whole) Q :=
  W.eqv (isTrue_Compare1 env l op r pos whole) (W.bind (h.mono fun a T₁ N₁ h₁ => W.bind (W.holding (by rw [markedBehindIn_of_false hm]; exact h₁.mono fun b T₂ N₂ h₂ => W.bind (W.standAt (W.bind (W.operate (h₂.mono fun v T₃ N₃ h₃ => W.holding h₃))))))))
theorem W.isTrue_value {e : Expr} {whole : Sem Value} {Q : Bool → Trk → Hold → Prop} (h : W c h₀ n T H whole fun v T₁ N₁ => W c h₀ n T₁ (N₁ ++ H) (truthy v) Q)
    (he : isTrue e env whole = (do let v ← whole; PySem.standAt e.pos; PySem.holding [v] (truthy v)) := by rfl) : W c h₀ n T H (isTrue e env whole) Q :=
  W.eqv he (W.bind (h.mono fun v T₁ N₁ h₁ => W.bind (W.standAt (W.holding h₁))))
theorem W.truthy_bool {b : Bool} {Q : Bool → Trk → Hold → Prop} (h : Q b T []) : W c h₀ n T H (truthy (.bool b)) Q := fun _ _ _ S => wpAny_truthy_bool ⟨T, [], h, S⟩
theorem W.IfExp {test body orelse : Expr} {Q : Value → Trk → Hold → Prop}
    (h : W c h₀ n T H (isTrue test env (eval test env)) fun b T₁ N₁ => if b = true then W c h₀ n T₁ (N₁ ++ H) (eval body env) Q else W c h₀ n T₁ (N₁ ++ H) (eval orelse env) Q) : W c h₀ n T H (eval (.IfExp test body orelse pos) env) Q :=
  W.eqv (arm_eval_IfExp ..) (W.bind (h.mono fun b T₁ N₁ h₁ => by cases b <;> exact h₁))

-- statements
theorem W.execs_nil {Q : Flow → Trk → Hold → Prop} (h : Q .next T []) : W c h₀ n T H (execs [] env) Q := W.pure h
theorem W.execs_cons {st : Stmt} {rest : List Stmt} {Q : Flow → Trk → Hold → Prop}
    (h : W c h₀ n T H (exec st env) fun f T₁ N₁ => match f with | .next => W c h₀ n T₁ H (execs rest env) Q | f => Q f T₁ N₁) : W c h₀ n T H (execs (st :: rest) env) Q :=
  fun A s hA S => wpAny_execs_cons (wpAny_mono (h A s hA S) (fun f s' ⟨T₁, N₁, q, S'⟩ => by
    cases f with
    | next => exact q A s' hA S'.drop
    | brk => exact ⟨T₁, N₁, q, S'⟩
    | cont => exact ⟨T₁, N₁, q, S'⟩
    | ret v => exact ⟨T₁, N₁, q, S'⟩) fun _ _ x => x)
theorem W.Assign {x' : PySem.Str} {pos' : Pos} {value : Expr} {Q : Flow → Trk → Hold → Prop}
    (h : W c h₀ n T H (eval value env) fun v T₁ N₁ => W c h₀ n T₁ (N₁ ++ H) (storeName env x' v) fun _ T₂ _ => Q .next T₂ [])
    (hs : swapsWith value (some (.Name x' pos')) pos.line env = Pure.pure false := by rfl) : W c h₀ n T H (exec (.Assign [.Name x' pos'] value pos) env) Q :=
  W.eqv (exec_Assign_Name env x' pos' value pos hs) (W.bind (W.standAt (W.bind (h.mono fun v T₁ N₁ h₁ => W.bind (W.standAt (W.bind (W.bindName (h₁.mono fun _ T₂ N₂ h₂ => W.pure h₂))))))))
theorem W.If {test : Expr} {body orelse : List Stmt} {Q : Flow → Trk → Hold → Prop}
    (h : W c h₀ n T H (isTrue test env (eval test env)) fun b T₁ _ => if b = true then W c h₀ n T₁ H (execs body env) Q else W c h₀ n T₁ H (execs orelse env) Q) : W c h₀ n T H (exec (.If test body orelse pos) env) Q :=
  fun A s hA S => wpAny_If (wpAny_mono (h A s hA S) (fun b s' ⟨T₁, N₁, q, S'⟩ => by
    cases b with
    | true => exact q A s' hA S'.drop
    | false => exact q A s' hA S'.drop) fun _ _ x => x)
theorem W.Return {e : Expr} {Q : Flow → Trk → Hold → Prop} (h : W c h₀ n T H (eval e env) fun v T₁ N₁ => Q (.ret v) T₁ N₁) : W c h₀ n T H (exec (.Return (some e) pos) env) Q :=
  fun A s hA S => wpAny_Return_some (h A s hA S)
theorem W.ExprS {e : Expr} {Q : Flow → Trk → Hold → Prop} (h : W c h₀ n T H (eval e env) fun _ T₁ _ => Q .next T₁ [])
    (hi : interactive env = false := by rfl) (hs : swapsWith e none pos.line env = Pure.pure false := by rfl) : W c h₀ n T H (exec (.Expr e pos) env) Q :=
  fun A s hA S => wpAny_Expr_any (wpAny_mono (h A s hA S) (fun v s' ⟨T₁, N₁, q, S'⟩ => ⟨T₁, [], q, S'.drop⟩) fun _ _ x => x) hi hs
/-- a while by a word over the tracked and a number that falls -/
theorem W.While {test : Expr} {body orelse : List Stmt} {Q : Flow → Trk → Hold → Prop} (I : Nat → Trk → Prop)
    (turn : ∀ k T₁, I k T₁ → W c h₀ n T₁ H (isTrue test env (eval test env)) fun b T₂ _ => if b = true
      then W c h₀ n T₂ H (execs body env) fun f T₃ N₃ => match f with | .next | .cont => ∃ j, j < k ∧ I j T₃ | .brk => Q .next T₃ [] | .ret v => Q (.ret v) T₃ N₃
      else W c h₀ n T₂ H (execs orelse env) Q)
    (k : Nat) (hI : I k T) : W c h₀ n T H (exec (.While test body orelse pos) env) Q := fun A s hA S => by
  refine wpAny_While (codeAny_whileLoop (fun k s => ∃ T₁, I k T₁ ∧ St c h₀ T₁ H s) (fun k s' ⟨T₁, hI, S'⟩ => ?_) k ⟨T, hI, S⟩)
  refine wpAny_mono (turn k T₁ hI A s' hA S') (fun b s₂ ⟨T₂, N₂, q, S₂⟩ => ?_) fun _ _ x => x.elim
  cases b with
  | true =>
    refine wpAny_mono (q A s₂ hA S₂.drop) (fun f s₃ ⟨T₃, N₃, q', S₃⟩ => ?_) fun _ _ x => x.elim
    cases f with
    | next => obtain ⟨j, hj, hI'⟩ := q'; exact ⟨j, hj, T₃, hI', S₃.drop⟩
    | cont => obtain ⟨j, hj, hI'⟩ := q'; exact ⟨j, hj, T₃, hI', S₃.drop⟩
    | brk => exact ⟨T₃, [], q', S₃.drop⟩
    | ret v => exact ⟨T₃, N₃, q', S₃⟩
  | false => exact wpAny_mono (q A s₂ hA S₂.drop) (fun f s₃ x => x) fun _ _ x => x.elim
end
end Mine
end

section
open PySem PySem.W PyProof.Rows PySem.Calls
set_option Elab.async false
set_option linter.unusedVariables false
set_option linter.unusedSimpArgs false
namespace Mine

def DenL (H : Hold) (vs : List Value) (ps : List PV) : Prop := ∀ D h, (∀ q ∈ H, Rep D h q.1 q.2) → RepL D h ps vs
theorem DenL.nil {H : Hold} : DenL H [] [] := fun _ _ _ => by simp only [RepL]
theorem DenL.cons {H : Hold} {v : Value} {p : PV} {vs : List Value} {ps : List PV} (h : Den H v p) (h' : DenL H vs ps) : DenL H (v :: vs) (p :: ps) := fun D h₁ k => by
  simp only [RepL]
  exact ⟨v, vs, rfl, h D h₁ k, h' D h₁ k⟩

def KeepF (K : Frag) (f : Value) : Prop := (∃ id, f = .builtin id) ∨ (∃ t, f = .type t) ∨ keepIn K f = true
theorem KeepF.builtin {K : Frag} {id : String} : KeepF K (.builtin id) := .inl ⟨_, rfl⟩
theorem KeepF.type {K : Frag} {id : String} : KeepF K (.type id) := .inr (.inl ⟨_, rfl⟩)
theorem KeepF.looks {M : Model} {K : Frag} {f : Value} (k : KeepF K f) (h : Heap) (X : K.In h) : ∃ k, (k = Keeper.frame ∨ k = Keeper.machine ∨ k = Keeper.boundFrame) ∧ Looks M h (keeperOf f) k := by
  rcases k with ⟨_, rfl⟩ | ⟨_, rfl⟩ | k
  · exact ⟨.machine, .inr (.inl rfl), Looks.of_pure rfl⟩
  · exact ⟨.machine, .inr (.inl rfl), Looks.of_pure rfl⟩
  · exact keeps_K k h X

section
variable {c : Cx} {h₀ : Heap} {n : Nat} {T T' : Trk} {H : Hold} {env : Env} {pos : Pos}

theorem W.spl_nil {Q : List Value → Trk → Hold → Prop} (h : Q [] T []) : W c h₀ n T H (spliced (backTo pos (starEach [] env))) Q := W.pure h
theorem W.spl_cons {e : Expr} {rest : List Expr} {Q : List Value → Trk → Hold → Prop}
    (h : W c h₀ n T H (eval e env) fun v T₁ N₁ => W c h₀ n T₁ (N₁ ++ H) (spliced (backTo pos (starEach rest env))) fun vs T₂ N₂ => Q (v :: vs) T₂ (N₂ ++ N₁))
    (he : starEach (e :: rest) env = (false, eval e env) :: starEach rest env := by rfl) : W c h₀ n T H (spliced (backTo pos (starEach (e :: rest) env))) Q := by
  rw [he]
  intro A s hA S
  refine Calls.spliced_cons (wpAny_mono (h A s hA S) (fun v s₁ ⟨T₁, N₁, q, S₁⟩ => ?_) fun _ _ x => x)
  exact wpAny_mono (q A s₁ hA S₁) (fun vs s₂ ⟨T₂, N₂, q', S₂⟩ => ⟨T₂, N₂ ++ N₁, q', by rw [List.append_assoc]; exact S₂⟩) fun _ _ x => x
theorem W.kw_nil {Q : List Value → Trk → Hold → Prop} (h : Q [] T []) : W c h₀ n T H (evalAll ((backToKw pos (keywordEach [] env)).map (·.2))) Q := W.pure h
theorem W.kw_cons {x : Option PySem.Str} {e : Expr} {kp : Pos} {rest : List Keyword} {Q : List Value → Trk → Hold → Prop}
    (h : W c h₀ n T H (eval e env) fun v T₁ N₁ => W c h₀ n T₁ (N₁ ++ H) (evalAll ((backToKw pos (keywordEach rest env)).map (·.2))) fun vs T₂ N₂ => Q (v :: vs) T₂ (N₂ ++ N₁)) :
    W c h₀ n T H (evalAll ((backToKw pos (keywordEach (⟨x, e, kp⟩ :: rest) env)).map (·.2))) Q := by
  show W c h₀ n T H (do let v ← (do let v ← eval e env; PySem.standAt pos; Pure.pure v); return v :: (← PySem.holding [v] (evalAll ((backToKw pos (keywordEach rest env)).map (·.2))))) Q
  intro A s hA S
  refine wpAny_bind (wpAny_bind (wpAny_mono (h A s hA S) (fun v s₁ ⟨T₁, N₁, q, S₁⟩ => wpAny_bind (wpAny_standAt (wpAny_pure (wpAny_bind (wpAny_holding ?_))))) fun _ _ x => x))
  exact wpAny_mono (q A s₁ hA S₁) (fun vs s₂ ⟨T₂, N₂, q', S₂⟩ => wpAny_pure ⟨T₂, N₂ ++ N₁, q', by rw [List.append_assoc]; exact S₂⟩) fun _ _ x => x

theorem W.evalArgs {f : Value} {es : List Expr} {ks : List Keyword} {Q : Args → Trk → Hold → Prop}
    (h : W c h₀ n T H (spliced (backTo pos (starEach es env))) fun vs T₁ N₁ => W c h₀ n T₁ (N₁ ++ H) (evalAll ((backToKw pos (keywordEach ks env)).map (·.2))) fun us T₂ N₂ =>
      Q ⟨vs, ((backToKw pos (keywordEach ks env)).filterMap (·.1)).zip us⟩ T₂ (N₂ ++ N₁))
    (hstar : (backTo pos (starEach es env)).any (·.1) = false) (hall : (backToKw pos (keywordEach ks env)).all (·.1.isSome) = true) :
    W c h₀ n T H (PySem.evalArgs f true (backTo pos (starEach es env)) (backToKw pos (keywordEach ks env))) Q := by
  intro A s hA S
  generalize backTo pos (starEach es env) = l at h hstar ⊢
  have key : wpAny (model c.prog c.w) A (spliced l >>= fun ps => (do
      let (ps, late) ← (Pure.pure (ps, (none : Option Value)) : Sem (List Value × Option Value))
      PySem.holding (ps ++ late.toList) do
        let kw := ((backToKw pos (keywordEach ks env)).filterMap (·.1)).zip (← evalAll ((backToKw pos (keywordEach ks env)).map (·.2)))
        return (⟨ps, kw⟩ : Args))) (fun a s' => ∃ T' N, Q a T' N ∧ St c h₀ T' (N ++ H) s') (fun _ _ => False) s := by
    refine wpAny_bind (wpAny_mono (h A s hA S) (fun vs s₁ ⟨T₁, N₁, q, S₁⟩ => wpAny_bind (wpAny_pure (wpAny_holding ?_))) fun _ _ x => x)
    refine wpAny_bind (wpAny_mono (q A s₁ hA S₁) (fun us s₂ ⟨T₂, N₂, q', S₂⟩ => wpAny_pure ⟨T₂, N₂ ++ N₁, q', by rw [List.append_assoc]; exact S₂⟩) fun _ _ x => x)
  have eq : PySem.evalArgs f true l (backToKw pos (keywordEach ks env)) = (spliced l >>= fun ps => (do
      let (ps, late) ← (Pure.pure (ps, (none : Option Value)) : Sem (List Value × Option Value))
      PySem.holding (ps ++ late.toList) do
        let kw := ((backToKw pos (keywordEach ks env)).filterMap (·.1)).zip (← evalAll ((backToKw pos (keywordEach ks env)).map (·.2)))
        return (⟨ps, kw⟩ : Args))) := by
    unfold PySem.evalArgs
    rcases l with _ | ⟨⟨b, x⟩, _ | ⟨y, r⟩⟩
    · simp only [hall, if_true, bind_assoc, pure_bind]
    · have hb : b = false := by simpa using hstar
      subst hb
      simp only [hall, if_true, bind_assoc, pure_bind]
    · simp only [hall, if_true, bind_assoc, pure_bind]
  rw [eq]
  exact key

theorem W.callWith {f : Value} {first : List Value} {es : List Expr} {ks : List Keyword} {Q : Value → Trk → Hold → Prop} (hf : KeepF c.K f)
    (h : W c h₀ n T H (spliced (backTo pos (starEach es env))) fun vs T₁ N₁ => W c h₀ n T₁ (N₁ ++ H) (evalAll ((backToKw pos (keywordEach ks env)).map (·.2))) fun us T₂ N₂ =>
      W c h₀ n T₂ (N₂ ++ N₁ ++ H) (call f (first ++ vs) (((backToKw pos (keywordEach ks env)).filterMap (·.1)).zip us)) Q)
    (hstar : (backTo pos (starEach es env)).any (·.1) = false) (hall : (backToKw pos (keywordEach ks env)).all (·.1.isSome) = true) :
    W c h₀ n T H (PySem.callWith pos f first (backTo pos (starEach es env)) (backToKw pos (keywordEach ks env))) Q := by
  have hnone : (backToKw pos (keywordEach ks env)).any (·.1.isNone) = false := by
    generalize backToKw pos (keywordEach ks env) = l at hall
    rw [List.any_eq_false]
    intro x hx
    have := List.all_eq_true.mp hall x hx
    cases hq : x.1 with
    | none => rw [hq] at this; cases this
    | some => simp
  have hb := W.evalArgs (f := f) (env := env) (pos := pos) (es := es) (ks := ks) (Q := fun a T₂ N => W c h₀ n T₂ (N ++ H) (call f (first ++ a.pos) a.kw) Q) h hstar hall
  intro A s hA S
  refine callWith_of (P := c.K.In) (by rw [hstar, hnone]; rfl) (fun h X => hf.looks h X) (wpAny_mono (hb A s hA S) (fun a s₁ ⟨T₂, N, q, S₂⟩ => ⟨S₂.base.K.keeps S₂.keep, ?_⟩) fun _ _ x => x)
  exact wpAny_mono (q A s₁ hA S₂) (fun v s₃ ⟨T₃, N₃, q', S₃⟩ => ⟨T₃, N₃, q', S₃.thin⟩) fun _ _ x => x

theorem W.CallName {x : PySem.Str} {px : Pos} {es : List Expr} {ks : List Keyword} {Q : Value → Trk → Hold → Prop}
    (h : W c h₀ n T H (loadName env x) fun f T₀ N₀ => KeepF c.K f ∧ W c h₀ n T₀ (N₀ ++ H) (spliced (backTo pos (starEach es env))) fun vs T₁ N₁ => W c h₀ n T₁ (N₁ ++ (N₀ ++ H)) (evalAll ((backToKw pos (keywordEach ks env)).map (·.2))) fun us T₂ N₂ =>
      W c h₀ n T₂ (N₂ ++ N₁ ++ (N₀ ++ H)) (call f vs (((backToKw pos (keywordEach ks env)).filterMap (·.1)).zip us)) Q)
    (hd : (x == ("__debug__" : PySem.Str)) = false := by decide) (hstar : (backTo pos (starEach es env)).any (·.1) = false := by rfl) (hall : (backToKw pos (keywordEach ks env)).all (·.1.isSome) = true := by rfl) :
    W c h₀ n T H (eval (.Call (.Name x px) es ks pos) env) Q := by
  have e := arm_eval_Call_Name' x px es ks pos env
  refine W.eqv e (W.bind (W.Name (h.mono fun f T₀ N₀ ⟨hf, q⟩ => W.callWith hf q hstar hall) hd))

theorem W.CallMeth {o : Expr} {name : PySem.Str} {apos : Pos} {es : List Expr} {ks : List Keyword} {pl : Sem Bool} {Q : Value → Trk → Hold → Prop}
    (h : W c h₀ n T H (eval o env) fun ov T₀ N₀ => W c h₀ n T₀ (N₀ ++ H) (getMethod ov name pl) fun fx T₁ N₁ => KeepF c.K fx.1 ∧
      W c h₀ n T₁ (N₁ ++ (N₀ ++ H)) (spliced (backTo pos (starEach es env))) fun vs T₂ N₂ => W c h₀ n T₂ (N₂ ++ (N₁ ++ (N₀ ++ H))) (evalAll ((backToKw pos (keywordEach ks env)).map (·.2))) fun us T₃ N₃ =>
        W c h₀ n T₃ (N₃ ++ N₂ ++ (N₁ ++ (N₀ ++ H))) (call fx.1 (fx.2 ++ vs) (((backToKw pos (keywordEach ks env)).filterMap (·.1)).zip us)) Q)
    (he : eval (.Call (.Attribute o name apos) es ks pos) env = (do
      let ov ← eval o env
      PySem.standAt apos.atName
      let (f, first) ← PySem.holding [ov] (getMethod ov name pl)
      PySem.callWith pos f first (backTo pos (starEach es env)) (backToKw pos (keywordEach ks env))) := by rfl)
    (hstar : (backTo pos (starEach es env)).any (·.1) = false := by rfl) (hall : (backToKw pos (keywordEach ks env)).all (·.1.isSome) = true := by rfl) :
    W c h₀ n T H (eval (.Call (.Attribute o name apos) es ks pos) env) Q :=
  W.eqv he (W.bind (h.mono fun ov T₀ N₀ q => W.bind (W.standAt (W.bind (W.holding (q.mono fun fx T₁ N₁ ⟨hf, q'⟩ => W.callWith hf q' hstar hall))))))

-- displays
theorem W.newTuple {vs : List Value} {ps : List PV} {Q : Value → Trk → Hold → Prop} (d : DenL H vs ps) (h : ∀ a, Q (.ref a) T [(.tup ps, .ref a)]) (hsz : vs.length ≤ sizeLine := by size_fits) : W c h₀ n T H (PySem.newTuple vs) Q := fun A s hA S => by
  refine wpAny_newObj_type ?_ (by show vs.toArray.size ≤ sizeLine; rw [List.size_toArray]; exact hsz)
  have k : ∀ b o, s.heap.get? b = some o → (s.heap.push (tupObj vs.toArray 0)).get? b = some o := fun b o e => Heap.get?_push_of_some _ e
  have S' : St c h₀ T H { s with heap := s.heap.push (tupObj vs.toArray 0) } := S.grow (tk := s.toks) k
  refine ⟨T, _, h s.heap.objs.size, S'.more fun q hq => ?_⟩
  rcases List.mem_singleton.mp hq with rfl
  simp only [Rep]
  refine ⟨_, vs.toArray, 0, rfl, Heap.get?_push_size _ rfl, fun hm => ?_, d _ _ S'.held⟩
  obtain ⟨p, hp, hpa⟩ := List.mem_map.mp hm
  have := S.lt hp
  rw [hpa] at this
  exact Nat.lt_irrefl _ this
theorem W.newList {vs : List Value} {ps : List PV} {Q : Value → Trk → Hold → Prop} (d : DenL H vs ps) (h : ∀ a, Q (.ref a) T [(.lst ps, .ref a)]) (hsz : vs.length ≤ sizeLine := by size_fits) : W c h₀ n T H (PySem.newList vs) Q := fun A s hA S => by
  refine wpAny_newObj_type ?_ (by show vs.toArray.size ≤ sizeLine; rw [List.size_toArray]; exact hsz)
  have k : ∀ b o, s.heap.get? b = some o → (s.heap.push (lstObj vs.toArray 0)).get? b = some o := fun b o e => Heap.get?_push_of_some _ e
  have S' : St c h₀ T H { s with heap := s.heap.push (lstObj vs.toArray 0) } := S.grow (tk := s.toks) k
  refine ⟨T, _, h s.heap.objs.size, S'.more fun q hq => ?_⟩
  rcases List.mem_singleton.mp hq with rfl
  simp only [Rep]
  refine ⟨_, vs.toArray, 0, rfl, Heap.get?_push_size _ rfl, fun hm => ?_, d _ _ S'.held⟩
  obtain ⟨p, hp, hpa⟩ := List.mem_map.mp hm
  have := S.lt hp
  rw [hpa] at this
  exact Nat.lt_irrefl _ this
theorem get_size (h : Heap) : h.get? h.objs.size = none := by
  cases q : h.get? h.objs.size with
  | none => rfl
  | some o => exact absurd (Heap.lt_size q) (Nat.lt_irrefl _)
/-- a new list that will be turned -/
theorem W.newListT {vs : List Value} {ps : List PV} {Q : Value → Trk → Hold → Prop} (d : DenL H vs ps) (h : ∀ a, Q (.ref a) ((a, .list ps) :: T) []) (hsz : vs.length ≤ sizeLine := by size_fits) : W c h₀ n T H (PySem.newList vs) Q := fun A s hA S => by
  refine wpAny_newObj_type ?_ (by show vs.toArray.size ≤ sizeLine; rw [List.size_toArray]; exact hsz)
  have k : ∀ b o, s.heap.get? b = some o → (s.heap.push (lstObj vs.toArray 0)).get? b = some o := fun b o e => Heap.get?_push_of_some _ e
  refine ⟨_, [], h s.heap.objs.size, S.track (tk := s.toks) (get_size _) k ⟨vs.toArray, 0, Heap.get?_push_size _ rfl, d _ _ fun q hq => ?_⟩⟩
  refine (S.held q hq).ev ⟨fun b o _ e _ => k b o e, fun b hb => ?_⟩ _ _
  rcases List.mem_cons.mp hb with rfl | hb
  · exact .inr (get_size _)
  · exact .inl hb
theorem W.TupleD {es : List Expr} {k : Nat} {Q : Value → Trk → Hold → Prop} (h : W c h₀ n T H (spliced (backTo pos (starEach es env))) fun vs T₁ N₁ => W c h₀ n T₁ (N₁ ++ H) (PySem.newTuple vs) Q) : W c h₀ n T H (eval (.Tuple es k pos) env) Q := by
  show W c h₀ n T H (do PySem.standAt pos; PySem.newTuple (← spliced (backTo pos (starEach es env)))) Q
  exact W.bind (W.standAt (W.bind h))
theorem W.ListD {es : List Expr} {Q : Value → Trk → Hold → Prop} (h : W c h₀ n T H (spliced (backTo pos (starEach es env))) fun vs T₁ N₁ => W c h₀ n T₁ (N₁ ++ H) (PySem.newList vs) Q) : W c h₀ n T H (eval (.List es pos) env) Q := by
  show W c h₀ n T H (do PySem.standAt pos; PySem.newList (← spliced (backTo pos (starEach es env)))) Q
  exact W.bind (W.standAt (W.bind h))
end
end Mine
end

section
open PySem PySem.W PyProof.Rows PySem.Calls
set_option Elab.async false
set_option linter.unusedVariables false
set_option linter.unusedSimpArgs false
namespace Mine

inductive DenB (H : Hold) : List (PySem.Str × Value) → List (PySem.Str × PV) → Prop
  | nil : DenB H [] []
  | cons {x : PySem.Str} {v : Value} {p : PV} {r : List (PySem.Str × Value)} {r' : List (PySem.Str × PV)} : Den H v p → DenB H r r' → DenB H ((x, v) :: r) ((x, p) :: r')
theorem DenB.noneL {H : Hold} {r : List (PySem.Str × Value)} {r' : List (PySem.Str × PV)} (d : DenB H r r') {x : PySem.Str} (h : x ∉ r'.map (·.1)) : r.reverse.lookup x = none := by
  induction d with
  | nil => rfl
  | cons d r ih =>
    rw [List.map_cons, List.mem_cons, not_or] at h
    rw [List.reverse_cons, List.lookup_append, ih h.2, List.lookup_cons, beq_eq_false_iff_ne.mpr h.1]; rfl
theorem DenB.look {H : Hold} {r : List (PySem.Str × Value)} {r' : List (PySem.Str × PV)} (d : DenB H r r') (nd : (r'.map (·.1)).Nodup) {x : PySem.Str} {p : PV} (h : r'.lookup x = some p) : ∃ v, r.reverse.lookup x = some v ∧ Den H v p := by
  induction d with
  | nil => exact nomatch h
  | @cons y v q r r' d dr ih =>
    rw [List.map_cons] at nd
    obtain ⟨n1, n2⟩ := List.nodup_cons.mp nd
    rw [List.lookup_cons] at h
    rw [List.reverse_cons, List.lookup_append]
    cases hx : x == y with
    | true =>
      rw [hx] at h; cases h
      have := beq_iff_eq.mp hx; subst this
      exact ⟨v, by rw [dr.noneL n1, List.lookup_cons_self]; rfl, d⟩
    | false =>
      rw [hx] at h
      obtain ⟨u, h1, h2⟩ := ih n2 h
      exact ⟨u, by rw [h1]; rfl, h2⟩
theorem Den.more {H N : Hold} {v : Value} {p : PV} (d : Den H v p) : Den (N ++ H) v p := fun D h k => d D h fun q hq => k q (List.mem_append_right _ hq)

def Locals (scope : Scope) (bs : List (PySem.Str × PV)) : Bool := bs.all fun x => scope.names.lookup x.1 == some .local
theorem locals_of {H : Hold} {scope : Scope} {r : List (PySem.Str × Value)} {bs : List (PySem.Str × PV)} (d : DenB H r bs) (h : Locals scope bs = true) : ∀ x ∈ r, scope.names.lookup x.1 = some .local := by
  induction d with
  | nil => exact fun _ hx => nomatch hx
  | cons d r ih =>
    simp only [Locals, List.all_cons, Bool.and_eq_true, beq_iff_eq] at h
    exact List.forall_mem_cons.mpr ⟨h.1, ih h.2⟩

def retOf (Q : Value → Trk → Hold → Prop) : Flow → Trk → Hold → Prop := fun fl T N => match fl with | .ret v => Q v T N | _ => Q .none T N

theorem denB_binds {H : Hold} {κ : PySem.Str → Option NameKind} {bs : List (PySem.Str × PV)} {binds : List (PySem.Str × Value)} (d : DenB H binds bs) : ∀ (m cm : PySem.Str → Option Value), (bs.map (·.1)).Nodup → ∀ x,
      (∀ p, bs.lookup x = some p → κ x = some .local → ∃ v, bindL κ binds m x = some v ∧ Den H v p) ∧
      (∀ p, bs.lookup x = some p → κ x ≠ some .local → ∃ v, bindC κ binds cm x = some v ∧ Den H v p) ∧
      (bs.lookup x = none → bindL κ binds m x = m x ∧ bindC κ binds cm x = cm x) := by
  induction d with
  | nil => intro m cm _ x; exact ⟨(fun p e _ => nomatch e), (fun p e _ => nomatch e), fun _ => ⟨rfl, rfl⟩⟩
  | cons dv r ih =>
    rename_i y v p r₁ r₂
    intro m cm nd x
    rw [List.map_cons] at nd
    obtain ⟨n1, n2⟩ := List.nodup_cons.mp nd
    have ih' := ih (if κ y = some .local then fun z => if z = y then some v else m z else m) (if κ y = some .local then cm else fun z => if z = y then some v else cm z) n2 x
    have hn : x = y → r₂.lookup x = none := fun e => by
      subst e
      cases q : r₂.lookup x with
      | none => rfl
      | some u => exact absurd (List.mem_map_of_mem (mem_of_lookup q)) n1
    by_cases hx : x = y
    · have e3 := ih'.2.2 (hn hx)
      subst hx
      refine ⟨fun q e hq => ?_, fun q e hq => ?_, fun e => by simp [List.lookup] at e⟩
      · simp [List.lookup] at e; subst e
        exact ⟨v, by unfold bindL; rw [e3.1, if_pos hq]; simp, dv⟩
      · simp [List.lookup] at e; subst e
        exact ⟨v, by unfold bindC; rw [e3.2, if_neg hq]; simp, dv⟩
    · have el : ((y, p) :: r₂).lookup x = r₂.lookup x := by rw [List.lookup_cons, beq_eq_false_iff_ne.mpr hx]
      rw [el]
      refine ⟨fun q e hq => ?_, fun q e hq => ?_, fun e => ?_⟩
      · unfold bindL; exact ih'.1 q e hq
      · unfold bindC; exact ih'.2.1 q e hq
      · unfold bindL bindC
        rw [(ih'.2.2 e).1, (ih'.2.2 e).2]
        constructor
        · split
          · simp [hx]
          · rfl
        · split
          · rfl
          · simp [hx]
theorem filter_look {names : List (PySem.Str × NameKind)} {x : PySem.Str} {p : PV} : ∀ {bs : List (PySem.Str × PV)}, (bs.filter fun y => names.lookup y.1 == some .local).lookup x = some p → bs.lookup x = some p ∧ names.lookup x = some .local
  | [], hx => nomatch hx
  | (y, q) :: r, hx => by
    rw [List.filter_cons] at hx
    by_cases hy : (names.lookup y == some .local) = true
    · rw [if_pos hy] at hx
      rw [List.lookup_cons] at hx ⊢
      cases e : x == y with
      | true => rw [e] at hx; have := beq_iff_eq.mp e; subst this; exact ⟨hx, by simpa using hy⟩
      | false => rw [e] at hx; exact filter_look hx
    · rw [if_neg hy] at hx
      have := filter_look hx
      rw [List.lookup_cons]
      cases e : x == y with
      | true => have e' := beq_iff_eq.mp e; subst e'; exact absurd (by rw [this.2]; rfl) hy
      | false => exact this
theorem kinds_of {H : Hold} {scope : Scope} {r : List (PySem.Str × Value)} {bs : List (PySem.Str × PV)} (d : DenB H r bs) (h : (bs.all fun y => scope.names.lookup y.1 == some .local || scope.names.lookup y.1 == some .cell) = true) :
    (r.all fun y => scope.names.lookup y.1 == some .local || scope.names.lookup y.1 == some .cell) = true := by
  induction d with
  | nil => rfl
  | cons d r ih =>
    rw [List.all_cons, Bool.and_eq_true] at h ⊢
    exact ⟨h.1, ih h.2⟩

section
variable {c : Cx} {h₀ : Heap} {n : Nat} {T T' : Trk} {H : Hold}

/-- what a body hands on: the frame is let go -/
def leaveF (L : Addr) (Q : Value → Trk → Hold → Prop) : Flow → Trk → Hold → Prop := fun fl T₂ N => ∃ T₃, T₃.Sublist T₂ ∧ (match fl with | .ret v => Q v T₃ N | _ => Q .none T₃ N)

theorem W.callFn {f : Addr} {o : Obj} {fd : FuncData} {body : List Stmt} {args : List Value} {kw : List (PySem.Str × Value)} {Q : Value → Trk → Hold → Prop}
    (ho : c.K.lookup f = some o) (hd : o.data = .func fd) (hcd : codeIn c.K fd.code fd.qualname = true) (hbody : fd.body = .stmts body)
    (h : W c h₀ n T H (bindArgs fd ⟨args, kw⟩) fun binds T₁ N₁ => ∃ bs, DenB (N₁ ++ H) binds bs ∧ (bs.map (·.1)).Nodup ∧ Locals fd.scope bs = true ∧
      ∀ L, W c h₀ n ((L, .frame bs) :: T₁) (N₁ ++ H) (execs body (callEnv fd L f)) (leaveF L Q))
    (hcell : ∀ x ∈ fd.scope.names, x.2 ≠ .cell) (hco : fd.scope.isCoroutine = false := by rfl) (hgen : fd.scope.isGenerator = false := by rfl) (hk : fd.scope.kind = .function := by rfl) :
    W c h₀ (n + 1) T H (call (.ref f) args kw) Q := by
  intro A s hA S
  refine wpAny_call (codeAny_call_function hA.room (S.keep _ _ (S.base.K _ _ ho)) hd hco hgen hbody (codeRec_of (S.base.K.keeps S.keep) hcd) ?_)
  refine wpAny_mono (h A.in1 s hA.in1 S) (fun binds s₁ ⟨T₁, N₁, ⟨bs, d, nd, hl, hb⟩, S₁⟩ => ?_) fun _ _ x => x.elim
  refine wpAny_newFunctionEnv hcell (locals_of d hl) (fun h₁ hns hsb => ?_) hk
  have k : ∀ b o, s₁.heap.get? b = some o → h₁.get? b = some o := fun b o e => hsb.extBut b o (Nat.ne_of_lt (Heap.lt_size e)) (Heap.get?_push_of_some _ e)
  have S₂ : St c h₀ ((s₁.heap.objs.size, .frame bs) :: T₁) (N₁ ++ H) { s₁ with heap := h₁, toks := s₁.toks + binds.length } := by
    refine S₁.track (get_size _) k ⟨_, hns, fun x p hx => ?_⟩
    obtain ⟨v, h1, h2⟩ := d.look nd hx
    refine ⟨v, h1, (S₁.rep h2).ev ⟨fun b o _ e _ => k b o e, fun b hb => ?_⟩ _ _⟩
    rcases List.mem_cons.mp hb with rfl | hb
    · exact .inr (get_size _)
    · exact .inl hb
  refine ⟨S₂.base.T.nolimit.keeps S₂.keep, codeAny_func ?_⟩
  refine wpAny_mono (hb _ (A.deeper _) _ (hA.deeper _) S₂) (fun fl s' ⟨T₂, N₂, q, S'⟩ => ?_) fun _ _ x => x.elim
  obtain ⟨T₃, hs, hq⟩ := q
  cases fl with
  | ret v => exact ⟨T₃, N₂, hq, (S'.subs hs).thin⟩
  | next => exact ⟨T₃, N₂, hq, (S'.subs hs).thin⟩
  | brk => exact ⟨T₃, N₂, hq, (S'.subs hs).thin⟩
  | cont => exact ⟨T₃, N₂, hq, (S'.subs hs).thin⟩

/-- the same, where some names are cells -/
theorem W.callFnC {f : Addr} {o : Obj} {fd : FuncData} {body : List Stmt} {args : List Value} {kw : List (PySem.Str × Value)} {Q : Value → Trk → Hold → Prop}
    (ho : c.K.lookup f = some o) (hd : o.data = .func fd) (hcd : codeIn c.K fd.code fd.qualname = true) (hbody : fd.body = .stmts body) (hclo : fd.closure = [])
    (h : W c h₀ n T H (bindArgs fd ⟨args, kw⟩) fun binds T₁ N₁ => ∃ bs, DenB (N₁ ++ H) binds bs ∧ (bs.map (·.1)).Nodup ∧ (bs.all fun y => fd.scope.names.lookup y.1 == some .local || fd.scope.names.lookup y.1 == some .cell) = true ∧
      ∀ L, W c h₀ n ((L, .frame (bs.filter fun y => fd.scope.names.lookup y.1 == some .local)) :: ((cellsFrom (L + 1) fd.scope.names []).map fun x => (x.2, TO.cell (bs.lookup x.1))) ++ T₁) (N₁ ++ H) (execs body (callEnvC fd L f)) (leaveF L Q))
    (hnd : ((cellsFrom 0 fd.scope.names []).map (·.1)).Nodup) (hcl : ((cellsFrom 0 fd.scope.names []).all fun x => fd.scope.names.lookup x.1 == some .cell) = true)
    (hco : fd.scope.isCoroutine = false := by rfl) (hgen : fd.scope.isGenerator = false := by rfl) (hk : fd.scope.kind = .function := by rfl) :
    W c h₀ (n + 1) T H (call (.ref f) args kw) Q := by
  intro A s hA S
  refine wpAny_call (codeAny_call_function hA.room (S.keep _ _ (S.base.K _ _ ho)) hd hco hgen hbody (codeRec_of (S.base.K.keeps S.keep) hcd) ?_)
  refine wpAny_mono (h A.in1 s hA.in1 S) (fun binds s₁ ⟨T₁, N₁, ⟨bs, d, nd, hl, hb⟩, S₁⟩ => ?_) fun _ _ x => x.elim
  rw [hclo]
  have hkind := kindsX (kinds_of d hl) (s₁.heap.objs.size + 1)
  refine wpAny_with_toks (n := s₁.toks) (Nat.le_refl _) (wpAny_newFunctionEnv_cells hk hkind fun env he s₂ X htk => ?_)
  have ee : env = callEnvC fd s₁.heap.objs.size f := he
  clear he
  subst ee
  obtain ⟨h₁, tk, rfl, _⟩ := X.done
  have k := X.toInCall.keep
  -- the cells, then the frame
  have names : (cellsFrom (s₁.heap.objs.size + 1) fd.scope.names []).map (·.1) = (cellsFrom 0 fd.scope.names []).map (·.1) := cellsFrom_names fd.scope.names (s₁.heap.objs.size + 1) 0 [] [] rfl
  have addr : ((cellsFrom (s₁.heap.objs.size + 1) fd.scope.names []).map (·.2)).Nodup := by
    have := X.apart
    rw [List.Nodup, List.pairwise_map]
    exact this.imp fun h => h
  have S₂ : St c h₀ ((s₁.heap.objs.size, .frame (bs.filter fun y => fd.scope.names.lookup y.1 == some .local)) :: ((cellsFrom (s₁.heap.objs.size + 1) fd.scope.names []).map fun x => (x.2, TO.cell (bs.lookup x.1))) ++ T₁) (N₁ ++ H) { s₁ with heap := h₁, toks := tk } := by
    have S₀ : St c h₀ T₁ (N₁ ++ H) { s₁ with heap := h₁, toks := tk } := S₁.grow k htk
    have above : ∀ x ∈ cellsFrom (s₁.heap.objs.size + 1) fd.scope.names [], s₁.heap.objs.size < x.2 := fun x hx => X.above x.1 x.2 hx
    have dm : ∀ (D : List Addr), (∀ a ∈ D, a ∈ dom T₁ ∨ s₁.heap.objs.size ≤ a) → Ev (dom T₁) s₁.heap D h₁ := fun D hD => ⟨fun b o _ e _ => k b o e, fun b hb => (hD b hb).imp_right fun hle => by
      cases q : s₁.heap.get? b with
      | none => rfl
      | some o => exact absurd (Heap.lt_size q) (Nat.not_lt.mpr hle)⟩
    have hdom : dom ((s₁.heap.objs.size, TO.frame (bs.filter fun y => fd.scope.names.lookup y.1 == some .local)) :: ((cellsFrom (s₁.heap.objs.size + 1) fd.scope.names []).map fun x => (x.2, TO.cell (bs.lookup x.1))) ++ T₁) =
        s₁.heap.objs.size :: ((cellsFrom (s₁.heap.objs.size + 1) fd.scope.names []).map (·.2)) ++ dom T₁ := by simp [dom, Function.comp_def]
    have hD : ∀ a ∈ s₁.heap.objs.size :: ((cellsFrom (s₁.heap.objs.size + 1) fd.scope.names []).map (·.2)) ++ dom T₁, a ∈ dom T₁ ∨ s₁.heap.objs.size ≤ a := fun a ha => by
      rcases List.mem_append.mp ha with ha | ha
      · rcases List.mem_cons.mp ha with rfl | ha
        · exact .inr (Nat.le_refl _)
        · obtain ⟨x, hx, rfl⟩ := List.mem_map.mp ha
          exact .inr (Nat.le_of_lt (above x hx))
      · exact .inl ha
    have fr : ∀ a, s₁.heap.objs.size ≤ a → h₀.get? a = none := fun a ha => by
      cases q : h₀.get? a with
      | none => rfl
      | some o => exact absurd (Heap.lt_size (S₁.keep _ _ q)) (Nat.not_lt.mpr ha)
    refine ⟨S₁.base, S₀.keep, fun p hp => ?_, fun p hp => ?_, ?_, fun p hp => ?_, S₁.gens, S₁.drawn, S₁.os, S₀.tk⟩
    · rcases List.mem_append.mp hp with hp | hp
      · rcases List.mem_cons.mp hp with rfl | hp
        · exact fr _ (Nat.le_refl _)
        · obtain ⟨x, hx, rfl⟩ := List.mem_map.mp hp
          exact fr _ (Nat.le_of_lt (above x hx))
      · exact S₁.new p hp
    · rw [hdom]
      rcases List.mem_append.mp hp with hp | hp
      · rcases List.mem_cons.mp hp with rfl | hp
        · refine ⟨_, X.toInCall.ns, fun x p hx => ?_⟩
          have hx' := filter_look hx
          obtain ⟨v, h1, h2⟩ := (denB_binds (κ := (callEnvC fd s₁.heap.objs.size f).kindOf) d (fun _ => none) (fun _ => none) nd x).1 p hx'.1 hx'.2
          exact ⟨v, h1, (S₁.rep h2).ev (dm _ hD) _ _⟩
        · obtain ⟨x, hx, rfl⟩ := List.mem_map.mp hp
          refine ⟨_, X.cell x.1 x.2 (lookup_of_mem_nodup (names ▸ hnd) hx), fun p hp => ?_⟩
          have hx2 : fd.scope.names.lookup x.1 = some .cell := by
            have hm : x.1 ∈ (cellsFrom 0 fd.scope.names []).map (·.1) := names ▸ List.mem_map_of_mem hx
            obtain ⟨y, hy, e⟩ := List.mem_map.mp hm
            have := List.all_eq_true.mp hcl y hy
            rw [← e]; simpa using this
          obtain ⟨v, h1, h2⟩ := (denB_binds (κ := (callEnvC fd s₁.heap.objs.size f).kindOf) d (fun _ => none) (fun _ => none) nd x.1).2.1 p hp (by
            show fd.scope.names.lookup x.1 ≠ some .local
            rw [hx2]; decide)
          exact ⟨v, h1, (S₁.rep h2).ev (dm _ hD) _ _⟩
      · obtain ⟨o, ho'⟩ := (S₁.own p hp).some
        exact (S₁.own p hp).ev (dm _ hD) ((k _ _ ho').trans ho'.symm)
    · rw [hdom, List.cons_append]
      refine List.nodup_cons.mpr ⟨fun hm => ?_, List.nodup_append.mpr ⟨addr, S₁.nd, fun a ha b hb e => ?_⟩⟩
      · rcases List.mem_append.mp hm with hm | hm
        · obtain ⟨x, hx, e⟩ := List.mem_map.mp hm
          have := above x hx
          rw [e] at this; exact Nat.lt_irrefl _ this
        · obtain ⟨p, hp, e⟩ := List.mem_map.mp hm
          have := S₁.lt hp
          rw [e] at this; exact Nat.lt_irrefl _ this
      · obtain ⟨x, hx, rfl⟩ := List.mem_map.mp ha
        obtain ⟨p, hp, rfl⟩ := List.mem_map.mp hb
        have h1 := above x hx
        have h2 := S₁.lt hp
        rw [e] at h1
        exact Nat.lt_asymm h1 h2
    · rw [hdom]; exact (S₁.held p hp).ev (dm _ hD) _ _
  refine ⟨S₂.base.T.nolimit.keeps S₂.keep, codeAny_func ?_⟩
  refine wpAny_mono (hb _ (A.deeper _) _ (hA.deeper _) S₂) (fun fl s' ⟨T₂, N₂, q, S'⟩ => ?_) fun _ _ x => x.elim
  obtain ⟨T₃, hs, hq⟩ := q
  cases fl with
  | ret v => exact ⟨T₃, N₂, hq, (S'.subs hs).thin⟩
  | next => exact ⟨T₃, N₂, hq, (S'.subs hs).thin⟩
  | brk => exact ⟨T₃, N₂, hq, (S'.subs hs).thin⟩
  | cont => exact ⟨T₃, N₂, hq, (S'.subs hs).thin⟩
end
end Mine
end

section
open PySem PySem.W PyProof.Rows PySem.Calls
set_option Elab.async false
set_option linter.unusedVariables false
set_option linter.unusedSimpArgs false
namespace Mine

/-- int over int, as a float -/
def tdiv (a b : Int) : UInt64 := Float64.ofFrac (decide (a < 0) != decide (b < 0)) a.natAbs b.natAbs
def fltLt (a b : UInt64) : Bool := Float64.cmp a b == some Ordering.lt
def fltEq (a b : UInt64) : Bool := Float64.cmp a b == some Ordering.eq
def fltMod (a b : UInt64) : UInt64 := (Float64.divmod a b).snd

section
variable {c : Cx} {h₀ : Heap} {n : Nat} {T T' : Trk} {H : Hold} {a b : Int} {x y : UInt64} {t u : Tok} {Q : Value → Trk → Hold → Prop}

theorem W.add_ii (h : ∀ t, Q (.int (a + b) t) T []) : W c h₀ n T H (binaryOp .Add (.int a t) (.int b u)) Q := fun A s hA S => PySem.P.add_int ⟨T, [], h _, S.tok⟩
theorem W.sub_ii (h : ∀ t, Q (.int (a - b) t) T []) : W c h₀ n T H (binaryOp .Sub (.int a t) (.int b u)) Q := fun A s hA S => PySem.P.sub_int ⟨T, [], h _, S.tok⟩
theorem W.mul_ii (h : ∀ t, Q (.int (a * b) t) T []) (hm : IntMulOk a b := by mul_fits) : W c h₀ n T H (binaryOp .Mult (.int a t) (.int b u)) Q := fun A s hA S => PySem.P.mul_int ⟨T, [], h _, S.tok⟩ hm
theorem W.mod_ii (hb : b ≠ 0) (h : ∀ t, Q (.int (a.fmod b) t) T []) : W c h₀ n T H (binaryOp .Mod (.int a t) (.int b u)) Q := fun A s hA S => mod_int' hb ⟨T, [], h _, S.tok⟩
theorem W.fdiv_ii (hb : b ≠ 0) (hs : b.natAbs < 1073741824) (h : ∀ t, Q (.int (a.fdiv b) t) T []) : W c h₀ n T H (binaryOp .FloorDiv (.int a t) (.int b u)) Q := fun A s hA S => floordiv_int hb ⟨T, [], h _, S.tok⟩ (.inl (PyProof.noPylong_small hs))
theorem W.div_ii (hb : (b == 0) = false) (hi : Float64.isInf (tdiv a b) = false) (hlo : 0 < c.low) (h : ∀ t, t ≠ 0 → Q (.float (tdiv a b) t) T []) : W c h₀ n T H (binaryOp .Div (.int a t) (.int b u)) Q := fun A s hA S =>
  AutoIntOps.truediv_2 (by rw [hb]; decide) (by unfold tdiv at hi; rw [hi]; decide) ⟨T, [], h _ (S.nz hlo), S.tok⟩
theorem W.lt_ii (h : Q (.bool (decide (a < b))) T []) : W c h₀ n T H (compareOp .Lt (.int a t) (.int b u)) Q := fun A s hA S => PySem.P.lt_int ⟨T, [], h, S⟩
theorem W.gt_ii (h : Q (.bool (decide (a > b))) T []) : W c h₀ n T H (compareOp .Gt (.int a t) (.int b u)) Q := fun A s hA S => PySem.P.gt_int ⟨T, [], h, S⟩
theorem W.eq_ii (h : Q (.bool (a == b)) T []) : W c h₀ n T H (compareOp .Eq (.int a t) (.int b u)) Q := fun A s hA S => PySem.P.eq_int ⟨T, [], h, S⟩

theorem W.add_ff (hlo : 0 < c.low) (h : ∀ t, t ≠ 0 → Q (.float (Float64.add x y) t) T []) : W c h₀ n T H (binaryOp .Add (.float x t) (.float y u)) Q := fun A s hA S => add_float ⟨T, [], h _ (S.nz hlo), S.tok⟩
theorem W.sub_ff (hlo : 0 < c.low) (h : ∀ t, t ≠ 0 → Q (.float (Float64.sub x y) t) T []) : W c h₀ n T H (binaryOp .Sub (.float x t) (.float y u)) Q := fun A s hA S => sub_float ⟨T, [], h _ (S.nz hlo), S.tok⟩
theorem W.mul_ff (hlo : 0 < c.low) (h : ∀ t, t ≠ 0 → Q (.float (Float64.mul x y) t) T []) : W c h₀ n T H (binaryOp .Mult (.float x t) (.float y u)) Q := fun A s hA S => mul_float ⟨T, [], h _ (S.nz hlo), S.tok⟩
theorem W.div_ff (hz : Float64.isZero y = false) (hlo : 0 < c.low) (h : ∀ t, t ≠ 0 → Q (.float (Float64.div x y) t) T []) : W c h₀ n T H (binaryOp .Div (.float x t) (.float y u)) Q := fun A s hA S =>
  AutoFloatOps.truediv_1 (by rw [hz]; decide) ⟨T, [], h _ (S.nz hlo), S.tok⟩
theorem W.mod_ff (hz : Float64.isZero y = false) (hlo : 0 < c.low) (h : ∀ t, t ≠ 0 → Q (.float (fltMod x y) t) T []) : W c h₀ n T H (binaryOp .Mod (.float x t) (.float y u)) Q := fun A s hA S =>
  AutoFloatOps.mod_1 (by rw [hz]; decide) ⟨T, [], h _ (S.nz hlo), S.tok⟩
theorem W.lt_ff (h : Q (.bool (fltLt x y)) T []) : W c h₀ n T H (compareOp .Lt (.float x t) (.float y u)) Q := fun A s hA S => AutoFloatOps.lt_0 ⟨T, [], h, S⟩
theorem W.eq_ff (h : Q (.bool (fltEq x y)) T []) : W c h₀ n T H (compareOp .Eq (.float x t) (.float y u)) Q := fun A s hA S => AutoFloatOps.eq_0 ⟨T, [], h, S⟩

theorem W.add_fi (hb : b.natAbs < 2 ^ 1023) (hlo : 0 < c.low) (h : ∀ t, t ≠ 0 → Q (.float (Float64.add x (Float64.ofInt b)) t) T []) : W c h₀ n T H (binaryOp .Add (.float x t) (.int b u)) Q := fun A s hA S => add_fi_fits hb ⟨T, [], h _ (S.nz hlo), S.tok⟩
theorem W.mul_if (hb : b.natAbs < 2 ^ 1023) (hlo : 0 < c.low) (h : ∀ t, t ≠ 0 → Q (.float (Float64.mul (Float64.ofInt b) x) t) T []) : W c h₀ n T H (binaryOp .Mult (.int b u) (.float x t)) Q := fun A s hA S => mul_if_fits hb ⟨T, [], h _ (S.nz hlo), S.tok⟩
theorem W.sub_fi (hb : b.natAbs < 2 ^ 1023) (hlo : 0 < c.low) (h : ∀ t, t ≠ 0 → Q (.float (Float64.sub x (Float64.ofInt b)) t) T []) : W c h₀ n T H (binaryOp .Sub (.float x t) (.int b u)) Q := fun A s hA S => sub_fi_fits hb ⟨T, [], h _ (S.nz hlo), S.tok⟩
theorem W.div_fi (hi : Float64.isInf (Float64.ofInt b) = false) (hz : Float64.isZero (Float64.ofInt b) = false) (hlo : 0 < c.low) (h : ∀ t, t ≠ 0 → Q (.float (Float64.div x (Float64.ofInt b)) t) T []) : W c h₀ n T H (binaryOp .Div (.float x t) (.int b u)) Q := fun A s hA S =>
  AutoFloatOps.truediv_fi_2 (by rw [hi]; decide) (by rw [hz]; decide) ⟨T, [], h _ (S.nz hlo), S.tok⟩

theorem W.is_plain {v w : Value} (hp : plainIs v w = true) (h : Q (.bool (v == w)) T []) : W c h₀ n T H (compareOp .Is v w) Q := fun A s hA S => wpAny_is_plain hp ⟨T, [], h, S⟩
theorem W.isNot_plain {v w : Value} (hp : plainIs v w = true) (h : Q (.bool (!(v == w))) T []) : W c h₀ n T H (compareOp .IsNot v w) Q := fun A s hA S => wpAny_isNot_plain hp ⟨T, [], h, S⟩
end
end Mine
end

section
open PySem PySem.W PyProof.Rows PySem.Calls
set_option Elab.async false
set_option linter.unusedVariables false
set_option linter.unusedSimpArgs false
namespace Mine

section
variable {c : Cx} {h₀ : Heap} {n : Nat} {T T' : Trk} {H : Hold} {α : Type}

theorem St.all (S : St c h₀ T H s) : St c (hideAll s.heap (dom T)) T H s := by
  have k : ∀ b o, h₀.get? b = some o → (hideAll s.heap (dom T)).get? b = some o := fun b o e => hideAll_get _ (S.keep b o e) fun hm => by
    obtain ⟨p, hp, rfl⟩ := List.mem_map.mp hm
    rw [S.new p hp] at e; exact nomatch e
  exact ⟨S.base.keeps k, fun b o e => of_hideAll _ e, fun p hp => hideAll_none _ (List.mem_map_of_mem hp), S.own, S.nd, S.held, S.gens, S.drawn, S.os, S.tk⟩
theorem St.back {s s' : Shared} {T₀ : Trk} {H₀ : Hold} (S₀ : St c h₀ T₀ H₀ s) (S : St c (hideAll s.heap (dom T₀)) T H s') : St c h₀ T H s' := by
  have k : ∀ b o, h₀.get? b = some o → (hideAll s.heap (dom T₀)).get? b = some o := fun b o e => hideAll_get _ (S₀.keep b o e) fun hm => by
    obtain ⟨p, hp, rfl⟩ := List.mem_map.mp hm
    rw [S₀.new p hp] at e; exact nomatch e
  refine ⟨S₀.base, fun b o e => S.keep b o (k b o e), fun p hp => ?_, S.own, S.nd, S.held, S.gens, S.drawn, S.os, S.tk⟩
  cases q : h₀.get? p.1 with
  | none => rfl
  | some o => have := S.new p hp; rw [k _ _ q] at this; exact nomatch this

/-- the run, and what it lets stand: all that is not tracked -/
theorem W.run {A : Around} {s : Shared} {t : Sem α} {Q : α → Trk → Hold → Prop} (h : ∀ h', W c h' n T H t Q) (hA : AOk n A) (S : St c h₀ T H s) :
    wpAny (model c.prog c.w) A t (fun a s' => ∃ T' N, Q a T' N ∧ St c h₀ T' (N ++ H) s' ∧ ∀ b o, b ∉ dom T → s.heap.get? b = some o → s'.heap.get? b = some o ∧ b ∉ dom T') (fun _ _ => False) s := by
  refine wpAny_mono (h _ A s hA S.all) (fun a s' ⟨T', N, q, S'⟩ => ⟨T', N, q, S.back S', fun b o hb e => ?_⟩) fun _ _ x => x
  have e' := hideAll_get (dom T) e hb
  refine ⟨S'.keep b o e', fun hm => ?_⟩
  obtain ⟨p, hp, rfl⟩ := List.mem_map.mp hm
  have := S'.new p hp
  rw [e'] at this; exact nomatch this
theorem ev_of {T T' : Trk} {h h' : Heap} (k : ∀ b o, b ∉ dom T → h.get? b = some o → h'.get? b = some o ∧ b ∉ dom T') : Ev (dom T) h (dom T') h' :=
  ⟨fun b o hb e _ => (k b o hb e).1, fun b hb => by
    by_cases hm : b ∈ dom T
    · exact .inl hm
    · cases q : h.get? b with
      | none => exact .inr rfl
      | some o => exact absurd hb (k b o hm q).2⟩

-- items
theorem rep_tup {D : List Addr} {h : Heap} {l : List PV} {v : Value} (r : Rep D h (.tup l) v) : ∃ a vs n, v = .ref a ∧ h.get? a = some (tupObj vs n) ∧ a ∉ D ∧ RepL D h l vs.toList := by simpa only [Rep] using r
theorem rep_lst {D : List Addr} {h : Heap} {l : List PV} {v : Value} (r : Rep D h (.lst l) v) : ∃ a vs n, v = .ref a ∧ h.get? a = some (lstObj vs n) ∧ a ∉ D ∧ RepL D h l vs.toList := by simpa only [Rep] using r

/-- v is a tuple, or a list: its items -/
inductive Seq (T : Trk) (H : Hold) (v : Value) : List PV → Prop
  | tup {l} : Den H v (.tup l) → Seq T H v l
  | lst {l} : Den H v (.lst l) → Seq T H v l
  | own {l a} : v = .ref a → In a (.list l) T → Seq T H v l

theorem get_at {D : List Addr} {h : Heap} {l : List PV} {vs : Array Value} (r : RepL D h l vs.toList) {i : Nat} {p : PV} (e : l[i]? = some p) : ∃ v, vs[i]? = some v ∧ Rep D h p v := by
  obtain ⟨v, h1, h2⟩ := r.get e
  exact ⟨v, by simpa using h1, h2⟩
theorem RepL.size {D : List Addr} {h : Heap} {l : List PV} {vs : Array Value} (r : RepL D h l vs.toList) : vs.size = l.length := by have := r.length; simpa using this

theorem W.getItem {v : Value} {l : List PV} {k : Int} {t : Tok} {i : Nat} {p : PV} {Q : Value → Trk → Hold → Prop} (hs : Seq T H v l) (hk : k = (i : Int)) (hi : i < 2 ^ 62) (hp : l[i]? = some p) (h : give p fun v N => Q v T N) :
    W c h₀ n T H (getItem v (.int k t)) Q := fun A s hA S => by
  subst hk
  have big : ((i : Nat) : Int) < 2 ^ 63 := by omega
  cases hs with
  | tup d =>
    obtain ⟨a, vs, m, rfl, ho, _, r⟩ := rep_tup (S.rep d)
    obtain ⟨x, h1, h2⟩ := get_at r hp
    obtain ⟨N, hq, hN⟩ := give.out h2 h
    have hlt : i < vs.size := by rw [r.size]; exact (List.getElem?_eq_some_iff.mp hp).1
    exact getItem_tuple ⟨_, ho, rfl, m, rfl⟩ (by omega) big (by unfold seqIndex?; simp; omega) h1 ⟨T, N, hq, S.more hN⟩
  | lst d =>
    obtain ⟨a, vs, m, rfl, ho, _, r⟩ := rep_lst (S.rep d)
    obtain ⟨x, h1, h2⟩ := get_at r hp
    obtain ⟨N, hq, hN⟩ := give.out h2 h
    exact wpAny_getItem_list ⟨_, ho, rfl, m, rfl⟩ (by omega) big (by simpa using h1) ⟨T, N, hq, S.more hN⟩
  | own e x =>
    subst e
    obtain ⟨vs, m, ho, r⟩ := S.get x
    obtain ⟨y, h1, h2⟩ := get_at r hp
    obtain ⟨N, hq, hN⟩ := give.out h2 h
    exact wpAny_getItem_list ⟨_, ho, rfl, m, rfl⟩ (by omega) big (by simpa using h1) ⟨T, N, hq, S.more hN⟩

theorem Seq.type {v : Value} {l : List PV} (hs : Seq T H v l) (S : St c h₀ T H s) : ∃ a Ty id, v = .ref a ∧ s.TypeIs v Ty ∧ typeLookup (.type Ty) "__getitem__" = pure (some (.builtin id)) := by
  cases hs with
  | tup d =>
    obtain ⟨a, vs, m, rfl, ho, _, r⟩ := rep_tup (S.rep d)
    exact ⟨a, "tuple", _, rfl, ⟨_, ho, rfl⟩, slot_tuple_getitem.lookup⟩
  | lst d =>
    obtain ⟨a, vs, m, rfl, ho, _, r⟩ := rep_lst (S.rep d)
    exact ⟨a, "list", _, rfl, ⟨_, ho, rfl⟩, slot_list_getitem.lookup⟩
  | own e x =>
    subst e
    obtain ⟨vs, m, ho, r⟩ := S.get x
    exact ⟨_, "list", _, rfl, ⟨_, ho, rfl⟩, slot_list_getitem.lookup⟩

theorem W.Subscript {env : Env} {pos : Pos} {value slice : Expr} {ops : Value → Value → List Value} {Q : Value → Trk → Hold → Prop}
    (h : W c h₀ n T H (eval value env) fun o T₁ N₁ => W c h₀ n T₁ (N₁ ++ H) (eval slice env) fun i T₂ N₂ => (∃ l, Seq T₂ (N₂ ++ (N₁ ++ H)) o l) ∧ W c h₀ n T₂ (N₂ ++ (N₁ ++ H)) (PySem.getItem o i) Q)
    (hs : ∀ o i, subscripted slice false o i = PySem.operate (ops o i) (PySem.getItem o i)) : W c h₀ n T H (eval (.Subscript value slice pos) env) Q := by
  intro A s hA S
  rw [eval_Subscript]
  refine wpAny_bind (wpAny_mono (h A s hA S) (fun o s₁ ⟨T₁, N₁, q, S₁⟩ => wpAny_bind (wpAny_holding (wpAny_mono (q A s₁ hA S₁) (fun i s₂ ⟨T₂, N₂, ⟨⟨l, sq⟩, q'⟩, S₂⟩ => wpAny_bind (wpAny_standAt ?_)) fun _ _ x => x))) fun _ _ x => x)
  obtain ⟨a, Ty, id, rfl, hT, hl⟩ := sq.type S₂
  refine tail_any hT hl ?_ (hs _ _)
  exact wpAny_mono (q' A s₂ hA S₂) (fun r s₃ ⟨T₃, N₃, q₃, S₃⟩ => ⟨T₃, N₃, q₃, S₃.thin.thin⟩) fun _ _ x => x
end
end Mine
end

section
open PySem PySem.W PyProof.Rows PySem.Calls PySem.MeetsSeq
set_option Elab.async false
set_option maxRecDepth 100000
set_option linter.unusedVariables false
set_option linter.unusedSimpArgs false
namespace Mine

section
variable {c : Cx} {h₀ : Heap} {n : Nat} {T T' : Trk} {H : Hold} {α : Type}

theorem ev_turn {D : List Addr} {h h' : Heap} {a : Addr} (ha : a ∈ D) (hs : Heap.SameBut a h h') : Ev D h D h' := ⟨fun b o hb ho _ => (hs.2 b fun z => hb (z ▸ ha)).trans ho, fun b hb => .inl hb⟩
theorem ev_grow {D : List Addr} {h h' : Heap} (k : ∀ b o, h.get? b = some o → h'.get? b = some o) : Ev D h D h' := ⟨fun b o _ ho _ => k b o ho, fun b hb => .inl hb⟩

/-- a tracked list is turned by f -/
theorem St.setList {s : Shared} {a : Addr} {l l' : List PV} {vs : Array Value} {m : Nat} {tk : Nat} (S : St c h₀ T H s) (x : At a (.list l) (.list l') T T') (ho : s.heap.get? a = some (lstObj vs m)) (f : Array Value → Array Value)
    (hr : ∀ h, Ev (dom T) s.heap (dom T) h → RepL (dom T) h l vs.toList → RepL (dom T) h l' (f vs).toList) (htk : s.toks ≤ tk := by first | exact Nat.le_refl _ | exact Nat.le_succ _ | omega) : St c h₀ T' H { s with heap := s.heap.update a (Obj.mapSeq f), toks := tk } := by
  have hs : Heap.SameBut a s.heap (s.heap.update a (Obj.mapSeq f)) := Heap.SameBut.update ..
  have ma : a ∈ dom T := List.mem_map_of_mem x.in.mem
  obtain ⟨vs', m', ho', r⟩ := S.get x.in
  have e : vs' = vs := by
    rw [ho] at ho'; cases ho'; rfl
  subst e
  have ev := ev_turn ma hs
  exact S.at x hs ⟨f vs', _, IsL.update ho f, hr _ ev (r.ev ev _ _)⟩ htk

theorem lt_line {k : Nat} (h : k ≤ 1000) : k ≤ sizeLine := by rw [sizeLine_eq]; omega

theorem W.append {a : Addr} {l : List PV} {v : Value} {p : PV} {Q : Value → Trk → Hold → Prop} (d : Den H v p) (x : At a (.list l) (.list (l ++ [p])) T T') (hl : l.length ≤ 1000) (h : Q .none T' []) :
    W c h₀ n T H (call (.builtin "list.append") [.ref a, v] []) Q := fun A s hA S => by
  obtain ⟨vs, m, ho, r⟩ := S.get x.in
  have hz : vs.size ≤ sizeLine := lt_line (by rw [r.size]; exact hl)
  refine call_meets F.slot_list_append ⟨_, ho, rfl⟩ F.entry_list_append (F.args_list_append_2 _ _) (PySem.list_append a vs m v hz) ⟨ho, T', [], h, ?_⟩
  exact S.setList x ho _ fun hh k r' => by rw [Array.toList_push]; exact r'.append (RepL.one ((S.rep d).ev k _ _))

theorem W.insert {a : Addr} {l : List PV} {v : Value} {p : PV} {i : Int} {k : Nat} {t : Tok} {Q : Value → Trk → Hold → Prop} (d : Den H v p) (hi : i = (k : Int)) (hk : k ≤ l.length) (x : At a (.list l) (.list (l.take k ++ p :: l.drop k)) T T') (hl : l.length ≤ 1000) (h : Q .none T' []) :
    W c h₀ n T H (call (.builtin "list.insert") [.ref a, .int i t, v] []) Q := fun A s hA S => by
  obtain ⟨vs, m, ho, r⟩ := S.get x.in
  have hz : vs.size ≤ sizeLine := lt_line (by rw [r.size]; exact hl)
  have hfit : ¬ (!Builtin.List.listFitsIndex i) = true := by simp [Builtin.List.listFitsIndex]; omega
  have g := AutoSeq1.list_insert_list_int_val_1 a vs m i t v hfit hz
  refine call_meets F.slot_list_insert ⟨_, ho, rfl⟩ F.entry_list_insert (F.args_list_insert_3 _ _ _) g ?_
  refine ⟨ho, T', [], h, ?_⟩
  refine S.setList x ho _ fun hh kk r' => ?_
  have hkv : min i.toNat vs.size = k := by rw [r.size]; omega
  have hneg : ¬ (i < 0) := by omega
  simp only [hneg, if_false, hkv]
  rw [Array.toList_append, Array.toList_push, Array.toList_extract, Array.toList_extract, List.append_assoc]
  have e1 : List.extract vs.toList 0 k = vs.toList.take k := by simp [List.extract]
  have e2 : List.extract vs.toList k vs.size = vs.toList.drop k := by
    simp only [List.extract]
    exact List.take_of_length_le (by simp)
  rw [e1, e2]
  exact (r'.take k).append (by
    rw [List.singleton_append]
    show RepL _ _ (p :: l.drop k) (v :: vs.toList.drop k)
    simp only [RepL]
    exact ⟨v, _, rfl, (S.rep d).ev kk _ _, r'.drop k⟩)

theorem W.pop {a : Addr} {l : List PV} {p : PV} {Q : Value → Trk → Hold → Prop} (x : At a (.list (l ++ [p])) (.list l) T T') (hl : l.length ≤ 900) (h : give p fun v N => Q v T' N) :
    W c h₀ n T H (call (.builtin "list.pop") [.ref a] []) Q := fun A s hA S => by
  obtain ⟨vs, m, ho, r⟩ := S.get x.in
  have hsz : vs.size = l.length + 1 := by rw [r.size]; simp
  have hz : vs.size ≤ sizeLine := lt_line (by omega)
  obtain ⟨v, h1, h2⟩ := get_at (i := l.length) (p := p) r (by simp)
  obtain ⟨N, hq, hN⟩ := give.out h2 h
  have h1' : vs[vs.size - 1]? = some v := by rw [hsz]; exact h1
  refine call_meets F.slot_list_pop ⟨_, ho, rfl⟩ F.entry_list_pop (F.args_list_pop_1 _) (list_pop_last a vs m v h1' hz) ⟨ho, T', N, hq, ?_⟩
  have ma : a ∈ dom T := List.mem_map_of_mem x.in.mem
  have ed : dom T' = dom T := by obtain ⟨T₁, T₂, rfl, rfl⟩ := x.split; simp
  have hs : Heap.SameBut a s.heap (s.heap.update a (Obj.mapSeq fun xs => xs.eraseIdxIfInBounds (vs.size - 1))) := Heap.SameBut.update ..
  refine (St.setList (tk := s.toks) S x ho (fun xs => xs.eraseIdxIfInBounds (vs.size - 1)) fun hh kk r' => ?_).more fun q hq' => ed ▸ (hN q hq').ev (ev_turn ma hs) _ _
  have e : (vs.eraseIdxIfInBounds (vs.size - 1)).toList = vs.toList.take l.length := by
    have hlt : vs.size - 1 < vs.size := by omega
    rw [show vs.eraseIdxIfInBounds (vs.size - 1) = vs.pop from by
      unfold Array.eraseIdxIfInBounds
      rw [dif_pos hlt]
      apply Array.ext'
      rw [Array.toList_eraseIdx, Array.toList_pop]
      have hl : vs.size = vs.toList.length := by simp
      rw [hl]
      exact List.eraseIdx_length_sub_one]
    rw [Array.toList_pop, List.dropLast_eq_take]
    simp [hsz]
  rw [e]
  have := r'.take l.length
  simpa using this

/-- v is a list: its items, and where they lie -/
inductive Lst (T : Trk) (H : Hold) (v : Value) : List PV → Prop
  | lst {l} : Den H v (.lst l) → Lst T H v l
  | own {l a} : v = .ref a → In a (.list l) T → Lst T H v l
theorem Lst.seq {v : Value} {l : List PV} (x : Lst T H v l) : Seq T H v l := by
  cases x with
  | lst d => exact .lst d
  | own e i => exact .own e i
theorem Lst.at {s : Shared} {v : Value} {l : List PV} (x : Lst T H v l) (S : St c h₀ T H s) : ∃ a vs m, v = .ref a ∧ s.heap.get? a = some (lstObj vs m) ∧ RepL (dom T) s.heap l vs.toList := by
  cases x with
  | lst d => obtain ⟨a, vs, m, e, ho, _, r⟩ := rep_lst (S.rep d); exact ⟨a, vs, m, e, ho, r⟩
  | own e i => obtain ⟨vs, m, ho, r⟩ := S.get i; exact ⟨_, vs, m, e, ho, r⟩

theorem W.extend {a : Addr} {l l₂ : List PV} {v : Value} {Q : Value → Trk → Hold → Prop} (d : Den H v (.lst l₂)) (x : At a (.list l) (.list (l ++ l₂)) T T') (hl : l.length + l₂.length ≤ 1000) (h : Q .none T' []) :
    W c h₀ n T H (call (.builtin "list.extend") [.ref a, v] []) Q := fun A s hA S => by
  obtain ⟨vs, m, ho, r⟩ := S.get x.in
  obtain ⟨b, ws, m₂, rfl, ho₂, hb, r₂⟩ := rep_lst (S.rep d)
  have e1 := r.size
  have e2 := r₂.size
  have hz : vs.size ≤ sizeLine := lt_line (by omega)
  refine call_meets F.slot_list_extend ⟨_, ho, rfl⟩ F.entry_list_extend (F.args_list_extend_2 _ _) (AutoSeq1.list_extend_list_list_0 a vs m b ws m₂ (by
    simp only [Bool.and_eq_true, not_and, Builtin.List.listTooLong]
    intro _
    simp only [decide_eq_true_eq]
    rw [sizeLine_eq]; omega) hz (by rw [sizeLine_eq]; omega)) ⟨ho, ho₂, T', [], h, ?_⟩
  refine S.setList x ho _ fun hh kk r' => ?_
  rw [Array.toList_append]
  exact r'.append (r₂.ev kk _ _)

theorem W.addLists {v w : Value} {l l₂ : List PV} {Q : Value → Trk → Hold → Prop} (d : Lst T H v l) (d₂ : Lst T H w l₂) (hl : l.length + l₂.length ≤ 1000) (h : ∀ a, Q (.ref a) T [(.lst (l ++ l₂), .ref a)]) :
    W c h₀ n T H (binaryOp .Add v w) Q := fun A s hA S => by
  obtain ⟨a, vs, m, rfl, ho, r⟩ := d.at S
  obtain ⟨b, ws, m₂, rfl, ho₂, r₂⟩ := d₂.at S
  have e1 := r.size
  have e2 := r₂.size
  refine PySem.P.add_list ho ho₂ ⟨T, _, h s.heap.objs.size, ?_⟩ (lt_line (by omega))
  have k : ∀ b o, s.heap.get? b = some o → (s.heap.push (lstObj (vs ++ ws) 0)).get? b = some o := fun b o e => Heap.get?_push_of_some _ e
  have S' : St c h₀ T H { s with heap := s.heap.push (lstObj (vs ++ ws) 0) } := S.grow (tk := s.toks) k
  refine S'.more fun q hq => ?_
  rcases List.mem_singleton.mp hq with rfl
  simp only [Rep]
  refine ⟨_, vs ++ ws, 0, rfl, Heap.get?_push_size _ rfl, fun hm => ?_, ?_⟩
  · obtain ⟨p, hp, hpa⟩ := List.mem_map.mp hm
    have := S.lt hp
    rw [hpa] at this
    exact Nat.lt_irrefl _ this
  · rw [Array.toList_append]
    exact (r.ev (ev_grow k) _ _).append (r₂.ev (ev_grow k) _ _)

theorem W.len {v : Value} {l : List PV} {Q : Value → Trk → Hold → Prop} (d : Lst T H v l) (hl : l.length ≤ 1000) (h : ∀ t, Q (.int l.length t) T []) : W c h₀ n T H (call (.builtin "len") [v] []) Q := fun A s hA S => by
  obtain ⟨a, vs, m, rfl, ho, r⟩ := d.at S
  have e1 := r.size
  refine Calls.call_len_list ⟨_, ho, rfl, m, rfl⟩ (by omega) ⟨T, [], ?_, S.tok⟩
  rw [e1]; exact h _

theorem W.methList {name : PySem.Str} {id : String} {pl : Sem Bool} {v : Value} {l : List PV} {Q : Value × List Value → Trk → Hold → Prop} (slot : Slot "list" name id) (hty : typeOf (.builtin id) = Pure.pure (.type "method_descriptor")) (d : Lst T H v l)
    (h : Q (.builtin id, [v]) T []) : W c h₀ n T H (getMethod v name pl) Q := fun A s hA S => by
  obtain ⟨a, vs, m, rfl, ho, r⟩ := d.at S
  exact getMethod_builtin ⟨_, ho, rfl⟩ PySem.F.plainAttrs_list slot hty (fun b e => by cases e; exact ⟨_, ho, rfl⟩) ⟨T, [], h, S⟩

/-- n times a list -/
def repN {α : Type} (k : Nat) (l : List α) : List α := (List.replicate k l).flatten
theorem foldl_app {α : Type} : ∀ (ls : List (Array α)) (acc : Array α), (ls.foldl (fun x y => x ++ y) acc).toList = acc.toList ++ (ls.map Array.toList).flatten
  | [], acc => by simp
  | x :: ls, acc => by simp [foldl_app ls, List.append_assoc]
theorem RepL.rep {D : List Addr} {h : Heap} {l : List PV} {vs : List Value} (r : RepL D h l vs) : ∀ k : Nat, RepL D h (repN k l) (repN k vs)
  | 0 => by simp [repN, RepL]
  | k + 1 => by
    have := r.append (RepL.rep r k)
    simpa [repN, List.replicate_succ] using this
theorem mulAt {s : Shared} {a : Addr} {vs : Array Value} {m : Nat} {x : Int} {u : Tok} {A : Around} {E : Value → Shared → Prop} {Q : Value → Shared → Prop} (hl : s.heap.get? a = some (lstObj vs m)) (hlo : -(2 ^ 63 : Int) ≤ x) (hhi : x < 2 ^ 63) (hsz : vs.size * x.toNat ≤ 2 ^ 24)
    (h : Q (.ref s.heap.objs.size) { s with heap := s.heap.push (lstObj (repN x.toNat vs.toList).toArray 0) }) : wpAny (model c.prog c.w) A (binaryOp .Mult (.ref a) (.int x u)) Q E s := by
  have e : List.foldl (fun x1 x2 => x1 ++ x2) #[] (List.replicate (if vs.isEmpty = true then 0 else x.toNat) vs) = (repN x.toNat vs.toList).toArray := by
    apply Array.ext'
    rw [foldl_app]
    simp only [List.map_replicate, List.nil_append, repN]
    by_cases hv : vs.isEmpty = true
    · have : vs.toList = [] := by simpa using hv
      simp [hv, this]
    · simp [hv]
  refine wpAny_binaryOp_repeat_ref (T := "list") (U := "int") (by decide) ⟨_, hl, rfl⟩ (fun s' => typeIs_int s' x u) noFill_list_mul F.fills_int_mul F.slot_int_rmul repeat_list F.slot_int_index.lookup
   (call_meets F.slot_int_rmul (typeIs_int s x u) F.entry_int_rmul (F.args_int_rmul_2 _ _) (int___rmul___int_list x u a vs m)
      ⟨hl, rfl, ⟨_, hl, rfl⟩, call_meets F.slot_list_mul ⟨_, hl, rfl⟩ F.entry_list_mul (F.args_list_mul_2 _ _)
        (AutoListH.list___mul___list_int_3 a vs m x u (by simp [Builtin.List.listFitsIndex]; omega) (by omega) (by simp [Builtin.List.listTooLong, sizeLine]; omega))
        ⟨hl, ?_⟩⟩)
  rw [e]; exact h
theorem W.mulList {v : Value} {l : List PV} {x : Int} {u : Tok} {Q : Value → Trk → Hold → Prop} (d : Lst T H v l) (hlo : -1000 ≤ x) (hhi : x ≤ 1000) (hl : l.length * x.toNat ≤ 1000) (h : ∀ a, Q (.ref a) T [(.lst (repN x.toNat l), .ref a)]) :
    W c h₀ n T H (binaryOp .Mult v (.int x u)) Q := fun A s hA S => by
  obtain ⟨a, vs, m, rfl, ho, r⟩ := d.at S
  have e1 := r.size
  refine mulAt ho (by omega) (by omega) (by rw [e1]; omega) ⟨T, _, h s.heap.objs.size, ?_⟩
  have k : ∀ b o, s.heap.get? b = some o → (s.heap.push (lstObj (repN x.toNat vs.toList).toArray 0)).get? b = some o := fun b o e => Heap.get?_push_of_some _ e
  have S' : St c h₀ T H { s with heap := s.heap.push (lstObj (repN x.toNat vs.toList).toArray 0) } := S.grow (tk := s.toks) k
  refine S'.more fun q hq => ?_
  rcases List.mem_singleton.mp hq with rfl
  simp only [Rep]
  refine ⟨_, _, 0, rfl, Heap.get?_push_size _ rfl, fun hm => ?_, ?_⟩
  · obtain ⟨p, hp, hpa⟩ := List.mem_map.mp hm
    have := S.lt hp
    rw [hpa] at this
    exact Nat.lt_irrefl _ this
  · exact (r.ev (ev_grow k) _ _).rep _
/-- the same, the new list to be turned later -/
theorem W.mulListT {v : Value} {l : List PV} {x : Int} {u : Tok} {Q : Value → Trk → Hold → Prop} (d : Lst T H v l) (hlo : -1000 ≤ x) (hhi : x ≤ 1000) (hl : l.length * x.toNat ≤ 1000) (h : ∀ a, Q (.ref a) ((a, .list (repN x.toNat l)) :: T) []) :
    W c h₀ n T H (binaryOp .Mult v (.int x u)) Q := fun A s hA S => by
  obtain ⟨a, vs, m, rfl, ho, r⟩ := d.at S
  have e1 := r.size
  have k : ∀ b o, s.heap.get? b = some o → (s.heap.push (lstObj (repN x.toNat vs.toList).toArray 0)).get? b = some o := fun b o e => Heap.get?_push_of_some _ e
  refine mulAt ho (by omega) (by omega) (by rw [e1]; omega) ⟨_, [], h s.heap.objs.size, S.track (tk := s.toks) (get_size _) k ⟨_, 0, Heap.get?_push_size _ rfl, RepL.rep (r.ev ⟨fun b o _ e _ => k b o e, fun b hb => ?_⟩ _ _) _⟩⟩
  rcases List.mem_cons.mp hb with rfl | hb
  · exact .inr (get_size _)
  · exact .inl hb
end
end Mine
end

section
open PySem PySem.W PyProof.Rows PySem.Calls PySem.MeetsSeq
set_option Elab.async false
set_option maxRecDepth 100000
set_option linter.unusedVariables false
set_option linter.unusedSimpArgs false
namespace Mine

theorem setItem_at {prog : Program} {w : World} {A : Around} {E : Value → Shared → Prop} {s : Shared} {l : Addr} {items : Array Value} {m : Nat} {k : Int} {t : Tok} {v : Value} {Q : Unit → Shared → Prop} (ho : s.heap.get? l = some (lstObj items m))
    (h0 : 0 ≤ k) (hfit : k < 2 ^ 63) (hn : k < items.size) (hQ : Q () { s with heap := s.heap.update l (Obj.mapSeq (·.setIfInBounds k.toNat v)) }) : wpAny (model prog w) A (setItem (.ref l) (.int k t) v) Q E s := by
  have hl : s.heap.IsList l items := ⟨_, ho, rfl, m, rfl⟩
  unfold setItem
  try with_reducible refine wpAny_holding ?_
  first | refine wpAny_bind (wpAny_pure ?_) | skip
  refine wpAny_bind (wpAny_sequenceKey hl.typeIs (by decide) ?_)
  refine wpAny_bind (wpAny_callSpecial?_slot (name := Str.ofString "__setitem__") hl.typeIs slot_list_setitem
    (wpAny_call_entry slot_list_setitem hl.typeIs entry_list_setitem ?_ (args_list_setitem _ _ _)))
  show wpAny _ _ (Builtin.List.listSubscript? (.int k t) >>= _) _ _ s
  refine wpAny_bind (wpAny_listSubscript_int (fitsIndex_of h0 hfit) ?_)
  clear hfit
  obtain ⟨j, rfl⟩ := Int.eq_ofNat_of_zero_le h0
  have hj : j < items.size := by omega
  have hx' : items[j]? = some items[j] := Array.getElem?_eq_getElem hj
  show wpAny _ _ ((seqItemAt l j >>= fun r => pure (r.map (j, ·))) >>= _) _ _ s
  refine wpAny_bind (wpAny_bind (wpAny_seqItemAt ho rfl (wpAny_pure ?_)))
  rw [hx']
  show wpAny _ _ (setSeqItemAt l j v >>= _) _ _ s
  refine wpAny_bind (wpAny_setSeqItemAt ho rfl ?_)
  first
    | exact wpAny_bind (wpAny_pure (wpAny_pure ⟨.none, rfl, wpAny_pure hQ⟩))
    | exact wpAny_pure ⟨.none, rfl, wpAny_pure hQ⟩

/-- a part of a list, as a slice picks it -/
def slicePV {α : Type} (l : List α) (lo hi st : Option Int) : List α := (sliceRange (sliceBounds lo hi st l.length).1 (sliceBounds lo hi st l.length).2.1 (sliceBounds lo hi st l.length).2.2).filterMap (l[·]?)
theorem RepL.pick {D : List Addr} {h : Heap} {l : List PV} {vs : List Value} (r : RepL D h l vs) : ∀ idx : List Nat, RepL D h (idx.filterMap (l[·]?)) (idx.filterMap (vs[·]?))
  | [] => by simp [RepL]
  | i :: idx => by
    have ih := RepL.pick r idx
    cases e : l[i]? with
    | none =>
      have : vs[i]? = none := by
        rw [List.getElem?_eq_none_iff] at e ⊢
        rw [r.length]; exact e
      simpa [List.filterMap_cons, e, this] using ih
    | some p =>
      obtain ⟨v, h1, h2⟩ := r.get e
      simp only [List.filterMap_cons, e, h1, RepL]
      exact ⟨v, _, rfl, h2, ih⟩

/-- values for trees, each held -/
def bindVs : List PV → (List Value → Hold → Prop) → Prop
  | [], k => k [] []
  | p :: ps, k => ∀ v, bindVs ps fun vs N => k (v :: vs) ((p, v) :: N)
theorem bindVs.out {D : List Addr} {h : Heap} : ∀ {ps : List PV} {vs : List Value} {k : List Value → Hold → Prop}, RepL D h ps vs → bindVs ps k → ∃ N, k vs N ∧ ∀ q ∈ N, Rep D h q.1 q.2
  | [], vs, k, r, b => by simp only [RepL] at r; subst r; exact ⟨[], b, fun _ h => nomatch h⟩
  | p :: ps, vs, k, r, b => by
    simp only [RepL] at r
    obtain ⟨v, ws, rfl, h1, h2⟩ := r
    obtain ⟨N, hk, hN⟩ := bindVs.out h2 (b v)
    refine ⟨_, hk, fun q hq => ?_⟩
    rcases List.mem_cons.mp hq with rfl | hq
    · exact h1
    · exact hN q hq

section
variable {c : Cx} {h₀ : Heap} {n : Nat} {T T' : Trk} {H : Hold} {α : Type} {env : Env} {pos : Pos}

theorem W.setItem {a : Addr} {l : List PV} {i : Int} {k : Nat} {t : Tok} {v : Value} {p : PV} {Q : Unit → Trk → Hold → Prop} (d : Den H v p) (hi : i = (k : Int)) (hk : k < l.length) (hl : l.length ≤ 1000) (x : At a (.list l) (.list (l.set k p)) T T') (h : Q () T' []) :
    W c h₀ n T H (setItem (.ref a) (.int i t) v) Q := fun A s hA S => by
  obtain ⟨vs, m, ho, r⟩ := S.get x.in
  have e1 := r.size
  refine setItem_at ho (by omega) (by omega) (by omega) ⟨T', [], h, ?_⟩
  refine S.setList x ho _ fun hh kk r' => ?_
  have : i.toNat = k := by omega
  rw [this, Array.toList_setIfInBounds]
  exact r'.set k ((S.rep d).ev kk _ _)

theorem W.part_none {Q : Value → Trk → Hold → Prop} (h : Q .none T []) : W c h₀ n T H (evalPart none env) Q := W.pure h
theorem W.part_some {e : Expr} {Q : Value → Trk → Hold → Prop} (h : W c h₀ n T H (eval e env) Q) : W c h₀ n T H (evalPart (some e) env) Q := h

theorem W.SubSlice {value : Expr} {lower upper step : Option Expr} {p : Pos} {ops : Value → Value → List Value} {Q : Value → Trk → Hold → Prop}
    (h : W c h₀ n T H (eval value env) fun o T₁ N₁ => W c h₀ n T₁ (N₁ ++ H) (evalPart lower env) fun vl T₂ N₂ => W c h₀ n T₂ (N₂ ++ (N₁ ++ H)) (evalPart upper env) fun vu T₃ N₃ => W c h₀ n T₃ (N₃ ++ (N₂ ++ (N₁ ++ H))) (evalPart step env) fun vs T₄ N₄ =>
      ∃ l lo hi st, Lst T₄ (N₄ ++ (N₃ ++ (N₂ ++ (N₁ ++ H)))) o l ∧ IsPart vl lo ∧ IsPart vu hi ∧ IsPart vs st ∧ st ≠ some 0 ∧ l.length ≤ 1000 ∧ ∀ a, Q (.ref a) T₄ [(.lst (slicePV l lo hi st), .ref a)])
    (hs : ∀ o i, subscripted (.Slice lower upper step p) false o i = PySem.operate (ops o i) (PySem.getItem o i) := by intro _ _; with_unfolding_all rfl) : W c h₀ n T H (eval (.Subscript value (.Slice lower upper step p) pos) env) Q := by
  intro A s hA S
  rw [eval_Subscript]
  refine wpAny_bind (wpAny_mono (h A s hA S) (fun o s₁ ⟨T₁, N₁, q₁, S₁⟩ => wpAny_bind (wpAny_holding (wpAny_Slice (wpAny_mono (q₁ A s₁ hA S₁) (fun vl s₂ ⟨T₂, N₂, q₂, S₂⟩ =>
    wpAny_mono (q₂ A s₂ hA S₂) (fun vu s₃ ⟨T₃, N₃, q₃, S₃⟩ => wpAny_mono (q₃ A s₃ hA S₃) (fun vs s₄ ⟨T₄, N₄, q₄, S₄⟩ => ?_) fun _ _ x => x) fun _ _ x => x) fun _ _ x => x)))) fun _ _ x => x)
  obtain ⟨l, lo, hi, st, dl, pl, pu, ps, h0, hl, hQ⟩ := q₄
  obtain ⟨a, ws, m, rfl, ho, r⟩ := dl.at S₄
  refine wpAny_bind (wpAny_standAt ?_)
  have ho' : (s₄.heap.push { cls := .type "slice", data := .fields #[vl, vu, vs] }).IsList a ws := ⟨_, Heap.get?_push_of_some _ ho, rfl, m, rfl⟩
  refine tail_any ho'.typeIs slot_list_getitem.lookup ?_ (hs _ _)
  refine wpAny_getItem_list_slice ho' (Heap.IsSliceOf.new ..) pl pu ps h0 ⟨T₄, _, hQ _, ?_⟩ (lt_line (by rw [r.size]; exact hl))
  have k : ∀ b o, s₄.heap.get? b = some o → ((s₄.heap.push { cls := .type "slice", data := .fields #[vl, vu, vs] }).push { cls := .type "list", data := .seq (slicePick ws lo hi st) }).get? b = some o := fun b o e => Heap.get?_push_of_some _ (Heap.get?_push_of_some _ e)
  have S' := S₄.grow (tk := s₄.toks) k
  refine (S'.more (N := [_]) fun q hq => ?_).thin.thin.thin.thin
  rcases List.mem_singleton.mp hq with rfl
  simp only [Rep]
  refine ⟨_, slicePick ws lo hi st, 0, rfl, Heap.get?_push_size _ rfl, fun hm => ?_, ?_⟩
  · obtain ⟨p, hp, hpa⟩ := List.mem_map.mp hm
    have := S₄.lt hp
    rw [hpa, Heap.size_push] at this
    exact Nat.lt_irrefl _ (Nat.lt_of_succ_lt this)
  · have key : (slicePick ws lo hi st).toList = (sliceRange (sliceBounds lo hi st l.length).1 (sliceBounds lo hi st l.length).2.1 (sliceBounds lo hi st l.length).2.2).filterMap (ws.toList[·]?) := by
      unfold slicePick
      rw [r.size]
      simp
    rw [key]
    exact (r.ev (ev_grow k) _ _).pick _

-- targets
theorem W.asName {x : PySem.Str} {v : Value} {Q : Unit → Trk → Hold → Prop} (h : W c h₀ n T H (storeName env x v) Q) : W c h₀ n T H (assign (.Name x pos) env v) Q :=
  W.eqv (assign_Name x pos v) (W.bind (W.standAt (W.bindName h)))
theorem W.asTuple {elts : List Expr} {k : Nat} {v : Value} {ps : List PV} {Q : Unit → Trk → Hold → Prop} (d : Den H v (.tup ps)) (hn : (assignEach elts env).length = ps.length) (hstar : (assignEach elts env).findIdx? (·.1) = none)
    (h : bindVs ps fun vs N => W c h₀ n T (N ++ H) (assignInOrder ((assignEach elts env).map (·.2)) vs) Q) : W c h₀ n T H (assign (.Tuple elts k pos) env v) Q := fun A s hA S => by
  obtain ⟨a, vs, m, rfl, ho, _, r⟩ := rep_tup (S.rep d)
  have e1 := r.size
  refine wpAny_assign_Tuple hA.1 ⟨_, ho, rfl, m, rfl⟩ (by rw [hn, e1]) hstar fun h' he => ?_
  have k : ∀ b o, s.heap.get? b = some o → h'.get? b = some o := fun b o e => he b o (Nat.ne_of_lt (Heap.lt_size e)) e
  have S' : St c h₀ T H { s with heap := h' } := S.grow (tk := s.toks) k
  obtain ⟨N, hq, hN⟩ := bindVs.out (r.ev (ev_grow k) _ _) h
  exact wpAny_mono (hq A _ hA (S'.more hN)) (fun u s' ⟨T', N, q, S₁⟩ => ⟨T', N, q, S₁.thin⟩) fun _ _ x => x
theorem W.ord_nil {Q : Unit → Trk → Hold → Prop} {vs : List Value} (h : Q () T []) : W c h₀ n T H (assignInOrder [] vs) Q := by
  cases vs <;> exact W.pure h
theorem W.ord_cons {f : Value → Sem Unit} {fs : List (Value → Sem Unit)} {v : Value} {vs : List Value} {Q : Unit → Trk → Hold → Prop} (h : W c h₀ n T H (f v) fun _ T₁ _ => W c h₀ n T₁ H (assignInOrder fs vs) Q) : W c h₀ n T H (assignInOrder (f :: fs) (v :: vs)) Q := by
  intro A s hA S
  show wpAny _ A (do PySem.holding vs (f v); assignInOrder fs vs) _ _ s
  exact wpAny_bind (wpAny_holding (wpAny_mono (h A s hA S) (fun u s₁ ⟨T₁, N₁, q, S₁⟩ => q A s₁ hA S₁.drop) fun _ _ x => x))
theorem W.asSub {o i : Expr} {v : Value} {Q : Unit → Trk → Hold → Prop} (h : W c h₀ n T H (eval o env) fun ov T₁ N₁ => W c h₀ n T₁ (N₁ ++ H) (eval i env) fun iv T₂ N₂ => W c h₀ n T₂ (N₂ ++ (N₁ ++ H)) (PySem.setItem ov iv v) fun _ T₃ _ => Q () T₃ []) :
    W c h₀ n T H (assign (.Subscript o i pos) env v) Q :=
  W.eqv (arm_assign_Subscript ..) (W.bind (W.holding (h.mono fun ov T₁ N₁ h₁ => W.bind (W.holding (h₁.mono fun iv T₂ N₂ h₂ => W.bind (W.standAt (W.bind (W.holding (h₂.mono fun u T₃ N₃ h₃ => W.release h₃)))))))))
end
end Mine
end

section
open PySem PySem.W PyProof.Rows PySem.Calls PySem.MeetsSeq
set_option Elab.async false
set_option maxRecDepth 100000
set_option linter.unusedVariables false
set_option linter.unusedSimpArgs false
namespace Mine

def plainIt (o : Obj) : Prop := ∃ n, o.cls = .type n ∧ ["enumerate", "zip", "dict_itemiterator", "dict_reverseitemiterator", "odict_iterator", "itertools.zip_longest", "itertools.pairwise"].contains n = false

theorem go_plain {prog : Program} {w : World} {A : Around} {E : Value → Shared → Prop} {s : Shared} {target : Expr} {I : Addr} {v : Value} {o : Obj} {Q : Unit → Shared → Prop} (ho : s.heap.get? I = some o) (hp : plainIt o) (h : Q () s) :
    wpAny (model prog w) A (letOwnedTupleGo target (.ref I) v) Q E s := by
  obtain ⟨n, hc, hn⟩ := hp
  unfold letOwnedTupleGo
  split
  case h_1 | h_2 =>
    split
    · rename_i heq
      cases heq
      refine wpAny_bind (wpAny_load ho ?_)
      rw [hc]
      split
      · rename_i heq _
        cases heq
        rw [if_neg (by rw [hn]; simp)]
        exact wpAny_pure h
      · exact wpAny_pure h
    · exact wpAny_pure h
  case h_3 => exact wpAny_pure h

abbrev rngObj (k : Nat) (t u v : Tok) : Obj := { cls := .type "range", dict := none, data := .fields #[.int 0 t, .int (k : Int) u, .int 1 v], slots := #[] }
def rngPV (k : Nat) : List PV := (List.range k).map fun (i : Nat) => .int (i : Int)

/-- what may be gone through, and what must stay for it -/
inductive Src (T : Trk) (H : Hold) : Value → List PV → (Trk → Prop) → Prop
  | tup {v l} : Den H v (.tup l) → Src T H v l (fun _ => True)
  | lst {v l} : Den H v (.lst l) → Src T H v l (fun _ => True)
  | own {a l} : In a (.list l) T → Src T H (.ref a) l (fun T' => In a (.list l) T')
  | rng {v k t u x} : Den H v (.im (rngObj k t u x)) → k ≤ 1000 → Src T H v (rngPV k) (fun _ => True)

structure Iter (c : Cx) (H : Hold) (I : Addr) (xs : List PV) (Z : Trk → Prop) (P : Nat → Obj → Prop) : Prop where
  iter : ∀ i o, P i o → isIter o = true
  go : ∀ i o, P (i + 1) o → plainIt o
  next : ∀ (A : Around) (h₀ : Heap) (T : Trk) (s : Shared) (i : Nat) (x : PV) (o : Obj) (Q : Option Value → Shared → Prop) (E : Value → Shared → Prop), A.handled = none → St c h₀ T H s → Z T → s.heap.get? I = some o → P i o → xs[i]? = some x →
    (∀ u h' tk o', s.toks ≤ tk → Heap.ExtBut I s.heap h' → h'.get? I = some o' → P (i + 1) o' → Rep (dom T) s.heap x u → Q (some u) { s with heap := h', toks := tk }) → wpAny (model c.prog c.w) A (pyNext (.ref I)) Q E s
  done : ∀ (A : Around) (h₀ : Heap) (T : Trk) (s : Shared) (i : Nat) (o : Obj) (Q : Option Value → Shared → Prop) (E : Value → Shared → Prop), A.handled = none → St c h₀ T H s → Z T → s.heap.get? I = some o → P i o → i = xs.length →
    (∀ h', Heap.ExtBut I s.heap h' → Q none { s with heap := h' }) → wpAny (model c.prog c.w) A (pyNext (.ref I)) Q E s
  self : ∀ (A : Around) (s : Shared) (i : Nat) (o : Obj) (Q : Value → Shared → Prop) (E : Value → Shared → Prop), s.heap.get? I = some o → P i o → Q (.ref I) s → wpAny (model c.prog c.w) A (pyIter (.ref I)) Q E s

def listIt (b : Addr) (i : Nat) (o : Obj) : Prop := o.cls = .type "list_iterator" ∧ o.data = .fields #[.ref b, .int i 0]
def tupIt (b : Addr) (i : Nat) (o : Obj) : Prop := o.cls = .type "tuple_iterator" ∧ o.data = .fields #[.ref b, .int i 0]
def rngIt (k : Nat) (i : Nat) (o : Obj) : Prop := o = { cls := .type "range_iterator", dict := none, data := .fields #[rawInt (i : Nat), rawInt ((k : Int) - (i : Nat)), rawInt 1], slots := #[] }

/-- what is to be done next, behind a name -/
def Hid {α : Type} (F Q : α → Trk → Hold → Prop) : Prop := ∀ a T N, F a T N → Q a T N
theorem Hid.go {α : Type} {F Q : α → Trk → Hold → Prop} {a : α} {T : Trk} {N : Hold} (k : Hid F Q) (h : F a T N) : Q a T N := k a T N h
theorem Hid.self {α : Type} {F : α → Trk → Hold → Prop} : Hid F F := fun _ _ _ h => h
abbrev FoB (J : Nat → Trk → Prop) (i : Nat) (Q : Flow → Trk → Hold → Prop) : Flow → Trk → Hold → Prop := fun f T N => match f with | .next | .cont => J (i + 1) T | .brk => Q .next T [] | .ret v => Q (.ret v) T N
theorem FoB.next {J : Nat → Trk → Prop} {k : Nat} {Q : Flow → Trk → Hold → Prop} {T : Trk} {N : Hold} (h : J (k + 1) T) : FoB J k Q .next T N := h
/-- one turn -/
abbrev BodK (c : Cx) (h₀ : Heap) (n : Nat) (H : Hold) (body : List Stmt) (env : Env) (Q : Flow → Trk → Hold → Prop) : Unit → Trk → Hold → Prop := fun _ T _ => W c h₀ n T H (execs body env) Q
inductive ForI (c : Cx) (h₀ : Heap) (H : Hold) (I : Addr) (xs : List PV) (P : Nat → Obj → Prop) (J : Nat → Trk → Prop) (m : Nat) (s : Shared) : Prop
  | mk (i : Nat) (T : Trk) (o : Obj) (hm : m = xs.length + 1 - i) (hle : i ≤ xs.length) (hj : J i T) (S : St c h₀ T H s) (hI : s.heap.get? I = some o) (hP : P i o) (hd : I ∉ dom T)
inductive ForS (c : Cx) (h₀ : Heap) (n : Nat) (H : Hold) (target : Expr) (body orelse : List Stmt) (env : Env) (Q : Flow → Trk → Hold → Prop) (J : List PV → Nat → Trk → Prop) (v : Value) (T : Trk) : Prop
  | mk (xs : List PV) (Z : Trk → Prop) (src : Src T H v xs Z) (j0 : J xs 0 T) (hz : ∀ i T₂, J xs i T₂ → Z T₂)
    (turn : ∀ i x T₂, xs[i]? = some x → J xs i T₂ → ∀ h₁ u Q', Hid (FoB (J xs) i Q) Q' → W c h₁ n T₂ ((x, u) :: H) (assign target env u) (BodK c h₁ n ((x, u) :: H) body env Q'))
    (done : ∀ T₂, J xs xs.length T₂ → W c h₀ n T₂ H (execs orelse env) Q)

section
variable {c : Cx} {h₀ : Heap} {n : Nat} {T T' : Trk} {H : Hold} {α : Type} {env : Env} {pos : Pos} {s : Shared}

theorem Iter.list {b : Addr} {xs : List PV} {Z : Trk → Prop} {I : Addr} (hb : ∀ T h₀ s, St c h₀ T H s → Z T → ∃ vs m, s.heap.get? b = some (lstObj vs m) ∧ RepL (dom T) s.heap xs vs.toList) : Iter c H I xs Z (listIt b) where
  iter := fun i o h => by simp [isIter, h.1]
  go := fun i o h => ⟨_, h.1, by decide⟩
  next := fun A h₀ T s i x o Q E hA S hz ho hp hx hQ => by
    obtain ⟨vs, m, hl, r⟩ := hb T h₀ s S hz
    obtain ⟨u, h1, h2⟩ := get_at r hx
    refine wpAny_pyNext_list_item ⟨o, ho, hp.1, hp.2⟩ ⟨_, hl, rfl, m, rfl⟩ h1 fun h' hit hs => ?_
    obtain ⟨o', ho', hc', hd'⟩ := hit
    exact hQ u h' s.toks o' (Nat.le_refl _) hs.extBut ho' ⟨hc', hd'⟩ h2
  done := fun A h₀ T s i o Q E hA S hz ho hp hx hQ => by
    obtain ⟨vs, m, hl, r⟩ := hb T h₀ s S hz
    exact wpAny_pyNext_list_end hA ⟨o, ho, hp.1, hp.2⟩ ⟨_, hl, rfl, m, rfl⟩ (by rw [hx, ← r.size]; simp) fun h' he => hQ h' he
  self := fun A s i o Q E ho hp hQ => wpAny_pyIter_listiter ⟨o, ho, hp.1, hp.2⟩ hQ
theorem Iter.tup {b : Addr} {xs : List PV} {Z : Trk → Prop} {I : Addr} (hb : ∀ T h₀ s, St c h₀ T H s → Z T → ∃ vs m, s.heap.get? b = some (tupObj vs m) ∧ RepL (dom T) s.heap xs vs.toList) : Iter c H I xs Z (tupIt b) where
  iter := fun i o h => by simp [isIter, h.1]
  go := fun i o h => ⟨_, h.1, by decide⟩
  next := fun A h₀ T s i x o Q E hA S hz ho hp hx hQ => by
    obtain ⟨vs, m, hl, r⟩ := hb T h₀ s S hz
    obtain ⟨u, h1, h2⟩ := get_at r hx
    refine wpAny_pyNext_tuple_item ⟨o, ho, hp.1, hp.2⟩ ⟨_, hl, rfl, m, rfl⟩ h1 fun h' hit hs => ?_
    obtain ⟨o', ho', hc', hd'⟩ := hit
    exact hQ u h' s.toks o' (Nat.le_refl _) hs.extBut ho' ⟨hc', hd'⟩ h2
  done := fun A h₀ T s i o Q E hA S hz ho hp hx hQ => by
    obtain ⟨vs, m, hl, r⟩ := hb T h₀ s S hz
    exact wpAny_pyNext_tuple_end hA ⟨o, ho, hp.1, hp.2⟩ ⟨_, hl, rfl, m, rfl⟩ (by rw [hx, ← r.size]; simp) fun h' he => hQ h' he
  self := fun A s i o Q E ho hp hQ => wpAny_pyIter_tupleiter ⟨o, ho, hp.1, hp.2⟩ hQ
theorem Iter.rng {k : Nat} {I : Addr} : Iter c H I (rngPV k) (fun _ => True) (rngIt k) where
  iter := fun i o h => by subst h; rfl
  go := fun i o h => by subst h; exact ⟨_, rfl, by decide⟩
  next := fun A h₀ T s i x o Q E hA S hz ho hp hx hQ => by
    subst hp
    have hlt : i < k := by
      have := (List.getElem?_eq_some_iff.mp hx).1
      simpa [rngPV] using this
    have hxe : x = .int (i : Int) := by
      simp [rngPV, List.getElem?_map, List.getElem?_range, hlt] at hx
      exact hx.symm
    subst hxe
    refine wpAny_pyNext_range_item ho (by omega) fun h' hit hs => ?_
    refine hQ _ h' _ _ (Nat.le_succ _) hs.extBut hit ?_ (by simp only [Rep]; exact ⟨_, rfl⟩)
    unfold rngIt
    have e1 : ((i : Nat) : Int) + 1 = ((i + 1 : Nat) : Int) := by omega
    have e2 : (k : Int) - (i : Nat) - 1 = (k : Int) - ((i + 1 : Nat) : Int) := by omega
    rw [e1, e2]
  done := fun A h₀ T s i o Q E hA S hz ho hp hx hQ => by
    subst hp
    have : i = k := by rw [hx]; simp [rngPV]
    exact wpAny_pyNext_range_end hA ho (by omega) fun h' he => hQ h' he
  self := fun A s i o Q E ho hp hQ => by subst hp; exact wpAny_pyIter_rangeiter ho hQ

theorem Src.iter {v : Value} {xs : List PV} {Z : Trk → Prop} (x : Src T H v xs Z) {A : Around} {Q : Value → Shared → Prop} {E : Value → Shared → Prop} (S : St c h₀ T H s)
    (h : ∀ I P h' o, Iter c H I xs Z P → s.heap.get? I = none → h'.get? I = some o → P 0 o → (∀ b o, s.heap.get? b = some o → h'.get? b = some o) → Q (.ref I) { s with heap := h' }) : wpAny (model c.prog c.w) A (pyIter v) Q E s := by
  cases x with
  | tup d =>
    obtain ⟨a, vs, m, rfl, ho, _, r⟩ := rep_tup (S.rep d)
    exact wpAny_pyIter_tuple ⟨_, ho, rfl, m, rfl⟩ (h _ _ _ _ (Iter.tup (b := a) fun T h₀ s' S' _ => by
      obtain ⟨a', vs', m', e, ho', _, r'⟩ := rep_tup (S'.rep d)
      cases e; exact ⟨vs', m', ho', r'⟩) (get_size _) (Heap.get?_push_size _ rfl) ⟨rfl, rfl⟩ fun b o e => Heap.get?_push_of_some _ e)
  | lst d =>
    obtain ⟨a, vs, m, rfl, ho, _, r⟩ := rep_lst (S.rep d)
    exact wpAny_pyIter_list ⟨_, ho, rfl, m, rfl⟩ (h _ _ _ _ (Iter.list (b := a) fun T h₀ s' S' _ => by
      obtain ⟨a', vs', m', e, ho', _, r'⟩ := rep_lst (S'.rep d)
      cases e; exact ⟨vs', m', ho', r'⟩) (get_size _) (Heap.get?_push_size _ rfl) ⟨rfl, rfl⟩ fun b o e => Heap.get?_push_of_some _ e)
  | own d =>
    obtain ⟨vs, m, ho, r⟩ := S.get d
    exact wpAny_pyIter_list ⟨_, ho, rfl, m, rfl⟩ (h _ _ _ _ (Iter.list fun T h₀ s' S' hz => S'.get hz) (get_size _) (Heap.get?_push_size _ rfl) ⟨rfl, rfl⟩ fun b o e => Heap.get?_push_of_some _ e)
  | rng d hk =>
    rename_i k t u x
    have r := S.rep d
    simp only [Rep] at r
    obtain ⟨a, rfl, ho, _⟩ := r
    have hsm : Builtin.Range.small 0 (k : Int) 1 = true := small_one (by omega) (by omega) (by omega) (by omega)
    refine wpAny_pyIter_range ho hsm (h _ _ _ _ (Iter.rng (k := k)) (get_size _) (Heap.get?_push_size _ rfl) ?_ fun b o e => Heap.get?_push_of_some _ e)
    unfold rngIt
    have : Builtin.Range.rangeSize 0 (k : Int) 1 = (k : Int) - ((0 : Nat) : Int) := by
      rw [rangeSize_one]; split <;> omega
    rw [this]; rfl

/-- an iterator that nothing tracks may be turned -/
theorem St.foreign (S : St c h₀ T H s) {I : Addr} {o : Obj} {h' : Heap} {tk : Nat} (ho : s.heap.get? I = some o) (hi : isIter o = true) (h0 : h₀.get? I = none) (hd : I ∉ dom T) (hs : Heap.ExtBut I s.heap h') (htk : s.toks ≤ tk := by first | exact Nat.le_refl _ | exact Nat.le_succ _ | omega) :
    St c h₀ T H { s with heap := h', toks := tk } := by
  have e : Ev (dom T) s.heap (dom T) h' := ⟨fun a q _ hq hn => hs a q (fun z => by subst z; rw [ho] at hq; cases hq; rw [hi] at hn; cases hn) hq, fun b hb => .inl hb⟩
  refine ⟨S.base, fun b q hq => hs b q (fun z => by subst z; rw [h0] at hq; cases hq) (S.keep b q hq), S.new, fun p hp => ?_, S.nd, fun p hp => (S.held p hp).ev e _ _, S.gens, S.drawn, S.os, Nat.le_trans S.tk htk⟩
  obtain ⟨q, hq⟩ := (S.own p hp).some
  exact (S.own p hp).ev e ((hs _ q (fun z => hd (z ▸ List.mem_map_of_mem hp)) hq).trans hq.symm)
theorem St.forgetTurned {a : Addr} {o : TO} (S : St c h₀ ((a, o) :: T) H s) {h' : Heap} {tk : Nat} (hs : Heap.SameBut a s.heap h') (htk : s.toks ≤ tk := by first | exact Nat.le_refl _ | exact Nat.le_succ _ | omega) : St c h₀ T H { s with heap := h', toks := tk } := by
  have e : Ev (dom ((a, o) :: T)) s.heap (dom T) h' := ⟨fun b q hb hq _ => (hs.2 b fun z => hb (z ▸ List.mem_cons_self ..)).trans hq, fun b hb => .inl (List.mem_cons_of_mem _ hb)⟩
  have off : ∀ p ∈ T, p.1 ≠ a := fun p hp z => (List.nodup_cons.mp S.nd).1 (List.mem_map.mpr ⟨p, hp, z⟩)
  refine ⟨S.base, fun b q hq => (hs.2 b fun z => ?_).trans (S.keep b q hq), fun q hq => S.new q (List.mem_cons_of_mem _ hq), fun q hq => (S.own q (List.mem_cons_of_mem _ hq)).ev e (hs.2 _ (off q hq)), (List.nodup_cons.mp S.nd).2, fun q hq => (S.held q hq).ev e _ _, S.gens, S.drawn, S.os, Nat.le_trans S.tk htk⟩
  have := S.new (a, o) (List.mem_cons_self ..)
  rw [z, this] at hq; cases hq

/-- what is not tracked stays through a turn -/
theorem St.stays {s s' : Shared} {T₀ : Trk} {b : Addr} {o : Obj} (S' : St c (hideAll s.heap (dom T₀)) T H s') (hb : b ∉ dom T₀) (e : s.heap.get? b = some o) : s'.heap.get? b = some o ∧ b ∉ dom T := by
  have e' := hideAll_get (dom T₀) e hb
  refine ⟨S'.keep b o e', fun hm => ?_⟩
  obtain ⟨p, hp, rfl⟩ := List.mem_map.mp hm
  have := S'.new p hp
  rw [e'] at this; cases this

theorem For_wp {target iter : Expr} {body orelse : List Stmt} {Q : Flow → Trk → Hold → Prop} (J : Value → List PV → Nat → Trk → Prop) {A : Around} {s : Shared} (hA : AOk n A)
    (h : wpAny (model c.prog c.w) A (eval iter env) (fun v s₁ => ∃ T₁ N₁, ForS c h₀ n (N₁ ++ H) target body orelse env Q (J v) v T₁ ∧ St c h₀ T₁ (N₁ ++ H) s₁) (fun _ _ => False) s)
    (hs : ∀ x, foldedSetIterable iter env x = Pure.pure x := by intro _; rfl) : wpAny (model c.prog c.w) A (exec (.For target iter body orelse pos) env) (fun f s' => ∃ T' N, Q f T' N ∧ St c h₀ T' (N ++ H) s') (fun _ _ => False) s := by
  refine wpAny_For (wpAny_mono h (fun v s₁ ⟨T₁, N₁, ⟨xs, Z, src, j0, hz, hturn, hend⟩, S₁⟩ => ?_) fun _ _ x => x.elim) hs
  refine src.iter S₁ fun I P h' o it hI hI' hP k => ?_
  have hI0 : h₀.get? I = none := by
    cases q : h₀.get? I with
    | none => rfl
    | some o => have := S₁.keep _ _ q; rw [hI] at this; cases this
  have hId : I ∉ dom T₁ := fun hm => by
    obtain ⟨p, hp, rfl⟩ := List.mem_map.mp hm
    obtain ⟨q, hq⟩ := (S₁.own p hp).some
    rw [hI] at hq; cases hq
  have S₂ : St c h₀ T₁ (N₁ ++ H) { s₁ with heap := h' } := S₁.grow (tk := s₁.toks) k
  refine codeAny_forLoop_any (ForI c h₀ (N₁ ++ H) I xs P (J v xs)) ?_ (xs.length + 1)
    ⟨0, T₁, o, rfl, Nat.zero_le _, j0, S₂, hI', hP, hId⟩
  rintro m s' ⟨i, T₂, o, rfl, hle, hj, S', hIo, hPi, hd⟩
  by_cases hlt : i < xs.length
  · obtain ⟨x, hx⟩ : ∃ x, xs[i]? = some x := ⟨xs[i], by simp [hlt]⟩
    refine it.next A h₀ T₂ s' i x o _ _ hA.1 S' (hz _ _ hj) hIo hPi hx fun u h'' tk o' htk hs' hIo' hP' r => ?_
    have S₃ : St c h₀ T₂ (N₁ ++ H) { s' with heap := h'', toks := tk } := S'.foreign hIo (it.iter _ _ hPi) hI0 hd hs'
    have r' : Rep (dom T₂) h'' x u := r.ev ⟨fun a q _ hq hn => hs' a q (fun z => by subst z; rw [hIo] at hq; cases hq; rw [it.iter _ _ hPi] at hn; cases hn) hq, fun b hb => .inl hb⟩ _ _
    have S₄ : St c h₀ T₂ ((x, u) :: (N₁ ++ H)) { s' with heap := h'', toks := tk } := S₃.hold fun p hp => by
      rcases List.mem_cons.mp hp with rfl | hp
      · exact r'
      · exact S₃.held p hp
    refine go_plain (o := o') hIo' (it.go _ _ hP') ?_
    refine wpAny_mono (hturn i x T₂ hx hj _ u _ .self A _ hA S₄.all) (fun _ s₅ ⟨T₃, N₃, q₃, S₅⟩ => wpAny_mono (q₃ A s₅ hA S₅.drop) (fun f s₆ ⟨T₄, N₄, q, S₆'⟩ => ?_) fun _ _ x => x.elim) fun _ _ x => x.elim
    obtain ⟨hI6, hd6⟩ := S₆'.stays hd hIo'
    have S₆ := S₄.back S₆'
    have S₇ : St c h₀ T₄ (N₁ ++ H) s₆ := S₆.hold fun p hp => S₆.held p (by simp only [List.mem_append, List.mem_cons] at hp ⊢; rcases hp with hp | hp <;> simp [hp])
    cases f with
    | next => exact ⟨_, by omega, i + 1, T₄, o', rfl, hlt, q, S₇, hI6, hP', hd6⟩
    | cont => exact ⟨_, by omega, i + 1, T₄, o', rfl, hlt, q, S₇, hI6, hP', hd6⟩
    | brk => exact ⟨T₄, [], q, S₇.drop⟩
    | ret v => exact ⟨T₄, N₄, q, S₆.hold fun p hp => S₆.held p (by simp only [List.mem_append, List.mem_cons] at hp ⊢; rcases hp with hp | hp <;> simp [hp])⟩
  · have : i = xs.length := by omega
    subst this
    refine it.done A h₀ T₂ s' _ o _ _ hA.1 S' (hz _ _ hj) hIo hPi rfl fun h'' hs' => ?_
    have S₃ : St c h₀ T₂ (N₁ ++ H) { s' with heap := h'' } := S'.foreign (tk := s'.toks) hIo (it.iter _ _ hPi) hI0 hd hs'
    exact wpAny_mono (hend T₂ hj A _ hA S₃) (fun f s₄ ⟨T₄, N₄, q, S₄⟩ => ⟨T₄, N₄, q, S₄.thin⟩) fun _ _ x => x.elim

theorem W.ForG {target iter : Expr} {body orelse : List Stmt} {Q : Flow → Trk → Hold → Prop} (J : Value → List PV → Nat → Trk → Prop)
    (h : W c h₀ n T H (eval iter env) fun v T₁ N₁ => ForS c h₀ n (N₁ ++ H) target body orelse env Q (J v) v T₁)
    (hs : ∀ x, foldedSetIterable iter env x = Pure.pure x := by intro _; rfl) : W c h₀ n T H (exec (.For target iter body orelse pos) env) Q := fun A s hA S => For_wp J hA (h A s hA S) hs
end
end Mine
end

section
open PySem PySem.W PyProof.Rows PySem.Calls PySem.MeetsSeq
set_option Elab.async false
set_option maxRecDepth 100000
set_option linter.unusedVariables false
set_option linter.unusedSimpArgs false
namespace Mine

theorem compLoop_any {prog : Program} {w : World} {A : Around} {R : Result → Shared → Prop} {s : Shared} {elt target iter : Expr} {ifs : List Expr} {scope : Scope} {pos : Pos} {it acc : Value} {env : Env} (I : Nat → Shared → Prop)
    (turn : ∀ n s, I n s → wpAny (model prog w) A (pyNext it) (fun r s₁ => match r with
      | none => R (.ok .next) s₁
      | some v => wpAny (model prog w) A (letOwnedTupleGo target it v) (fun _ s₁' => wpAny (model prog w) A (assign target env v) (fun _ s₂ =>
          wpAny (model prog w) A (forIn ifs true fun c r => if r = true then do let ok ← isTrue c env (eval c env); pure (ForInStep.yield ok) else pure (ForInStep.yield r)) (fun ok s₃ =>
            if ok = true then wpAny (model prog w) A (eval elt env) (fun x s₄ =>
              wpAny (model prog w) A (call (.builtin "list.append") [acc, x]) (fun _ s₅ => ∃ m, m < n ∧ I m s₅) (notedBy (model prog w) A env fun e s' => R (.error e) s') s₄) (notedBy (model prog w) A env fun e s' => R (.error e) s') s₃
            else ∃ m, m < n ∧ I m s₃) (notedBy (model prog w) A env fun e s' => R (.error e) s') s₂) (notedBy (model prog w) A env fun e s' => R (.error e) s') s₁') (notedBy (model prog w) A env fun e s' => R (.error e) s') s₁) (notedBy (model prog w) A env fun e s' => R (.error e) s') s)
    (n : Nat) (h : I n s) :
    codeAny (model prog w) A (.compLoop (.ListComp elt [⟨target, iter, ifs, 0⟩] scope pos) 0 it acc env) R s := by
  refine codeAny_loop rfl I (fun n s hI => ?_) n h
  show wpAny _ A ((compTurn (.ListComp elt [⟨target, iter, ifs, 0⟩] scope pos) 0 it acc env).onRaise (fun x => do noteFrame x env; theTreesLotGoes x)) _ _ s
  refine wpAny_noted ?_
  rw [compTurn_list]
  refine wpAny_bind (wpAny_standAt (wpAny_bind (wpAny_mono (turn n s hI) (fun r s₁ h₁ => ?_) fun _ _ h' => h')))
  cases r with
  | none => exact wpAny_pure h₁
  | some v =>
    refine wpAny_bind (wpAny_mono h₁ (fun _ s₁' h₁' => ?_) fun _ _ h' => h')
    refine wpAny_bind (wpAny_mono h₁' (fun _ s₂ h₂ => wpAny_bind (wpAny_mono h₂ (fun ok s₃ h₃ => ?_) fun _ _ h' => h')) fun _ _ h' => h')
    cases ok with
    | false => exact wpAny_pure ⟨rfl, h₃⟩
    | true =>
      exact wpAny_bind (wpAny_bind (wpAny_mono h₃ (fun x s₄ h₄ => wpAny_bind (wpAny_mono h₄ (fun _ s₅ h₅ => wpAny_pure (wpAny_pure ⟨rfl, h₅⟩)) fun _ _ h' => h')) fun _ _ h' => h'))

def testsOf (ifs : List Expr) (env : Env) : Sem Bool := forIn ifs true fun c r => if r = true then do let ok ← isTrue c env (eval c env); pure (ForInStep.yield ok) else pure (ForInStep.yield r)

abbrev CoE (J : Nat → List PV → Trk → Prop) (H : Hold) (i : Nat) (outs : List PV) (C D : Addr) : Value → Trk → Hold → Prop := fun y T N => ∃ q m T', List.Perm ((C, .frame m) :: (D, .list outs) :: T') T ∧ Den (N ++ H) y q ∧ J (i + 1) (outs ++ [q]) T'
abbrev CoT (c : Cx) (h₁ : Heap) (n : Nat) (J : Nat → List PV → Trk → Prop) (H : Hold) (i : Nat) (outs : List PV) (C D : Addr) (elt : Expr) (env : Env) (Q : Value → Trk → Hold → Prop) : Bool → Trk → Hold → Prop := fun ok T _ => match ok with
  | true => W c h₁ n T H (eval elt env) Q
  | false => ∃ m T', List.Perm ((C, .frame m) :: (D, .list outs) :: T') T ∧ J (i + 1) outs T'
abbrev CoA (c : Cx) (h₁ : Heap) (n : Nat) (H : Hold) (ifs : List Expr) (env : Env) (Q : Bool → Trk → Hold → Prop) : Unit → Trk → Hold → Prop := fun _ T _ => W c h₁ n T H (testsOf ifs env) Q
inductive CompI (c : Cx) (h₀ : Heap) (H : Hold) (I C D : Addr) (xs : List PV) (P : Nat → Obj → Prop) (J : Nat → List PV → Trk → Prop) (m : Nat) (s : Shared) : Prop
  | mk (i : Nat) (outs : List PV) (T : Trk) (fm : List (PySem.Str × PV)) (o : Obj) (hm : m = xs.length + 1 - i) (hle : i ≤ xs.length) (hol : outs.length ≤ i) (hj : J i outs T) (S : St c h₀ ((C, .frame fm) :: (D, .list outs) :: T) H s) (hI : s.heap.get? I = some o) (hP : P i o)
    (hd : I ∉ dom ((C, TO.frame fm) :: (D, TO.list outs) :: T))
inductive CompS (c : Cx) (n : Nat) (H : Hold) (elt target : Expr) (ifs : List Expr) (scope : Scope) (cl : List (PySem.Str × Addr)) (env : Env) (J : List PV → Nat → List PV → Trk → Prop) (E : List PV → Trk → Prop) (v : Value) (T : Trk) : Prop
  | mk (xs : List PV) (Z : Trk → Prop) (src : Src T H v xs Z) (hlen : xs.length ≤ 1000) (j0 : J xs 0 [] T) (hz : ∀ i outs T₂ C D m, J xs i outs T₂ → Z ((C, .frame m) :: (D, .list outs) :: T₂))
    (turn : ∀ i x outs T₂, xs[i]? = some x → J xs i outs T₂ → ∀ h₁ u C D Qe, Hid (CoE (J xs) ((x, u) :: H) i outs C D) Qe → ∀ Qt, Hid (CoT c h₁ n (J xs) ((x, u) :: H) i outs C D elt (compEnvC scope cl C env) Qe) Qt →
        W c h₁ n ((C, .frame []) :: (D, .list outs) :: T₂) ((x, u) :: H) (assign target (compEnvC scope cl C env) u) (CoA c h₁ n ((x, u) :: H) ifs (compEnvC scope cl C env) Qt))
    (done : ∀ outs T₂, J xs xs.length outs T₂ → E outs T₂)

section
variable {c : Cx} {h₀ : Heap} {n : Nat} {T T' : Trk} {H : Hold} {α : Type} {env : Env} {pos : Pos} {s : Shared}

theorem W.tests_nil {Q : Bool → Trk → Hold → Prop} (h : Q true T []) : W c h₀ n T H (testsOf [] env) Q := W.pure h
theorem W.tests_one {e : Expr} {Q : Bool → Trk → Hold → Prop} (h : W c h₀ n T H (isTrue e env (eval e env)) Q) : W c h₀ n T H (testsOf [e] env) Q :=
  fun A s hA S => wpAny_tests_one (h A s hA S)

theorem St.freeze {a : Addr} {l : List PV} (S : St c h₀ ((a, .list l) :: T) H s) : St c h₀ T ([(.lst l, .ref a)] ++ H) s := by
  refine S.forget.more fun q hq => ?_
  rcases List.mem_singleton.mp hq with rfl
  obtain ⟨vs, m, ho, r⟩ := S.own (a, .list l) (List.mem_cons_self ..)
  simp only [Rep]
  have e : Ev (dom ((a, TO.list l) :: T)) s.heap (dom T) s.heap := ⟨fun _ _ _ q _ => q, fun a ha => .inl (List.mem_cons_of_mem _ ha)⟩
  exact ⟨a, vs, m, rfl, ho, (List.nodup_cons.mp S.nd).1, r.ev e _ _⟩

theorem comp_core {elt target iter : Expr} {ifs : List Expr} {scope : Scope} {cl : List (PySem.Str × Addr)} {A : Around} {E : Value → Shared → Prop} {R : Value → Addr → Result → Shared → Prop} {s₂ : Shared} {I : Addr} {P : Nat → Obj → Prop} {xs : List PV} {Z : Trk → Prop}
    (J : Nat → List PV → Trk → Prop) (hA : AOk n A) (hcell : ∀ y ∈ scope.names, y.2 ≠ .cell) (hkind : scope.kind = .function)
    (S₂ : St c h₀ T H s₂) (it : Iter c H I xs Z P) {o : Obj} (hI : s₂.heap.get? I = some o) (hP : P 0 o) (hI0 : h₀.get? I = none) (hId : I ∉ dom T) (hlen : xs.length ≤ 1000) (j0 : J 0 [] T) (hz : ∀ i outs T₂ C D m, J i outs T₂ → Z ((C, .frame m) :: (D, .list outs) :: T₂))
    (hturn : ∀ i x outs T₂, xs[i]? = some x → J i outs T₂ → ∀ h₁ u C D Qe, Hid (CoE J ((x, u) :: H) i outs C D) Qe → ∀ Qt, Hid (CoT c h₁ n J ((x, u) :: H) i outs C D elt (compEnvC scope cl C env) Qe) Qt →
        W c h₁ n ((C, .frame []) :: (D, .list outs) :: T₂) ((x, u) :: H) (assign target (compEnvC scope cl C env) u) (CoA c h₁ n ((x, u) :: H) ifs (compEnvC scope cl C env) Qt))
    (hR : ∀ D C outs T₂ m s', J xs.length outs T₂ → St c h₀ ((C, .frame m) :: (D, .list outs) :: T₂) H s' → R (.ref D) C (.ok .next) s') :
    wpAny (model c.prog c.w) A (PySem.newList []) (fun acc s₃ => wpAny (model c.prog c.w) A (newFunctionEnv scope env.globals cl [] env.qual none .none (some env)) (fun cenv s₄ =>
      codeAny (model c.prog c.w) A (.compStart (.ListComp elt [⟨target, iter, ifs, 0⟩] scope pos) 0 (.ref I) acc { cenv with scope := relabel scope env }) (R acc cenv.locals) s₄) E s₃) E s₂ := by
  refine wpAny_newObj_type (wpAny_newFunctionEnv hcell (by intro y hy; simp at hy) (fun h₁ hns₁ hsb₁ => ?_) hkind)
  dsimp only at hns₁ hsb₁ ⊢
  have k2 : ∀ b o, s₂.heap.get? b = some o → (s₂.heap.push (lstObj #[] 0)).get? b = some o := fun b o e => Heap.get?_push_of_some _ e
  have S₃ : St c h₀ ((s₂.heap.objs.size, .list []) :: T) H { s₂ with heap := s₂.heap.push (lstObj #[] 0) } :=
    S₂.track (tk := s₂.toks) (get_size _) k2 ⟨#[], 0, Heap.get?_push_size _ rfl, by simp [RepL]⟩
  generalize hH2 : s₂.heap.push { cls := .type "list", dict := none, data := .seq ([] : List Value).toArray } = H2 at hns₁ hsb₁ ⊢
  have hH2' : s₂.heap.push (lstObj #[] 0) = H2 := hH2
  rw [hH2'] at S₃ k2
  have k : ∀ b o, H2.get? b = some o → h₁.get? b = some o := fun b o e => hsb₁.extBut b o (Nat.ne_of_lt (Heap.lt_size e)) (Heap.get?_push_of_some _ e)
  have S₄ : St c h₀ ((H2.objs.size, .frame []) :: (s₂.heap.objs.size, .list []) :: T) H { s₂ with heap := h₁, toks := s₂.toks + ([] : List (PySem.Str × Value)).length } :=
    St.track (tk := s₂.toks + ([] : List (PySem.Str × Value)).length) S₃ (get_size _) k ⟨_, hns₁, fun x p hx => nomatch hx⟩
  have hI1 : h₁.get? I = some o := k _ _ (k2 _ _ hI)
  have hId1 : I ∉ dom ((H2.objs.size, TO.frame []) :: (s₂.heap.objs.size, TO.list []) :: T) := fun hm => by
    rcases List.mem_cons.mp hm with e | hm
    · have := Heap.lt_size (k2 _ _ hI)
      rw [e] at this; exact Nat.lt_irrefl _ this
    rcases List.mem_cons.mp hm with e | hm
    · have := Heap.lt_size hI
      rw [e] at this; exact Nat.lt_irrefl _ this
    exact hId hm
  generalize hs4 : ({ s₂ with heap := h₁, toks := s₂.toks + ([] : List (PySem.Str × Value)).length } : Shared) = s₄ at S₄ ⊢
  have hI4 : s₄.heap.get? I = some o := by rw [← hs4]; exact hI1
  have loop : codeAny (model c.prog c.w) A (.compLoop (.ListComp elt [⟨target, iter, ifs, 0⟩] scope pos) 0 (.ref I) (.ref s₂.heap.objs.size) (compEnvC scope cl H2.objs.size env)) (R (.ref s₂.heap.objs.size) H2.objs.size) s₄ := by
    refine compLoop_any (CompI c h₀ H I H2.objs.size s₂.heap.objs.size xs P J) ?_ (xs.length + 1)
      ⟨0, [], T, [], o, rfl, Nat.zero_le _, Nat.le_refl _, j0, S₄, hI4, hP, hId1⟩
    rintro m s' ⟨i, outs, T₂, fm, o, rfl, hle, hol, hj, S', hIo, hPi, hd⟩
    by_cases hlt : i < xs.length
    · obtain ⟨x, hx⟩ : ∃ x, xs[i]? = some x := ⟨xs[i], by simp [hlt]⟩
      refine it.next A h₀ _ s' i x o _ _ hA.1 S' (hz _ _ _ _ _ _ hj) hIo hPi hx fun u h'' tk o' htk hs' hIo' hP' r => ?_
      have S₅ := S'.foreign (tk := tk) hIo (it.iter _ _ hPi) hI0 hd hs'
      have r' := r.ev (D' := dom ((H2.objs.size, TO.frame fm) :: (s₂.heap.objs.size, TO.list outs) :: T₂)) (h' := h'') ⟨fun a q _ hq hn => hs' a q (fun z => by subst z; rw [hIo] at hq; cases hq; rw [it.iter _ _ hPi] at hn; cases hn) hq, fun b hb => .inl hb⟩ _ _
      have S₆ : St c h₀ ((H2.objs.size, .frame []) :: (s₂.heap.objs.size, .list outs) :: T₂) ((x, u) :: H) { s' with heap := h'', toks := tk } := by
        have S₆ := S₅.hold (H' := (x, u) :: H) fun p hp => by
          rcases List.mem_cons.mp hp with rfl | hp
          · exact r'
          · exact S₅.held p hp
        refine ⟨S₆.base, S₆.keep, fun p hp => ?_, fun p hp => ?_, S₆.nd, S₆.held, S₆.gens, S₆.drawn, S₆.os, S₆.tk⟩
        · rcases List.mem_cons.mp hp with rfl | hp
          · exact S₆.new (_, .frame fm) (List.mem_cons_self ..)
          · exact S₆.new p (List.mem_cons_of_mem _ hp)
        · rcases List.mem_cons.mp hp with rfl | hp
          · obtain ⟨mv, hn, _⟩ := S₆.own (_, .frame fm) (List.mem_cons_self ..)
            exact ⟨mv, hn, fun x p hx => nomatch hx⟩
          · exact S₆.own p (List.mem_cons_of_mem _ hp)
      have hd6 : I ∉ dom ((H2.objs.size, TO.frame []) :: (s₂.heap.objs.size, TO.list outs) :: T₂) := hd
      clear S₅
      refine go_plain (o := o') hIo' (it.go _ _ hP') ?_
      refine wpAny_mono (hturn i x outs T₂ hx hj _ u _ _ _ .self _ .self A _ hA S₆.all) (fun _ s₇ ⟨T₃, N₃, q₃, S₇⟩ => wpAny_mono (q₃ A s₇ hA S₇.drop) (fun ok s₈ ⟨T₄, N₄, q₄, S₈⟩ => ?_) fun _ _ x => x.elim) fun _ _ x => x.elim
      cases ok with
      | false =>
        obtain ⟨m', T₆, hp, hj'⟩ := q₄
        obtain ⟨hI8, hd8⟩ := S₈.stays hd6 hIo'
        have S₉ := (S₆.back S₈).drop.perm hp
        refine ⟨_, by omega, i + 1, outs, T₆, m', o', rfl, hlt, by omega, hj', S₉.hold fun p hp => S₉.held p (List.mem_cons_of_mem _ hp), hI8, hP', fun hm => hd8 ((hp.map (·.1)).subset hm)⟩
      | true =>
        refine wpAny_mono (q₄ A s₈ hA S₈.drop) (fun y s₉ ⟨T₅, N₅, ⟨q, m', T₆, hp, d, hj'⟩, S₉⟩ => ?_) fun _ _ x => x.elim
        obtain ⟨hI9, hd9⟩ := S₉.stays hd6 hIo'
        have Sa := (S₆.back S₉).perm hp
        have app := W.append (c := c) (h₀ := h₀) (n := n) (Q := fun v T' N => T' = (H2.objs.size, .frame m') :: (s₂.heap.objs.size, .list (outs ++ [q])) :: T₆) d (.tail .head) (by omega) rfl
        have hd10 : I ∉ dom ((H2.objs.size, TO.frame m') :: (s₂.heap.objs.size, TO.list outs) :: T₆) := fun hm => hd9 ((hp.map (·.1)).subset hm)
        have ap := app A s₉ hA Sa
        have app' := W.append (c := c) (h₀ := hideAll s₉.heap (dom ((H2.objs.size, TO.frame m') :: (s₂.heap.objs.size, TO.list outs) :: T₆))) (n := n) (Q := fun v T' N => T' = (H2.objs.size, .frame m') :: (s₂.heap.objs.size, .list (outs ++ [q])) :: T₆) d (.tail .head) (by omega) rfl
        refine wpAny_mono (app' A s₉ hA Sa.all) (fun _ s₁₀ ⟨T₇, N₇, e, S₁₀⟩ => ?_) fun _ _ x => x.elim
        subst e
        obtain ⟨hI10, hd11⟩ := S₁₀.stays hd10 hI9
        have Sb := Sa.back S₁₀
        refine ⟨_, by omega, i + 1, outs ++ [q], T₆, m', o', rfl, hlt, by simp; omega, hj', Sb.hold fun p hp => Sb.held p (by simp [hp]), hI10, hP', hd11⟩
    · have : i = xs.length := by omega
      subst this
      refine it.done A h₀ _ s' _ o _ _ hA.1 S' (hz _ _ _ _ _ _ hj) hIo hPi rfl fun h'' hs' => ?_
      exact hR _ _ _ _ _ _ hj (S'.foreign (tk := s'.toks) hIo (it.iter _ _ hPi) hI0 hd hs')
  exact codeAny_compStart_list loop (it.self A s₄ 0 o _ _ hI4 hP loop)

theorem W.ListCompG {elt target iter : Expr} {ifs : List Expr} {scope : Scope} {cl : List (PySem.Str × Addr)} {Q : Value → Trk → Hold → Prop} (J : Value → List PV → Nat → List PV → Trk → Prop)
    (hclos : closureFor scope env = Pure.pure cl)
    (h : W c h₀ n T H (eval iter env) fun v T₁ N₁ => CompS c n (N₁ ++ H) elt target ifs scope cl env (J v) (fun outs T₂ => ∀ D, Q (.ref D) T₂ [(.lst outs, .ref D)]) v T₁)
    (hcell : ∀ y ∈ scope.names, y.2 ≠ .cell := by decide) (hkind : scope.kind = .function := by rfl) (hnames : ∀ y ∈ scope.names, y.2 = .local → scope.names.lookup y.1 = some .local := by decide)
    (hs : ∀ x, foldedSetIterable iter env x = Pure.pure x := by intro _; rfl) : W c h₀ n T H (eval (.ListComp elt [⟨target, iter, ifs, 0⟩] scope pos) env) Q := by
  intro A s hA S
  rw [eval_ListComp]
  refine wpAny_comprehension_free (use := none) rfl hs hclos hkind hnames (wpAny_mono (h A s hA S) (fun v s₁ ⟨T₁, N₁, ⟨xs, Z, src, hlen, j0, hz, hturn, hend⟩, S₁⟩ => ?_) fun _ _ e => e)
  refine src.iter S₁ fun I P h' o it hI hI' hP k => ?_
  have hI0 : h₀.get? I = none := by
    cases q : h₀.get? I with
    | none => rfl
    | some o => have := S₁.keep _ _ q; rw [hI] at this; cases this
  have hId : I ∉ dom T₁ := fun hm => by
    obtain ⟨p, hp, rfl⟩ := List.mem_map.mp hm
    obtain ⟨q, hq⟩ := (S₁.own p hp).some
    rw [hI] at hq; cases hq
  have S₂ : St c h₀ T₁ (N₁ ++ H) { s₁ with heap := h' } := S₁.grow (tk := s₁.toks) k
  refine comp_core (R := fun acc C => compPost (model c.prog c.w) A (fun _ _ => False) none (fun a s' => ∃ T' N, Q a T' N ∧ St c h₀ T' (N ++ H) s') acc C) (J v xs) hA hcell hkind S₂ it hI' hP hI0 hId hlen j0 hz hturn ?_
  intro D C outs T₂ m s' hj S'
  obtain ⟨mv, hn, _⟩ := S'.own (C, .frame m) (List.mem_cons_self ..)
  refine ⟨mv, hn, fun h'' hs'' => ⟨T₂, _, hend outs T₂ hj D, ?_⟩⟩
  exact ((S'.forgetTurned (tk := s'.toks) hs'').freeze).thin

theorem W.AssignListComp {elt target iter : Expr} {ifs : List Expr} {scope : Scope} {cl : List (PySem.Str × Addr)} {y : PySem.Str} {py spos : Pos} {Q : Flow → Trk → Hold → Prop} (J : Value → List PV → Nat → List PV → Trk → Prop)
    (hsw : swapsWith (.ListComp elt [⟨target, iter, ifs, 0⟩] scope pos) (some (.Name y py)) spos.line env = Pure.pure true)
    (hclos : closureFor scope env = Pure.pure cl)
    (h : W c h₀ n T H (eval iter env) fun v T₁ N₁ => CompS c n (N₁ ++ H) elt target ifs scope cl env (J v) (fun outs T₂ => ∀ D C, W c h₀ n ((C, .frame []) :: T₂) ([(.lst outs, .ref D)] ++ (N₁ ++ H)) (storeName env y (.ref D)) fun _ T₃ _ => ∃ m T₄, T₃ = (C, .frame m) :: T₄ ∧ Q .next T₄ []) v T₁)
    (hcell : ∀ y ∈ scope.names, y.2 ≠ .cell := by decide) (hkind : scope.kind = .function := by rfl) (hnames : ∀ y ∈ scope.names, y.2 = .local → scope.names.lookup y.1 = some .local := by decide)
    (hs : ∀ x, foldedSetIterable iter env x = Pure.pure x := by intro _; rfl) : W c h₀ n T H (exec (.Assign [.Name y py] (.ListComp elt [⟨target, iter, ifs, 0⟩] scope pos) spos) env) Q := by
  intro A s hA S
  rw [exec_Assign_Name_used _ _ _ _ hsw]
  refine wpAny_bind (wpAny_standAt (wpAny_bind ?_))
  show wpAny _ A (do let _ ← comprehension (.ListComp elt [⟨target, iter, ifs, 0⟩] scope pos) scope env _ (PySem.newList []) false (eval iter env) (some (assign (.Name y py) env))) _ _ s
  refine wpAny_bind (wpAny_mono (wpAny_comprehension_free (use := some (assign (.Name y py) env)) (Q := fun _ s' => ∃ T' N, Q .next T' N ∧ St c h₀ T' (N ++ H) s') rfl hs hclos hkind hnames
    (wpAny_mono (h A s hA S) (fun v s₁ ⟨T₁, N₁, ⟨xs, Z, src, hlen, j0, hz, hturn, hend⟩, S₁⟩ => ?_) fun _ _ e => e)) (fun _ s' hq => wpAny_pure (wpAny_pure hq)) fun _ _ e => e)
  refine src.iter S₁ fun I P h' o it hI hI' hP k => ?_
  have hI0 : h₀.get? I = none := by
    cases q : h₀.get? I with
    | none => rfl
    | some o => have := S₁.keep _ _ q; rw [hI] at this; cases this
  have hId : I ∉ dom T₁ := fun hm => by
    obtain ⟨p, hp, rfl⟩ := List.mem_map.mp hm
    obtain ⟨q, hq⟩ := (S₁.own p hp).some
    rw [hI] at hq; cases hq
  have S₂ : St c h₀ T₁ (N₁ ++ H) { s₁ with heap := h' } := S₁.grow (tk := s₁.toks) k
  refine comp_core (R := fun acc C => compPost (model c.prog c.w) A (fun _ _ => False) (some (assign (.Name y py) env)) (fun _ s' => ∃ T' N, Q .next T' N ∧ St c h₀ T' (N ++ H) s') acc C) (J v xs) hA hcell hkind S₂ it hI' hP hI0 hId hlen j0 hz hturn ?_
  intro D C outs T₂ m s' hj S'
  show wpAny _ A (assign (.Name y py) env (.ref D)) _ _ _
  have S₃ : St c h₀ ((C, .frame []) :: T₂) ([(.lst outs, .ref D)] ++ (N₁ ++ H)) s' := by
    have hp : List.Perm ((D, TO.list outs) :: (C, TO.frame m) :: T₂) ((C, TO.frame m) :: (D, TO.list outs) :: T₂) := .swap ..
    have S₃ := (S'.perm hp).freeze
    refine ⟨S₃.base, S₃.keep, fun p hp => ?_, fun p hp => ?_, S₃.nd, S₃.held, S₃.gens, S₃.drawn, S₃.os, S₃.tk⟩
    · rcases List.mem_cons.mp hp with rfl | hp
      · exact S₃.new (_, .frame m) (List.mem_cons_self ..)
      · exact S₃.new p (List.mem_cons_of_mem _ hp)
    · rcases List.mem_cons.mp hp with rfl | hp
      · obtain ⟨mv, hn, _⟩ := S₃.own (_, .frame m) (List.mem_cons_self ..)
        exact ⟨mv, hn, fun x p hx => nomatch hx⟩
      · exact S₃.own p (List.mem_cons_of_mem _ hp)
  have key : W c h₀ n ((C, .frame []) :: T₂) ([(.lst outs, .ref D)] ++ (N₁ ++ H)) (assign (.Name y py) env (.ref D)) fun _ T₃ _ => ∃ m T₄, T₃ = (C, .frame m) :: T₄ ∧ Q .next T₄ [] :=
    W.asName (hend outs T₂ hj D C)
  refine wpAny_mono (key A s' hA S₃) (fun _ s'' ⟨T₃, N₃, ⟨m', T₄, e, q⟩, S₄⟩ => ?_) fun _ _ x => x
  subst e
  obtain ⟨mv, hn, _⟩ := S₄.own (C, .frame m') (List.mem_cons_self ..)
  refine ⟨mv, hn, fun h'' hs'' => ⟨T₄, [], q, ?_⟩⟩
  have S₅ := S₄.forgetTurned (tk := s''.toks) hs''
  exact S₅.hold fun p hp => S₅.held p (by
    simp only [List.nil_append] at hp
    simp [hp])
end
end Mine
end

section
open PySem PySem.W PyProof.Rows PySem.Calls PySem.MeetsSeq
set_option Elab.async false
set_option maxRecDepth 100000
set_option linter.unusedVariables false
set_option linter.unusedSimpArgs false
namespace Mine

section
variable {c : Cx} {h₀ : Heap} {n : Nat} {T T' : Trk} {H : Hold} {α : Type} {env : Env} {pos : Pos} {s : Shared}

theorem W.AssignTuple {elts : List Expr} {k : Nat} {tpos : Pos} {value : Expr} {Q : Flow → Trk → Hold → Prop}
    (h : W c h₀ n T H (eval value env) fun v T₁ N₁ => W c h₀ n T₁ (N₁ ++ H) (assign (.Tuple elts k tpos) env v) fun _ T₂ _ => Q .next T₂ [])
    (hs : swapsWithSole [.Tuple elts k tpos] value pos.line env = Pure.pure false := by rfl) (hw : swappedStores [.Tuple elts k tpos] value env = Pure.pure none := by rfl) :
    W c h₀ n T H (exec (.Assign [.Tuple elts k tpos] value pos) env) Q := fun A s hA S => by
  refine Assign_Tuple (wpAny_mono (h A s hA S) (fun v s₁ ⟨T₁, N₁, q, S₁⟩ => wpAny_mono (q A s₁ hA S₁) (fun _ s₂ ⟨T₂, N₂, q₂, S₂⟩ => ⟨T₂, [], q₂, S₂.drop.drop⟩) fun _ _ x => x) fun _ _ x => x) hs hw

theorem W.AssignSwap {elts : List Expr} {k : Nat} {tpos : Pos} {value : Expr} {names : List PySem.Str} {Q : Flow → Trk → Hold → Prop}
    (hw : swappedStores [.Tuple elts k tpos] value env = Pure.pure (some names))
    (h : W c h₀ n T H (eval value env) fun v T₁ N₁ => ∃ ps, Den (N₁ ++ H) v (.tup ps) ∧ names.length = ps.length ∧
      bindVs ps fun vs N => W c h₀ n T₁ (N ++ (N₁ ++ H)) (assignInOrder (names.reverse.map fun n => PySem.bindName env n) vs.reverse) fun _ T₂ _ => Q .next T₂ [])
    (hs : swapsWithSole [.Tuple elts k tpos] value pos.line env = Pure.pure false := by rfl) :
    W c h₀ n T H (exec (.Assign [.Tuple elts k tpos] value pos) env) Q := fun A s hA S => by
  refine Assign_Tuple_swapped (wpAny_mono (h A s hA S) (fun v s₁ ⟨T₁, N₁, ⟨ps, d, hl, hb⟩, S₁⟩ => ?_) fun _ _ x => x) hs hw
  obtain ⟨a, vs, m, rfl, ho, _, r⟩ := rep_tup (S₁.rep d)
  have e1 := r.size
  have hlen : names.length = vs.size := by rw [hl, e1]
  rw [hlen]
  refine unpackItems_tuple hA.1 ⟨_, ho, rfl, m, rfl⟩ fun h' he => ?_
  have k : ∀ b o, s₁.heap.get? b = some o → h'.get? b = some o := fun b o e => he b o (Nat.ne_of_lt (Heap.lt_size e)) e
  have S' : St c h₀ T₁ (N₁ ++ H) { s₁ with heap := h' } := S₁.grow (tk := s₁.toks) k
  obtain ⟨N, hq, hN⟩ := bindVs.out (r.ev (ev_grow k) _ _) hb
  exact wpAny_mono (hq A _ hA (S'.more hN)) (fun u s' ⟨T', N, q, S₁⟩ => ⟨T', [], q, S₁.drop.drop.drop⟩) fun _ _ x => x

theorem W.AssignSub {o i : Expr} {tpos : Pos} {value : Expr} {Q : Flow → Trk → Hold → Prop}
    (h : W c h₀ n T H (eval value env) fun v T₁ N₁ => W c h₀ n T₁ (N₁ ++ H) (assign (.Subscript o i tpos) env v) fun _ T₂ _ => Q .next T₂ [])
    (hs : swapsWithSole [.Subscript o i tpos] value pos.line env = Pure.pure false := by rfl) (hw : swappedStores [.Subscript o i tpos] value env = Pure.pure none := by rfl) :
    W c h₀ n T H (exec (.Assign [.Subscript o i tpos] value pos) env) Q := fun A s hA S => by
  refine wpAny_Assign_stores (wpAny_mono (h A s hA S) (fun v s₁ ⟨T₁, N₁, q, S₁⟩ => ?_) fun _ _ x => x) hs hw
  show wpAny _ A (assign (.Subscript o i tpos) env v) _ _ _
  exact wpAny_mono (q A s₁ hA S₁) (fun _ s₂ ⟨T₂, N₂, q₂, S₂⟩ => ⟨T₂, [], q₂, S₂.drop.drop⟩) fun _ _ x => x
theorem W.bName {x : PySem.Str} {v : Value} {Q : Unit → Trk → Hold → Prop} (h : W c h₀ n T H (storeName env x v) Q) : W c h₀ n T H ((fun n => PySem.bindName env n) x v) Q := W.bindName h
end
end Mine
end

section
open PySem PySem.W PyProof.Rows PySem.Calls PySem.MeetsSeq
set_option Elab.async false
set_option maxRecDepth 100000
set_option linter.unusedVariables false
set_option linter.unusedSimpArgs false
namespace Mine

def cmpGt : PV → PV → Bool
  | .int a, .int b => decide (a > b)
  | .flt a, .flt b => Float64.cmp a b == some Ordering.gt
  | _, _ => false
def cmpLt : PV → PV → Bool
  | .int a, .int b => decide (a < b)
  | .flt a, .flt b => Float64.cmp a b == some Ordering.lt
  | _, _ => false
def maxPV : List PV → PV
  | [] => .none
  | x :: r => r.foldl (fun m y => if cmpGt y m then y else m) x
def minPV : List PV → PV
  | [] => .none
  | x :: r => r.foldl (fun m y => if cmpLt y m then y else m) x
def isInt : PV → Bool | .int _ => true | _ => false
def isFlt : PV → Bool | .flt _ => true | _ => false
def truncI (x : UInt64) : Int := PySem.Flt.toInt Float64.truncOf x

theorem foldBest (g : PV → PV → Bool) : ∀ (r : List PV) (pre : List PV) (m : PV) (xs : List PV), xs = pre ++ r → pre ≠ [] → xs[argBest (fun i j => g (xs.getD i .none) (xs.getD j .none)) (pre.length - 1)]? = some m →
    xs[argBest (fun i j => g (xs.getD i .none) (xs.getD j .none)) (xs.length - 1)]? = some (r.foldl (fun m y => if g y m then y else m) m)
  | [], pre, m, xs, e, hne, h => by
    subst e
    simpa using h
  | y :: r, pre, m, xs, e, hne, h => by
    rw [List.foldl_cons]
    refine foldBest g r (pre ++ [y]) _ xs (by rw [e]; simp) (by simp) ?_
    obtain ⟨k, hk⟩ : ∃ k, pre.length = k + 1 := ⟨pre.length - 1, by
      have := List.length_pos_iff.mpr hne
      omega⟩
    rw [List.length_append, hk]
    rw [hk] at h
    simp only [Nat.add_sub_cancel] at h
    have hy : xs.getD (k + 1) .none = y := by
      rw [e, List.getD_eq_getElem?_getD, List.getElem?_append_right (by omega), hk]; simp
    have hy' : xs[k + 1]? = some y := by
      rw [e, List.getElem?_append_right (by omega), hk]; simp
    have hm : xs.getD (argBest (fun i j => g (xs.getD i .none) (xs.getD j .none)) k) .none = m := by
      rw [List.getD_eq_getElem?_getD, h]; rfl
    show xs[argBest (fun i j => g (xs.getD i .none) (xs.getD j .none)) (k + 1)]? = _
    generalize hB : (fun i j => g (xs.getD i .none) (xs.getD j .none)) = bt at h hm ⊢
    have key : bt (k + 1) (argBest bt k) = g y m := by
      rw [← hm, ← hy, ← hB]
    simp only [argBest]
    cases hg : g y m with
    | true => rw [hg] at key; simpa [key] using hy'
    | false => rw [hg] at key; simpa [key] using h

theorem getD_of {xs : List PV} {i : Nat} {p : PV} (h : xs[i]? = some p) : xs.getD i .none = p := by rw [List.getD_eq_getElem?_getD, h]; rfl

section
variable {c : Cx} {h₀ : Heap} {n : Nat} {T T' : Trk} {H : Hold} {α : Type} {env : Env} {pos : Pos} {s : Shared}

theorem W.intF {x : UInt64} {t : Tok} {Q : Value → Trk → Hold → Prop} (hf : Float64.isFinite x = true) (h : ∀ t, Q (.int (truncI x) t) T []) : W c h₀ n T H (call (.type "int") [.float x t] []) Q := fun A s hA S => by
  rcases PySem.Flt.three x with ⟨hd, _⟩ | ⟨_, hd, _⟩ | ⟨sg, m, e, hd, _⟩
  · unfold Float64.isFinite at hf; rw [hd] at hf; cases hf
  · unfold Float64.isFinite at hf; rw [hd] at hf; cases hf
  · refine call_int_float hd ⟨T, [], ?_, S.tok⟩
    have : Float64.truncOf sg m e = truncI x := (PySem.Flt.toInt_fin hd).symm
    rw [this]; exact h _

theorem isInt_of {p : PV} (h : isInt p = true) : ∃ a, p = .int a := by
  cases p <;> first | exact ⟨_, rfl⟩ | exact nomatch h
theorem isFlt_of {p : PV} (h : isFlt p = true) : ∃ a, p = .flt a := by
  cases p <;> first | exact ⟨_, rfl⟩ | exact nomatch h
theorem num_cases {p q : PV} (ht : (isInt p && isInt q || isFlt p && isFlt q) = true) : (∃ a b, p = .int a ∧ q = .int b) ∨ (∃ a b, p = .flt a ∧ q = .flt b) := by
  rw [Bool.or_eq_true, Bool.and_eq_true, Bool.and_eq_true] at ht
  exact ht.imp (fun h => (isInt_of h.1).elim fun a e => (isInt_of h.2).elim fun b f => ⟨a, b, e, f⟩) fun h => (isFlt_of h.1).elim fun a e => (isFlt_of h.2).elim fun b f => ⟨a, b, e, f⟩
theorem gt_pv {D : List Addr} {h : Heap} {A : Around} {E : Value → Shared → Prop} {Q : Value → Shared → Prop} {p q : PV} {v w : Value} (hp : Rep D h p v) (hq : Rep D h q w) (ht : (isInt p && isInt q || isFlt p && isFlt q) = true) (hQ : Q (.bool (cmpGt p q)) s) :
    wpAny (model c.prog c.w) A (richCompare .Gt v w) Q E s := by
  obtain ⟨a, b, rfl, rfl⟩ | ⟨a, b, rfl, rfl⟩ := num_cases ht
  · simp only [Rep] at hp hq
    obtain ⟨t, rfl⟩ := hp
    obtain ⟨u, rfl⟩ := hq
    exact richCompare_gives (op := .Gt) (typeIs_int s _ t) (typeIs_int s _ u) F.slot_int_gt F.entry_int_gt (F.args_int_gt_2 _ _) (gives_int_gt _ _ t u) (fun x => nomatch x) hQ
  · simp only [Rep] at hp hq
    obtain ⟨t, rfl, _⟩ := hp
    obtain ⟨u, rfl, _⟩ := hq
    exact richCompare_gives (op := .Gt) (AutoFloatOps.typeIs_float s _ t) (AutoFloatOps.typeIs_float s _ u) F.slot_float_gt F.entry_float_gt (F.args_float_gt_2 _ _) (AutoFloatG4.float___gt___float_float_0 _ t _ u) (fun x => nomatch x) hQ
theorem lt_pv {D : List Addr} {h : Heap} {A : Around} {E : Value → Shared → Prop} {Q : Value → Shared → Prop} {p q : PV} {v w : Value} (hp : Rep D h p v) (hq : Rep D h q w) (ht : (isInt p && isInt q || isFlt p && isFlt q) = true) (hQ : Q (.bool (cmpLt p q)) s) :
    wpAny (model c.prog c.w) A (richCompare .Lt v w) Q E s := by
  obtain ⟨a, b, rfl, rfl⟩ | ⟨a, b, rfl, rfl⟩ := num_cases ht
  · simp only [Rep] at hp hq
    obtain ⟨t, rfl⟩ := hp
    obtain ⟨u, rfl⟩ := hq
    exact richCompare_gives (op := .Lt) (typeIs_int s _ t) (typeIs_int s _ u) F.slot_int_lt F.entry_int_lt (F.args_int_lt_2 _ _) (gives_int_lt _ _ t u) (fun x => nomatch x) hQ
  · simp only [Rep] at hp hq
    obtain ⟨t, rfl, _⟩ := hp
    obtain ⟨u, rfl, _⟩ := hq
    exact richCompare_gives (op := .Lt) (AutoFloatOps.typeIs_float s _ t) (AutoFloatOps.typeIs_float s _ u) F.slot_float_lt F.entry_float_lt (F.args_float_lt_2 _ _) (AutoFloatG5.float___lt___float_float_0 _ t _ u) (fun x => nomatch x) hQ

def sameNum (xs : List PV) : Bool := xs.all isInt || xs.all isFlt
theorem same_two {xs : List PV} (hs : sameNum xs = true) {i j : Nat} {p q : PV} (hp : xs[i]? = some p) (hq : xs[j]? = some q) : (isInt p && isInt q || isFlt p && isFlt q) = true := by
  have mp := List.mem_of_getElem? hp
  have mq := List.mem_of_getElem? hq
  unfold sameNum at hs
  rcases Bool.or_eq_true_iff.mp hs with h | h
  · rw [List.all_eq_true] at h; simp [h p mp, h q mq]
  · rw [List.all_eq_true] at h; simp [h p mp, h q mq]

theorem W.maxL {v : Value} {xs : List PV} {Q : Value → Trk → Hold → Prop} (d : Lst T H v xs) (hne : xs ≠ []) (hs : sameNum xs = true) (h : give (maxPV xs) fun v N => Q v T N) : W c h₀ n T H (call (.builtin "max") [v] []) Q := fun A s hA S => by
  obtain ⟨a, vs, m, rfl, ho, r⟩ := d.at S
  have ha : a ≠ s.heap.objs.size := Nat.ne_of_lt (Heap.lt_size ho)
  refine wpAny_with_toks (n := s.toks) (Nat.le_refl _) (call_max_walk (wpAny_pyIter_list ⟨_, ho, rfl, m, rfl⟩ ?_))
  refine ⟨_, [s.heap.objs.size, a], [s.heap.objs.size], vs.size, _, _, fun i j => cmpGt (xs.getD i .none) (xs.getD j .none), rfl, Walks.list (A := A.in1) hA.1 _ a ha vs, ⟨⟨_, Heap.get?_push_size _ rfl, rfl, rfl⟩, Heap.IsList.push ⟨_, ho, rfl, m, rfl⟩ _⟩, fun b hb => ?_, ?_, ?_, fun v h' tk hP hk htk => ?_⟩
  · show b < (s.heap.push _).objs.size
    rw [Heap.size_push]
    rcases List.mem_cons.mp hb with rfl | hb
    · exact Nat.lt_succ_self _
    · rcases List.mem_cons.mp hb with rfl | hb
      · exact Nat.lt_succ_of_lt (Heap.lt_size ho)
      · cases hb
  · rw [r.size]; exact List.length_pos_iff.mpr hne
  · intro i j vi vj s' Q E hi hj hQ
    have hli : i < xs.length := by rw [← r.size]; exact (Array.getElem?_eq_some_iff.mp hi).1
    have hlj : j < xs.length := by rw [← r.size]; exact (Array.getElem?_eq_some_iff.mp hj).1
    have ei : xs[i]? = some xs[i] := List.getElem?_eq_getElem hli
    have ej : xs[j]? = some xs[j] := List.getElem?_eq_getElem hlj
    obtain ⟨wi, h1, h2⟩ := get_at r ei
    obtain ⟨wj, h3, h4⟩ := get_at r ej
    rw [hi] at h1; cases h1
    rw [hj] at h3; cases h3
    dsimp only at hQ
    rw [getD_of ei, getD_of ej] at hQ
    exact gt_pv h2 h4 (same_two hs ei ej) hQ
  · have k : ∀ b o, s.heap.get? b = some o → h'.get? b = some o := fun b o e => hk b o (fun hm => by
      rcases List.mem_singleton.mp hm with rfl
      exact Nat.lt_irrefl _ (Heap.lt_size e)) (Heap.get?_push_of_some _ e)
    have S' : St c h₀ T H { s with heap := h', toks := tk } := S.grow k htk
    have hb : xs[argBest (fun i j => cmpGt (xs.getD i .none) (xs.getD j .none)) (xs.length - 1)]? = some (maxPV xs) := by
      cases hx : xs with
      | nil => exact absurd hx hne
      | cons x rest => exact foldBest cmpGt rest [x] x (x :: rest) rfl (by simp) (by simp [argBest])
    obtain ⟨u, h1, h2⟩ := get_at (r.ev (ev_grow k) _ _) hb
    rw [r.size] at hP
    rw [hP] at h1; cases h1
    obtain ⟨N, hq, hN⟩ := give.out h2 h
    exact ⟨T, N, hq, S'.more hN⟩

theorem tupWalk {A : Around} {vs : Array Value} {xs : List PV} {op : CmpOp} {g : PV → PV → Bool} {Q : Value → Shared → Prop} (hA : A.handled = none) (S : St c h₀ T H s) (hne : xs ≠ []) (r : RepL (dom T) s.heap xs vs.toList)
    (hg : ∀ (i j : Nat) (p q : PV) (vi vj : Value) (s' : Shared) (Q : Value → Shared → Prop) (E : Value → Shared → Prop), xs[i]? = some p → xs[j]? = some q → Rep (dom T) s.heap p vi → Rep (dom T) s.heap q vj → Q (.bool (g p q)) s' → wpAny (model c.prog c.w) A (richCompare op vi vj) Q E s')
    (res : PV) (hb : xs[argBest (fun i j => g (xs.getD i .none) (xs.getD j .none)) (xs.length - 1)]? = some res)
    (hQ : ∀ v h' tk, Rep (dom T) h' res v → (s.toks ≤ tk → St c h₀ T H { s with heap := h', toks := tk }) → Q v { s with heap := h', toks := tk }) {E : Value → Shared → Prop} :
    wpAny (model c.prog c.w) A (pyIter (.ref s.heap.objs.size)) (fun it s₂ => ∃ I fp wr n P St bt, it = .ref I ∧ Walks c.prog c.w A I fp wr n P St ∧ St 0 s₂.heap ∧ (∀ b ∈ fp, b < s₂.heap.objs.size) ∧ 0 < n ∧ CmpOf c.prog c.w A op P bt ∧
      ∀ v h' tk, P (argBest bt (n - 1)) v → (∀ b o, b ∉ wr → s₂.heap.get? b = some o → h'.get? b = some o) → Q v { s₂ with heap := h', toks := tk }) E
      { s with heap := s.heap.push { cls := .type "tuple", data := .seq vs } } := by
  have hT : (s.heap.push { cls := .type "tuple", data := .seq vs }).IsTuple s.heap.objs.size vs := ⟨_, Heap.get?_push_size _ rfl, rfl, _, rfl⟩
  have hsz : (s.heap.push { cls := .type "tuple", data := .seq vs }).objs.size = s.heap.objs.size + 1 := Heap.size_push ..
  refine wpAny_pyIter_tuple hT ?_
  refine ⟨_, [(s.heap.push { cls := .type "tuple", data := .seq vs }).objs.size, s.heap.objs.size], [(s.heap.push { cls := .type "tuple", data := .seq vs }).objs.size], vs.size, _, _, fun i j => g (xs.getD i .none) (xs.getD j .none), rfl, Walks.tuple hA _ s.heap.objs.size (by rw [hsz]; exact Nat.ne_of_lt (Nat.lt_succ_self _)) vs,
    ⟨⟨_, Heap.get?_push_size _ rfl, rfl, rfl⟩, hT.push _⟩, fun d hd => ?_, ?_, ?_, fun v h' tk hP hk => ?_⟩
  · show d < ((s.heap.push _).push _).objs.size
    rw [Heap.size_push, hsz]
    rcases List.mem_cons.mp hd with rfl | hd
    · rw [hsz]; exact Nat.lt_succ_self _
    · rcases List.mem_cons.mp hd with rfl | hd
      · exact Nat.lt_succ_of_lt (Nat.lt_succ_self _)
      · cases hd
  · rw [r.size]; exact List.length_pos_iff.mpr hne
  · intro i j vi vj s' Q E hi hj hQ
    have hli : i < xs.length := by rw [← r.size]; exact (Array.getElem?_eq_some_iff.mp hi).1
    have hlj : j < xs.length := by rw [← r.size]; exact (Array.getElem?_eq_some_iff.mp hj).1
    have ei : xs[i]? = some xs[i] := List.getElem?_eq_getElem hli
    have ej : xs[j]? = some xs[j] := List.getElem?_eq_getElem hlj
    obtain ⟨wi, h1, h2⟩ := get_at r ei
    obtain ⟨wj, h3, h4⟩ := get_at r ej
    rw [hi] at h1; cases h1
    rw [hj] at h3; cases h3
    dsimp only at hQ
    rw [getD_of ei, getD_of ej] at hQ
    exact hg i j _ _ _ _ _ _ _ ei ej h2 h4 hQ
  · have k : ∀ d o, s.heap.get? d = some o → h'.get? d = some o := fun d o e => by
      refine hk d o (fun hm => ?_) (Heap.get?_push_of_some _ (Heap.get?_push_of_some _ e))
      rcases List.mem_cons.mp hm with e1 | hm
      · have := Heap.lt_size e; rw [e1, hsz] at this; exact Nat.lt_irrefl _ (Nat.lt_of_succ_lt this)
      · cases hm
    obtain ⟨u, h1, h2⟩ := get_at (r.ev (ev_grow k) _ _) hb
    rw [r.size] at hP
    rw [hP] at h1; cases h1
    exact hQ _ h' tk h2 fun htk => S.grow k htk

theorem W.max3 {u v w : Value} {p q r : PV} {Q : Value → Trk → Hold → Prop} (d1 : Den H u p) (d2 : Den H v q) (d3 : Den H w r) (hs : sameNum [p, q, r] = true) (h : give (maxPV [p, q, r]) fun v N => Q v T N) : W c h₀ n T H (call (.builtin "max") [u, v, w] []) Q := fun A s hA S => by
  refine wpAny_with_toks (n := s.toks) (Nat.le_refl _) <| call_max_three (tupWalk (xs := [p, q, r]) (A := A.in1) (vs := #[u, v, w]) (Q := fun v s' => s.toks ≤ s'.toks → ∃ T' N, Q v T' N ∧ St c h₀ T' (N ++ H) s') (g := cmpGt) hA.1 S (by simp) ?_ (fun i j p' q' vi vj s' Q E hi hj h1 h2 hQ => gt_pv h1 h2 (same_two hs hi hj) hQ) _ (foldBest cmpGt [q, r] [p] p [p, q, r] rfl (by simp) (by simp [argBest])) fun v h' tk hr S' htk => ?_)
  · simp only [RepL]
    exact ⟨_, _, rfl, S.rep d1, _, _, rfl, S.rep d2, _, _, rfl, S.rep d3, rfl⟩
  · obtain ⟨N, hq, hN⟩ := give.out hr h
    exact ⟨T, N, hq, (S' htk).more hN⟩
theorem W.min3 {u v w : Value} {p q r : PV} {Q : Value → Trk → Hold → Prop} (d1 : Den H u p) (d2 : Den H v q) (d3 : Den H w r) (hs : sameNum [p, q, r] = true) (h : give (minPV [p, q, r]) fun v N => Q v T N) : W c h₀ n T H (call (.builtin "min") [u, v, w] []) Q := fun A s hA S => by
  refine wpAny_with_toks (n := s.toks) (Nat.le_refl _) <| call_min_three (tupWalk (xs := [p, q, r]) (A := A.in1) (vs := #[u, v, w]) (Q := fun v s' => s.toks ≤ s'.toks → ∃ T' N, Q v T' N ∧ St c h₀ T' (N ++ H) s') (g := cmpLt) hA.1 S (by simp) ?_ (fun i j p' q' vi vj s' Q E hi hj h1 h2 hQ => lt_pv h1 h2 (same_two hs hi hj) hQ) _ (foldBest cmpLt [q, r] [p] p [p, q, r] rfl (by simp) (by simp [argBest])) fun v h' tk hr S' htk => ?_)
  · simp only [RepL]
    exact ⟨_, _, rfl, S.rep d1, _, _, rfl, S.rep d2, _, _, rfl, S.rep d3, rfl⟩
  · obtain ⟨N, hq, hN⟩ := give.out hr h
    exact ⟨T, N, hq, (S' htk).more hN⟩
theorem W.max2 {u v : Value} {p q : PV} {Q : Value → Trk → Hold → Prop} (d1 : Den H u p) (d2 : Den H v q) (hs : sameNum [p, q] = true) (h : give (maxPV [p, q]) fun v N => Q v T N) : W c h₀ n T H (call (.builtin "max") [u, v] []) Q := fun A s hA S => by
  refine wpAny_with_toks (n := s.toks) (Nat.le_refl _) <| call_max_two (tupWalk (xs := [p, q]) (A := A.in1) (vs := #[u, v]) (Q := fun v s' => s.toks ≤ s'.toks → ∃ T' N, Q v T' N ∧ St c h₀ T' (N ++ H) s') (g := cmpGt) hA.1 S (by simp) ?_ (fun i j p' q' vi vj s' Q E hi hj h1 h2 hQ => gt_pv h1 h2 (same_two hs hi hj) hQ) _ (foldBest cmpGt [q] [p] p [p, q] rfl (by simp) (by simp [argBest])) fun v h' tk hr S' htk => ?_)
  · simp only [RepL]
    exact ⟨_, _, rfl, S.rep d1, _, _, rfl, S.rep d2, rfl⟩
  · obtain ⟨N, hq, hN⟩ := give.out hr h
    exact ⟨T, N, hq, (S' htk).more hN⟩

theorem W.range {x : Int} {k : Nat} {t : Tok} {Q : Value → Trk → Hold → Prop} (hx : x = (k : Int)) (h : ∀ a t u v, Q (.ref a) T [(.im (rngObj k t u v), .ref a)]) : W c h₀ n T H (call (.type "range") [.int x t] []) Q := fun A s hA S => by
  subst hx
  refine call_range_1 ⟨T, _, h s.heap.objs.size s.toks t (s.toks + 1), ?_⟩
  have k' : ∀ b o, s.heap.get? b = some o → (s.heap.push (rngObj k s.toks t (s.toks + 1))).get? b = some o := fun b o e => Heap.get?_push_of_some _ e
  have S' := S.grow (tk := s.toks + 1 + 1) k' (Nat.le_succ_of_le (Nat.le_succ _))
  refine S'.more fun q hq => ?_
  rcases List.mem_singleton.mp hq with rfl
  simp only [Rep]
  refine ⟨_, rfl, Heap.get?_push_size _ rfl, fun hm => ?_, rfl⟩
  obtain ⟨p, hp, hpa⟩ := List.mem_map.mp hm
  have := S.lt hp
  rw [hpa] at this
  exact Nat.lt_irrefl _ this
end
end Mine
end

section
open PySem PySem.W PyProof.Rows PySem.Calls PySem.MeetsSeq
set_option Elab.async false
set_option maxRecDepth 100000
set_option linter.unusedVariables false
set_option linter.unusedSimpArgs false
namespace Mine

section
variable {k : Value → Hold → Prop}
theorem give_none (h : k .none []) : give .none k := h
theorem give_bool {b : Bool} (h : k (.bool b) []) : give (.bool b) k := h
theorem give_int {i : Int} (h : ∀ t, k (.int i t) []) : give (.int i) k := h
theorem give_flt {i : UInt64} (h : ∀ t, t ≠ 0 → k (.float i t) []) : give (.flt i) k := h
theorem give_str {i : PySem.Str} (h : ∀ t, k (.str i t) []) : give (.str i) k := h
theorem give_ref {a : Addr} (h : k (.ref a) []) : give (.ref a) k := h
theorem give_bi {a : String} (h : k (.builtin a) []) : give (.bi a) k := h
theorem give_ty {a : String} (h : k (.type a) []) : give (.ty a) k := h
theorem give_tup {l : List PV} (h : ∀ a, k (.ref a) [(.tup l, .ref a)]) : give (.tup l) k := h
theorem give_lst {l : List PV} (h : ∀ a, k (.ref a) [(.lst l, .ref a)]) : give (.lst l) k := h
theorem give_im {o : Obj} (h : ∀ a, k (.ref a) [(.im o, .ref a)]) : give (.im o) k := h
end

section
variable {A B : Prop}
theorem iteT (h : A) : if true = true then A else B := h
theorem iteF (h : B) : if false = true then A else B := h
theorem iteB {b : Bool} (h1 : b = true → A) (h2 : b = false → B) : if b = true then A else B := by
  cases b
  · exact h2 rfl
  · exact h1 rfl
end

section
variable {H N : Hold} {v : Value} {p q : PV} {u : Value}
theorem Den.hd : Den ((p, v) :: H) v p := fun D h k => k _ (List.mem_cons_self ..)
theorem Den.tl (d : Den H v p) : Den ((q, u) :: H) v p := fun D h k => d D h fun r hr => k r (List.mem_cons_of_mem _ hr)
end

theorem kf_bi {K : Frag} {id : String} {B : Prop} (h : B) : KeepF K (.builtin id) ∧ B := ⟨.builtin, h⟩
theorem kf_ty {K : Frag} {id : String} {B : Prop} (h : B) : KeepF K (.type id) ∧ B := ⟨.type, h⟩
theorem kf_ref {K : Frag} {a : Addr} {B : Prop} (k : keepIn K (.ref a) = true) (h : B) : KeepF K (.ref a) ∧ B := ⟨.inr (.inr k), h⟩

def fmax3 (r g b : UInt64) : UInt64 := let m := if Float64.cmp g r == some Ordering.gt then g else r; if Float64.cmp b m == some Ordering.gt then b else m
def fmin3 (r g b : UInt64) : UInt64 := let m := if Float64.cmp g r == some Ordering.lt then g else r; if Float64.cmp b m == some Ordering.lt then b else m
theorem stepGt (a b : UInt64) : (if cmpGt (.flt b) (.flt a) = true then PV.flt b else .flt a) = .flt (if Float64.cmp b a == some Ordering.gt then b else a) := by
  show (if (Float64.cmp b a == some Ordering.gt) = true then PV.flt b else .flt a) = _
  split <;> rfl
theorem stepLt (a b : UInt64) : (if cmpLt (.flt b) (.flt a) = true then PV.flt b else .flt a) = .flt (if Float64.cmp b a == some Ordering.lt then b else a) := by
  show (if (Float64.cmp b a == some Ordering.lt) = true then PV.flt b else .flt a) = _
  split <;> rfl
theorem maxPV_f (r g b : UInt64) : maxPV [.flt r, .flt g, .flt b] = .flt (fmax3 r g b) := by
  have e : maxPV [.flt r, .flt g, .flt b] = (fun m => if cmpGt (.flt b) m = true then PV.flt b else m) (if cmpGt (.flt g) (.flt r) = true then PV.flt g else .flt r) := rfl
  rw [e, stepGt]
  exact stepGt _ _
theorem minPV_f (r g b : UInt64) : minPV [.flt r, .flt g, .flt b] = .flt (fmin3 r g b) := by
  have e : minPV [.flt r, .flt g, .flt b] = (fun m => if cmpLt (.flt b) m = true then PV.flt b else m) (if cmpLt (.flt g) (.flt r) = true then PV.flt g else .flt r) := rfl
  rw [e, stepLt]
  exact stepLt _ _

section
variable {c : Cx} {h₀ : Heap} {n : Nat} {T T' : Trk} {H : Hold} {α : Type} {env : Env} {pos : Pos} {s : Shared}
theorem W.max3f {r g b : UInt64} {t u v : Tok} {Q : Value → Trk → Hold → Prop} (h1 : t ≠ 0) (h2 : u ≠ 0) (h3 : v ≠ 0) (h : ∀ t, t ≠ 0 → Q (.float (fmax3 r g b) t) T []) : W c h₀ n T H (call (.builtin "max") [.float r t, .float g u, .float b v] []) Q :=
  W.max3 (Den.flt h1) (Den.flt h2) (Den.flt h3) rfl (by rw [maxPV_f]; exact h)
theorem W.min3f {r g b : UInt64} {t u v : Tok} {Q : Value → Trk → Hold → Prop} (h1 : t ≠ 0) (h2 : u ≠ 0) (h3 : v ≠ 0) (h : ∀ t, t ≠ 0 → Q (.float (fmin3 r g b) t) T []) : W c h₀ n T H (call (.builtin "min") [.float r t, .float g u, .float b v] []) Q :=
  W.min3 (Den.flt h1) (Den.flt h2) (Den.flt h3) rfl (by rw [minPV_f]; exact h)
theorem W.callF {f : Addr} {o : Obj} {fd : FuncData} {body : List Stmt} {args : List Value} {kw : List (PySem.Str × Value)} {Q : Value → Trk → Hold → Prop}
    (ho : c.K.lookup f = some o) (hd : o.data = .func fd) (hcd : codeIn c.K fd.code fd.qualname = true) (hbody : fd.body = .stmts body)
    (hcell : (fd.scope.names.all fun x => x.2 != .cell) = true) (hco : fd.scope.isCoroutine = false) (hgen : fd.scope.isGenerator = false) (hk : fd.scope.kind = .function)
    (h : W c h₀ n T H (bindArgs fd ⟨args, kw⟩) fun binds T₁ N₁ => ∃ bs, DenB (N₁ ++ H) binds bs ∧ (bs.map (·.1)).Nodup ∧ Locals fd.scope bs = true ∧
      ∀ L, W c h₀ n ((L, .frame bs) :: T₁) (N₁ ++ H) (execs body (callEnv fd L f)) (leaveF L Q)) :
    W c h₀ (n + 1) T H (call (.ref f) args kw) Q := W.callFn ho hd hcd hbody h (fun x hx => by
      have := List.all_eq_true.mp hcell x hx
      simpa using this) hco hgen hk
theorem W.binds {fd : FuncData} {args : Args} {binds : List (PySem.Str × Value)} {Q : List (PySem.Str × Value) → Trk → Hold → Prop} (e : ∀ S, peek c.K S (bindArgs fd args) = some binds) (h : Q binds T []) : W c h₀ n T H (bindArgs fd args) Q :=
  fun A s hA S => kp_binds (S.base.K.keeps S.keep) e _ A _ _ ⟨T, [], h, S⟩
theorem W.callK {f : Addr} {o : Obj} {fd : FuncData} {body : List Stmt} {args : List Value} {kw : List (PySem.Str × Value)} {binds : List (PySem.Str × Value)} {bs : List (PySem.Str × PV)} {Q : Value → Trk → Hold → Prop}
    (ho : c.K.lookup f = some o) (hd : o.data = .func fd) (hcd : codeIn c.K fd.code fd.qualname = true) (hbody : fd.body = .stmts body)
    (hcell : (fd.scope.names.all fun x => x.2 != .cell) = true) (hco : fd.scope.isCoroutine = false) (hgen : fd.scope.isGenerator = false) (hk : fd.scope.kind = .function)
    (e : ∀ S, peek c.K S (bindArgs fd ⟨args, kw⟩) = some binds) (d : DenB H binds bs) (nd : decide (bs.map (·.1)).Nodup = true) (hl : Locals fd.scope bs = true)
    (h : ∀ L, W c h₀ n ((L, .frame bs) :: T) H (execs body (callEnv fd L f)) (leaveF L Q)) :
    W c h₀ (n + 1) T H (call (.ref f) args kw) Q := W.callF ho hd hcd hbody hcell hco hgen hk (W.binds e ⟨bs, d, of_decide_eq_true nd, hl, h⟩)
theorem W.Assign' {x' : PySem.Str} {pos' : Pos} {value : Expr} {Q : Flow → Trk → Hold → Prop} (hs : swapsWith value (some (.Name x' pos')) pos.line env = Pure.pure false)
    (h : W c h₀ n T H (eval value env) fun v T₁ N₁ => W c h₀ n T₁ (N₁ ++ H) (storeName env x' v) fun _ T₂ _ => Q .next T₂ []) : W c h₀ n T H (exec (.Assign [.Name x' pos'] value pos) env) Q := W.Assign h hs
theorem W.AssignTuple' {elts : List Expr} {k : Nat} {tpos : Pos} {value : Expr} {Q : Flow → Trk → Hold → Prop} (hs : swapsWithSole [.Tuple elts k tpos] value pos.line env = Pure.pure false) (hw : swappedStores [.Tuple elts k tpos] value env = Pure.pure none)
    (h : W c h₀ n T H (eval value env) fun v T₁ N₁ => W c h₀ n T₁ (N₁ ++ H) (assign (.Tuple elts k tpos) env v) fun _ T₂ _ => Q .next T₂ []) : W c h₀ n T H (exec (.Assign [.Tuple elts k tpos] value pos) env) Q := W.AssignTuple h hs hw
theorem W.AssignSub' {o i : Expr} {tpos : Pos} {value : Expr} {Q : Flow → Trk → Hold → Prop} (hs : swapsWithSole [.Subscript o i tpos] value pos.line env = Pure.pure false) (hw : swappedStores [.Subscript o i tpos] value env = Pure.pure none)
    (h : W c h₀ n T H (eval value env) fun v T₁ N₁ => W c h₀ n T₁ (N₁ ++ H) (assign (.Subscript o i tpos) env v) fun _ T₂ _ => Q .next T₂ []) : W c h₀ n T H (exec (.Assign [.Subscript o i tpos] value pos) env) Q := W.AssignSub h hs hw
theorem W.Name' {x : PySem.Str} {Q : Value → Trk → Hold → Prop} (hd : (x == ("__debug__" : PySem.Str)) = false) (h : W c h₀ n T H (loadName env x) Q) : W c h₀ n T H (eval (.Name x pos) env) Q := W.Name h hd
theorem W.Compare' {l r : Expr} {op : CmpOp} {Q : Value → Trk → Hold → Prop} (hm : behindInMarks op r = false)
    (h : W c h₀ n T H (eval l env) fun a T₁ N₁ => W c h₀ n T₁ (N₁ ++ H) (eval r env) fun b T₂ N₂ => W c h₀ n T₂ (N₂ ++ (N₁ ++ H)) (compareOp op a b) Q) : W c h₀ n T H (eval (.Compare l [op] [r] pos) env) Q := W.Compare h hm
theorem W.isTrue_Compare' {l r : Expr} {op : CmpOp} {whole : Sem Value} {Q : Bool → Trk → Hold → Prop} (hm : behindInMarks op r = false)
    (h : W c h₀ n T H (eval l env) fun a T₁ N₁ => W c h₀ n T₁ (N₁ ++ H) (eval r env) fun b T₂ N₂ => W c h₀ n T₂ (N₂ ++ (N₁ ++ H)) (compareOp op a b) fun v T₃ N₃ => W c h₀ n T₃ (N₃ ++ (N₂ ++ (N₁ ++ H))) (truthy v) Q) :
    W c h₀ n T H (isTrue (.Compare l [op] [r] pos) env whole) Q := W.isTrue_Compare h hm
theorem W.spl_cons' {e : Expr} {rest : List Expr} {Q : List Value → Trk → Hold → Prop} (he : starEach (e :: rest) env = (false, eval e env) :: starEach rest env)
    (h : W c h₀ n T H (eval e env) fun v T₁ N₁ => W c h₀ n T₁ (N₁ ++ H) (spliced (backTo pos (starEach rest env))) fun vs T₂ N₂ => Q (v :: vs) T₂ (N₂ ++ N₁)) : W c h₀ n T H (spliced (backTo pos (starEach (e :: rest) env))) Q := W.spl_cons h he
theorem W.newTuple' {vs : List Value} {ps : List PV} {Q : Value → Trk → Hold → Prop} (hsz : vs.length ≤ sizeLine) (d : DenL H vs ps) (h : ∀ a, Q (.ref a) T [(.tup ps, .ref a)]) : W c h₀ n T H (PySem.newTuple vs) Q := W.newTuple d h hsz
theorem W.newList' {vs : List Value} {ps : List PV} {Q : Value → Trk → Hold → Prop} (hsz : vs.length ≤ sizeLine) (d : DenL H vs ps) (h : ∀ a, Q (.ref a) T [(.lst ps, .ref a)]) : W c h₀ n T H (PySem.newList vs) Q := W.newList d h hsz
theorem W.newListT' {vs : List Value} {ps : List PV} {Q : Value → Trk → Hold → Prop} (hsz : vs.length ≤ sizeLine) (d : DenL H vs ps) (h : ∀ a, Q (.ref a) ((a, .list ps) :: T) []) : W c h₀ n T H (PySem.newList vs) Q := W.newListT d h hsz
theorem W.CallName' {x : PySem.Str} {px : Pos} {es : List Expr} {ks : List Keyword} {Q : Value → Trk → Hold → Prop}
    (hd : (x == ("__debug__" : PySem.Str)) = false) (hstar : (backTo pos (starEach es env)).any (·.1) = false) (hall : (backToKw pos (keywordEach ks env)).all (·.1.isSome) = true)
    (h : W c h₀ n T H (loadName env x) fun f T₀ N₀ => KeepF c.K f ∧ W c h₀ n T₀ (N₀ ++ H) (spliced (backTo pos (starEach es env))) fun vs T₁ N₁ => W c h₀ n T₁ (N₁ ++ (N₀ ++ H)) (evalAll ((backToKw pos (keywordEach ks env)).map (·.2))) fun us T₂ N₂ =>
      W c h₀ n T₂ (N₂ ++ N₁ ++ (N₀ ++ H)) (call f vs (((backToKw pos (keywordEach ks env)).filterMap (·.1)).zip us)) Q) :
    W c h₀ n T H (eval (.Call (.Name x px) es ks pos) env) Q := W.CallName h hd hstar hall
theorem W.Sub' {value slice : Expr} {ops : Value → Value → List Value} {Q : Value → Trk → Hold → Prop} (hs : ∀ o i, subscripted slice false o i = PySem.operate (ops o i) (PySem.getItem o i))
    (h : W c h₀ n T H (eval value env) fun o T₁ N₁ => W c h₀ n T₁ (N₁ ++ H) (eval slice env) fun i T₂ N₂ => (∃ l, Seq T₂ (N₂ ++ (N₁ ++ H)) o l) ∧ W c h₀ n T₂ (N₂ ++ (N₁ ++ H)) (PySem.getItem o i) Q) : W c h₀ n T H (eval (.Subscript value slice pos) env) Q := W.Subscript h hs
theorem W.item {v : Value} {l : List PV} {k : Int} {t : Tok} {p : PV} {Q : Value → Trk → Hold → Prop} (hs : Seq T H v l) (hk : decide (0 ≤ k ∧ k.toNat < 2 ^ 62) = true) (hp : l[k.toNat]? = some p) (h : give p fun v N => Q v T N) :
    W c h₀ n T H (PySem.getItem v (.int k t)) Q := W.getItem hs (i := k.toNat) (by have := of_decide_eq_true hk; omega) (of_decide_eq_true hk).2 hp h
theorem bindVs_nil {k : List Value → Hold → Prop} (h : k [] []) : bindVs [] k := h
theorem bindVs_cons {p : PV} {ps : List PV} {k : List Value → Hold → Prop} (h : ∀ v, bindVs ps fun vs N => k (v :: vs) ((p, v) :: N)) : bindVs (p :: ps) k := h
theorem seqAnd {v : Value} {l : List PV} {B : Prop} (s : Seq T H v l) (h : B) : (∃ l, Seq T H v l) ∧ B := ⟨⟨l, s⟩, h⟩
theorem leave {L : Addr} {o : TO} {v : Value} {N : Hold} {Q : Value → Trk → Hold → Prop} (h : Q v T N) : leaveF L Q (.ret v) ((L, o) :: T) N := ⟨T, .cons _ (.refl _), h⟩
theorem W.ExprS' {e : Expr} {Q : Flow → Trk → Hold → Prop} (hi : interactive env = false) (hs : swapsWith e none pos.line env = Pure.pure false) (h : W c h₀ n T H (eval e env) fun _ T₁ _ => Q .next T₁ []) : W c h₀ n T H (exec (.Expr e pos) env) Q := W.ExprS h hi hs
theorem W.CallMeth' {o : Expr} {name : PySem.Str} {apos : Pos} {es : List Expr} {ks : List Keyword} {pl : Sem Bool} {Q : Value → Trk → Hold → Prop}
    (he : eval (.Call (.Attribute o name apos) es ks pos) env = (do
      let ov ← eval o env
      PySem.standAt apos.atName
      let (f, first) ← PySem.holding [ov] (getMethod ov name pl)
      PySem.callWith pos f first (backTo pos (starEach es env)) (backToKw pos (keywordEach ks env))))
    (hstar : (backTo pos (starEach es env)).any (·.1) = false) (hall : (backToKw pos (keywordEach ks env)).all (·.1.isSome) = true)
    (h : W c h₀ n T H (eval o env) fun ov T₀ N₀ => W c h₀ n T₀ (N₀ ++ H) (getMethod ov name pl) fun fx T₁ N₁ => KeepF c.K fx.1 ∧
      W c h₀ n T₁ (N₁ ++ (N₀ ++ H)) (spliced (backTo pos (starEach es env))) fun vs T₂ N₂ => W c h₀ n T₂ (N₂ ++ (N₁ ++ (N₀ ++ H))) (evalAll ((backToKw pos (keywordEach ks env)).map (·.2))) fun us T₃ N₃ =>
        W c h₀ n T₃ (N₃ ++ N₂ ++ (N₁ ++ (N₀ ++ H))) (call fx.1 (fx.2 ++ vs) (((backToKw pos (keywordEach ks env)).filterMap (·.1)).zip us)) Q) :
    W c h₀ n T H (eval (.Call (.Attribute o name apos) es ks pos) env) Q := W.CallMeth h he hstar hall
theorem give_mk {p : PV} {k : Value → Hold → Prop} (h : give p k) : give p k := h
end
end Mine
end

section
open PySem PySem.W PyProof.Rows PySem.Calls PySem.MeetsSeq
set_option Elab.async false
set_option maxRecDepth 100000
set_option linter.unusedVariables false
set_option linter.unusedSimpArgs false
namespace Mine

theorem give_den {p : PV} {k : Value → Hold → Prop} (h : ∀ v N, (∀ H, Den (N ++ H) v p) → k v N) : give p k := by
  cases p <;> simp only [give]
  · exact h _ _ fun _ => Den.none
  · exact h _ _ fun _ => Den.bool
  · intro t; exact h _ _ fun _ => Den.int
  · intro t ht; exact h _ _ fun _ => Den.flt ht
  · intro t; exact h _ _ fun _ => Den.str
  · intro a; exact h _ _ fun _ => Den.hd
  · intro a; exact h _ _ fun _ => Den.hd
  · exact h _ _ fun _ => Den.ref
  · exact h _ _ fun _ => Den.bi
  · exact h _ _ fun _ => Den.ty
  · intro a; exact h _ _ fun _ => Den.hd

/-- pv is a list, by value or tracked -/
inductive LstP (T : Trk) : PV → List PV → Prop
  | lst {l} : LstP T (.lst l) l
  | own {l a} : In a (.list l) T → LstP T (.ref a) l
theorem LstP.tail {T : Trk} {p : PV} {l : List PV} {x : Addr × TO} (h : LstP T p l) : LstP (x :: T) p l := by
  cases h with
  | lst => exact .lst
  | own i => exact .own (.tail i)
theorem LstP.give {T : Trk} {p : PV} {l : List PV} {k : Value → Hold → Prop} (h : LstP T p l) (g : ∀ v N, (∀ H, Lst T (N ++ H) v l) → k v N) : give p k := by
  cases h with
  | lst => intro a; exact g _ _ fun _ => .lst Den.hd
  | own i => exact g _ _ fun _ => .own rfl i
theorem Lst.more {T : Trk} {H N : Hold} {v : Value} {l : List PV} (h : Lst T H v l) : Lst T (N ++ H) v l := by
  cases h with
  | lst d => exact .lst d.more
  | own e i => exact .own e i

theorem Lst.tail {T : Trk} {H : Hold} {v : Value} {l : List PV} {x : Addr × TO} (h : Lst T H v l) : Lst (x :: T) H v l := by
  cases h with
  | lst d => exact .lst d
  | own e i => exact .own e (.tail i)

def Weak (T T' : Trk) : Prop := ∀ c h₀ H s, St c h₀ T H s → St c h₀ T' H s
theorem Weak.refl {T : Trk} : Weak T T := fun _ _ _ _ S => S
theorem Weak.trans {T T' T'' : Trk} (a : Weak T T') (b : Weak T' T'') : Weak T T'' := fun c h H s S => b c h H s (a c h H s S)
theorem Weak.frame {L : Addr} {m m' : List (PySem.Str × PV)} {T : Trk} (h : ∀ x p, m'.lookup x = some p → m.lookup x = some p) : Weak ((L, .frame m) :: T) ((L, .frame m') :: T) := fun c h₀ H s S =>
  ⟨S.base, S.keep, fun p hp => by
    rcases List.mem_cons.mp hp with rfl | hp
    · exact S.new (_, .frame m) (List.mem_cons_self ..)
    · exact S.new p (List.mem_cons_of_mem _ hp), fun p hp => by
    rcases List.mem_cons.mp hp with rfl | hp
    · obtain ⟨mv, hn, r⟩ := S.own (_, .frame m) (List.mem_cons_self ..)
      exact ⟨mv, hn, fun x p hx => r x p (h x p hx)⟩
    · exact S.own p (List.mem_cons_of_mem _ hp), S.nd, S.held, S.gens, S.drawn, S.os, S.tk⟩
/-- the frame's facts at the end are let go -/
theorem Weak.frameApp {L : Addr} {m m' : List (PySem.Str × PV)} {T : Trk} : Weak ((L, .frame (m ++ m')) :: T) ((L, .frame m) :: T) := Weak.frame fun x p h => by rw [List.lookup_append, h]; rfl
theorem Weak.perm {T T' : Trk} (h : T'.Perm T) : Weak T T' := fun _ _ _ _ S => S.perm h
theorem Weak.subs {T T' : Trk} (h : T'.Sublist T) : Weak T T' := fun _ _ _ _ S => S.subs h
theorem Weak.cons {x : Addr × TO} {T T' : Trk} (h : Weak T T') (hs : T'.Sublist T) : Weak (x :: T) (x :: T') := Weak.subs (hs.cons_cons x)

theorem ty_insert : typeOf (.builtin "list.insert") = pure (.type "method_descriptor") := by show builtinType _ = _; rw [builtinType_eq_fast]; kernel_rfl
theorem ty_append : typeOf (.builtin "list.append") = pure (.type "method_descriptor") := by show builtinType _ = _; rw [builtinType_eq_fast]; kernel_rfl
theorem ty_pop : typeOf (.builtin "list.pop") = pure (.type "method_descriptor") := by show builtinType _ = _; rw [builtinType_eq_fast]; kernel_rfl
theorem ty_extend : typeOf (.builtin "list.extend") = pure (.type "method_descriptor") := by show builtinType _ = _; rw [builtinType_eq_fast]; kernel_rfl
theorem ty_join : typeOf (.builtin "str.join") = pure (.type "method_descriptor") := by show builtinType _ = _; rw [builtinType_eq_fast]; kernel_rfl
theorem ty_lower : typeOf (.builtin "str.lower") = pure (.type "method_descriptor") := by show builtinType _ = _; rw [builtinType_eq_fast]; kernel_rfl

abbrev FwB (J : Nat → Trk → Prop) (i : Nat) (Q : Flow → Trk → Hold → Prop) : Flow → Trk → Hold → Prop := FoB (fun i T => ∃ T', J i T' ∧ Weak T T') i Q
inductive ForWS (c : Cx) (h₀ : Heap) (n : Nat) (H : Hold) (target : Expr) (body orelse : List Stmt) (env : Env) (Q : Flow → Trk → Hold → Prop) (J : List PV → Nat → Trk → Prop) (v : Value) (T : Trk) : Prop
  | mk (xs : List PV) (src : Src T H v xs (fun _ => True)) (j0 : ∃ T₂, J xs 0 T₂ ∧ Weak T T₂)
    (turn : ∀ i x T₂, xs[i]? = some x → J xs i T₂ → ∀ h₁ u Q', Hid (FwB (J xs) i Q) Q' → W c h₁ n T₂ ((x, u) :: H) (assign target env u) (BodK c h₁ n ((x, u) :: H) body env Q'))
    (done : ∀ T₂, J xs xs.length T₂ → W c h₀ n T₂ H (execs orelse env) Q)

section
variable {c : Cx} {h₀ : Heap} {n : Nat} {T T' : Trk} {H : Hold} {α : Type} {env : Env} {pos : Pos} {s : Shared}

theorem W.weak {t : Sem α} {Q : α → Trk → Hold → Prop} (w : Weak T T') (h : W c h₀ n T' H t Q) : W c h₀ n T H t Q := fun A s hA S => h A s hA (w _ _ _ _ S)

abbrev WhB (I : Nat → Trk → Prop) (k : Nat) (Q : Flow → Trk → Hold → Prop) : Flow → Trk → Hold → Prop := fun f T N => match f with | .next | .cont => ∃ j T', j < k ∧ I j T' ∧ Weak T T' | .brk => Q .next T [] | .ret v => Q (.ret v) T N
theorem FwB.next {J : Nat → Trk → Prop} {k : Nat} {Q : Flow → Trk → Hold → Prop} {N : Hold} (h : ∃ T', J (k + 1) T' ∧ Weak T T') : FwB J k Q .next T N := h
theorem W.WhileG {test : Expr} {body orelse : List Stmt} {Q : Flow → Trk → Hold → Prop} (I : Nat → Trk → Prop)
    (turn : ∀ k T₁, I k T₁ → ∀ Q', Hid (WhB I k Q) Q' → W c h₀ n T₁ H (isTrue test env (eval test env)) fun b T₂ _ => if b = true then W c h₀ n T₂ H (execs body env) Q' else W c h₀ n T₂ H (execs orelse env) Q)
    (k : Nat) (hI : I k T) : W c h₀ n T H (exec (.While test body orelse pos) env) Q := by
  refine W.While (fun k T₁ => ∃ T₄, I k T₄ ∧ Weak T₁ T₄) (fun k T₁ h => h.elim fun T₄ h => W.weak h.2 ((turn k T₄ h.1 _ .self).mono fun b T₂ N h => ?_)) k ⟨T, hI, .refl⟩
  cases b with
  | false => exact h
  | true =>
    refine W.mono h fun f T₃ N₃ q => ?_
    cases f with
    | next => exact q.elim fun j q => q.elim fun T₅ q => ⟨j, q.1, T₅, q.2⟩
    | cont => exact q.elim fun j q => q.elim fun T₅ q => ⟨j, q.1, T₅, q.2⟩
    | brk => exact q
    | ret v => exact q

theorem W.ForWG {target iter : Expr} {body orelse : List Stmt} {Q : Flow → Trk → Hold → Prop} (J : Value → List PV → Nat → Trk → Prop)
    (h : W c h₀ n T H (eval iter env) fun v T₁ N₁ => ForWS c h₀ n (N₁ ++ H) target body orelse env Q (J v) v T₁)
    (hs : ∀ x, foldedSetIterable iter env x = Pure.pure x := by intro _; rfl) : W c h₀ n T H (exec (.For target iter body orelse pos) env) Q := by
  refine W.ForG (fun v xs i T => ∃ T₄, J v xs i T₄ ∧ Weak T T₄) (h.mono fun v T₁ N₁ s => ?_) hs
  cases s with
  | mk xs src j0 turn done =>
    exact .mk xs _ src j0 (fun _ _ _ => trivial) (fun i x T₃ hx h h₁ u Q' hQ' => h.elim fun T₄ h => W.weak h.2 (turn i x T₄ hx h.1 h₁ u Q' hQ')) fun T₃ h => h.elim fun T₄ h => W.weak h.2 (done T₄ h.1)

theorem W.fdiv_eq {a b r : Int} {t u : Tok} {Q : Value → Trk → Hold → Prop} (hb : b ≠ 0) (hs : b.natAbs < 1073741824) (hr : a.fdiv b = r) (h : ∀ t, Q (.int r t) T []) : W c h₀ n T H (binaryOp .FloorDiv (.int a t) (.int b u)) Q := W.fdiv_ii hb hs (by rw [hr]; exact h)
theorem W.add_eq {a b r : Int} {t u : Tok} {Q : Value → Trk → Hold → Prop} (hr : a + b = r) (h : ∀ t, Q (.int r t) T []) : W c h₀ n T H (binaryOp .Add (.int a t) (.int b u)) Q := W.add_ii (by rw [hr]; exact h)
theorem W.sub_eq {a b r : Int} {t u : Tok} {Q : Value → Trk → Hold → Prop} (hr : a - b = r) (h : ∀ t, Q (.int r t) T []) : W c h₀ n T H (binaryOp .Sub (.int a t) (.int b u)) Q := W.sub_ii (by rw [hr]; exact h)
theorem W.lt_eq {a b : Int} {r : Bool} {t u : Tok} {Q : Value → Trk → Hold → Prop} (hr : decide (a < b) = r) (h : Q (.bool r) T []) : W c h₀ n T H (compareOp .Lt (.int a t) (.int b u)) Q := W.lt_ii (by rw [hr]; exact h)
theorem W.is_eq {v w : Value} {r : Bool} {Q : Value → Trk → Hold → Prop} (hp : plainIs v w = true) (hr : (v == w) = r) (h : Q (.bool r) T []) : W c h₀ n T H (compareOp .Is v w) Q := W.is_plain hp (by rw [hr]; exact h)
theorem W.isNot_eq {v w : Value} {r : Bool} {Q : Value → Trk → Hold → Prop} (hp : plainIs v w = true) (hr : (!(v == w)) = r) (h : Q (.bool r) T []) : W c h₀ n T H (compareOp .IsNot v w) Q := W.isNot_plain hp (by rw [hr]; exact h)
end
end Mine
end

section
open PySem PySem.W PyProof.Rows PySem.Calls PySem.MeetsSeq
set_option Elab.async false
set_option maxRecDepth 100000
set_option maxHeartbeats 4000000
set_option linter.unusedVariables false
set_option linter.unusedSimpArgs false
namespace Mine

/-- an object of class C, its dict at dx -/
abbrev inst (C dx : Addr) : Obj := ⟨.ref C, some dx, .plain, #[]⟩

section
variable {c : Cx} {h₀ : Heap} {n : Nat} {T T' : Trk} {H : Hold} {α : Type} {env : Env} {pos : Pos} {s : Shared} {x dx C : Addr} {es : List DictEntry} {m : Nat} {name : PySem.Str}

theorem St.inst (S : St c h₀ T H s) (ix : In x (.obj (inst C dx)) T) (id : In dx (.obj (dictOf es m)) T) : InstAt s.heap x (inst C dx) C (some (dictOf es m)) := ⟨S.get ix, rfl, rfl, S.get id⟩
theorem St.K (S : St c h₀ T H s) : c.K.In s.heap := S.base.K.keeps S.keep

theorem W.getOwn {v : Value} {expr : Bool} {attr : Option Value} {Q : Value → Trk → Hold → Prop} (ix : In x (.obj (inst C dx)) T) (id : In dx (.obj (dictOf es m)) T) (hg : plainGet c.K C name = true) (hh : hasDictIn c.K C = true)
    (ha : findIn c.K (.ref C) name = some attr) (hn : noGet c.K attr = true) (hl : getL name es = some (some v)) (hv : handedIn v = true) (h : Q v T []) : W c h₀ n T H (getAttr (.ref x) name expr) Q := fun A s hA S =>
  get_value S.K (S.inst ix id) (plainGet_of hg).1 (findObj_own hh ha hn hl) hv ⟨T, [], h, S.tok⟩
theorem W.methInst {f : Addr} {pl : Sem Bool} {Q : Value × List Value → Trk → Hold → Prop} (ix : In x (.obj (inst C dx)) T) (id : In dx (.obj (dictOf es m)) T) (hg : plainGet c.K C name = true) (hf : findIn c.K (.ref C) name = some (some (.ref f))) (ht : isFn c.K (.ref f) = true)
    (hl : getL name es = some none) (h : Q (.ref f, [.ref x]) T []) : W c h₀ n T H (getMethod (.ref x) name pl) Q := fun A s hA S =>
  method_fn S.K (S.inst ix id) (plainGet_of hg).1 (plainGet_of hg).2 hf (beq_iff_eq.mp ht) (by show (lookIn name (dictOf es m)).map _ = _; rw [lookIn_dict, hl]; rfl) ⟨T, [], h, S⟩
theorem W.Attr {value : Expr} {attr : PySem.Str} {Q : Value → Trk → Hold → Prop}
    (he : eval (.Attribute value attr pos) env = (do let o ← eval value env; PySem.standAt pos.atName; let r ← PySem.holding [o] (getAttr o attr true); letTemporaryGo value o r; Pure.pure r)) (hg : ∀ o r, letTemporaryGo value o r = Pure.pure ())
    (h : W c h₀ n T H (eval value env) fun o T₁ N₁ => W c h₀ n T₁ (N₁ ++ H) (getAttr o attr true) Q) : W c h₀ n T H (eval (.Attribute value attr pos) env) Q :=
  W.eqv (t' := do let o ← eval value env; PySem.standAt pos.atName; PySem.holding [o] (getAttr o attr true)) (by rw [he]; simp only [hg, pure_bind, bind_pure])
    (W.bind (h.mono fun o T₁ N₁ h₁ => W.bind (W.standAt (W.holding h₁))))

theorem osa_at {A : Around} {ox od od' : Obj} {v : Value} {tk : Tok} {R : Result → Shared → Prop} {es : List DictEntry} {K : Frag} (X : K.In s.heap) (D : s.heap.get? dx = some od) (D' : (s.heap.update dx (Obj.putName name (PyData.keyHash c.w.params name) (.str name s.toks) v)).get? dx = some od')
    (I : InstAt s.heap x ox C (some od)) (hd : ox.dict = some dx) (hp : plainOver K C = true) (ht : takerIn K C name = some none) (hh : (clsIn K C).any (·.hasDict) = true)
    (hl : (lookIn name od).isSome = true) (e' : od'.data = .dict es.toArray m) (hz : es.length ≤ 1000)
    (h : R (.ok (.ret .none)) { s with heap := s.heap.update dx (Obj.putName name (PyData.keyHash c.w.params name) (.str name s.toks) v), toks := s.toks + 1 }) :
    codeAny (model c.prog c.w) A (.call (.builtin "object.__setattr__") ⟨[.ref x, .str name tk, v], []⟩) R s := by
  refine osa_open X I hp ht fun b => ?_
  obtain ⟨cd, hc, hd'⟩ := any_some hh
  obtain ⟨hx, hcl, hn, -⟩ := I
  obtain ⟨oc, odi, oda, osl⟩ := ox
  dsimp only at hcl hd
  subst hcl hd
  refine wpAny_bind (wpAny_pure (wpAny_bind (wpAny_bind (wpAny_loadPart hx (wpAny_bind ((looks_clsIn X hc).here ?_))))))
  rw [hd']
  refine wpAny_pure (a := some dx) (wpAny_bind (wpAny_pure (wpAny_bind ?_)))
  unfold nsSet
  refine wpAny_bind (wpAny_bind (wpAny_askSetting (wpAny_pure (wpAny_bind (wpAny_mkText (wpAny_bind (wpAny_loadPart D ?_)))))))
  unfold lookIn at hl
  split at hl
  · rename_i es₀ n₀ q
    rw [q]
    dsimp only
    have cc : (!es₀.any (·.key.isStr name) && es₀.any (·.refKey)) = false := by
      rw [← Array.any_toList, ← Array.any_toList]
      split at hl
      · rename_i en he
        rw [List.any_eq_true.mpr ⟨en, List.mem_of_find?_eq_some he, List.find?_some he⟩]; rfl
      · split at hl
        · cases hl
        · rename_i z; rw [Bool.not_eq_true] at z; rw [z, Bool.and_false]
    rw [aRefKeyMayBeTheName_at, cc]
    refine wpAny_updatePart D ?_
    refine wpAny_bind (wpAny_lookBehind D' (by rw [e']; exact pastItsLine_dict (by rw [List.size_toArray, sizeLine_eq]; omega)) ?_)
    exact wpAny_pure h
  · cases hl

theorem W.setAttrI {v : Value} {Q : Unit → Trk → Hold → Prop} {T' : Tok → Trk} (ix : In x (.obj (inst C dx)) T) (hs : findIn c.K (.ref C) "__setattr__" = some (some (.builtin "object.__setattr__"))) (hp : plainOver c.K C = true) (ht : takerIn c.K C name = some none) (hh : (clsIn c.K C).any (·.hasDict) = true)
    (hl : (getL name es).isSome = true) (hz : ∀ tk, (putL name (PyData.keyHash c.w.params name) (.str name tk) v es).length ≤ 1000)
    (id : ∀ tk, At dx (.obj (dictOf es m)) (.obj (dictOf (putL name (PyData.keyHash c.w.params name) (.str name tk) v es) (putN name es m))) T (T' tk)) (h : ∀ tk, Q () (T' tk) []) : W c h₀ n T H (setAttr (.ref x) name v) Q := fun A s hA S => by
  have I := S.inst ix (id 0).in
  have D : s.heap.get? dx = some (dictOf es m) := S.get (id 0).in
  have e := putName_dict name (PyData.keyHash c.w.params name) (.str name (s.toks + 1)) v es m
  have D' : (s.heap.update dx (Obj.putName name (PyData.keyHash c.w.params name) (.str name (s.toks + 1)) v)).get? dx = some (dictOf (putL name (PyData.keyHash c.w.params name) (.str name (s.toks + 1)) v es) (putN name es m)) := by
    rw [← e]
    exact Heap.get?_update_self _ D (by rw [e]; rfl)
  refine set_plain S.K I hs (osa_at (c := c) (s := { s with toks := s.toks + 1 }) S.K D D' I rfl hp ht hh (by rw [lookIn_dict]; exact hl) rfl (hz _) ⟨T' (s.toks + 1), [], h _, ?_⟩)
  exact S.at (id _) (Heap.SameBut.update ..) D' (Nat.le_succ_of_le (Nat.le_succ s.toks))

theorem AOk.under {A : Around} {C : Addr} {vals : List Value} (h : AOk (n + 1) A) : AOk n (A.under (.builtin "type.__call__" ⟨.ref C :: vals, []⟩)) := by
  have hw : (Code.builtin "type.__call__" ⟨.ref C :: vals, []⟩).weight = 1 := by kernel_rfl
  have hu : (Code.builtin "type.__call__" ⟨.ref C :: vals, []⟩).cUnits = 1 := by kernel_rfl
  refine ⟨h.1, ?_, ?_⟩
  · have := h.2.1; show A.depth + _ + n < _; omega
  · have := h.2.2; show A.units + _ + _ < _; omega

theorem codeFn {f : Addr} {o : Obj} {fd : FuncData} {body : List Stmt} {args : List Value} {kw : List (PySem.Str × Value)} {binds : List (PySem.Str × Value)} {bs : List (PySem.Str × PV)} {Q : Value → Trk → Hold → Prop}
    (ho : c.K.lookup f = some o) (hd : o.data = .func fd) (hcd : codeIn c.K fd.code fd.qualname = true) (hbody : fd.body = .stmts body)
    (hcell : (fd.scope.names.all fun x => x.2 != .cell) = true) (hco : fd.scope.isCoroutine = false) (hgen : fd.scope.isGenerator = false) (hk : fd.scope.kind = .function)
    (e : ∀ S, peek c.K S (bindArgs fd ⟨args, kw⟩) = some binds) (d : DenB H binds bs) (nd : decide (bs.map (·.1)).Nodup = true) (hl : Locals fd.scope bs = true)
    (h : ∀ L, W c h₀ n ((L, .frame bs) :: T) H (execs body (callEnv fd L f)) (leaveF L Q)) {A : Around} {s : Shared} (hA : AOk (n + 1) A) (S : St c h₀ T H s) :
    codeAny (model c.prog c.w) A (.call (.ref f) ⟨args, kw⟩) (fun r s' => match r with | .ok (.ret v) => ∃ T' N, Q v T' N ∧ St c h₀ T' (N ++ H) s' | _ => False) s := by
  have hcell' : ∀ x ∈ fd.scope.names, x.2 ≠ .cell := fun x hx => by
    have := List.all_eq_true.mp hcell x hx
    simpa using this
  refine codeAny_call_function hA.room (S.keep _ _ (S.base.K _ _ ho)) hd hco hgen hbody (codeRec_of (S.base.K.keeps S.keep) hcd) ?_
  refine kp_binds S.K e _ A.in1 _ _ ?_
  refine wpAny_newFunctionEnv hcell' (locals_of d hl) (fun h₁ hns hsb => ?_) hk
  have k : ∀ b o, s.heap.get? b = some o → h₁.get? b = some o := fun b o e => hsb.extBut b o (Nat.ne_of_lt (Heap.lt_size e)) (Heap.get?_push_of_some _ e)
  have S₂ : St c h₀ ((s.heap.objs.size, .frame bs) :: T) H { s with heap := h₁, toks := s.toks + binds.length } := by
    refine S.track (get_size _) k ⟨_, hns, fun x p hx => ?_⟩
    obtain ⟨v, h1, h2⟩ := d.look (of_decide_eq_true nd) hx
    refine ⟨v, h1, (S.rep h2).ev ⟨fun b o _ e _ => k b o e, fun b hb => ?_⟩ _ _⟩
    rcases List.mem_cons.mp hb with rfl | hb
    · exact .inr (get_size _)
    · exact .inl hb
  refine ⟨S₂.base.T.nolimit.keeps S₂.keep, codeAny_func ?_⟩
  refine wpAny_mono (h _ (A.deeper _) _ (hA.deeper _) S₂) (fun fl s' ⟨T₂, N₂, q, S'⟩ => ?_) fun _ _ x => x.elim
  obtain ⟨T₃, hs, hq⟩ := q
  cases fl with
  | ret v => exact ⟨T₃, N₂, hq, S'.subs hs⟩
  | next => exact ⟨T₃, N₂, hq, S'.subs hs⟩
  | brk => exact ⟨T₃, N₂, hq, S'.subs hs⟩
  | cont => exact ⟨T₃, N₂, hq, S'.subs hs⟩

theorem W.makeInst {C fI : Addr} {Q : Value → Trk → Hold → Prop} (hm : makesIn c.K C = true) (hi : findIn c.K (.ref C) "__init__" = some (some (.ref fI))) (hf : typeIn c.K (.ref fI) = some (.type "function"))
    (h : ∀ x dx (A : Around) (s : Shared), AOk n A → St c h₀ ((x, .obj (inst C dx)) :: (dx, .obj (dictOf [] 0)) :: T) H s →
      codeAny (model c.prog c.w) A (.call (.ref fI) ⟨[.ref x], []⟩) (fun r s' => match r with | .ok (.ret v) => ∃ T' N, (v = .none ∧ Q (.ref x) T' N) ∧ St c h₀ T' (N ++ H) s' | _ => False) s) : W c h₀ (n + 1) T H (call (.ref C) [] []) Q := fun A s hA S => by
  obtain ⟨hh, g, d, t, os⟩ := s
  have k1 : ∀ b o, hh.get? b = some o → (hh.push emptyDict).get? b = some o := fun b o e => Heap.get?_push_of_some _ e
  have S1 := S.track (tk := t) (a := hh.objs.size) (o := .obj (dictOf [] 0)) (get_size _) k1 (Heap.get?_push_size _ rfl)
  have k2 : ∀ b o, (hh.push emptyDict).get? b = some o → ((hh.push emptyDict).push (instObj C hh.objs.size)).get? b = some o := fun b o e => Heap.get?_push_of_some _ e
  have S2 := S1.track (tk := t) (a := (hh.push emptyDict).objs.size) (o := .obj (inst C hh.objs.size)) (get_size _) k2 (Heap.get?_push_size _ rfl)
  have hsz : (hh.push emptyDict).objs.size = hh.objs.size + 1 := Heap.size_push ..
  rw [hsz] at S2
  refine wpAny_call (make_core (makes_of S.K hm) (looks_findIn S.K hi) (fun self => bind_fn S.K self hf) (.inl rfl) ?_)
  refine codeAny_mono (h (hh.objs.size + 1) hh.objs.size _ _ hA.under S2) fun r s' z => ?_
  rcases r with e | (v | _ | _ | _) <;> first | exact z.elim | skip
  obtain ⟨T', N, ⟨hv, hq⟩, S'⟩ := z
  exact ⟨hv, T', N, hq, S'⟩
end

-- the patterns
theorem plainAttrs_re : PlainAttrs "re.Pattern" := ⟨⟨"object.__getattribute__", by rw [typeLookup_type, builtinLookup_eq_fast]; kernel_rfl, by decide +kernel⟩, by rw [typeLookup_type, builtinLookup_eq_fast]; kernel_rfl⟩
theorem slot_search : Slot "re.Pattern" "search" "re.Pattern.search" :=
  .of (owner := "re.Pattern") (n := "search") (by rw [typeLookup_type, builtinLookup_eq_fast]; kernel_rfl) (by decide +kernel) (by decide +kernel) (by decide +kernel)
    (by first | exact .inl (by decide +kernel) | exact .inr (by decide +kernel)) (by rw [isSubtype_type]; kernel_rfl)
theorem ty_search : typeOf (.builtin "re.Pattern.search") = pure (.type "method_descriptor") := by show builtinType _ = _; rw [builtinType_eq_fast]; kernel_rfl
theorem entry_search : entryFor table "re.Pattern.search" = some Builtin.«re.Pattern.search» := entryFor_of_tree (by kernel_rfl)
theorem args_search (a b : Value) : argsOk "re.Pattern.search" ⟨[a, b], []⟩ := by unfold argsOk; kernel_rfl

section
variable {c : Cx} {h₀ : Heap} {n : Nat} {T T' : Trk} {H : Hold} {α : Type} {env : Env} {pos : Pos} {s : Shared} {r : Addr} {o : Obj}
theorem W.methSearch {pl : Sem Bool} {Q : Value × List Value → Trk → Hold → Prop} (ho : c.K.lookup r = some o) (ht : o.cls = .type "re.Pattern") (hd : o.dict = none) (h : Q (.builtin "re.Pattern.search", [.ref r]) T []) : W c h₀ n T H (getMethod (.ref r) "search" pl) Q := fun A s hA S =>
  getMethod_builtin ⟨_, S.K _ _ ho, ht⟩ plainAttrs_re slot_search ty_search (fun b e => by cases e; exact ⟨_, S.K _ _ ho, hd⟩) ⟨T, [], h, S⟩
theorem W.search {v : Value} {Q : Value → Trk → Hold → Prop} (ho : c.K.lookup r = some o) (ht : o.cls = .type "re.Pattern") (e : ∀ S, peek c.K S (Builtin.«re.Pattern.search» ⟨[.ref r, v], []⟩) = some (.done (.ret .none))) (h : Q .none T []) : W c h₀ n T H (call (.builtin "re.Pattern.search") [.ref r, v] []) Q := fun A s hA S => by
  refine wpAny_call_entry slot_search ⟨_, S.K _ _ ho, ht⟩ entry_search ?_ (args_search _ _)
  exact (Looks.of_peek S.K (e _)).here ⟨_, rfl, T, [], h, S⟩
end
end Mine
end

section
open PySem PySem.W PyProof.Rows PySem.Calls PySem.MeetsSeq
set_option Elab.async false
set_option maxRecDepth 100000
set_option maxHeartbeats 4000000
set_option linter.unusedVariables false
set_option linter.unusedSimpArgs false
namespace Mine

section
variable {c : Cx} {h₀ : Heap} {n : Nat} {T T' : Trk} {H : Hold} {α : Type} {env : Env} {pos : Pos} {s : Shared} {x y : PySem.Str} {t : Tok}

theorem W.typeStr {Q : Value → Trk → Hold → Prop} (h : Q (.type "str") T []) : W c h₀ n T H (call (.type "type") [.str x t] []) Q := fun A s hA S =>
  call_type_of (Tx := "str") rfl (by decide) ⟨T, [], h, S⟩
theorem W.typeList {v : Value} {l : List PV} {Q : Value → Trk → Hold → Prop} (d : Lst T H v l) (h : Q (.type "list") T []) : W c h₀ n T H (call (.type "type") [v] []) Q := fun A s hA S => by
  obtain ⟨a, vs, m, rfl, ho, r⟩ := d.at S
  exact call_type_of (Tx := "list") ⟨_, ho, rfl⟩ (by decide) ⟨T, [], h, S⟩
theorem W.truthy_none {Q : Bool → Trk → Hold → Prop} (h : Q false T []) : W c h₀ n T H (truthy .none) Q := fun A s hA S => PyProof.Rows.truthy_none ⟨T, [], h, S⟩
theorem W.isTrue_value' {e : Expr} {whole : Sem Value} {Q : Bool → Trk → Hold → Prop} (he : isTrue e env whole = (do let v ← whole; PySem.standAt e.pos; PySem.holding [v] (truthy v))) (h : W c h₀ n T H whole fun v T₁ N₁ => W c h₀ n T₁ (N₁ ++ H) (truthy v) Q) : W c h₀ n T H (isTrue e env whole) Q := W.isTrue_value h he
theorem W.debug {Q : Value → Trk → Hold → Prop} {x : PySem.Str} (hx : (x == ("__debug__" : PySem.Str)) = true) (h : Q (.bool true) T []) : W c h₀ n T H (eval (.Name x pos) env) Q := fun A s hA S => by
  have e : eval (.Name x pos) env = (do PySem.standAt pos; if (x == ("__debug__" : PySem.Str)) = true then debugConstant else loadName env x) := rfl
  rw [e, hx, if_pos rfl]
  exact wpAny_bind (wpAny_standAt (wpAny_bind (wpAny_rule (wpAny_pure ⟨T, [], h, S⟩))))
theorem W.methLower {pl : Sem Bool} {Q : Value × List Value → Trk → Hold → Prop} (h : Q (.builtin "str.lower", [.str x t]) T []) : W c h₀ n T H (getMethod (.str x t) "lower" pl) Q := fun A s hA S => GM.lower ⟨T, [], h, S⟩
theorem W.methJoin {pl : Sem Bool} {Q : Value × List Value → Trk → Hold → Prop} (h : Q (.builtin "str.join", [.str x t]) T []) : W c h₀ n T H (getMethod (.str x t) "join" pl) Q := fun A s hA S => GM.join ⟨T, [], h, S⟩
theorem W.lower {Q : Value → Trk → Hold → Prop} (e : Txt.lower x = y) (hf : Builtin.Str.tooLong (Txt.lower x).length = false) (h : ∀ t, Q (.str y t) T []) : W c h₀ n T H (call (.builtin "str.lower") [.str x t] []) Q := fun A s hA S =>
  SC.lower hf (by rw [e]; exact ⟨T, [], h _, S.tok⟩)
theorem W.chr {i : Int} {Q : Value → Trk → Hold → Prop} (h0 : 0 ≤ i) (h1 : i ≤ 1114111) (h : ∀ t, Q (.str ⟨#[i.toNat]⟩ t) T []) : W c h₀ n T H (call (.builtin "chr") [.int i t] []) Q := fun A s hA S => chr_of_range h0 h1 ⟨T, [], h _, S.tok⟩
theorem W.ord {k : Nat} {Q : Value → Trk → Hold → Prop} (h : ∀ t, Q (.int (k : Int) t) T []) : W c h₀ n T H (call (.builtin "ord") [.str ⟨#[k]⟩ t] []) Q := fun A s hA S => P.ord_of_char ⟨T, [], h _, S.tok⟩
theorem W.strI {a : Int} {Q : Value → Trk → Hold → Prop} (ha : a.natAbs.log2 < 1920) (h : ∀ t, Q (.str (PySem.Str.ofString (toString a)) t) T []) : W c h₀ n T H (call (.type "str") [.int a t] []) Q := fun A s hA S => P.str_of_int ha ⟨T, [], h _, S.tok⟩
theorem W.intS {k : Int} {Q : Value → Trk → Hold → Prop} (h0 : 0 ≤ k) (h1 : k < 10 ^ 10) (h : ∀ t, Q (.int k t) T []) : W c h₀ n T H (call (.type "int") [.str (PySem.Str.ofString (toString k)) t] []) Q := fun A s hA S => KIN.call_num h0 h1 ⟨T, [], h _, S.tok⟩
theorem W.eqStr {u : Tok} {Q : Value → Trk → Hold → Prop} (h : Q (.bool (x == y)) T []) : W c h₀ n T H (compareOp .Eq (.str x t) (.str y u)) Q := fun A s hA S => PyProof.Rows.eq_str ⟨T, [], h, S⟩
theorem W.join1 {v : Value} {Q : Value → Trk → Hold → Prop} (hl : y.length + x.length ≤ 1000) (d : Lst T H v [.str y]) (h : ∀ t, Q (.str y t) T []) : W c h₀ n T H (call (.builtin "str.join") [.str x t, v] []) Q := fun A s hA S => by
  obtain ⟨a, vs, m, rfl, ho, r⟩ := d.at S
  simp only [RepL] at r
  obtain ⟨u, q, e, hu, hq⟩ := r
  subst hq
  simp only [Rep] at hu
  obtain ⟨tk, rfl⟩ := hu
  have e' : vs = (strValues [(y, tk)]).toArray := by
    apply Array.ext'
    rw [e]; rfl
  refine call_meets F.slot_str_join (typeIs_str s x t) F.entry_str_join (F.args_str_join_2 _ _) (meets_str_join_list x t a [(y, tk)] ?_) ⟨⟨_, ho, rfl, m, by rw [e']⟩, ?_⟩
  · show decide (0 + y.length + x.length > sizeLine) = false
    have := sizeLine_eq
    rw [decide_eq_false_iff_not]; omega
  · exact ⟨T, [], h tk, S⟩

theorem W.AssignAttr {o : Expr} {attr : PySem.Str} {pos' : Pos} {value : Expr} {Q : Flow → Trk → Hold → Prop} (hs : swapsWith value (some (.Attribute o attr pos')) pos.line env = Pure.pure false)
    (h : W c h₀ n T H (eval value env) fun v T₁ N₁ => W c h₀ n T₁ (N₁ ++ H) (eval o env) fun ov T₂ N₂ => W c h₀ n T₂ (N₂ ++ (N₁ ++ H)) (setAttr ov attr v) fun _ T₃ _ => Q .next T₃ []) : W c h₀ n T H (exec (.Assign [.Attribute o attr pos'] value pos) env) Q :=
  W.eqv (plainObj_exec_Assign_Attribute o attr pos' value pos hs) (W.bind (W.standAt (W.bind (h.mono fun v T₁ N₁ h₁ => W.bind (W.eqv (assign_Attribute o attr pos' v) (W.bind (W.holding (h₁.mono fun ov T₂ N₂ h₂ => W.bind (W.standAt (W.bind (W.holding (h₂.mono fun _ T₃ N₃ h₃ => W.release (W.pure h₃)))))))))))))

theorem W.ForNone {target iter : Expr} {body orelse : List Stmt} {Q : Flow → Trk → Hold → Prop}
    (h : W c h₀ n T H (eval iter env) fun v T₁ N₁ => W c h₀ n T₁ (N₁ ++ H) (pyIter v) fun it T₂ N₂ => W c h₀ n T₂ (N₂ ++ (N₁ ++ H)) (pyNext it) fun r T₃ N₃ => r = none ∧ W c h₀ n T₃ (N₃ ++ (N₂ ++ (N₁ ++ H))) (execs orelse env) Q)
    (hs : ∀ x, foldedSetIterable iter env x = Pure.pure x := by intro _; rfl) : W c h₀ n T H (exec (.For target iter body orelse pos) env) Q := by
  intro A s hA S
  refine wpAny_For (wpAny_mono (h A s hA S) (fun v s₁ ⟨T₁, N₁, q₁, S₁⟩ => wpAny_mono (q₁ A s₁ hA S₁) (fun it s₂ ⟨T₂, N₂, q₂, S₂⟩ => ?_) fun _ _ x => x.elim) fun _ _ x => x.elim) hs
  refine codeAny_forLoop_any (fun m s' => s' = s₂) ?_ 0 rfl
  rintro m s' rfl
  refine wpAny_mono (q₂ A s' hA S₂) (fun r s₃ ⟨T₃, N₃, ⟨hr, q₃⟩, S₃⟩ => ?_) fun _ _ x => x.elim
  subst hr
  exact wpAny_mono (q₃ A s₃ hA S₃) (fun f s₄ ⟨T₄, N₄, q₄, S₄⟩ => ⟨T₄, N₄, q₄, S₄.thin.thin.thin⟩) fun _ _ x => x.elim

theorem W.allocDict {Q : Addr → Trk → Hold → Prop} (h : ∀ d, (d == sysModules) = false → Q d ((d, .obj emptyDict) :: T) []) : W c h₀ n T H (alloc emptyDict) Q := fun A s hA S => by
  refine wpAny_alloc ⟨_, [], h _ ?_, S.track (tk := s.toks) (get_size _) (fun b o e => Heap.get?_push_of_some _ e) (Heap.get?_push_size _ rfl)⟩
  obtain ⟨o, es, ep, ho, _⟩ := S.base.T.g
  have := Heap.lt_size (S.keep _ _ ho)
  rw [beq_eq_false_iff_ne]
  show s.heap.objs.size ≠ 1
  have h3 : (3 : Nat) < s.heap.objs.size := this
  omega

theorem dictAt_empty {d : Addr} {h : Heap} (e : h.get? d = some emptyDict) : h.DictAt (strKind c.prog c.w) d [] 0 :=
  ⟨emptyDict, #[], e, ⟨rfl, rfl, rfl⟩, rfl, (fun _ h => by simp at h), .nil, .nil⟩
abbrev viewObj (d : Addr) : Obj := { cls := .type "dict_items", data := .fields #[.ref d] }
abbrev itemsIt (d : Addr) : Obj := { cls := .type "dict_itemiterator", data := .fields #[.none, .bool false, .ref d, .int (0 : Nat) 0, .int (0 : Nat) 0, .int (0 : Nat) 0, .none, .none] }
theorem W.methItems {d : Addr} {pl : Sem Bool} {Q : Value × List Value → Trk → Hold → Prop} (x : In d (.obj emptyDict) T) (h : Q (.builtin "dict.items", [.ref d]) T []) : W c h₀ n T H (getMethod (.ref d) "items" pl) Q := fun A s hA S =>
  getMethod_builtin ⟨_, S.get x, rfl⟩ F.plainAttrs_dict F.slot_dict_items F.type_dict_items (fun b e => by cases e; exact ⟨_, S.get x, rfl⟩) ⟨T, [], h, S⟩
theorem W.callItems {d : Addr} {Q : Value → Trk → Hold → Prop} (x : In d (.obj emptyDict) T) (hd : (d == sysModules) = false) (h : ∀ v, Q (.ref v) ((v, .obj (viewObj d)) :: T) []) : W c h₀ n T H (call (.builtin "dict.items") [.ref d] []) Q := fun A s hA S => by
  have hm := dictAt_empty (c := c) (S.get x)
  obtain ⟨o, es, ho, r⟩ := hm
  refine call_meetsIn F.slot_dict_items ⟨_, S.get x, rfl⟩ F.entry_dict_items (F.args_dict_items_1 _) (meets_dict_items (strKind c.prog c.w) d hd) ⟨⟨[], o, es, 0, ho, r⟩, ?_⟩
  exact ⟨_, [], h _, S.track (tk := s.toks) (get_size _) (fun b o e => Heap.get?_push_of_some _ e) (Heap.get?_push_size _ rfl)⟩
theorem W.iterItems {d v : Addr} {Q : Value → Trk → Hold → Prop} (x : In d (.obj emptyDict) T) (y : In v (.obj (viewObj d)) T) (h : ∀ I, Q (.ref I) ((I, .obj (itemsIt d)) :: T) []) : W c h₀ n T H (pyIter (.ref v)) Q := fun A s hA S => by
  refine wpAny_pyIter_items (knd := strKind c.prog c.w) (kvs := []) (ep := 0) ⟨_, S.get y, rfl, rfl⟩ (dictAt_empty (S.get x)) ⟨_, [], h _, ?_⟩
  exact S.track (tk := s.toks) (get_size _) (fun b o e => Heap.get?_push_of_some _ e) (Heap.get?_push_size _ rfl)
theorem W.nextItems {d I : Addr} {Q : Option Value → Trk → Hold → Prop} (x : In d (.obj emptyDict) T) (h : Q none T []) : W c h₀ n ((I, .obj (itemsIt d)) :: T) H (pyNext (.ref I)) Q := fun A s hA S => by
  refine wpAny_pyNext_items_end (knd := strKind c.prog c.w) (kvs := []) (i := 0) (ep := 0) (ok := .none) (ov := .none) hA.1 (S.get .head) (dictAt_empty (S.get (.tail x))) rfl fun h' he => ⟨T, [], h, ?_⟩
  have e : Ev (dom ((I, TO.obj (itemsIt d)) :: T)) s.heap (dom T) h' := ⟨fun b q hb hq _ => he b q (fun z => hb (z ▸ List.mem_cons_self ..)) hq, fun b hb => .inl (List.mem_cons_of_mem _ hb)⟩
  refine ⟨S.base, fun b q hq => he b q (fun z => ?_) (S.keep b q hq), fun q hq => S.new q (List.mem_cons_of_mem _ hq), fun q hq => ?_, (List.nodup_cons.mp S.nd).2, fun q hq => (S.held q hq).ev e _ _, S.gens, S.drawn, S.os, S.tk⟩
  · have := S.new (I, .obj (itemsIt d)) (List.mem_cons_self ..)
    rw [z, this] at hq; cases hq
  · obtain ⟨o, ho⟩ := (S.own q (List.mem_cons_of_mem _ hq)).some
    exact (S.own q (List.mem_cons_of_mem _ hq)).ev e ((he _ _ (fun z => (List.nodup_cons.mp S.nd).1 (List.mem_map.mpr ⟨q, hq, z⟩)) ho).trans ho.symm)
end
end Mine
end

section
open PySem PySem.W PyProof.Rows PySem.Calls PySem.MeetsSeq
set_option Elab.async false
set_option maxRecDepth 100000
set_option maxHeartbeats 4000000
set_option linter.unusedVariables false
set_option linter.unusedSimpArgs false
namespace Mine

theorem pick_range {α : Type} (l : List α) (a : Nat) : ∀ n, ((List.range n).map fun k => a + k).filterMap (l[·]?) = (l.drop a).take n
  | 0 => by simp
  | n + 1 => by
    rw [List.range_succ, List.map_append, List.filterMap_append, pick_range l a n, List.take_add_one]
    rw [List.getElem?_drop]
    congr 1
theorem range_up {a b : Nat} : sliceRange (a : Int) (b : Int) 1 = (List.range (b - a)).map fun k => a + k := by
  unfold sliceRange
  by_cases h : (a : Int) < (b : Int)
  · have e : ((b : Int) - (a : Int) + 1 - 1) / 1 = ((b - a : Nat) : Int) := by omega
    simp only [show (1 : Int) > 0 by decide, if_true, if_pos h, e, Int.toNat_natCast]
    congr 1
    funext k
    omega
  · have e : b - a = 0 := by omega
    simp only [show (1 : Int) > 0 by decide, if_true, if_neg h, e]
    rfl
theorem slice_all {α : Type} (l : List α) : slicePV l none none none = l := by
  have e : sliceBounds none none none l.length = (((0 : Nat) : Int), (l.length : Int), 1) := rfl
  unfold slicePV
  rw [e]
  show (sliceRange ((0 : Nat) : Int) (l.length : Int) 1).filterMap (l[·]?) = l
  rw [range_up, pick_range]
  simp
theorem slice_drop {α : Type} (l : List α) (k : Nat) : slicePV l (some (k : Int)) none none = l.drop k := by
  have e : sliceBounds (some (k : Int)) none none l.length = (((min k l.length : Nat) : Int), (l.length : Int), 1) := by
    unfold sliceBounds
    simp only [Option.getD_none, show (1 : Int) > 0 by decide, if_true]
    rw [if_neg (by omega)]
    congr 1
    omega
  unfold slicePV
  rw [e]
  show (sliceRange ((min k l.length : Nat) : Int) (l.length : Int) 1).filterMap (l[·]?) = _
  rw [range_up, pick_range]
  by_cases h : k ≤ l.length
  · rw [Nat.min_eq_left h]
    exact List.take_of_length_le (by simp)
  · rw [Nat.min_eq_right (by omega), List.drop_eq_nil_of_le (by omega), List.drop_eq_nil_of_le (by omega)]; simp
theorem slice_take {α : Type} (l : List α) (k : Nat) : slicePV l none (some (k : Int)) none = l.take k := by
  have e : sliceBounds none (some (k : Int)) none l.length = (((0 : Nat) : Int), ((min k l.length : Nat) : Int), 1) := by
    unfold sliceBounds
    simp only [Option.getD_none, show (1 : Int) > 0 by decide, if_true]
    rw [if_neg (by omega)]
    have : max 0 (min (k : Int) (l.length : Int)) = ((min k l.length : Nat) : Int) := by omega
    rw [this]; rfl
  unfold slicePV
  rw [e]
  show (sliceRange ((0 : Nat) : Int) ((min k l.length : Nat) : Int) 1).filterMap (l[·]?) = _
  rw [range_up, pick_range]
  simp
theorem slice_rev {α : Type} (l : List α) : slicePV l none none (some (-1)) = l.reverse := by
  have e : sliceBounds none none (some (-1)) l.length = ((l.length : Int) - 1, -1, -1) := rfl
  unfold slicePV
  rw [e]
  show (sliceRange ((l.length : Int) - 1) (-1) (-1)).filterMap (l[·]?) = _
  have e2 : sliceRange ((l.length : Int) - 1) (-1) (-1) = (List.range l.length).map fun k => l.length - 1 - k := by
    unfold sliceRange
    simp only [show ¬ ((-1 : Int) > 0) by decide, if_false]
    by_cases h : (l.length : Int) - 1 > -1
    · have e : ((l.length : Int) - 1 - -1 - -1 - 1) / (- -1) = (l.length : Int) := by
        rw [show (- -1 : Int) = 1 from rfl, Int.ediv_one]; omega
      simp only [if_pos h, e, Int.toNat_natCast]
      apply List.map_congr_left
      intro k hk
      have := List.mem_range.mp hk
      omega
    · have e : l.length = 0 := by omega
      simp only [if_neg h, e]
      rfl
  rw [e2]
  have key := pick_range l.reverse 0 l.length
  have e3 : ∀ n, n ≤ l.length → ((List.range n).map fun k => 0 + k).filterMap (l.reverse[·]?) = ((List.range n).map fun k => l.length - 1 - k).filterMap (l[·]?) := by
    intro n
    induction n with
    | zero => intro _; rfl
    | succ n ih =>
      intro h
      rw [List.range_succ, List.map_append, List.filterMap_append, ih (by omega), List.map_append, List.filterMap_append]
      congr 1
      show List.filterMap (l.reverse[·]?) [0 + n] = List.filterMap (l[·]?) [l.length - 1 - n]
      have : l.reverse[0 + n]? = l[l.length - 1 - n]? := by rw [Nat.zero_add, List.getElem?_reverse (by omega)]
      simp only [List.filterMap_cons, this, List.filterMap_nil]
  rw [← e3 _ (Nat.le_refl _), key, List.drop_zero, List.take_of_length_le (by simp)]
end Mine
end

section
open PySem PySem.W PyProof.Rows PySem.Calls PySem.MeetsSeq PySem.SeqAt
set_option Elab.async false
set_option maxRecDepth 100000
set_option maxHeartbeats 4000000
set_option linter.unusedVariables false
set_option linter.unusedSimpArgs false
namespace Mine

mutual
/-- the two are equal, as Python says -/
def same : PV → PV → Bool
  | .int a, .int b => a == b
  | .flt x, .flt y => fltEq x y
  | .flt x, .int b => Float64.cmpInt x b == some Ordering.eq
  | .str a, .str b => a == b
  | .tup l, .tup l' => sameL l l'
  | .lst l, .lst l' => sameL l l'
  | _, _ => false
def sameL : List PV → List PV → Bool
  | [], [] => true
  | a :: l, b :: l' => same a b && sameL l l'
  | _, _ => false
end


mutual
def dep : PV → Nat
  | .tup l => depL l + 1
  | .lst l => depL l + 1
  | _ => 0
def depL : List PV → Nat
  | [] => 0
  | a :: l => max (dep a) (depL l)
end
theorem dep_mem : ∀ {l : List PV} {p : PV}, p ∈ l → dep p ≤ depL l
  | a :: l, p, h => by
    simp only [depL]
    rcases List.mem_cons.mp h with rfl | h
    · exact Nat.le_max_left _ _
    · exact Nat.le_trans (dep_mem h) (Nat.le_max_right _ _)

theorem sameL_len : ∀ {l l' : List PV}, sameL l l' = true → l.length = l'.length
  | [], [], _ => rfl
  | _ :: l, _ :: l', h => by simp only [sameL, Bool.and_eq_true] at h; simp [sameL_len h.2]
  | [], _ :: _, h => by simp [sameL] at h
  | _ :: _, [], h => by simp [sameL] at h
theorem sameL_get : ∀ {l l' : List PV}, sameL l l' = true → ∀ {i : Nat} {p q : PV}, l[i]? = some p → l'[i]? = some q → same p q = true
  | [], _, _, i, p, q, hp, _ => by simp at hp
  | _ :: _, [], _, i, p, q, _, hq => by simp at hq
  | a :: l, b :: l', h, i, p, q, hp, hq => by
    simp only [sameL, Bool.and_eq_true] at h
    cases i with
    | zero => simp at hp hq; subst hp hq; exact h.1
    | succ i => simp at hp hq; exact sameL_get h.2 hp hq

section
variable {c : Cx} {A : Around} {s : Shared} {D : List Addr}
/-- no token's sharing is left untold -/
def Told (s : Shared) : Prop := ∀ (prog : Program) (w : World) (A : Around) (E : Value → Shared → Prop) (t : Tok) (Q : Bool → Shared → Prop), Q false s → wpAny (model prog w) A (sharingNotTold t) Q E s

theorem isSame_flt {prog : Program} {w : World} {E : Value → Shared → Prop} {x y : UInt64} {t u : Tok} {Q : Bool → Shared → Prop} (T : Told s) (ht : t ≠ 0) (hu : u ≠ 0) (hq : ∀ b, Q b s) : wpAny (model prog w) A (isSame (.float x t) (.float y u)) Q E s := by
  show wpAny _ A (isSame.created _ t u) Q E s
  unfold isSame.created
  rw [if_neg (by simp [ht, hu])]
  by_cases e : (t == u) = true
  · rw [if_pos e]; exact wpAny_pure (hq _)
  · rw [if_neg e]
    by_cases e2 : (!(x == y && !Float64.isNaN x)) = true
    · rw [if_pos e2]; exact wpAny_pure (hq _)
    · rw [if_neg e2]
      refine wpAny_bind (T _ _ _ _ _ _ ?_)
      rw [if_neg (by decide)]
      refine wpAny_bind (T _ _ _ _ _ _ ?_)
      rw [if_neg (by decide)]
      exact wpAny_bind (wpAny_rule (wpAny_bind (wpAny_askSetting (wpAny_pure (hq _)))))

theorem RcAt.flt_flt {x y : UInt64} {t u : Tok} (h : fltEq x y = true) : RcAt A s (.float x t) (.float y u) true := fun prog w E Q hq =>
  richCompare_gives (op := .Eq) (AutoFloatOps.typeIs_float s x t) (AutoFloatOps.typeIs_float s y u) F.slot_float_eq F.entry_float_eq (F.args_float_eq_2 _ _) (AutoFloatG5.float___eq___float_float_0 x t y u) (fun x => nomatch x) (by
    show Q (.bool (Float64.cmp x y == some Ordering.eq)) s
    unfold fltEq at h
    rw [h]; exact hq)
theorem EqAt.flt_flt {x y : UInt64} {t u : Tok} (T : Told s) (ht : t ≠ 0) (hu : u ≠ 0) (h : fltEq x y = true) : EqAt A s (.float x t) (.float y u) true := fun prog w E Q hq => by
  unfold eqBool
  refine wpAny_holding ?_
  refine wpAny_ite_split (fun _ => wpAny_bind (wpAny_rule (wpAny_pure hq))) (fun _ => ?_)
  refine wpAny_bind (isSame_flt T ht hu fun b => ?_)
  cases b with
  | true => exact wpAny_pure hq
  | false => exact wpAny_bind (RcAt.flt_flt h prog w E _ (wpAny_truthy_bool hq))
theorem EqAt.flt_int {x : UInt64} {b : Int} {t u : Tok} (h : (Float64.cmpInt x b == some Ordering.eq) = true) : EqAt A s (.float x t) (.int b u) true := fun prog w E Q hq => by
  unfold eqBool
  refine wpAny_holding ?_
  refine wpAny_ite_split (fun hab => absurd (eq_of_beq hab) nofun) (fun _ => ?_)
  refine wpAny_bind (rc_left_or (AutoFloatOps.typeIs_float s x t) (typeIs_int s b u) (by decide) F.sub_int_float F.slot_float_eq
    (call_gives F.slot_float_eq (AutoFloatOps.typeIs_float s x t) F.entry_float_eq (F.args_float_eq_2 _ _) (AutoFloatG6.float___eq___float_int_0 x t b u) ⟨nofun, ?_⟩) (.inl rfl))
  show wpAny _ A (truthOfDropped (.bool (Float64.cmpInt x b == some Ordering.eq))) Q E s
  rw [h]; exact wpAny_truthy_bool hq

theorem all_true {n : Nat} : ((List.range n).all fun _ => true) = true := by simp

theorem same_at (T : Told s) : ∀ (n : Nat) (p q : PV) (v w : Value) (A : Around), dep p < n → A.units + n < cLine → Rep D s.heap p v → Rep D s.heap q w → same p q = true → EqAt A s v w true
  | 0, _, _, _, _, _, h, _, _, _, _ => absurd h (Nat.not_lt_zero _)
  | n + 1, p, q, v, w, A, hn, hu, rp, rq, h => by
    cases p <;> cases q <;> (try exact (Bool.false_ne_true h).elim)
    case int.int a b =>
      simp only [Rep] at rp rq
      obtain ⟨t, rfl⟩ := rp
      obtain ⟨u, rfl⟩ := rq
      have := EqAt.int_int (A := A) (s := s) a t b u
      have h : (a == b) = true := h
      rw [h] at this; exact this
    case flt.flt x y =>
      simp only [Rep] at rp rq
      obtain ⟨t, rfl, ht⟩ := rp
      obtain ⟨u, rfl, hu⟩ := rq
      exact EqAt.flt_flt T ht hu h
    case flt.int x b =>
      simp only [Rep] at rp rq
      obtain ⟨t, rfl, _⟩ := rp
      obtain ⟨u, rfl⟩ := rq
      exact EqAt.flt_int h
    case str.str a b =>
      simp only [Rep] at rp rq
      obtain ⟨t, rfl⟩ := rp
      obtain ⟨u, rfl⟩ := rq
      have := EqAt.str_str (A := A) (s := s) a t b u
      have h : (a == b) = true := h
      rw [h] at this; exact this
    case tup.tup l l' =>
      obtain ⟨a, vs, m, rfl, ho, _, r⟩ := rep_tup rp
      obtain ⟨b, ws, m', rfl, ho', _, r'⟩ := rep_tup rq
      by_cases e : a = b
      · subst e; exact EqAt.same _
      · refine EqAt.of_refs e ?_
        have hsz : vs.size = ws.size := by rw [r.size, r'.size, sameL_len h]
        have key := RcAt.tuples (A := A) (s := s) (e := fun _ => true) ⟨_, ho, rfl, m, rfl⟩ ⟨_, ho', rfl, m', rfl⟩ (by omega) (fun j h1 h2 => by
          have hj1 : j < l.length := by rw [← r.size]; exact h1
          have hj2 : j < l'.length := by rw [← r'.size]; exact h2
          obtain ⟨x, e1, r1⟩ := get_at r (List.getElem?_eq_getElem hj1)
          obtain ⟨y, e2, r2⟩ := get_at r' (List.getElem?_eq_getElem hj2)
          rw [Array.getElem?_eq_getElem h1] at e1; cases e1
          rw [Array.getElem?_eq_getElem h2] at e2; cases e2
          have hlt : dep l[j] < n := by
            have := dep_mem (List.getElem_mem hj1)
            simp only [dep] at hn; omega
          exact same_at T n _ _ _ _ A.in1 hlt (by show A.units + 1 + n < _; omega) r1 r2 (sameL_get h (List.getElem?_eq_getElem hj1) (List.getElem?_eq_getElem hj2)))
        rw [all_true, hsz] at key
        simpa using key
    case lst.lst l l' =>
      obtain ⟨a, vs, m, rfl, ho, _, r⟩ := rep_lst rp
      obtain ⟨b, ws, m', rfl, ho', _, r'⟩ := rep_lst rq
      by_cases e : a = b
      · subst e; exact EqAt.same _
      · refine EqAt.of_refs e ?_
        have hsz : vs.size = ws.size := by rw [r.size, r'.size, sameL_len h]
        have key := RcAt.lists (A := A) (s := s) (e := fun _ => true) ⟨_, ho, rfl, m, rfl⟩ ⟨_, ho', rfl, m', rfl⟩ hsz (by omega) (fun j h1 h2 => by
          have hj1 : j < l.length := by rw [← r.size]; exact h1
          have hj2 : j < l'.length := by rw [← r'.size]; exact h2
          obtain ⟨x, e1, r1⟩ := get_at r (List.getElem?_eq_getElem hj1)
          obtain ⟨y, e2, r2⟩ := get_at r' (List.getElem?_eq_getElem hj2)
          rw [Array.getElem?_eq_getElem h1] at e1; cases e1
          rw [Array.getElem?_eq_getElem h2] at e2; cases e2
          have hlt : dep l[j] < n := by
            have := dep_mem (List.getElem_mem hj1)
            simp only [dep] at hn; omega
          exact same_at T n _ _ _ _ A.in1 hlt (by show A.units + 1 + n < _; omega) r1 r2 (sameL_get h (List.getElem?_eq_getElem hj1) (List.getElem?_eq_getElem hj2)))
        rw [all_true] at key
        exact key

theorem ne_same {p q : PV} {v w : Value} {prog : Program} {wd : World} {E : Value → Shared → Prop} {Q : Value → Shared → Prop} (T : Told s) (hseq : (match p with | .tup _ => true | .lst _ => true | _ => false) = true) (hu : A.units + dep p + 2 < cLine) (rp : Rep D s.heap p v) (rq : Rep D s.heap q w) (h : same p q = true) (hQ : Q (.bool false) s) :
    wpAny (model prog wd) A (compareOp .NotEq v w) Q E s := by
  cases p <;> (try exact (Bool.false_ne_true hseq).elim) <;> cases q <;> (try exact (Bool.false_ne_true h).elim)
  case tup.tup l l' =>
    obtain ⟨a, vs, m, rfl, ho, _, r⟩ := rep_tup rp
    obtain ⟨b, ws, m', rfl, ho', _, r'⟩ := rep_tup rq
    have hsz : vs.size = ws.size := by rw [r.size, r'.size, sameL_len h]
    refine richCompare_meets_room (op := .NotEq) ⟨_, ho, rfl⟩ ⟨_, ho', rfl⟩ F.slot_tuple_ne F.entry_tuple_ne (F.args_tuple_ne_2 _ _) (tuple_neAt a b vs ws m m' none none #[] #[] fun _ => true) ⟨ho, ho', fun j h1 h2 => ?_, ?_⟩ (by omega)
    · have hj1 : j < l.length := by rw [← r.size]; exact h1
      have hj2 : j < l'.length := by rw [← r'.size]; exact h2
      obtain ⟨x, e1, r1⟩ := get_at r (List.getElem?_eq_getElem hj1)
      obtain ⟨y, e2, r2⟩ := get_at r' (List.getElem?_eq_getElem hj2)
      rw [Array.getElem?_eq_getElem h1] at e1; cases e1
      rw [Array.getElem?_eq_getElem h2] at e2; cases e2
      have hlt := dep_mem (List.getElem_mem hj1)
      simp only [dep] at hu
      exact same_at T (dep l[j] + 1) _ _ _ _ A.in1 (Nat.lt_succ_self _) (by show A.units + 1 + _ < _; omega) r1 r2 (sameL_get h (List.getElem?_eq_getElem hj1) (List.getElem?_eq_getElem hj2))
    · have e : (!((List.range (min vs.size ws.size)).all (fun _ => true) && vs.size == ws.size)) = false := by rw [all_true, hsz]; simp
      show _ ≠ _ ∧ Q _ s
      rw [e]
      exact ⟨nofun, hQ⟩
  case lst.lst l l' =>
    obtain ⟨a, vs, m, rfl, ho, _, r⟩ := rep_lst rp
    obtain ⟨b, ws, m', rfl, ho', _, r'⟩ := rep_lst rq
    have hsz : vs.size = ws.size := by rw [r.size, r'.size, sameL_len h]
    refine richCompare_meets_room (op := .NotEq) ⟨_, ho, rfl⟩ ⟨_, ho', rfl⟩ F.slot_list_ne F.entry_list_ne (F.args_list_ne_2 _ _) (list_neAt a b vs ws m m' none none #[] #[] hsz fun _ => true) ⟨ho, ho', fun j h1 h2 => ?_, ?_⟩ (by omega)
    · have hj1 : j < l.length := by rw [← r.size]; exact h1
      have hj2 : j < l'.length := by rw [← r'.size]; exact h2
      obtain ⟨x, e1, r1⟩ := get_at r (List.getElem?_eq_getElem hj1)
      obtain ⟨y, e2, r2⟩ := get_at r' (List.getElem?_eq_getElem hj2)
      rw [Array.getElem?_eq_getElem h1] at e1; cases e1
      rw [Array.getElem?_eq_getElem h2] at e2; cases e2
      have hlt := dep_mem (List.getElem_mem hj1)
      simp only [dep] at hu
      exact same_at T (dep l[j] + 1) _ _ _ _ A.in1 (Nat.lt_succ_self _) (by show A.units + 1 + _ < _; omega) r1 r2 (sameL_get h (List.getElem?_eq_getElem hj1) (List.getElem?_eq_getElem hj2))
    · have e : (!(List.range vs.size).all (fun _ => true)) = false := by rw [all_true]; rfl
      show _ ≠ _ ∧ Q _ s
      rw [e]
      exact ⟨nofun, hQ⟩
end

section
variable {c : Cx} {h₀ : Heap} {n : Nat} {T T' : Trk} {H : Hold}
/-- what the heap's booked names say: nothing is left untold -/
def ToldK (c : Cx) : Prop := ∀ t S, peek c.K S (sharingNotTold t) = some false
theorem St.told {s : Shared} (S : St c h₀ T H s) (k : ToldK c) : Told s := fun prog w A E t Q q => (Looks.of_peek S.K (k t _)).here q
theorem W.neSame {p q : PV} {v w : Value} {Q : Value → Trk → Hold → Prop} (k : ToldK c) (hseq : (match p with | .tup _ => true | .lst _ => true | _ => false) = true) (hd : dep p ≤ 20) (dp : Den H v p) (dq : Den H w q) (h : same p q = true) (hQ : Q (.bool false) T []) :
    W c h₀ n T H (compareOp .NotEq v w) Q := fun A s hA S => ne_same (S.told k) hseq (by have := hA.2.2; show A.units + _ + 2 < 9900; omega) (S.rep dp) (S.rep dq) h ⟨T, [], hQ, S⟩
theorem W.eqSame {l l' : List PV} {v w : Value} {Q : Value → Trk → Hold → Prop} (k : ToldK c) (hd : depL l ≤ 20) (dp : Den H v (.lst l)) (dq : Den H w (.lst l')) (h : sameL l l' = true) (hQ : Q (.bool true) T []) :
    W c h₀ n T H (compareOp .Eq v w) Q := fun A s hA S => by
  have hu := hA.2.2
  obtain ⟨a, vs, m, rfl, ho, _, r⟩ := rep_lst (S.rep dp)
  obtain ⟨b, ws, m', rfl, ho', _, r'⟩ := rep_lst (S.rep dq)
  have hsz : vs.size = ws.size := by rw [r.size, r'.size, sameL_len h]
  refine eq_listAt (e := fun _ => true) ⟨_, ho, rfl, m, rfl⟩ ⟨_, ho', rfl, m', rfl⟩ hsz (by show A.units < 9900; omega) (fun j h1 h2 => ?_) (by rw [all_true]; exact ⟨T, [], hQ, S⟩)
  have hj1 : j < l.length := by rw [← r.size]; exact h1
  have hj2 : j < l'.length := by rw [← r'.size]; exact h2
  obtain ⟨x, e1, r1⟩ := get_at r (List.getElem?_eq_getElem hj1)
  obtain ⟨y, e2, r2⟩ := get_at r' (List.getElem?_eq_getElem hj2)
  rw [Array.getElem?_eq_getElem h1] at e1; cases e1
  rw [Array.getElem?_eq_getElem h2] at e2; cases e2
  have hlt := dep_mem (List.getElem_mem hj1)
  exact same_at (S.told k) (dep l[j] + 1) _ _ _ _ A.in1 (Nat.lt_succ_self _) (by show A.units + 1 + _ < 9900; omega) r1 r2 (sameL_get h (List.getElem?_eq_getElem hj1) (List.getElem?_eq_getElem hj2))
end
end Mine
end

section
open PySem PySem.W PyProof.Rows PySem.Calls PySem.MeetsSeq PySem.SeqAt
set_option Elab.async false
set_option maxRecDepth 100000
set_option maxHeartbeats 4000000
set_option linter.unusedVariables false
set_option linter.unusedSimpArgs false
namespace Mine

section
variable {c : Cx} {A : Around} {s : Shared}
theorem isSame_fltB {prog : Program} {w : World} {E : Value → Shared → Prop} {x y : UInt64} {t u : Tok} {Q : Bool → Shared → Prop} (T : Told s) (ht : t ≠ 0) (hu : u ≠ 0) (hq : (t == u) = true → Q true s) (hq2 : (t == u) = false → ∀ b, (b = true → fltEq x y = true) → Q b s) :
    wpAny (model prog w) A (isSame (.float x t) (.float y u)) Q E s := by
  show wpAny _ A (isSame.created _ t u) Q E s
  unfold isSame.created
  rw [if_neg (by simp [ht, hu])]
  by_cases e : (t == u) = true
  · rw [if_pos e]; exact wpAny_pure (hq e)
  · have e' : (t == u) = false := by simpa using e
    rw [if_neg e]
    by_cases e2 : (!(x == y && !Float64.isNaN x)) = true
    · rw [if_pos e2]; exact wpAny_pure (hq2 e' _ (fun h => nomatch h))
    · rw [if_neg e2]
      refine wpAny_bind (T _ _ _ _ _ _ ?_)
      rw [if_neg (by decide)]
      refine wpAny_bind (T _ _ _ _ _ _ ?_)
      rw [if_neg (by decide)]
      refine wpAny_bind (wpAny_rule (wpAny_bind (wpAny_askSetting (wpAny_pure (hq2 e' _ fun _ => ?_)))))
      have e3 : (x == y && !Float64.isNaN x) = true := by simpa using e2
      rw [Bool.and_eq_true] at e3
      have exy : x = y := by simpa using e3.1
      subst exy
      unfold fltEq
      rw [Flt.cmp_self]; exact e3.2
theorem RcAt.flt_any {x y : UInt64} {t u : Tok} : RcAt A s (.float x t) (.float y u) (fltEq x y) := fun prog w E Q hq =>
  richCompare_gives (op := .Eq) (AutoFloatOps.typeIs_float s x t) (AutoFloatOps.typeIs_float s y u) F.slot_float_eq F.entry_float_eq (F.args_float_eq_2 _ _) (AutoFloatG5.float___eq___float_float_0 x t y u) (fun x => nomatch x) hq
theorem EqAt.flt_any {x y : UInt64} {t u : Tok} (T : Told s) (ht : t ≠ 0) (hu : u ≠ 0) : EqAt A s (.float x t) (.float y u) ((t == u) || fltEq x y) := fun prog w E Q hq => by
  unfold eqBool
  refine wpAny_holding ?_
  refine wpAny_ite_split (fun e => ?_) (fun _ => ?_)
  · have e1 := eq_of_beq e
    injection e1 with e1 e2
    subst e2
    exact wpAny_bind (wpAny_rule (wpAny_pure (by simpa using hq)))
  · refine wpAny_bind (isSame_fltB T ht hu (fun e => ?_) fun e b hb => ?_)
    · exact wpAny_pure (by rw [e] at hq; exact hq)
    · rw [e] at hq
      cases b with
      | true => exact wpAny_pure (by rw [hb rfl] at hq; exact hq)
      | false => exact wpAny_bind (RcAt.flt_any prog w E _ (wpAny_truthy_bool hq))
end

section
variable {c : Cx} {h₀ : Heap} {n : Nat} {T T' : Trk} {H : Hold}
def isFltB : PV → Bool | .flt _ => true | _ => false
theorem isFltB_of {p : PV} (h : isFltB p = true) : ∃ x, p = .flt x := by
  cases p <;> first | exact ⟨_, rfl⟩ | cases h
def fltIs (x : UInt64) (t : Tok) (v : Value) : Bool := match v with | .float z u => (u == t) || fltEq z x | _ => false
/-- whether a float lies in a tuple of floats: some answer -/
theorem W.inTup {l : List PV} {v : Value} {x : UInt64} {t : Tok} {Q : Value → Trk → Hold → Prop} (k : ToldK c) (ht : t ≠ 0) (hl : l.all isFltB = true) (d : Den H v (.tup l)) (h : ∀ b, Q (.bool b) T []) : W c h₀ n T H (compareOp .In (.float x t) v) Q := fun A s hA S => by
  obtain ⟨a, vs, m, rfl, ho, _, r⟩ := rep_tup (S.rep d)
  refine in_tupleAt (fltIs x t) ⟨_, ho, rfl, m, rfl⟩ (fun y hy => ?_) ⟨T, [], h _, S⟩
  obtain ⟨i, hi, rfl⟩ := Array.mem_iff_getElem.mp hy
  have hj : i < l.length := by rw [← r.size]; exact hi
  obtain ⟨z, e1, r1⟩ := get_at r (List.getElem?_eq_getElem hj)
  rw [Array.getElem?_eq_getElem hi] at e1; cases e1
  obtain ⟨f, hf⟩ := isFltB_of (List.all_eq_true.mp hl _ (List.getElem_mem hj))
  rw [hf] at r1
  simp only [Rep] at r1
  obtain ⟨u, hu, hu0⟩ := r1
  rw [hu]
  exact EqAt.flt_any (S.told k) hu0 ht
end
end Mine
end

section
open PySem PySem.W PyProof.Rows PySem.Calls PySem.MeetsSeq
set_option Elab.async false
set_option maxRecDepth 100000
set_option maxHeartbeats 4000000
set_option linter.unusedVariables false
set_option linter.unusedSimpArgs false
namespace Mine

abbrev natPV (k : Nat) : PV := .int (k : Int)
theorem map_get {α β : Type} {f : α → β} {l : List α} {i : Nat} {x : β} (h : (l.map f)[i]? = some x) : ∃ y, l[i]? = some y ∧ f y = x := by
  rw [List.getElem?_map] at h
  cases q : l[i]? with
  | none => rw [q] at h; cases h
  | some e => rw [q] at h; exact ⟨e, rfl, by cases h; rfl⟩
def pairPV (p : Nat × Nat) : PV := .tup [natPV p.1, natPV p.2]
abbrev Pick := List (Nat × Nat) × List Nat
def pickPV (p : Pick) : PV := .tup [.lst (p.1.map pairPV), .lst (p.2.map natPV)]
def sel (s : Nat) (p : Nat × Nat) : Nat := if s = 0 then p.1 else p.2
def mx (l : List Nat) : Nat := l.foldl max 0
theorem foldMax : ∀ (l : List Nat) (a : Nat), (l.map natPV).foldl (fun m y => if cmpGt y m then y else m) (natPV a) = natPV (l.foldl max a)
  | [], _ => rfl
  | x :: l, a => by
    rw [List.map_cons, List.foldl_cons, List.foldl_cons, ← foldMax l (max a x)]
    congr 1
    show (if decide ((x : Int) > (a : Int)) = true then natPV x else natPV a) = _
    by_cases h : (x : Int) > (a : Int)
    · rw [if_pos (by simpa using h), show max a x = x by omega]
    · rw [if_neg (by simpa using h), show max a x = a by omega]
theorem maxPV_nat {l : List Nat} (h : l ≠ []) : maxPV (l.map natPV) = natPV (mx l) := by
  cases l with
  | nil => exact absurd rfl h
  | cons a l =>
    show (l.map natPV).foldl _ (natPV a) = _
    rw [foldMax]
    show _ = natPV (l.foldl max (max 0 a))
    rw [Nat.zero_max]
theorem same_nat (l : List Nat) : sameNum (l.map natPV) = true := by
  unfold sameNum
  have : (l.map natPV).all isInt = true := by
    rw [List.all_eq_true]
    intro x hx
    obtain ⟨k, _, rfl⟩ := List.mem_map.mp hx
    rfl
  rw [this]; rfl

def zipT : List Addr → List (List PV) → Trk
  | a :: as, l :: ls => (a, .list l) :: zipT as ls
  | _, _ => []
theorem zipT_at {T : Trk} {l l' : List PV} {a : Addr} : ∀ {as : List Addr} {ls : List (List PV)} {i : Nat}, as[i]? = some a → ls[i]? = some l → At a (.list l) (.list l') (zipT as ls ++ T) (zipT as (ls.set i l') ++ T)
  | [], _, i, h, _ => by simp at h
  | _ :: _, [], i, _, h => by simp at h
  | b :: as, m :: ls, 0, h, h' => by
    simp at h h'; subst h; subst h'; exact .head
  | b :: as, m :: ls, i + 1, h, h' => .tail (zipT_at (by simpa using h) (by simpa using h'))
theorem zipT_in {T : Trk} {l : List PV} {a : Addr} {as : List Addr} {ls : List (List PV)} {i : Nat} (h : as[i]? = some a) (h' : ls[i]? = some l) : In a (.list l) (zipT as ls ++ T) := (zipT_at (l' := l) h h').in
theorem zipT_snoc {a : Addr} {l : List PV} : ∀ {as : List Addr} {ls : List (List PV)}, as.length = ls.length → zipT (as ++ [a]) (ls ++ [l]) = zipT as ls ++ [(a, .list l)]
  | [], [], _ => rfl
  | _ :: as, _ :: ls, h => by
    show _ :: zipT (as ++ [a]) (ls ++ [l]) = _
    rw [zipT_snoc (by simpa using h)]; rfl
theorem In.app {a : Addr} {o : TO} {T : Trk} (h : In a o T) : ∀ U : Trk, In a o (U ++ T)
  | [] => h
  | _ :: U => .tail (h.app U)
theorem At.app {a : Addr} {o o' : TO} {T T' : Trk} (h : At a o o' T T') : ∀ U : Trk, At a o o' (U ++ T) (U ++ T')
  | [] => h
  | _ :: U => .tail (h.app U)

theorem Weak.mid (pre : Trk) {L : Addr} {m m' : List (PySem.Str × PV)} {T : Trk} : Weak (pre ++ (L, .frame (m ++ m')) :: T) (pre ++ (L, .frame m) :: T) :=
  .trans (.perm List.perm_middle.symm) (.trans .frameApp (.perm List.perm_middle))

/-- the first knows no more than the second -/
inductive Wk : Trk → Trk → Prop
  | nil : Wk [] []
  | keep {x T' T} : Wk T' T → Wk (x :: T') (x :: T)
  | frame {L : Addr} {m m' : List (PySem.Str × PV)} {T' T} : Wk T' T → Wk ((L, .frame m) :: T') ((L, .frame (m ++ m')) :: T)
  | cell {a : Addr} {v T' T} : Wk T' T → Wk ((a, .cell none) :: T') ((a, .cell v) :: T)
theorem Wk.refl : ∀ {T : Trk}, Wk T T
  | [] => .nil
  | _ :: _ => .keep .refl
theorem Wk.dom {T' T : Trk} (w : Wk T' T) : dom T' = dom T := by
  induction w with
  | nil => rfl
  | keep w ih => exact congrArg (List.cons _) ih
  | frame w ih => exact congrArg (List.cons _) ih
  | cell w ih => exact congrArg (List.cons _) ih
theorem Wk.own {D : List Addr} {h : Heap} {T' T : Trk} (w : Wk T' T) (o : ∀ p ∈ T, Own D h p.1 p.2) : ∀ p ∈ T', Own D h p.1 p.2 := by
  induction w with
  | nil => exact o
  | keep w ih =>
    obtain ⟨o1, o2⟩ := List.forall_mem_cons.mp o
    exact List.forall_mem_cons.mpr ⟨o1, ih o2⟩
  | frame w ih =>
    obtain ⟨⟨mv, hn, r⟩, o2⟩ := List.forall_mem_cons.mp o
    exact List.forall_mem_cons.mpr ⟨⟨mv, hn, fun x p hx => r x p (by rw [List.lookup_append, hx]; rfl)⟩, ih o2⟩
  | cell w ih =>
    obtain ⟨⟨u, hn, _⟩, o2⟩ := List.forall_mem_cons.mp o
    exact List.forall_mem_cons.mpr ⟨⟨u, hn, fun p hp => nomatch hp⟩, ih o2⟩
theorem Wk.weak {T' T : Trk} (w : Wk T' T) : Weak T T' := fun c h₀ H s S =>
  ⟨S.base, S.keep, fun p hp => by
    have : p.1 ∈ Mine.dom T := w.dom ▸ List.mem_map_of_mem hp
    obtain ⟨q, hq, e⟩ := List.mem_map.mp this
    rw [← e]; exact S.new q hq, fun p hp => by rw [w.dom]; exact w.own S.own p hp, by rw [w.dom]; exact S.nd, fun p hp => by rw [w.dom]; exact S.held p hp, S.gens, S.drawn, S.os, S.tk⟩

section
variable {H N N' : Hold} {v : Value} {p q : PV} {u : Value}
theorem Den.nilApp (d : Den H v p) : Den ([] ++ H) v p := d
theorem Den.consApp {x : PV × Value} (d : Den (x :: (N ++ H)) v p) : Den ((x :: N) ++ H) v p := d
theorem Den.appApp (d : Den (N ++ (N' ++ H)) v p) : Den ((N ++ N') ++ H) v p := by rw [List.append_assoc]; exact d
end

section
variable {c : Cx} {h₀ : Heap} {n : Nat} {T T' : Trk} {H : Hold} {α : Type} {env : Env} {pos : Pos} {s : Shared}

theorem W.post {t : Sem α} {Q : α → Trk → Hold → Prop} (h : W c h₀ n T H t fun a T' N => ∃ T'' N', (∀ c h₀ H s, St c h₀ T' (N ++ H) s → St c h₀ T'' (N' ++ H) s) ∧ Q a T'' N') : W c h₀ n T H t Q :=
  fun A s hA S => wpAny_mono (h A s hA S) (fun a s' ⟨T', N, ⟨T'', N', k, q⟩, S'⟩ => ⟨T'', N', q, k _ _ _ _ S'⟩) fun _ _ x => x
theorem W.mod_eq {a b r : Int} {t u : Tok} {Q : Value → Trk → Hold → Prop} (hb : b ≠ 0) (hr : a.fmod b = r) (h : ∀ t, Q (.int r t) T []) : W c h₀ n T H (binaryOp .Mod (.int a t) (.int b u)) Q := W.mod_ii hb (by rw [hr]; exact h)
theorem W.AssignSwap' {elts : List Expr} {k : Nat} {tpos : Pos} {value : Expr} {names : List PySem.Str} {Q : Flow → Trk → Hold → Prop}
    (hw : swappedStores [.Tuple elts k tpos] value env = Pure.pure (some names)) (hs : swapsWithSole [.Tuple elts k tpos] value pos.line env = Pure.pure false)
    (h : W c h₀ n T H (eval value env) fun v T₁ N₁ => ∃ ps, Den (N₁ ++ H) v (.tup ps) ∧ names.length = ps.length ∧
      bindVs ps fun vs N => W c h₀ n T₁ (N ++ (N₁ ++ H)) (assignInOrder (names.reverse.map fun n => PySem.bindName env n) vs.reverse) fun _ T₂ _ => Q .next T₂ []) :
    W c h₀ n T H (exec (.Assign [.Tuple elts k tpos] value pos) env) Q := W.AssignSwap hw h hs
/-- a tracked list is tracked no longer -/
theorem freezeP {a : Addr} {l : List PV} (hp : List.Perm ((a, TO.list l) :: T') T) : ∀ s, St c h₀ T H s → St c h₀ T' ([(.lst l, .ref a)] ++ H) s := fun s S => (S.perm hp).freeze
theorem W.freeze {a : Addr} {l : List PV} {t : Sem α} {Q : α → Trk → Hold → Prop} (hp : List.Perm ((a, TO.list l) :: T') T) (h : W c h₀ n T' ([(.lst l, .ref a)] ++ H) t Q) : W c h₀ n T H t Q := W.conv (freezeP hp) h
theorem W.maxN {v : Value} {l : List Nat} {Q : Value → Trk → Hold → Prop} (d : Lst T H v (l.map natPV)) (hne : l ≠ []) (h : ∀ t, Q (.int (mx l : Nat) t) T []) : W c h₀ n T H (call (.builtin "max") [v] []) Q := by
  refine W.maxL d (by simpa using hne) (same_nat l) ?_
  rw [maxPV_nat hne]
  exact h
theorem W.max2N {a b : Nat} {t u : Tok} {Q : Value → Trk → Hold → Prop} (h : ∀ t, Q (.int (max a b : Nat) t) T []) : W c h₀ n T H (call (.builtin "max") [.int a t, .int b u] []) Q := by
  refine W.max2 (p := natPV a) (q := natPV b) Den.int Den.int rfl ?_
  have := maxPV_nat (l := [a, b]) (by simp)
  rw [show [natPV a, natPV b] = [a, b].map natPV from rfl, this]
  have e : mx [a, b] = max a b := by simp [mx]
  rw [e]; exact h
theorem W.max3N {a b d : Nat} {t u v : Tok} {Q : Value → Trk → Hold → Prop} (h : ∀ t, Q (.int (max (max a b) d : Nat) t) T []) : W c h₀ n T H (call (.builtin "max") [.int a t, .int b u, .int d v] []) Q := by
  refine W.max3 (p := natPV a) (q := natPV b) (r := natPV d) Den.int Den.int Den.int rfl ?_
  have := maxPV_nat (l := [a, b, d]) (by simp)
  rw [show [natPV a, natPV b, natPV d] = [a, b, d].map natPV from rfl, this]
  have e : mx [a, b, d] = max (max a b) d := by simp [mx]
  rw [e]; exact h
/-- item of a list of numbers -/
theorem W.itemN {v : Value} {l : List Nat} {k x : Nat} {t : Tok} {Q : Value → Trk → Hold → Prop} (hs : Seq T H v (l.map natPV)) (hk : k < 1000) (hx : l[k]? = some x) (h : ∀ t, Q (.int (x : Nat) t) T []) :
    W c h₀ n T H (PySem.getItem v (.int (k : Nat) t)) Q := W.getItem hs rfl (by omega) (p := natPV x) (by rw [List.getElem?_map, hx]; rfl) h
theorem W.mulListN {v : Value} {l : List PV} {x : Int} {k : Nat} {u : Tok} {Q : Value → Trk → Hold → Prop} (d : Lst T H v l) (hx : x.toNat = k) (hlo : -1000 ≤ x) (hhi : x ≤ 1000) (hl : l.length * k ≤ 1000) (h : ∀ a, Q (.ref a) T [(.lst (repN k l), .ref a)]) :
    W c h₀ n T H (binaryOp .Mult v (.int x u)) Q := by subst hx; exact W.mulList d hlo hhi hl h
end
theorem repN_one {α : Type} (k : Nat) (x : α) : repN k [x] = List.replicate k x := by
  induction k with
  | zero => rfl
  | succ k ih => show [x] ++ (List.replicate k [x]).flatten = _; rw [show (List.replicate k [x]).flatten = List.replicate k x from ih]; rfl
end Mine
end

section
open PySem PySem.W PyProof.Rows PySem.Calls PySem.MeetsSeq
set_option Elab.async false
set_option maxRecDepth 100000
set_option maxHeartbeats 4000000
set_option linter.unusedVariables false
set_option linter.unusedSimpArgs false
namespace Mine

/-- the sort's questions, answered -/
def runT {α : Type} (lt : Nat → Nat → Bool) : KasT α → Option α
  | .ret a => some a
  | .ask i j k => if i < 5 ∧ j < 5 then runT lt (k (lt i j)) else none
theorem run_kas {α : Type} {lt : Nat → Nat → Bool} {cmp : Nat → Nat → (Bool → Shared → Prop) → Shared → Prop} {G : α → Shared → Prop} {s : Shared} (hc : ∀ i j (C : Bool → Shared → Prop), i < 5 → j < 5 → C (lt i j) s → cmp i j C s) :
    ∀ {t : KasT α} {a : α}, runT lt t = some a → G a s → t.kasWp cmp G s
  | .ret a, b, h, g => by cases h; exact g
  | .ask i j k, b, h, g => by
    unfold runT at h
    split at h
    · rename_i hij
      exact hc i j _ hij.1 hij.2 (run_kas hc h g)
    · cases h
def pairLt (ps : List (Nat × Nat)) (i j : Nat) : Bool :=
  let p := ps.getD i (0, 0); let q := ps.getD j (0, 0)
  decide (p.1 < q.1) || (p.1 == q.1 && decide (p.2 < q.2))

theorem rep_pair {D : List Addr} {h : Heap} {p : Nat × Nat} {v : Value} (r : Rep D h (pairPV p) v) : ∃ a t u n, v = .ref a ∧ h.get? a = some (tupObj #[.int p.1 t, .int p.2 u] n) := by
  obtain ⟨a, vs, n, rfl, ho, _, r⟩ := rep_tup r
  simp only [RepL, Rep] at r
  obtain ⟨x, r1, e1, ⟨y1, h1⟩, y, r2, e2, ⟨y2, h2⟩, e3⟩ := r
  subst e3; subst e2
  refine ⟨a, y1, y2, n, rfl, ?_⟩
  rw [ho]
  congr 2
  have : vs = (vs.toList).toArray := by simp
  rw [this, e1, h1, h2]
theorem pairs_tups {D : List Addr} {h : Heap} : ∀ {ps : List (Nat × Nat)} {vs : List Value}, RepL D h (ps.map pairPV) vs → ∃ fs, KatTups h vs fs ∧ fs.length = ps.length ∧ ∀ v ∈ fs, ∃ i t, v = .int i t
  | [], vs, r => by
    simp only [List.map_nil, RepL] at r
    subst r
    exact ⟨[], trivial, rfl, fun _ h => nomatch h⟩
  | p :: ps, vs, r => by
    simp only [List.map_cons, RepL] at r
    obtain ⟨v, q, rfl, h1, h2⟩ := r
    obtain ⟨fs, k1, k2, k3⟩ := pairs_tups h2
    obtain ⟨a, t, u, n, rfl, ho⟩ := rep_pair h1
    exact ⟨.int p.1 t :: fs, .cons ho rfl rfl rfl k1, by simp [k2], fun v hv => by
      rcases List.mem_cons.mp hv with rfl | hv
      · exact ⟨_, _, rfl⟩
      · exact k3 v hv⟩

section
variable {prog : Program} {w : World} {A : Around} {E : Value → Shared → Prop} {s : Shared}
theorem ask_pair {D : List Addr} {ps : List (Nat × Nat)} {vs : List Value} {i j : Nat} {C : Bool → Shared → Prop} (r : RepL D s.heap (ps.map pairPV) vs) (hi : i < ps.length) (hj : j < ps.length) (h : C (pairLt ps i j) s) :
    kas_ask prog w A (tuples' true) vs i j C s := by
  obtain ⟨v, e1, r1⟩ := r.get (i := i) (p := pairPV ps[i]) (by rw [List.getElem?_map, List.getElem?_eq_getElem hi]; rfl)
  obtain ⟨u, e2, r2⟩ := r.get (i := j) (p := pairPV ps[j]) (by rw [List.getElem?_map, List.getElem?_eq_getElem hj]; rfl)
  obtain ⟨a, t1, t2, n, rfl, ho⟩ := rep_pair r1
  obtain ⟨b, u1, u2, m, rfl, ho'⟩ := rep_pair r2
  have f1 : ps.getD i (0, 0) = ps[i] := by rw [List.getD_eq_getElem?_getD, List.getElem?_eq_getElem hi]; rfl
  have f2 : ps.getD j (0, 0) = ps[j] := by rw [List.getD_eq_getElem?_getD, List.getElem?_eq_getElem hj]; rfl
  unfold pairLt at h
  rw [f1, f2] at h
  unfold kas_ask
  rw [List.getD_eq_getElem?_getD, List.getD_eq_getElem?_getD, e1, e2]
  refine kat_lt ho rfl ho' rfl ?_
  show KatLex prog w A true _ C [(Value.int ps[i].1 t1, Value.int ps[j].1 u1), (Value.int ps[i].2 t2, Value.int ps[j].2 u2)] 0 s
  refine kat_cons (wpAny_eqBool_int ?_)
  by_cases h1 : ps[i].1 = ps[j].1
  · have : ((ps[i].1 : Int) == (ps[j].1 : Int)) = true := by simp [h1]
    rw [this]
    refine kat_yes (kat_cons (wpAny_eqBool_int ?_))
    by_cases h2 : ps[i].2 = ps[j].2
    · have : ((ps[i].2 : Int) == (ps[j].2 : Int)) = true := by simp [h2]
      rw [this]
      refine kat_yes (kat_nil ?_)
      simpa [h1, h2] using h
    · have : ((ps[i].2 : Int) == (ps[j].2 : Int)) = false := by simpa using (by omega : (ps[i].2 : Int) ≠ ps[j].2)
      rw [this]
      refine kat_no ?_
      show wpAny _ _ (oneLt' false _ _) _ _ _
      refine kat_one _ _ (PySem.P.lt_int ?_)
      show C (decide ((ps[i].2 : Int) < (ps[j].2 : Int))) s
      have e : decide ((ps[i].2 : Int) < (ps[j].2 : Int)) = decide (ps[i].2 < ps[j].2) := by simp
      rw [e]
      simpa [h1] using h
  · have : ((ps[i].1 : Int) == (ps[j].1 : Int)) = false := by simpa using (by omega : (ps[i].1 : Int) ≠ ps[j].1)
    rw [this]
    refine kat_no ?_
    show wpAny _ _ (oneLt' true _ _) _ _ _
    refine oneLt_int ?_
    have e : decide ((ps[i].1 : Int) < (ps[j].1 : Int)) = decide (ps[i].1 < ps[j].1) := by simp
    rw [e]
    have h1' : (ps[i].1 == ps[j].1) = false := by simpa using h1
    simpa [h1'] using h
theorem sort_core {D : List Addr} {ps : List (Nat × Nat)} {vs : List Value} {q : Array Nat} {G : Array Nat → Shared → Prop} (r : RepL D s.heap (ps.map pairPV) vs) (hl : ps.length = 5) (hq : runT (pairLt ps) (kas_sort 5) = some q) (h : G q s) :
    wpAny (model prog w) A (keyKind' vs.toArray) (fun κ s' => (kas_sort vs.length).kasWp (kas_ask prog w A κ vs) G s') E s := by
  obtain ⟨fs, k1, k2, k3⟩ := pairs_tups r
  have hv : vs.length = 5 := by rw [r.length, List.length_map, hl]
  refine kat_kind (T := .type "int") k1 (by omega) (fun v hv => ?_) rfl ?_
  · obtain ⟨i, t, rfl⟩ := k3 v hv
    exact Looks.of_pure rfl
  · rw [hv]
    have e : (Value.type "int" != Value.type "tuple") = true := by decide
    rw [e]
    refine run_kas (lt := pairLt ps) (fun i j C hi hj hc => ?_) hq h
    exact ask_pair (ps := ps) (i := i) (j := j) r (by rw [hl]; exact hi) (by rw [hl]; exact hj) hc
end

section
variable {c : Cx} {h₀ : Heap} {n : Nat} {T T' : Trk} {H : Hold} {s : Shared}
def heap0 : Heap := {}
theorem heap0_none (a : Addr) : heap0.get? a = none := by simp [heap0, Heap.get?]
theorem dom_one {a : Addr} {o o' : TO} : ∀ {T : Trk}, (dom T).Nodup → (a, o) ∈ T → (a, o') ∈ T → o = o'
  | [], _, h, _ => nomatch h
  | x :: T, nd, h1, h2 => by
    obtain ⟨n1, n2⟩ := List.nodup_cons.mp nd
    have out : ∀ o, (a, o) ∈ T → a ∈ dom T := fun o h => List.mem_map_of_mem (f := fun x : Addr × TO => x.1) h
    rcases List.mem_cons.mp h1 with e1 | h1
    · rcases List.mem_cons.mp h2 with e2 | h2
      · rw [← e1] at e2; cases e2; rfl
      · exact absurd (out _ h2) (by rw [← e1] at n1; exact n1)
    · rcases List.mem_cons.mp h2 with e2 | h2
      · exact absurd (out _ h1) (by rw [← e2] at n1; exact n1)
      · exact dom_one n2 h1 h2
/-- all that stands, but for the one -/
def othersOf (h : Heap) (L : Addr) : List (Addr × Obj) := (List.range h.objs.size).filterMap fun b => if b = L then none else (h.get? b).map fun o => (b, o)
theorem mem_others {h : Heap} {L b : Addr} {o : Obj} : (b, o) ∈ othersOf h L ↔ b ≠ L ∧ h.get? b = some o := by
  unfold othersOf
  rw [List.mem_filterMap]
  constructor
  · rintro ⟨x, hx, e⟩
    split at e
    · cases e
    · rename_i hne
      cases q : h.get? x with
      | none => rw [q] at e; cases e
      | some o' => rw [q] at e; cases e; exact ⟨hne, q⟩
  · rintro ⟨hne, e⟩
    exact ⟨b, List.mem_range.mpr (Heap.lt_size e), by rw [if_neg hne, e]; rfl⟩
theorem others_news {h : Heap} {L : Addr} : News heap0 L h (othersOf h L) := fun p hp => ⟨(mem_others.mp hp).2, (mem_others.mp hp).1, heap0_none _⟩
theorem St.fr {L : Addr} {m : List (PySem.Str × PV)} (S : St c h₀ T H s) (iL : In L (.frame m) T) : ∃ mv, Fr heap0 L s.heap mv ∧
    ∀ h' tk, Fr heap0 L h' mv → (∀ b o, b ≠ L → s.heap.get? b = some o → h'.get? b = some o) → s.toks ≤ tk → St c h₀ T H { s with heap := h', toks := tk } := by
  obtain ⟨mv, hn, r⟩ := S.get iL
  have hLm : L ∈ dom T := List.mem_map_of_mem iL.mem
  refine ⟨mv, ⟨hn, (fun b o e => by rw [heap0_none] at e; cases e), Nat.zero_le _⟩, fun h' tk F k htk => ?_⟩
  have ev : Ev (dom T) s.heap (dom T) h' := ⟨fun b o hb e _ => k b o (fun q => hb (q ▸ hLm)) e, fun b hb => .inl hb⟩
  refine ⟨S.base, fun b o e => k b o (fun q => ?_) (S.keep b o e), S.new, fun p hp => ?_, S.nd, fun p hp => (S.held p hp).ev ev _ _, S.gens, S.drawn, S.os, Nat.le_trans S.tk htk⟩
  · have := S.new _ iL.mem
    rw [q] at e; rw [e] at this; cases this
  · by_cases hp1 : p.1 = L
    · have nd := S.nd
      have e2 : p = (L, .frame m) := by
        have hp' : (p.1, p.2) ∈ T := hp
        have := dom_one (a := L) nd (o := p.2) (o' := .frame m) (by rw [← hp1]; exact hp') iL.mem
        obtain ⟨p1, p2⟩ := p
        simp only at hp1 this
        rw [hp1, this]
      subst e2
      exact ⟨mv, F.ns, fun x p hx => let ⟨v, h1, h2⟩ := r x p hx; ⟨v, h1, h2.ev ev p v⟩⟩
    · obtain ⟨o, ho⟩ := (S.own p hp).some
      exact (S.own p hp).ev ev ((k _ _ hp1 ho).trans ho.symm)

theorem W.sortedT {L D : Addr} {m : List (PySem.Str × PV)} {ps : List (Nat × Nat)} {q : Array Nat} {Q : Value → Trk → Hold → Prop} (iL : In L (.frame m) T) (iD : In D (.list (ps.map pairPV)) T) (hl : ps.length = 5) (hq : runT (pairLt ps) (kas_sort 5) = some q) (hq5 : ∀ i ∈ q.toList, i < 5)
    (h : ∀ a, Q (.ref a) T [(.lst (q.toList.map fun i => pairPV (ps.getD i (0, 0))), .ref a)]) : W c h₀ n T H (call (.builtin "sorted") [.ref D] []) Q := fun A s hA S => by
  obtain ⟨vs, k, ho, r⟩ := S.get iD
  obtain ⟨mv, F, back⟩ := S.fr iL
  have hv : vs.toList.length = 5 := by rw [r.length, List.length_map, hl]
  have ea : vs = vs.toList.toArray := by simp
  refine kat_sorted (vs := vs.toList) (A := A) F others_news ⟨_, ho, rfl, k, by rw [← ea]⟩ (by omega) (by omega) fun D' e1 h' F' N' lt => ?_
  have old : ∀ b o, b ≠ L → s.heap.get? b = some o → h'.get? b = some o := fun b o hb e => (N' (b, o) (List.mem_cons_of_mem _ (mem_others.mpr ⟨hb, e⟩))).1
  have hLm : L ∈ dom T := List.mem_map_of_mem iL.mem
  have ev : Ev (dom T) s.heap (dom T) h' := ⟨fun b o hb e _ => old b o (fun q => hb (q ▸ hLm)) e, fun b hb => .inl hb⟩
  refine sort_core (s := { s with heap := h' }) (r.ev ev _ _) hl hq ?_
  refine KasFin.intro F' N' (.head fun p hp => Nat.ne_of_lt (lt p hp)) fun h'' cc F'' N'' => ?_
  have old' : ∀ b o, b ≠ L → s.heap.get? b = some o → h''.get? b = some o := fun b o hb e => (N'' (b, o) (List.mem_cons_of_mem _ (mem_others.mpr ⟨hb, e⟩))).1
  have S' : St c h₀ T H { s with heap := h'' } := back h'' s.toks F'' old' (Nat.le_refl _)
  refine ⟨T, _, h D', S'.more fun x hx => ?_⟩
  rcases List.mem_singleton.mp hx with rfl
  have hD := N'' _ (List.mem_cons_self ..)
  simp only [Rep]
  refine ⟨D', _, cc, rfl, hD.1, fun hm => ?_, ?_⟩
  · obtain ⟨p, hp, e⟩ := List.mem_map.mp hm
    obtain ⟨o, ho'⟩ := (S.own p hp).some
    have := lt (p.1, o) (mem_others.mpr ⟨fun q => hD.2.1 (by rw [← e]; exact q), ho'⟩)
    rw [← e] at this
    exact Nat.lt_irrefl _ this
  · have ev' : Ev (dom T) s.heap (dom T) h'' := ⟨fun b o hb e _ => old' b o (fun q => hb (q ▸ hLm)) e, fun b hb => .inl hb⟩
    have r'' := r.ev ev' _ _
    show RepL _ _ _ (List.toArray (q.toList.map fun i => vs.toList.getD i Value.none)).toList
    have key : ∀ is : List Nat, (∀ i ∈ is, i < 5) → RepL (dom T) h'' (is.map fun i => pairPV (ps.getD i (0, 0))) (is.map fun i => vs.toList.getD i Value.none) := by
      intro is
      induction is with
      | nil => intro _; simp only [List.map_nil, RepL]
      | cons i is ih =>
        intro hi
        have h5 := hi i (List.mem_cons_self ..)
        obtain ⟨v, e1, r1⟩ := r''.get (i := i) (p := pairPV ps[i]) (by rw [List.getElem?_map, List.getElem?_eq_getElem (by omega)]; rfl)
        have f1 : ps.getD i (0, 0) = ps[i] := by rw [List.getD_eq_getElem?_getD, List.getElem?_eq_getElem (by omega)]; rfl
        have f2 : vs.toList.getD i Value.none = v := by rw [List.getD_eq_getElem?_getD, e1]; rfl
        simp only [List.map_cons, RepL]
        exact ⟨_, _, rfl, by rw [f1, f2]; exact r1, ih fun x hx => hi x (List.mem_cons_of_mem _ hx)⟩
    simpa using key q.toList hq5
end
end Mine
end

section
open PySem PySem.W PyProof.Rows PySem.Calls PySem.MeetsSeq
set_option Elab.async false
set_option maxRecDepth 100000
set_option maxHeartbeats 4000000
set_option linter.unusedVariables false
set_option linter.unusedSimpArgs false
namespace Mine
section
variable {c : Cx} {h₀ : Heap} {n : Nat} {T T' : Trk} {H : Hold} {s : Shared} {env : Env} {pos : Pos}
theorem W.UnaryOp {op : PySem.UnaryOp} {x : Expr} {Q : Value → Trk → Hold → Prop} (h : W c h₀ n T H (eval x env) fun v T₁ N₁ => W c h₀ n T₁ (N₁ ++ H) (unaryOp op v) Q) : W c h₀ n T H (eval (.UnaryOp op x pos) env) Q :=
  W.eqv (arm_eval_UnaryOp op x pos env) (W.bind (h.mono fun v T₁ N₁ q => W.bind (W.standAt (W.holding q))))
theorem W.neg_i {a : Int} {t : Tok} {Q : Value → Trk → Hold → Prop} (h : ∀ t, Q (.int (-a) t) T []) : W c h₀ n T H (unaryOp .USub (.int a t)) Q := fun A s hA S => PySem.P.neg_int ⟨T, [], h _, S.tok⟩
end
end Mine
end

section
open PySem PySem.W PyProof.Rows PySem.Calls PySem.MeetsSeq
set_option Elab.async false
set_option maxRecDepth 100000
set_option maxHeartbeats 4000000
set_option linter.unusedVariables false
set_option linter.unusedSimpArgs false
namespace Mine

structure LamAt (c : Cx) (h₀ : Heap) : Prop where
  code : CodeHd h₀ 257 255
  bm : ∃ bm ob, c.mg "__builtins__" = some (.ref bm) ∧ bm ≠ builtinsNs ∧ h₀.get? bm = some ob ∧ ob.cls = .type "module" ∧ ob.dict = some builtinsNs ∧ ob.data = .plain
abbrev lamParams (pp : Pos) : Arguments := { posonlyargs := [], args := [{ arg := "i", annotation := none, pos := pp }], vararg := none, kwonlyargs := [], kw_defaults := [], kwarg := none, defaults := [] }
abbrev lamBody (p1 p2 p3 : Pos) : Expr := .Subscript (.Name "drawn" p1) (.Name "i" p2) p3
abbrev lamScope : Scope := { kind := .function, names := [(PySem.Str.ofString "i", .local), (PySem.Str.ofString "drawn", .free)], isGenerator := false, isCoroutine := false, more := [] }

section
variable {c : Cx} {h₀ : Heap} {n : Nat} {T T' : Trk} {H : Hold} {s : Shared} {env : Env} {pos : Pos}
/-- one tracked place is turned, the heap grows, a free place is tracked from here on -/
theorem St.ext {P a : Addr} {o o' q : TO} (S : St c h₀ T H s) (x : At P o o' T T') {h' : Heap} {tk : Nat} (hx : Heap.ExtBut P s.heap h') (ho : Own (a :: dom T) h' P o') (ha : s.heap.get? a = none) (hq : Own (a :: dom T) h' a q) (htk : s.toks ≤ tk) :
    St c h₀ ((a, q) :: T') H { s with heap := h', toks := tk } := by
  obtain ⟨T₁, T₂, rfl, rfl⟩ := x.split
  have ed : dom (T₁ ++ (P, o') :: T₂) = dom (T₁ ++ (P, o) :: T₂) := by simp
  have mP : P ∈ dom (T₁ ++ (P, o) :: T₂) := by simp
  have e : Ev (dom (T₁ ++ (P, o) :: T₂)) s.heap (a :: dom (T₁ ++ (P, o) :: T₂)) h' := ⟨fun b q hb hq _ => hx b q (fun z => hb (z ▸ mP)) hq, fun b hb => by
    rcases List.mem_cons.mp hb with rfl | hb
    · exact .inr ha
    · exact .inl hb⟩
  have off : ∀ p : Addr × TO, p ∈ T₁ ++ T₂ → p.1 ≠ P := fun p hp z => by
    have nd := S.nd
    rw [show dom (T₁ ++ (P, o) :: T₂) = dom T₁ ++ P :: dom T₂ by simp] at nd
    have nd' := List.nodup_append.mp nd
    rcases List.mem_append.mp hp with hp | hp
    · exact nd'.2.2 p.1 (List.mem_map_of_mem hp) P (by simp) z
    · exact (List.nodup_cons.mp nd'.2.1).1 (z ▸ List.mem_map_of_mem hp)
  have old : ∀ p ∈ T₁ ++ T₂, p ∈ T₁ ++ (P, o) :: T₂ := fun p hp => by
    rcases List.mem_append.mp hp with hp | hp <;> simp [hp]
  have own : ∀ p ∈ T₁ ++ T₂, Own (a :: dom (T₁ ++ (P, o) :: T₂)) h' p.1 p.2 := fun p hp => by
    obtain ⟨x, hx'⟩ := (S.own p (old p hp)).some
    exact (S.own p (old p hp)).ev e ((hx _ _ (off p hp) hx').trans hx'.symm)
  have new0 : h₀.get? a = none := by
    cases q : h₀.get? a with
    | none => rfl
    | some o => have := S.keep _ _ q; rw [ha] at this; cases this
  refine ⟨S.base, fun b q hq => hx b q (fun z => ?_) (S.keep b q hq), fun p hp => ?_, fun p hp => ?_, ?_, fun p hp => ?_, S.gens, S.drawn, S.os, Nat.le_trans S.tk htk⟩
  · have := S.new (P, o) (by simp)
    rw [z] at hq; rw [this] at hq; cases hq
  · rcases List.mem_cons.mp hp with rfl | hp
    · exact new0
    · rcases List.mem_append.mp hp with hp | hp
      · exact S.new p (by simp [hp])
      · rcases List.mem_cons.mp hp with rfl | hp
        · exact S.new (P, o) (by simp)
        · exact S.new p (by simp [hp])
  · show Own (a :: dom (T₁ ++ (P, o') :: T₂)) h' p.1 p.2
    rw [ed]
    rcases List.mem_cons.mp hp with rfl | hp
    · exact hq
    · rcases List.mem_append.mp hp with hp | hp
      · exact own p (List.mem_append_left _ hp)
      · rcases List.mem_cons.mp hp with rfl | hp
        · exact ho
        · exact own p (List.mem_append_right _ hp)
  · show (a :: dom (T₁ ++ (P, o') :: T₂)).Nodup
    rw [ed]
    refine List.nodup_cons.mpr ⟨fun hm => ?_, S.nd⟩
    obtain ⟨p, hp, hpa⟩ := List.mem_map.mp hm
    obtain ⟨x, hx'⟩ := (S.own p hp).some
    rw [hpa, ha] at hx'; cases hx'
  · show Rep (a :: dom (T₁ ++ (P, o') :: T₂)) h' p.1 p.2
    rw [ed]; exact (S.held p hp).ev e _ _

theorem W.Lambda {params : Arguments} {body : Expr} {scope : Scope} {clos : List (PySem.Str × Addr)} {T' : Addr → Trk} {Q : Value → Trk → Hold → Prop} (hl : LamAt c h₀) (hdef : defaultsOf params env = ([], [])) (hglob : env.globals = mainGlobals) (hcode : env.code = .ref 257) (hcl : closureFor scope env = Pure.pure clos)
    (hat : ∀ c', At 255 (.obj (tabObj #[])) (.obj (tabObj #[rawInt pos.line, rawInt pos.col, .ref c'])) T (T' c'))
    (h : ∀ f c' oc ctv vs t pm, oc.data = .fields vs → vs[1]? = some (.str (env.qual ++ "<lambda>") t) → Q (.ref f) ((f, .obj (kla_obj "<lambda>" (env.qual ++ "<lambda>") params body scope clos pm c' ctv)) :: (c', .obj oc) :: T' c') []) :
    W c h₀ n T H (eval (.Lambda params body scope pos) env) Q := fun A s hA S => by
  have hP : s.heap.get? 255 = some (tabObj #[]) := S.get (hat 0).in
  obtain ⟨bm, ob, b1, b2, b3, b4, b5, b6⟩ := hl.bm
  have hg := S.base.T.g.keeps S.keep
  have hgP : mainGlobals ≠ 255 := fun q => by
    obtain ⟨o, es, ep, e, hd, _⟩ := hg
    rw [q, hP] at e; cases e; cases hd
  have hbP : bm ≠ 255 := fun q => by
    have e := S.keep _ _ b3
    rw [q, hP] at e; cases e; cases b4
  have hbG : bm ≠ mainGlobals := fun q => by
    obtain ⟨o, es, ep, e, hd, _⟩ := S.base.T.g
    rw [q, e] at b3; cases b3; rw [hd] at b6; cases b6
  refine wpAny_with_toks (n := s.toks) (Nat.le_refl _) (kla_eval hdef (kla_makeFunction (ps := #[]) hcl hglob hg hcode (hl.code.keeps S.keep) hP trivial rfl hgP ⟨bm, ob, b1, b2, hbG, hbP, S.keep _ _ b3, b4, b5, b6⟩ fun c' ctv h' tk hx hge hlt hrec htb => ?_))
  intro htk
  have htk' : s.toks ≤ tk := htk
  obtain ⟨c₂, oc, vs, t, e2, hoc, hd, hv⟩ := hrec
  cases e2
  have hfree : s.heap.get? c' = none := by
    cases q : s.heap.get? c' with
    | none => rfl
    | some o => exact absurd (Heap.lt_size q) (Nat.not_lt.mpr hge)
  have S₁ : St c h₀ ((c', .obj oc) :: T' c') H { s with heap := h', toks := tk } := S.ext (hat c') hx (by simpa [Own] using htb) hfree hoc htk'
  have S₂ := S₁.track (a := h'.objs.size) (o := .obj (kla_obj "<lambda>" (env.qual ++ "<lambda>") params body scope clos ((c.mg "__name__").getD .none) c' ctv)) (tk := tk) (get_size h') (h' := h'.push (kla_obj "<lambda>" (env.qual ++ "<lambda>") params body scope clos ((c.mg "__name__").getD .none) c' ctv)) (fun b o e => Heap.get?_push_of_some _ e) (Heap.get?_push_size _ rfl)
  exact ⟨_, [], h _ c' oc ctv vs t _ hd hv, S₂⟩
end

section
variable {prog : Program} {w : World} {A : Around} {E : Value → Shared → Prop} {s : Shared}
theorem lam_call {f c' ca D : Addr} {name qual : PySem.Str} {pp p1 p2 p3 : Pos} {pm ctv v : Value} {vs : Array Value} {m i : Nat} {t : Tok} {Q : Value → Shared → Prop} (hroom : A.depth < recursionLimit)
    (ho : s.heap.get? f = some (kla_obj name qual (lamParams pp) (lamBody p1 p2 p3) lamScope [(PySem.Str.ofString "drawn", ca)] pm c' ctv)) (hcd : s.heap.CodeRec (.ref c') qual) (hno : s.heap.NoLimit)
    (hcell : s.heap.IsCell ca (some (.ref D))) (hD : s.heap.get? D = some (lstObj vs m)) (hi : vs[i]? = some v) (hi5 : i < 1000)
    (h : ∀ h' tk, (∀ b o, s.heap.get? b = some o → h'.get? b = some o) → s.toks ≤ tk → Q v { s with heap := h', toks := tk }) : wpAny (model prog w) A (call (.ref f) [.int i t] []) Q E s := by
  refine wpAny_call (kla_callFunE hroom ho rfl rfl rfl rfl hcd ?_)
  rw [show bindArgs (kla_fn name qual (lamParams pp) (lamBody p1 p2 p3) lamScope [(PySem.Str.ofString "drawn", ca)] pm (.ref c') ctv) ⟨[.int i t], []⟩ = pure [(PySem.Str.ofString "i", .int i t)] from rfl]
  refine wpAny_pure (wpAny_newFunctionEnv (show ∀ x ∈ lamScope.names, x.2 ≠ .cell by decide) (locs (scope := lamScope) rfl) (fun h₁ hns hsb => ⟨hno.fresh _ hsb, ?_⟩) rfl)
  have k : ∀ b o, s.heap.get? b = some o → h₁.get? b = some o := fun b o e => hsb.extBut b o (Nat.ne_of_lt (Heap.lt_size e)) (Heap.get?_push_of_some _ e)
  show codeAny _ _ (.expr (lamBody p1 p2 p3) (envX qual lamScope s.heap.objs.size f (.ref c') [(PySem.Str.ofString "drawn", ca)])) _ _
  refine kla_codeExpr ?_
  have hcell₁ : h₁.IsCell ca (some (.ref D)) := by
    obtain ⟨o, e1, e2⟩ := hcell
    exact ⟨o, k _ _ e1, e2⟩
  rw [eval_Subscript]
  refine wpAny_bind (wpAny_Name (wpAny_loadName_free rfl rfl rfl hcell₁ (wpAny_bind (wpAny_holding (wpAny_Name (wpAny_loadName_local rfl rfl hns rfl (wpAny_bind (wpAny_standAt ?_))) (by decide +kernel)))) (by decide +kernel)) (by decide +kernel))
  have hL : h₁.IsList D vs := ⟨_, k _ _ hD, rfl, m, rfl⟩
  refine tail_any (ops := [.ref D, .int i t]) hL.typeIs slot_list_getitem.lookup ?_ (by with_unfolding_all rfl)
  exact wpAny_getItem_list hL (by omega) (by omega) (by simpa using hi) (h _ _ k (Nat.le_add_right _ _))
end
end Mine
end

section
open PySem PySem.W PyProof.Rows PySem.Calls PySem.MeetsSeq
set_option Elab.async false
set_option maxRecDepth 100000
set_option maxHeartbeats 4000000
set_option linter.unusedVariables false
set_option linter.unusedSimpArgs false
namespace Mine

section
variable {prog : Program} {w : World} {A : Around} {E : Value → Shared → Prop} {s : Shared}
theorem collect_range {r : Addr} {k : Nat} {t u v : Tok} {Q : List Value → Shared → Prop} (hh : A.handled = none) (hr : s.heap.get? r = some (rngObj k t u v)) (hk : k ≤ 1000)
    (h : ∀ h' tk acc, (∀ b o, s.heap.get? b = some o → h'.get? b = some o) → ItemsOf (fun i x => ∃ t, x = .int (i : Nat) t) acc k → Q acc.toList { s with heap := h', toks := tk }) :
    wpAny (model prog w) A (collect (.ref r)) Q E s := by
  have key : ∀ (R : Result → Shared → Prop), (∀ h' tk acc' c', (∀ b o, s.heap.get? b = some o → h'.get? b = some o) → h'.get? s.heap.objs.size = some { cls := .type "list", dict := none, data := .seq acc' c', slots := #[] } →
      ItemsOf (fun i x => ∃ t, x = .int (i : Nat) t) acc' k → R (.ok (.ret (.ref s.heap.objs.size))) { s with heap := h', toks := tk }) → codeAny (model prog w) A (.builtin "proto.collect" ⟨[.ref r], []⟩) R s := fun R hR => by
    refine codeAny_builtin entry_proto_collect' ?_
    show wpAny _ _ (do again (.builtin "list.__iadd__" ⟨[← newList [], .ref r], []⟩)) _ _ s
    refine wpAny_bind (wpAny_newList (wpAny_pure ⟨Code.quiet_builtin _ (by decide +kernel), codeAny_builtin entry_list_iadd' ?_⟩))
    show wpAny _ _ (Builtin.List.listExtendWith (.ref s.heap.objs.size) (.ref r) (.ref s.heap.objs.size)) _ _ { s with heap := s.heap.push (seqObj "list" #[] 0) }
    rw [Around.under_plainId F.plain_list_iadd _]
    have hsm : Builtin.Range.small 0 (k : Int) 1 = true := small_one (by omega) (by omega) (by omega) (by omega)
    have hsz : Builtin.Range.rangeSize 0 (k : Int) 1 = (k : Int) := by rw [rangeSize_one]; split <;> omega
    have hS : (s.heap.push (seqObj "list" #[] 0)).get? s.heap.objs.size = some { cls := .type "list", data := .seq #[] 0 } := Heap.get?_push_size _ rfl
    refine wpAny_extend_range (s := { s with heap := s.heap.push (seqObj "list" #[] 0) }) (n := k) hh (Heap.get?_push_of_some _ hr) hsm hsz (by omega) s.heap.objs.size (.ref s.heap.objs.size) 0 hS fun h' tk acc' c' hk hS' hacc => ?_
    refine hR h' tk acc' c' (fun b o e => hk b o (Nat.ne_of_lt (Heap.lt_size e)) (Heap.get?_push_of_some _ e)) hS' ⟨hacc.1, fun i x hx => ?_⟩
    obtain ⟨t, e⟩ := hacc.2 i x hx
    exact ⟨t, by rw [e]; simp⟩
  unfold collect
  refine wpAny_bind (wpAny_runValue (key _ fun h' tk acc' c' hk hS' hacc => ?_))
  show wpAny (model prog w) A (do
      let o ← load s.heap.objs.size
      match o.data with
      | .seq xs _ => pure xs.toList
      | _ => unsupported "internal:collect") Q E { s with heap := h', toks := tk }
  refine wpAny_bind (wpAny_load hS' ?_)
  exact wpAny_pure (h h' tk acc' hk hacc)

theorem keys_go {L kS a f c' ca D : Addr} {mv : PySem.Str → Option Value} {e1 m : Nat} {news : List (Addr × Obj)} {vsD : Array Value} {name qual : PySem.Str} {pp p1 p2 p3 : Pos} {pm ctv : Value} {oc co : Obj} {cvs : Array Value} {ct : Tok} {Fin : List Value → Nat → Shared → Prop}
    (hroom : A.depth < recursionLimit) (hf : (f, kla_obj name qual (lamParams pp) (lamBody p1 p2 p3) lamScope [(PySem.Str.ofString "drawn", ca)] pm c' ctv) ∈ news) (hc : (c', oc) ∈ news) (hcd : oc.data = .fields cvs) (hcv : cvs[1]? = some (.str qual ct))
    (hca : (ca, co) ∈ news) (hco : co.data = .cell (some (.ref D))) (hD : (D, lstObj vsD m) ∈ news) (h5 : vsD.size = 5) (hno : ∀ h, News heap0 L h news → h.NoLimit) (ha : a ≠ kS) (hap : ∀ q ∈ news, q.1 ≠ kS)
    (fin : ∀ e h tk, Fr heap0 L h mv → News heap0 L h ((kS, seqObj "list" (List.toArray vsD.toList) e) :: (a, seqObj "list" #[] e1) :: news) → Fin vsD.toList e { s with heap := h, toks := tk }) :
    ∀ (rv ks : List Value) (e : Nat) (h : Heap) (tk : Tok), ks.length + rv.length = 5 → (∀ (j : Nat) (x : Value), rv[j]? = some x → ∃ t, x = .int ((ks.length + j : Nat) : Int) t) → ks = vsD.toList.take ks.length → Fr heap0 L h mv →
      News heap0 L h ((kS, seqObj "list" (List.toArray ks) e) :: (a, seqObj "list" #[] e1) :: news) → KatKeys prog w A heap0 L mv kS (.ref f) Fin rv ks e { s with heap := h, toks := tk }
  | [], ks, e, h, tk, hl, _, hk, F, N => by
    have : ks = vsD.toList := by rw [hk]; exact List.take_of_length_le (by simp at hl; simp [hl, h5])
    subst this
    exact KatKeys.nil (fin e h tk F N)
  | x :: rv, ks, e, h, tk, hl, hx, hk, F, N => by
    obtain ⟨t, rfl⟩ := hx 0 x rfl
    have hlt : ks.length < 5 := by simp at hl; omega
    obtain ⟨v, hv⟩ : ∃ v, vsD[ks.length]? = some v := ⟨_, Array.getElem?_eq_getElem (by omega)⟩
    have Nn : News heap0 L h news := fun p hp => N p (List.mem_cons_of_mem _ (List.mem_cons_of_mem _ hp))
    refine KatKeys.cons (lam_call (s := { s with heap := h, toks := tk }) (vs := vsD) (m := m) (i := ks.length) hroom (Nn _ hf).1 ⟨c', oc, cvs, ct, rfl, (Nn _ hc).1, hcd, hcv⟩ (hno _ Nn) ⟨co, (Nn _ hca).1, hco⟩ (Nn _ hD).1 hv (by omega) fun h' tk' k htk => ?_)
    refine KatBack.intro (F.kept k) (N.grown k) (.head fun p hp => ?_) fun h2 c2 F2 N2 => ?_
    · rcases List.mem_cons.mp hp with rfl | hp
      · exact ha
      · exact hap p hp
    · refine keys_go hroom hf hc hcd hcv hca hco hD h5 hno ha hap fin rv (ks ++ [v]) c2 h2 tk' (by simp at hl ⊢; omega) (fun j x hj => ?_) ?_ F2 N2
      · obtain ⟨t, e⟩ := hx (j + 1) x (by simpa using hj)
        refine ⟨t, by rw [e, List.length_append, List.length_singleton]; congr 1; omega⟩
      · rw [List.length_append, List.length_singleton, List.take_add_one, ← hk]
        congr 1
        have : vsD.toList[ks.length]? = some v := by simpa using hv
        rw [this]; rfl
end

section
variable {c : Cx} {h₀ : Heap} {n : Nat} {T T' : Trk} {H : Hold} {s : Shared}
theorem W.sortedK {L D f c' ca : Addr} {m : List (PySem.Str × PV)} {ps : List (Nat × Nat)} {q : Array Nat} {name qual : PySem.Str} {pp p1 p2 p3 : Pos} {pm ctv rv : Value} {oc : Obj} {cvs : Array Value} {ct t u v : Tok} {Q : Value → Trk → Hold → Prop}
    (iL : In L (.frame m) T) (iD : In D (.list (ps.map pairPV)) T) (iC : In ca (.cell (some (.ref D))) T) (iF : In f (.obj (kla_obj name qual (lamParams pp) (lamBody p1 p2 p3) lamScope [(PySem.Str.ofString "drawn", ca)] pm c' ctv)) T) (iO : In c' (.obj oc) T)
    (hcd : oc.data = .fields cvs) (hcv : cvs[1]? = some (.str qual ct)) (dr : Den H rv (.im (rngObj 5 t u v)))
    (hl : ps.length = 5) (hq : runT (pairLt ps) (kas_sort 5) = some q) (hq5 : ∀ i ∈ q.toList, i < 5)
    (h : ∀ a, Q (.ref a) T [(.lst (q.toList.map natPV), .ref a)]) : W c h₀ n T H (call (.builtin "sorted") [rv] [(PySem.Str.ofString "key", .ref f)]) Q := fun A s hA S => by
  have hLD : L ≠ D := fun e => by subst e; exact nomatch dom_one S.nd iL.mem iD.mem
  have hLf : L ≠ f := fun e => by subst e; exact nomatch dom_one S.nd iL.mem iF.mem
  have hLc : L ≠ c' := fun e => by subst e; exact nomatch dom_one S.nd iL.mem iO.mem
  have hLa : L ≠ ca := fun e => by subst e; exact nomatch dom_one S.nd iL.mem iC.mem
  obtain ⟨vsD, mD, hoD, rD⟩ := S.get iD
  obtain ⟨wc, ⟨co, hco, hcc⟩, hwc⟩ := S.get iC
  obtain ⟨wv, e1, r1⟩ := hwc _ rfl
  simp only [Rep] at r1
  subst e1; subst r1
  obtain ⟨mv, F, back⟩ := S.fr iL
  have r := S.rep dr
  simp only [Rep] at r
  obtain ⟨ra, rfl, hor, _⟩ := r
  have h5 : vsD.size = 5 := by rw [rD.size, List.length_map, hl]
  have hLm : L ∈ dom T := List.mem_map_of_mem iL.mem
  refine wpAny_with_toks (n := s.toks) (Nat.le_refl _) ?_
  refine call_function_entry_kw kind_sorted plain_sorted entry_sorted (ksk_s1 _ _) ?_
  unfold Builtin.«sorted»
  refine wpAny_bind (m := checkCount "sorted" 1 1 _) (wpAny_pure ?_)
  refine wpAny_bind (collect_range (A := A.in1) hA.1 hor (by decide) fun h1 tk1 acc k1 hacc => ?_)
  refine wpAny_bind (wpAny_newList ?_ (by rw [Array.length_toList, hacc.1, sizeLine_eq]; omega))
  have hoL : (h1.push (seqObj "list" acc.toList.toArray 0)).get? h1.objs.size = some (seqObj "list" acc.toList.toArray 0) := Heap.get?_push_size _ rfl
  show wpAny _ _ _ _ _ { s with heap := h1.push (seqObj "list" acc.toList.toArray 0), toks := tk1 }
  refine wpAny_bind (wpAny_holding (wpAny_call_entry_kw slot_list_sort ⟨_, hoL, rfl⟩ entry_list_sort ?body (ksk_l1 _ _)))
  case body =>
    have k2 : ∀ b o, s.heap.get? b = some o → (h1.push (seqObj "list" acc.toList.toArray 0)).get? b = some o := fun b o e => Heap.get?_push_of_some _ (k1 b o e)
    have hlt : ∀ p ∈ othersOf s.heap L, p.1 < h1.objs.size := fun p hp => Heap.lt_size (k1 _ _ (mem_others.mp hp).2)
    have hLlt : L < h1.objs.size := by
      obtain ⟨o, ho⟩ := (S.own _ iL.mem).some
      exact Heap.lt_size (k1 _ _ ho)
    rw [ksk_t1]
    refine kat_keyed (s := { s with heap := h1.push (seqObj "list" acc.toList.toArray 0), toks := tk1 }) (vs := acc.toList) (news := othersOf s.heap L) (F.kept k2) (others_news.grown k2) hoL (Nat.ne_of_gt hLlt) (heap0_none _) (fun p hp => Nat.ne_of_lt (hlt p hp)) (by rw [Array.length_toList, hacc.1]; decide) (by rw [Array.length_toList, hacc.1]; decide) fun kS e1 h' F' N' l0 l1 => ?_
    have mem : ∀ {b o}, b ≠ L → s.heap.get? b = some o → (b, o) ∈ othersOf s.heap L := fun hb e => mem_others.mpr ⟨hb, e⟩
    refine keys_go (s := { s with heap := h', toks := tk1 }) (A := A.in1.in1) (news := othersOf s.heap L) (vsD := vsD) (m := mD) hA.room (mem hLf.symm (S.get iF)) (mem hLc.symm (S.get iO)) hcd hcv (mem hLa.symm hco) hcc (mem hLD.symm hoD) h5 (fun h N => ?_) (Nat.ne_of_lt l0) (fun q hq => Nat.ne_of_lt (l1 q hq)) (fun e h2 tk2 F2 N2 => ?_) acc.toList [] 0 h' tk1 (by show 0 + acc.toList.length = 5; rw [Array.length_toList, hacc.1]) (fun j x hj => ?_) rfl F' N'
    · refine S.base.T.nolimit.keeps fun b o e => (N (b, o) (mem (fun q => ?_) (S.keep b o e))).1
      have := S.new _ iL.mem
      rw [q] at e; rw [e] at this; cases this
    · have old : ∀ b o, b ≠ L → s.heap.get? b = some o → h2.get? b = some o := fun b o hb e => (N2 (b, o) (List.mem_cons_of_mem _ (List.mem_cons_of_mem _ (mem hb e)))).1
      have ev : Ev (dom T) s.heap (dom T) h2 := ⟨fun b o hb e _ => old b o (fun q => hb (q ▸ hLm)) e, fun b hb => .inl hb⟩
      have hal : acc.toList.length = vsD.toList.length := by rw [Array.length_toList, Array.length_toList, hacc.1, h5]
      rw [hal]
      refine sort_core (s := { s with heap := h2, toks := tk2 }) (rD.ev ev _ _) hl hq ?_
      have hDk : h1.objs.size ≠ kS := Nat.ne_of_lt l0
      refine KatFin.intro F2 N2 (.head fun p hp => ?_) fun h3 c3 F3 N3 => KasFin.intro F3 N3 (.tail (Ne.symm hDk) (.head fun p hp => Nat.ne_of_lt (hlt p hp))) fun h4 c4 F4 N4 => ⟨_, rfl, wpAny_pure ⟨_, rfl, fun htk => ?_⟩⟩
      · rcases List.mem_cons.mp hp with rfl | hp
        · exact hDk
        · exact Nat.ne_of_lt (l1 p hp)
      have old4 : ∀ b o, b ≠ L → s.heap.get? b = some o → h4.get? b = some o := fun b o hb e => (N4 (b, o) (List.mem_cons_of_mem _ (List.mem_cons_of_mem _ (mem hb e)))).1
      have S' : St c h₀ T H { s with heap := h4, toks := tk2 } := back h4 tk2 F4 old4 htk
      refine ⟨T, _, h _, S'.more fun x hx => ?_⟩
      rcases List.mem_singleton.mp hx with rfl
      have hDo := N4 (h1.objs.size, _) (List.mem_cons_of_mem _ (List.mem_cons_self ..))
      simp only [Rep]
      refine ⟨_, _, c4, rfl, hDo.1, fun hm => ?_, ?_⟩
      · obtain ⟨p, hp, e⟩ := List.mem_map.mp hm
        obtain ⟨o, ho'⟩ := (S.own p hp).some
        have := Heap.lt_size (k1 _ _ ho')
        rw [e] at this
        exact Nat.lt_irrefl _ this
      · show RepL _ _ _ (List.toArray (katRev false (q.toList.map fun i => (katRev false acc.toList).getD i Value.none))).toList
        have key : ∀ is : List Nat, (∀ i ∈ is, i < 5) → RepL (dom T) h4 (is.map natPV) (is.map fun i => acc.toList.getD i Value.none) := by
          intro is
          induction is with
          | nil => intro _; simp only [List.map_nil, RepL]
          | cons i is ih =>
            intro hi
            have hi5 := hi i (List.mem_cons_self ..)
            obtain ⟨x, hx⟩ : ∃ x, acc[i]? = some x := ⟨_, Array.getElem?_eq_getElem (by rw [hacc.1]; exact hi5)⟩
            obtain ⟨t, e⟩ := hacc.2 i x hx
            have f2 : acc.toList.getD i Value.none = x := by
              rw [List.getD_eq_getElem?_getD]
              have : acc.toList[i]? = some x := by simpa using hx
              rw [this]; rfl
            simp only [List.map_cons, RepL]
            refine ⟨_, _, rfl, ?_, ih fun x hx => hi x (List.mem_cons_of_mem _ hx)⟩
            rw [f2, e]
            simp only [Rep]
            exact ⟨t, rfl⟩
        simpa [katRev] using key q.toList hq5
    · have hj' : acc[j]? = some x := by simpa using hj
      obtain ⟨t, e⟩ := hacc.2 j x hj'
      exact ⟨t, by rw [e]; simp⟩
end
end Mine
end

section
open PySem PySem.W PyProof.Rows PySem.Calls PySem.MeetsSeq
set_option Elab.async false
set_option maxRecDepth 100000
set_option maxHeartbeats 4000000
set_option linter.unusedVariables false
set_option linter.unusedSimpArgs false
namespace Mine

/-- from here on one token at least was given -/
def Cx.up (c : Cx) : Cx := { c with low := 1 }
section
variable {c : Cx} {h₀ : Heap} {n : Nat} {T T' : Trk} {H : Hold} {s : Shared} {env : Env} {pos : Pos} {α β : Type}
theorem St.low (S : St c h₀ T H s) (h : 1 ≤ s.toks) : St c.up h₀ T H s := ⟨⟨S.base.K, S.base.T⟩, S.keep, S.new, S.own, S.nd, S.held, S.gens, S.drawn, S.os, h⟩
theorem St.down (h0 : c.low = 0) (S : St c.up h₀ T H s) : St c h₀ T H s := ⟨⟨S.base.K, S.base.T⟩, S.keep, S.new, S.own, S.nd, S.held, S.gens, S.drawn, S.os, by rw [h0]; exact Nat.zero_le _⟩
def WU (c : Cx) (h₀ : Heap) (n : Nat) (T : Trk) (H : Hold) {α : Type} (t : Sem α) (Q : α → Trk → Hold → Prop) : Prop :=
  ∀ (A : Around) (s : Shared), AOk n A → St c h₀ T H s → wpAny (model c.prog c.w) A t (fun a s' => ∃ T' N, Q a T' N ∧ St c.up h₀ T' (N ++ H) s') (fun _ _ => False) s
theorem WU.mono {t : Sem α} {Q Q' : α → Trk → Hold → Prop} (h : WU c h₀ n T H t Q) (k : ∀ a T' N, Q a T' N → Q' a T' N) : WU c h₀ n T H t Q' :=
  fun A s hA S => wpAny_mono (h A s hA S) (fun a s' ⟨T', N, q, S'⟩ => ⟨T', N, k a T' N q, S'⟩) fun _ _ x => x
theorem WU.bind {m : Sem α} {f : α → Sem β} {Q : β → Trk → Hold → Prop} (h : WU c h₀ n T H m fun a T' N => W c.up h₀ n T' (N ++ H) (f a) Q) : WU c h₀ n T H (m >>= f) Q :=
  fun A s hA S => wpAny_bind (wpAny_mono (h A s hA S) (fun a s' ⟨T', N, q, S'⟩ => wpAny_mono (q A s' hA S') (fun b s'' ⟨T'', N', q', S''⟩ => ⟨T'', N', q', S''.thin⟩) fun _ _ x => x) fun _ _ x => x)
theorem WU.Const_int {i : Int} {k : Nat} {Q : Value → Trk → Hold → Prop} (h : ∀ t, Q (.int i t) T []) : WU c h₀ n T H (eval (.Constant (.int i) k pos) env) Q := fun _ _ _ S => wpAny_Constant_int ⟨T, [], h _, S.tok.low (Nat.succ_le_succ (Nat.zero_le _))⟩
theorem WU.part_some {e : Expr} {Q : Value → Trk → Hold → Prop} (h : WU c h₀ n T H (eval e env) Q) : WU c h₀ n T H (evalPart (some e) env) Q := h
theorem WU.BinOp {l r : Expr} {op : Operator} {Q : Value → Trk → Hold → Prop}
    (h : WU c h₀ n T H (eval l env) fun a T₁ N₁ => W c.up h₀ n T₁ (N₁ ++ H) (eval r env) fun b T₂ N₂ => W c.up h₀ n T₂ (N₂ ++ (N₁ ++ H)) (binaryOp op a b) Q) : WU c h₀ n T H (eval (.BinOp l op r pos) env) Q := by
  rw [eval_BinOp env l op r pos]
  exact WU.bind (h.mono fun a T₁ N₁ h₁ => W.bind (W.holding (h₁.mono fun b T₂ N₂ h₂ => W.bind (W.standAt (W.operate h₂)))))
theorem WU.SubSlice {value : Expr} {lower upper step : Option Expr} {p : Pos} {ops : Value → Value → List Value} {Q : Value → Trk → Hold → Prop}
    (h : W c h₀ n T H (eval value env) fun o T₁ N₁ => W c h₀ n T₁ (N₁ ++ H) (evalPart lower env) fun vl T₂ N₂ => WU c h₀ n T₂ (N₂ ++ (N₁ ++ H)) (evalPart upper env) fun vu T₃ N₃ => W c.up h₀ n T₃ (N₃ ++ (N₂ ++ (N₁ ++ H))) (evalPart step env) fun vs T₄ N₄ =>
      ∃ l lo hi st, Lst T₄ (N₄ ++ (N₃ ++ (N₂ ++ (N₁ ++ H)))) o l ∧ IsPart vl lo ∧ IsPart vu hi ∧ IsPart vs st ∧ st ≠ some 0 ∧ l.length ≤ 1000 ∧ ∀ a, Q (.ref a) T₄ [(.lst (slicePV l lo hi st), .ref a)])
    (hs : ∀ o i, subscripted (.Slice lower upper step p) false o i = PySem.operate (ops o i) (PySem.getItem o i) := by intro _ _; with_unfolding_all rfl) : WU c h₀ n T H (eval (.Subscript value (.Slice lower upper step p) pos) env) Q := by
  intro A s hA S
  rw [eval_Subscript]
  refine wpAny_bind (wpAny_mono (h A s hA S) (fun o s₁ ⟨T₁, N₁, q₁, S₁⟩ => wpAny_bind (wpAny_holding (wpAny_Slice (wpAny_mono (q₁ A s₁ hA S₁) (fun vl s₂ ⟨T₂, N₂, q₂, S₂⟩ =>
    wpAny_mono (q₂ A s₂ hA S₂) (fun vu s₃ ⟨T₃, N₃, q₃, S₃⟩ => wpAny_mono (q₃ A s₃ hA S₃) (fun vs s₄ ⟨T₄, N₄, q₄, S₄⟩ => ?_) fun _ _ x => x) fun _ _ x => x) fun _ _ x => x)))) fun _ _ x => x)
  obtain ⟨l, lo, hi, st, dl, pl, pu, ps, h0, hl, hQ⟩ := q₄
  obtain ⟨a, ws, m, rfl, ho, r⟩ := dl.at S₄
  refine wpAny_bind (wpAny_standAt ?_)
  have ho' : (s₄.heap.push { cls := .type "slice", data := .fields #[vl, vu, vs] }).IsList a ws := ⟨_, Heap.get?_push_of_some _ ho, rfl, m, rfl⟩
  refine tail_any ho'.typeIs slot_list_getitem.lookup ?_ (hs _ _)
  refine wpAny_getItem_list_slice ho' (Heap.IsSliceOf.new ..) pl pu ps h0 ⟨T₄, _, hQ _, ?_⟩ (lt_line (by rw [r.size]; exact hl))
  have k : ∀ b o, s₄.heap.get? b = some o → ((s₄.heap.push { cls := .type "slice", data := .fields #[vl, vu, vs] }).push { cls := .type "list", data := .seq (slicePick ws lo hi st) }).get? b = some o := fun b o e => Heap.get?_push_of_some _ (Heap.get?_push_of_some _ e)
  have S' := S₄.grow (tk := s₄.toks) k
  refine (S'.more (N := [_]) fun q hq => ?_).thin.thin.thin.thin
  rcases List.mem_singleton.mp hq with rfl
  simp only [Rep]
  refine ⟨_, slicePick ws lo hi st, 0, rfl, Heap.get?_push_size _ rfl, fun hm => ?_, ?_⟩
  · obtain ⟨p, hp, hpa⟩ := List.mem_map.mp hm
    have := S₄.lt hp
    rw [hpa, Heap.size_push] at this
    exact Nat.lt_irrefl _ (Nat.lt_of_succ_lt this)
  · have key : (slicePick ws lo hi st).toList = (sliceRange (sliceBounds lo hi st l.length).1 (sliceBounds lo hi st l.length).2.1 (sliceBounds lo hi st l.length).2.2).filterMap (ws.toList[·]?) := by
      unfold slicePick
      rw [r.size]
      simp
    rw [key]
    exact (r.ev (ev_grow k) _ _).pick _


/-- the first loop: with its list the first token comes -/
abbrev UpB (J : Nat → Trk → Prop) (i : Nat) : Flow → Trk → Hold → Prop := fun f T _ => f = .next ∧ ∃ T', J (i + 1) T' ∧ Weak T T'
end
inductive UpS (c : Cx) (h₀ : Heap) (n : Nat) (H₀ H : Hold) (target : Expr) (body orelse rest : List Stmt) (env : Env) (Q : Flow → Trk → Hold → Prop) (J : List PV → Nat → Trk → Prop) (v : Value) (T : Trk) : Prop
  | mk (xs : List PV) (src : Src T H v xs (fun _ => True)) (j0 : ∃ T₂, J xs 0 T₂ ∧ Weak T T₂)
    (turn : ∀ i x T₂, xs[i]? = some x → J xs i T₂ → ∀ h₁ u, W c.up h₁ n T₂ ((x, u) :: H) (assign target env u) (BodK c.up h₁ n ((x, u) :: H) body env (UpB (J xs) i)))
    (ho : orelse = []) (done : ∀ T₂, J xs xs.length T₂ → W c.up h₀ n T₂ H₀ (execs rest env) Q)
section
variable {c : Cx} {h₀ : Heap} {n : Nat} {T T' : Trk} {H : Hold} {s : Shared} {env : Env} {pos : Pos} {α β : Type}
theorem W.forUp {target iter : Expr} {body orelse : List Stmt} {rest : List Stmt} {Q : Flow → Trk → Hold → Prop} (h0 : c.low = 0) (J : Value → List PV → Nat → Trk → Prop)
    (h : WU c h₀ n T H (eval iter env) fun v T₁ N₁ => UpS c h₀ n H (N₁ ++ H) target body orelse rest env Q (J v) v T₁)
    (hs : ∀ x, foldedSetIterable iter env x = Pure.pure x := by intro _; rfl) : W c h₀ n T H (execs (.For target iter body orelse pos :: rest) env) Q := fun A s hA S => by
  refine wpAny_execs_cons (wpAny_mono (For_wp (c := c.up) (h₀ := h₀) (H := H) (Q := fun f T' N => f = .next ∧ W c.up h₀ n T' H (execs rest env) Q) (fun v xs i T => ∃ T₄, J v xs i T₄ ∧ Weak T T₄) hA (wpAny_mono (h A s hA S) (fun v s₁ ⟨T₁, N₁, sp, S₁⟩ =>
    ⟨T₁, N₁, ?_, S₁⟩) fun _ _ x => x) hs) (fun f s' ⟨T', N, ⟨hf, q⟩, S'⟩ => ?_) fun _ _ x => x)
  · cases sp with
    | mk xs src j0 turn ho done =>
      refine .mk xs _ src j0 (fun _ _ _ => trivial) (fun i x T₃ hx h h₁ u Q' hQ' => h.elim fun T₄ h => W.weak h.2 ((turn i x T₄ hx h.1 h₁ u).mono fun _ T₅ _ q => W.mono q fun f T₆ N₆ q => ?_)) fun T₃ hh => hh.elim fun T₄ hh => ?_
      · obtain ⟨rfl, q⟩ := q
        exact hQ' _ _ _ q
      · subst ho
        exact W.weak hh.2 (W.execs_nil ⟨rfl, done T₄ hh.1⟩)
  · subst hf
    exact wpAny_mono (q A s' hA S'.drop) (fun f s'' ⟨T'', N', q', S''⟩ => ⟨T'', N', q', S''.down h0⟩) fun _ _ x => x
end
end Mine
end

section
open PySem PySem.W PyProof.Rows PySem.Calls PySem.MeetsSeq
set_option Elab.async false
set_option maxRecDepth 100000
set_option linter.unusedVariables false
set_option linter.unusedSimpArgs false
namespace Mine

theorem give.mono {p : PV} {k k' : Value → Hold → Prop} (g : give p k) (m : ∀ v N, k v N → k' v N) : give p k' := by
  cases p with
  | none => exact m _ _ g
  | bool b => exact m _ _ g
  | int i => exact fun t => m _ _ (g t)
  | flt x => exact fun t ht => m _ _ (g t ht)
  | str x => exact fun t => m _ _ (g t)
  | tup l => exact fun a => m _ _ (g a)
  | lst l => exact fun a => m _ _ (g a)
  | ref a => exact m _ _ g
  | bi i => exact m _ _ g
  | ty i => exact m _ _ g
  | im o => exact fun a => m _ _ (g a)

def locOk (env : Env) (x : PySem.Str) : Bool := env.scope.kind == .function && env.kindOf x == some .local && !(x == ("__debug__" : PySem.Str))
theorem locOk.d {env : Env} {x : PySem.Str} (h : locOk env x = true) : (x == ("__debug__" : PySem.Str)) = false ∧ env.scope.kind = .function ∧ env.kindOf x = some .local := by
  simp only [locOk, Bool.and_eq_true, Bool.not_eq_true', beq_iff_eq] at h
  exact ⟨h.2, h.1⟩
def celOk (env : Env) (x : PySem.Str) : Bool := env.scope.kind == .function && !(x == ("__debug__" : PySem.Str)) && (env.kindOf x == some .cell || (env.kindOf x == some .free && !(x == ("__classdict__" : PySem.Str))))
def gloOk (env : Env) (x : PySem.Str) : Bool := env.scope.kind == .function && env.kindOf x == some .globalImplicit && env.globals == mainGlobals && env.builtins == builtinsNs && !(x == ("__debug__" : PySem.Str)) && x != "__name__"
def bootTab : List (PySem.Str × Value) := [("int", .type "int"), ("max", .builtin "max"), ("min", .builtin "min"), ("len", .builtin "len"), ("range", .type "range"), ("chr", .builtin "chr"), ("str", .type "str"), ("sorted", .builtin "sorted"), ("ord", .builtin "ord"), ("type", .type "type"), ("list", .type "list")]
def btab (x : PySem.Str) : Option Value := bootTab.lookup x
theorem bootTab.ok : ∀ y ∈ bootTab, bootBuiltins y.1 = some y.2 := by
  unfold bootTab
  repeat' (refine List.forall_mem_cons.mpr ⟨?_, ?_⟩)
  · exact PyProof.Rows.Boot.«int»
  · exact PyProof.Rows.Boot.«max»
  · exact PyProof.Rows.Boot.«min»
  · exact PyProof.Rows.Boot.«len»
  · exact PyProof.Rows.Boot.«range»
  · exact PyProof.Rows.Boot.«chr»
  · exact PyProof.Rows.Boot.«str»
  · exact PyProof.Rows.Boot.«sorted»
  · exact PyProof.Rows.Boot.«ord»
  · exact PyProof.Rows.Boot.«type»
  · exact PyProof.Rows.Boot.«list»
  · exact fun _ h => nomatch h
theorem btab.boot {x : PySem.Str} {v : Value} (h : btab x = some v) : bootBuiltins x = some v := bootTab.ok (x, v) (mem_of_lookup h)
def glob (K : Frag) (x : PySem.Str) : Option Value := match nsIn K mainGlobals x with | some (some v) => some v | some none => btab x | none => none
def keepB (K : Frag) : Value → Bool | .builtin _ => true | .type _ => true | .ref a => keepIn K (.ref a) | _ => false
theorem keepB.k {K : Frag} {v : Value} (h : keepB K v = true) : KeepF K v := by
  cases v with
  | builtin => exact .builtin
  | type => exact .type
  | ref a => exact .inr (.inr h)
  | _ => exact nomatch h
def conPV : Const → Option PV | .int z => some (.int z) | .float z => some (.flt z) | .str z => some (.str z) | .none => some .none | .bool z => some (.bool z) | _ => none
def valPV : Value → Option PV | .int z _ => some (.int z) | .str z _ => some (.str z) | .none => some .none | .bool z => some (.bool z) | .builtin z => some (.bi z) | .type z => some (.ty z) | _ => none
theorem Den.val {H : Hold} {v : Value} {p : PV} (h : valPV v = some p) : Den H v p := by
  cases v with
  | int => cases h; exact Den.int
  | str => cases h; exact Den.str
  | none => cases h; exact Den.none
  | bool => cases h; exact Den.bool
  | builtin => cases h; exact Den.bi
  | type => cases h; exact Den.ty
  | _ => exact nomatch h
def arI (op : Operator) (a b : Int) : Option Int := match op with | .Add => some (a + b) | .Sub => some (a - b) | .Mod => if b = 0 then none else some (a.fmod b) | _ => none
def arF (op : Operator) (x y : UInt64) : Option UInt64 := match op with | .Add => some (Float64.add x y) | .Sub => some (Float64.sub x y) | .Mult => some (Float64.mul x y) | _ => none
def cmI (op : CmpOp) (a b : Int) : Option Bool := match op with | .Lt => some (decide (a < b)) | .Gt => some (decide (a > b)) | .Eq => some (a == b) | _ => none
def cmF (op : CmpOp) (x y : UInt64) : Option Bool := match op with | .Lt => some (fltLt x y) | .Eq => some (fltEq x y) | _ => none
def cmIs (op : CmpOp) (v w : Value) : Option Bool := match op with | .Is => some (v == w) | .IsNot => some (!(v == w)) | _ => none
def cmN (op : CmpOp) (p : PV) : Option Bool := match op with
  | .Is => (match p with | .none => some true | .ref _ => some false | .str _ => some false | _ => none)
  | .IsNot => (match p with | .none => some false | .ref _ => some true | .str _ => some true | _ => none)
  | _ => none
inductive SeqP (T : Trk) : PV → List PV → Prop
  | tup {l : List PV} : SeqP T (.tup l) l
  | lst {l : List PV} : SeqP T (.lst l) l
  | own {l : List PV} {a : Addr} : In a (.list l) T → SeqP T (.ref a) l
inductive Sto (env : Env) (x : PySem.Str) (p : PV) : Trk → Trk → Prop
  | loc {m m' : List (PySem.Str × PV)} {T T' : Trk} : (env.scope.kind == .function && env.kindOf x == some .local) = true → At env.locals (.frame m) (.frame m') T T' → Put x p m m' → Sto env x p T T'
  | cell {a : Addr} {q : Option PV} {T T' : Trk} : (env.scope.kind == .function && env.kindOf x == some .cell) = true → env.cells.lookup x = some a → At a (.cell q) (.cell (some p)) T T' → Sto env x p T T'
inductive StoL (env : Env) : List Expr → List PV → Trk → Trk → Prop
  | nil {T : Trk} : StoL env [] [] T T
  | cons {x : PySem.Str} {px : Pos} {es : List Expr} {p : PV} {ps : List PV} {T T' T'' : Trk} : Sto env x p T T' → StoL env es ps T' T'' → StoL env (.Name x px :: es) (p :: ps) T T''
inductive StoN (env : Env) : List PySem.Str → List PV → Trk → Trk → Prop
  | nil {T : Trk} : StoN env [] [] T T
  | cons {x : PySem.Str} {es : List PySem.Str} {p : PV} {ps : List PV} {T T' T'' : Trk} : Sto env x p T T' → StoN env es ps T' T'' → StoN env (x :: es) (p :: ps) T T''

section
variable {c : Cx} {h₀ : Heap} {n : Nat} {T T' T'' : Trk} {H N : Hold} {α : Type} {env : Env} {pos : Pos} {s : Shared}

/-- the expression stands for p, and turns nothing -/
def PE (c : Cx) (h₀ : Heap) (n : Nat) (T : Trk) (env : Env) (e : Expr) (p : PV) : Prop :=
  ∀ (H : Hold) (Q : Value → Trk → Hold → Prop), (give p fun v N => Q v T N) → W c h₀ n T H (eval e env) Q
def Op2 (c : Cx) (h₀ : Heap) (n : Nat) (T : Trk) (f : Value → Value → Sem Value) (p q r : PV) : Prop :=
  give p fun v N => give q fun w N' => ∀ (H : Hold) (Q : Value → Trk → Hold → Prop), (give r fun v N => Q v T N) → W c h₀ n T (N' ++ (N ++ H)) (f v w) Q
def PT (c : Cx) (h₀ : Heap) (n : Nat) (T : Trk) (env : Env) (e : Expr) (b : Bool) : Prop :=
  ∀ (H : Hold) (Q : Bool → Trk → Hold → Prop), Q b T [] → W c h₀ n T H (isTrue e env (eval e env)) Q

section
variable {e l r o i : Expr} {x : PySem.Str} {p q r' : PV} {op : Operator} {cop : CmpOp} {b : Bool} {m m' : List (PySem.Str × PV)} {a : Addr} {k : Nat}
theorem PE.use {Q : Value → Trk → Hold → Prop} (h : PE c h₀ n T env e p) (g : give p fun v N => Q v T N) : W c h₀ n T H (eval e env) Q := h H Q g
theorem PT.use {Q : Bool → Trk → Hold → Prop} (h : PT c h₀ n T env e b) (g : Q b T []) : W c h₀ n T H (isTrue e env (eval e env)) Q := h H Q g
theorem PE.loc (hl : locOk env x = true) (hf : In env.locals (.frame m) T) (hv : Var x p m) : PE c h₀ n T env (.Name x pos) p :=
  fun H Q g => W.Name' (locOk.d hl).1 (W.loadLocal (locOk.d hl).2.1 (locOk.d hl).2.2 hf hv g)
theorem PE.cel (hl : celOk env x = true) (hc : env.cells.lookup x = some a) (hf : In a (.cell (some p)) T) : PE c h₀ n T env (.Name x pos) p := by
  simp only [celOk, Bool.and_eq_true, Bool.or_eq_true, Bool.not_eq_true', beq_iff_eq] at hl
  obtain ⟨⟨hk, hd⟩, hl | ⟨hl, hn⟩⟩ := hl
  · exact fun H Q g => W.Name' hd (W.loadCell hk hl hc hf g)
  · exact fun H Q g => W.Name' hd (W.loadFree hk hl hc hf g hn)
theorem W.loadX {v : Value} {Q : Value → Trk → Hold → Prop} (hl : gloOk env x = true) (e : glob c.K x = some v) (h : Q v T []) : W c h₀ n T H (loadName env x) Q := by
  simp only [gloOk, Bool.and_eq_true, Bool.not_eq_true', beq_iff_eq, bne_iff_ne] at hl
  obtain ⟨⟨⟨⟨⟨hk, hl⟩, hg⟩, hb⟩, _⟩, hn⟩ := hl
  unfold glob at e
  split at e
  · cases e; exact W.loadGlob hk hg hl ‹_› h
  · exact W.loadBuiltin hk hg hb hl ‹_› (btab.boot e) hn h
  · exact nomatch e
theorem W.NameX {v : Value} {Q : Value → Trk → Hold → Prop} (hl : gloOk env x = true) (e : glob c.K x = some v) (g : Q v T []) : W c h₀ n T H (eval (.Name x pos) env) Q := by
  have h := hl
  simp only [gloOk, Bool.and_eq_true, Bool.not_eq_true', beq_iff_eq] at h
  exact W.Name' h.1.2 (W.loadX hl e g)
theorem PE.con {k : Const} {m : Nat} (hlo : 0 < c.low) (h : conPV k = some p) : PE c h₀ n T env (.Constant k m pos) p := by
  cases k with
  | int z => cases h; exact fun H Q g => W.Const_int g
  | float z => cases h; exact fun H Q g => W.Const_flt hlo g
  | str z => cases h; exact fun H Q g => W.Const_str g
  | none => cases h; exact fun H Q g => W.Const_none g
  | bool z => cases h; exact fun H Q g => W.Const_bool g
  | _ => exact nomatch h
theorem Op2.use {f : Value → Value → Sem Value} {k : Value → Hold → Prop} (ho : Op2 c h₀ n T f p q r')
    (m : ∀ v N, (give q fun w N' => ∀ (H : Hold) (Q : Value → Trk → Hold → Prop), (give r' fun v N => Q v T N) → W c h₀ n T (N' ++ (N ++ H)) (f v w) Q) → k v N) : give p k := by
  unfold Op2 at ho
  exact give.mono ho m
theorem PE.bin (hl : PE c h₀ n T env l p) (hr : PE c h₀ n T env r q) (ho : Op2 c h₀ n T (binaryOp op) p q r') : PE c h₀ n T env (.BinOp l op r pos) r' :=
  fun H Q g => W.BinOp (hl H _ (ho.use fun v N h => hr _ _ (give.mono h fun w N' h' => h' H Q g)))
theorem PT.cmp (hm : behindInMarks cop r = false) (hl : PE c h₀ n T env l p) (hr : PE c h₀ n T env r q) (ho : Op2 c h₀ n T (compareOp cop) p q (.bool b)) : PT c h₀ n T env (.Compare l [cop] [r] pos) b :=
  fun H Q g => W.isTrue_Compare' hm (hl H _ (ho.use fun v N h => hr _ _ (give.mono h fun w N' h' => h' H _ (W.truthy_bool g))))
theorem Seq.more {v : Value} {l : List PV} (h : Seq T H v l) : Seq T (N ++ H) v l := by
  cases h with
  | tup d => exact .tup d.more
  | lst d => exact .lst d.more
  | own e i => exact .own e i
theorem SeqP.give {p : PV} {l : List PV} {k : Value → Hold → Prop} (h : SeqP T p l) (g : ∀ v N, (∀ H, Seq T (N ++ H) v l) → k v N) : give p k := by
  cases h with
  | tup => exact fun a => g _ _ fun _ => .tup Den.hd
  | lst => exact fun a => g _ _ fun _ => .lst Den.hd
  | own i => exact g _ _ fun _ => .own rfl i
theorem PE.sub {l : List PV} {z : Int} {ops : Value → Value → List Value} (hsl : ∀ o i', subscripted i false o i' = PySem.operate (ops o i') (PySem.getItem o i')) (hv : PE c h₀ n T env o p) (hs : SeqP T p l)
    (hi : PE c h₀ n T env i (.int z)) (hk : decide (0 ≤ z ∧ z.toNat < 2 ^ 62) = true) (hp : l[z.toNat]? = some q) : PE c h₀ n T env (.Subscript o i pos) q :=
  fun H Q g => W.Sub' hsl (hv H _ (hs.give fun v N hq => hi _ _ (fun t => ⟨⟨l, (hq H).more⟩, W.item (hq H).more hk hp g⟩)))
end

-- operators
section
variable {a b z : Int} {x y : UInt64}
theorem W.arI {op : Operator} {t u : Tok} {Q : Value → Trk → Hold → Prop} (h : arI op a b = some z) (g : ∀ t, Q (.int z t) T []) : W c h₀ n T H (binaryOp op (.int a t) (.int b u)) Q := by
  cases op with
  | Add => cases h; exact W.add_ii g
  | Sub => cases h; exact W.sub_ii g
  | Mod => by_cases hb : b = 0
           · rw [show Mine.arI .Mod a b = none from if_pos hb] at h; exact nomatch h
           · rw [show Mine.arI .Mod a b = some (a.fmod b) from if_neg hb] at h; cases h; exact W.mod_ii hb g
  | _ => exact nomatch h
theorem W.arF {op : Operator} {z : UInt64} {t u : Tok} {Q : Value → Trk → Hold → Prop} (hlo : 0 < c.low) (h : arF op x y = some z) (g : ∀ t, t ≠ 0 → Q (.float z t) T []) : W c h₀ n T H (binaryOp op (.float x t) (.float y u)) Q := by
  cases op with
  | Add => cases h; exact W.add_ff hlo g
  | Sub => cases h; exact W.sub_ff hlo g
  | Mult => cases h; exact W.mul_ff hlo g
  | _ => exact nomatch h
theorem W.cmI {op : CmpOp} {r : Bool} {t u : Tok} {Q : Value → Trk → Hold → Prop} (h : cmI op a b = some r) (g : Q (.bool r) T []) : W c h₀ n T H (compareOp op (.int a t) (.int b u)) Q := by
  cases op with
  | Lt => cases h; exact W.lt_ii g
  | Gt => cases h; exact W.gt_ii g
  | Eq => cases h; exact W.eq_ii g
  | _ => exact nomatch h
theorem W.cmF {op : CmpOp} {r : Bool} {t u : Tok} {Q : Value → Trk → Hold → Prop} (h : cmF op x y = some r) (g : Q (.bool r) T []) : W c h₀ n T H (compareOp op (.float x t) (.float y u)) Q := by
  cases op with
  | Lt => cases h; exact W.lt_ff g
  | Eq => cases h; exact W.eq_ff g
  | _ => exact nomatch h
theorem W.cmIs {op : CmpOp} {v w : Value} {r : Bool} {Q : Value → Trk → Hold → Prop} (hp : plainIs v w = true) (h : cmIs op v w = some r) (g : Q (.bool r) T []) : W c h₀ n T H (compareOp op v w) Q := by
  cases op with
  | Is => cases h; exact W.is_plain hp g
  | IsNot => cases h; exact W.isNot_plain hp g
  | _ => exact nomatch h
theorem Op2.arI {op : Operator} (h : arI op a b = some z) : Op2 c h₀ n T (binaryOp op) (.int a) (.int b) (.int z) := fun _ _ _ _ g => W.arI h g
theorem Op2.arF {op : Operator} {z : UInt64} (hlo : 0 < c.low) (h : arF op x y = some z) : Op2 c h₀ n T (binaryOp op) (.flt x) (.flt y) (.flt z) := fun _ _ _ _ _ _ g => W.arF hlo h g
theorem Op2.cmI {op : CmpOp} {r : Bool} (h : cmI op a b = some r) : Op2 c h₀ n T (compareOp op) (.int a) (.int b) (.bool r) := fun _ _ _ _ g => W.cmI h g
theorem Op2.cmF {op : CmpOp} {r : Bool} (h : cmF op x y = some r) : Op2 c h₀ n T (compareOp op) (.flt x) (.flt y) (.bool r) := fun _ _ _ _ _ _ g => W.cmF h g
theorem Op2.cmN {op : CmpOp} {p : PV} {r : Bool} (h : cmN op p = some r) : Op2 c h₀ n T (compareOp op) p .none (.bool r) := by
  cases op with
  | Is => cases p with
    | none => cases h; exact fun _ _ g => W.is_eq rfl rfl g
    | ref a => cases h; exact fun _ _ g => W.is_eq rfl rfl g
    | str x => cases h; exact fun _ _ _ g => W.is_eq rfl rfl g
    | _ => exact nomatch h
  | IsNot => cases p with
    | none => cases h; exact fun _ _ g => W.isNot_eq rfl rfl g
    | ref a => cases h; exact fun _ _ g => W.isNot_eq rfl rfl g
    | str x => cases h; exact fun _ _ _ g => W.isNot_eq rfl rfl g
    | _ => exact nomatch h
  | _ => exact nomatch h
end

-- what is to be done next
abbrev DoK (c : Cx) (h₀ : Heap) (n : Nat) (H : Hold) (rest : List Stmt) (env : Env) (Q : Flow → Trk → Hold → Prop) {α : Type} : α → Trk → Hold → Prop := fun _ T _ => W c h₀ n T H (execs rest env) Q
abbrev NxK (c : Cx) (h₀ : Heap) (n : Nat) (H : Hold) (rest : List Stmt) (env : Env) (Q : Flow → Trk → Hold → Prop) : Flow → Trk → Hold → Prop := fun f T N => match f with | .next => W c h₀ n T H (execs rest env) Q | f => Q f T N
abbrev AsK (c : Cx) (h₀ : Heap) (n : Nat) (H : Hold) (x : PySem.Str) (rest : List Stmt) (env : Env) (Q : Flow → Trk → Hold → Prop) : Value → Trk → Hold → Prop := fun v T N => W c h₀ n T (N ++ H) (storeName env x v) (DoK c h₀ n H rest env Q)
abbrev AtK (c : Cx) (h₀ : Heap) (n : Nat) (H : Hold) (t : Expr) (rest : List Stmt) (env : Env) (Q : Flow → Trk → Hold → Prop) : Value → Trk → Hold → Prop := fun v T N => W c h₀ n T (N ++ H) (assign t env v) (DoK c h₀ n H rest env Q)
abbrev RetK (Q : Flow → Trk → Hold → Prop) : Value → Trk → Hold → Prop := fun v T N => Q (.ret v) T N
abbrev IfK (c : Cx) (h₀ : Heap) (n : Nat) (H : Hold) (body orelse rest : List Stmt) (env : Env) (Q : Flow → Trk → Hold → Prop) : Bool → Trk → Hold → Prop := fun b T _ =>
  if b = true then W c h₀ n T H (execs body env) (NxK c h₀ n H rest env Q) else W c h₀ n T H (execs orelse env) (NxK c h₀ n H rest env Q)
abbrev BinK2 (c : Cx) (h₀ : Heap) (n : Nat) (H : Hold) (f : Value → Value → Sem α) (a : Value) (Q : α → Trk → Hold → Prop) : Value → Trk → Hold → Prop := fun b T N => W c h₀ n T (N ++ H) (f a b) Q
abbrev BinK (c : Cx) (h₀ : Heap) (n : Nat) (H : Hold) (r : Expr) (env : Env) (f : Value → Value → Sem α) (Q : α → Trk → Hold → Prop) : Value → Trk → Hold → Prop := fun a T N => W c h₀ n T (N ++ H) (eval r env) (BinK2 c h₀ n (N ++ H) f a Q)
abbrev TruK (c : Cx) (h₀ : Heap) (n : Nat) (H : Hold) (Q : Bool → Trk → Hold → Prop) : Value → Trk → Hold → Prop := fun v T N => W c h₀ n T (N ++ H) (truthy v) Q
abbrev TCK2 (c : Cx) (h₀ : Heap) (n : Nat) (H : Hold) (op : CmpOp) (a : Value) (Q : Bool → Trk → Hold → Prop) : Value → Trk → Hold → Prop := fun b T N => W c h₀ n T (N ++ H) (compareOp op a b) (TruK c h₀ n (N ++ H) Q)
abbrev TCK (c : Cx) (h₀ : Heap) (n : Nat) (H : Hold) (r : Expr) (env : Env) (op : CmpOp) (Q : Bool → Trk → Hold → Prop) : Value → Trk → Hold → Prop := fun a T N => W c h₀ n T (N ++ H) (eval r env) (TCK2 c h₀ n (N ++ H) op a Q)
abbrev SubK2 (c : Cx) (h₀ : Heap) (n : Nat) (H : Hold) (o : Value) (Q : Value → Trk → Hold → Prop) : Value → Trk → Hold → Prop := fun i T N => (∃ l, Seq T (N ++ H) o l) ∧ W c h₀ n T (N ++ H) (PySem.getItem o i) Q
abbrev SubK (c : Cx) (h₀ : Heap) (n : Nat) (H : Hold) (i : Expr) (env : Env) (Q : Value → Trk → Hold → Prop) : Value → Trk → Hold → Prop := fun o T N => W c h₀ n T (N ++ H) (eval i env) (SubK2 c h₀ n (N ++ H) o Q)
abbrev SetK2 (c : Cx) (h₀ : Heap) (n : Nat) (H : Hold) (o v : Value) (Q : Unit → Trk → Hold → Prop) : Value → Trk → Hold → Prop := fun i T N => W c h₀ n T (N ++ H) (PySem.setItem o i v) (fun _ T _ => Q () T [])
abbrev SetK (c : Cx) (h₀ : Heap) (n : Nat) (H : Hold) (i : Expr) (env : Env) (v : Value) (Q : Unit → Trk → Hold → Prop) : Value → Trk → Hold → Prop := fun o T N => W c h₀ n T (N ++ H) (eval i env) (SetK2 c h₀ n (N ++ H) o v Q)
abbrev TupK (c : Cx) (h₀ : Heap) (n : Nat) (H : Hold) (Q : Value → Trk → Hold → Prop) : List Value → Trk → Hold → Prop := fun vs T N => W c h₀ n T (N ++ H) (PySem.newTuple vs) Q
abbrev LisK (c : Cx) (h₀ : Heap) (n : Nat) (H : Hold) (Q : Value → Trk → Hold → Prop) : List Value → Trk → Hold → Prop := fun vs T N => W c h₀ n T (N ++ H) (PySem.newList vs) Q
abbrev SplK2 (v : Value) (N' : Hold) (Q : List Value → Trk → Hold → Prop) : List Value → Trk → Hold → Prop := fun vs T N => Q (v :: vs) T (N ++ N')
abbrev SplK (c : Cx) (h₀ : Heap) (n : Nat) (H : Hold) (pos : Pos) (rest : List Expr) (env : Env) (Q : List Value → Trk → Hold → Prop) : Value → Trk → Hold → Prop := fun v T N => W c h₀ n T (N ++ H) (spliced (backTo pos (starEach rest env))) (SplK2 v N Q)
abbrev CalM (c : Cx) (h₀ : Heap) (n : Nat) (H : Hold) (f : Value) (fs : List Value) (Q : Value → Trk → Hold → Prop) : List Value → Trk → Hold → Prop := fun vs T N => W c h₀ n T (N ++ H) (call f (fs ++ vs) []) Q
abbrev CalK2 (c : Cx) (h₀ : Heap) (n : Nat) (H : Hold) (f : Value) (Q : Value → Trk → Hold → Prop) : List Value → Trk → Hold → Prop := fun vs T N => W c h₀ n T (N ++ H) (call f vs []) Q
abbrev MetK1 (c : Cx) (h₀ : Heap) (n : Nat) (H : Hold) (pos : Pos) (es : List Expr) (env : Env) (Q : Value → Trk → Hold → Prop) : Value × List Value → Trk → Hold → Prop := fun f T N => KeepF c.K f.1 ∧ W c h₀ n T (N ++ H) (spliced (backTo pos (starEach es env))) (CalM c h₀ n (N ++ H) f.1 f.2 Q)
abbrev MetK (c : Cx) (h₀ : Heap) (n : Nat) (H : Hold) (pos : Pos) (name : PySem.Str) (pl : Sem Bool) (es : List Expr) (env : Env) (Q : Value → Trk → Hold → Prop) : Value → Trk → Hold → Prop := fun o T N => W c h₀ n T (N ++ H) (getMethod o name pl) (MetK1 c h₀ n (N ++ H) pos es env Q)
abbrev AttK (c : Cx) (h₀ : Heap) (n : Nat) (H : Hold) (a : PySem.Str) (Q : Value → Trk → Hold → Prop) : Value → Trk → Hold → Prop := fun o T N => W c h₀ n T (N ++ H) (getAttr o a true) Q
abbrev OrdK (c : Cx) (h₀ : Heap) (n : Nat) (H : Hold) (fs : List (Value → Sem Unit)) (vs : List Value) (Q : Unit → Trk → Hold → Prop) : Unit → Trk → Hold → Prop := fun _ T _ => W c h₀ n T H (assignInOrder fs vs) Q

-- expressions
section
variable {e l r o i : Expr} {es : List Expr} {x : PySem.Str} {op : Operator} {cop : CmpOp} {k : Nat} {px : Pos} {Q : Value → Trk → Hold → Prop}
theorem W.BinG (h : W c h₀ n T H (eval l env) (BinK c h₀ n H r env (binaryOp op) Q)) : W c h₀ n T H (eval (.BinOp l op r pos) env) Q := W.BinOp h
theorem W.CmpG (hm : behindInMarks cop r = false) (h : W c h₀ n T H (eval l env) (BinK c h₀ n H r env (compareOp cop) Q)) : W c h₀ n T H (eval (.Compare l [cop] [r] pos) env) Q := W.Compare' hm h
theorem W.TCmpG {whole : Sem Value} {Q : Bool → Trk → Hold → Prop} (hm : behindInMarks cop r = false) (h : W c h₀ n T H (eval l env) (TCK c h₀ n H r env cop Q)) : W c h₀ n T H (isTrue (.Compare l [cop] [r] pos) env whole) Q := W.isTrue_Compare' hm h
theorem W.SubG {ops : Value → Value → List Value} (hs : ∀ o i', subscripted i false o i' = PySem.operate (ops o i') (PySem.getItem o i')) (h : W c h₀ n T H (eval o env) (SubK c h₀ n H i env Q)) : W c h₀ n T H (eval (.Subscript o i pos) env) Q := W.Sub' hs h
theorem W.asSubG {v : Value} {Q : Unit → Trk → Hold → Prop} (h : W c h₀ n T H (eval o env) (SetK c h₀ n H i env v Q)) : W c h₀ n T H (assign (.Subscript o i pos) env v) Q := W.asSub h
theorem W.TupG (h : W c h₀ n T H (spliced (backTo pos (starEach es env))) (TupK c h₀ n H Q)) : W c h₀ n T H (eval (.Tuple es k pos) env) Q := W.TupleD h
theorem W.LisG (h : W c h₀ n T H (spliced (backTo pos (starEach es env))) (LisK c h₀ n H Q)) : W c h₀ n T H (eval (.List es pos) env) Q := W.ListD h
theorem W.splG {Q : List Value → Trk → Hold → Prop} (he : starEach (e :: es) env = (false, eval e env) :: starEach es env) (h : W c h₀ n T H (eval e env) (SplK c h₀ n H pos es env Q)) : W c h₀ n T H (spliced (backTo pos (starEach (e :: es) env))) Q := W.spl_cons' he h
theorem W.CallX {f : Value} (hl : gloOk env x = true) (hstar : (backTo pos (starEach es env)).any (·.1) = false) (e : glob c.K x = some f) (k : keepB c.K f = true) (h : W c h₀ n T H (spliced (backTo pos (starEach es env))) (CalK2 c h₀ n H f Q)) : W c h₀ n T H (eval (.Call (.Name x px) es [] pos) env) Q := by
  have h' := hl
  simp only [gloOk, Bool.and_eq_true, Bool.not_eq_true', beq_iff_eq] at h'
  exact W.CallName' h'.1.2 hstar rfl (W.loadX hl e ⟨keepB.k k, h.mono fun vs T₁ N₁ q' => W.kw_nil q'⟩)
theorem W.CallL {m : List (PySem.Str × PV)} {a : Addr} (hl : locOk env x = true) (hf : In env.locals (.frame m) T) (hv : Var x (.ref a) m) (hstar : (backTo pos (starEach es env)).any (·.1) = false) (k : keepIn c.K (.ref a) = true) (h : W c h₀ n T H (spliced (backTo pos (starEach es env))) (CalK2 c h₀ n H (.ref a) Q)) : W c h₀ n T H (eval (.Call (.Name x px) es [] pos) env) Q :=
  W.CallName' (locOk.d hl).1 hstar rfl (W.loadLocal (locOk.d hl).2.1 (locOk.d hl).2.2 hf hv ⟨.inr (.inr k), h.mono fun vs T₁ N₁ q' => W.kw_nil q'⟩)
theorem W.MethG {name : PySem.Str} {apos : Pos} {pl : Sem Bool} (he : eval (.Call (.Attribute o name apos) es [] pos) env = (do
      let ov ← eval o env
      PySem.standAt apos.atName
      let (f, first) ← PySem.holding [ov] (getMethod ov name pl)
      PySem.callWith pos f first (backTo pos (starEach es env)) (backToKw pos (keywordEach [] env))))
    (hstar : (backTo pos (starEach es env)).any (·.1) = false) (h : W c h₀ n T H (eval o env) (MetK c h₀ n H pos name pl es env Q)) : W c h₀ n T H (eval (.Call (.Attribute o name apos) es [] pos) env) Q :=
  W.CallMeth' he hstar rfl (h.mono fun ov T₀ N₀ q => q.mono fun fx T₁ N₁ ⟨hf, q'⟩ => ⟨hf, q'.mono fun vs T₂ N₂ q'' => W.kw_nil q''⟩)
theorem W.mAppend {v : Value} {l : List PV} {pl : Sem Bool} {Q : Value × List Value → Trk → Hold → Prop} (d : Lst T H v l) (g : Q (.builtin "list.append", [v]) T []) : W c h₀ n T H (getMethod v "append" pl) Q := W.methList F.slot_list_append ty_append d g
theorem W.mInsert {v : Value} {l : List PV} {pl : Sem Bool} {Q : Value × List Value → Trk → Hold → Prop} (d : Lst T H v l) (g : Q (.builtin "list.insert", [v]) T []) : W c h₀ n T H (getMethod v "insert" pl) Q := W.methList F.slot_list_insert ty_insert d g
theorem W.mPop {v : Value} {l : List PV} {pl : Sem Bool} {Q : Value × List Value → Trk → Hold → Prop} (d : Lst T H v l) (g : Q (.builtin "list.pop", [v]) T []) : W c h₀ n T H (getMethod v "pop" pl) Q := W.methList F.slot_list_pop ty_pop d g
theorem W.mExtend {v : Value} {l : List PV} {pl : Sem Bool} {Q : Value × List Value → Trk → Hold → Prop} (d : Lst T H v l) (g : Q (.builtin "list.extend", [v]) T []) : W c h₀ n T H (getMethod v "extend" pl) Q := W.methList F.slot_list_extend ty_extend d g
theorem W.AttG {attr : PySem.Str} (he : eval (.Attribute e attr pos) env = (do let o ← eval e env; PySem.standAt pos.atName; let r ← PySem.holding [o] (getAttr o attr true); letTemporaryGo e o r; Pure.pure r)) (hg : ∀ o r, letTemporaryGo e o r = Pure.pure ())
    (h : W c h₀ n T H (eval e env) (AttK c h₀ n H attr Q)) : W c h₀ n T H (eval (.Attribute e attr pos) env) Q := W.Attr he hg h
theorem W.ordG {f : Value → Sem Unit} {fs : List (Value → Sem Unit)} {v : Value} {vs : List Value} {Q : Unit → Trk → Hold → Prop} (h : W c h₀ n T H (f v) (OrdK c h₀ n H fs vs Q)) : W c h₀ n T H (assignInOrder (f :: fs) (v :: vs)) Q := W.ord_cons h
end

-- stores
theorem Sto.go {x : PySem.Str} {p : PV} {v : Value} {Q : Unit → Trk → Hold → Prop} (s : Sto env x p T T') (d : Den H v p) (h : Q () T' []) : W c h₀ n T H (storeName env x v) Q := by
  cases s with
  | loc hl hf hp => rw [Bool.and_eq_true, beq_iff_eq, beq_iff_eq] at hl; exact W.storeLocal hl.1 hl.2 d hf hp h
  | cell hl hc hf => rw [Bool.and_eq_true, beq_iff_eq, beq_iff_eq] at hl; exact W.storeCell hl.1 hl.2 hc d hf h
theorem bindVs_all : ∀ {ps : List PV} {k : List Value → Hold → Prop}, (∀ vs N, (∀ H, DenL (N ++ H) vs ps) → k vs N) → bindVs ps k
  | [], k, h => h [] [] fun _ => .nil
  | p :: ps, k, h => fun v => bindVs_all fun vs N d => h _ _ fun H => .cons (.hd) (fun D hp kk => d H D hp fun q hq => kk q (List.mem_cons_of_mem _ hq))
theorem DenL.inv {v : Value} {p : PV} {vs : List Value} {ps : List PV} (h : DenL H (v :: vs) (p :: ps)) : Den H v p ∧ DenL H vs ps :=
  ⟨fun D hp k => by have := h D hp k; simp only [RepL] at this; obtain ⟨_, _, e, r, _⟩ := this; cases e; exact r, fun D hp k => by have := h D hp k; simp only [RepL] at this; obtain ⟨_, _, e, _, r⟩ := this; cases e; exact r⟩
theorem DenL.len {vs : List Value} {ps : List PV} (h : DenL H vs ps) (S : St c h₀ T H s) : vs.length = ps.length := (h _ _ S.held).length
/-- nothing tells of an empty state: what holds of all states that are is enough -/
theorem W.have {t : Sem α} {Q : α → Trk → Hold → Prop} {P : Prop} (k : ∀ s, St c h₀ T H s → P) (h : P → W c h₀ n T H t Q) : W c h₀ n T H t Q := fun A s hA S => h (k s S) A s hA S
theorem StoL.names {es : List Expr} {ps : List PV} (s : StoL env es ps T T') : ∃ fs : List (Value → Sem Unit), (assignEach es env) = fs.map (fun f => (false, f)) ∧ fs.length = ps.length := by
  induction s with
  | nil => exact ⟨[], rfl, rfl⟩
  | cons _ _ ih => obtain ⟨fs, e, l⟩ := ih; exact ⟨_ :: fs, by show _ :: assignEach _ _ = _; rw [e]; rfl, by simp [l]⟩
theorem StoL.go {es : List Expr} {ps : List PV} (s : StoL env es ps T T') : ∀ {vs : List Value} {H : Hold} {Q : Unit → Trk → Hold → Prop}, DenL H vs ps → Q () T' [] → W c h₀ n T H (assignInOrder ((assignEach es env).map (·.2)) vs) Q := by
  induction s with
  | nil => intro vs H Q d h; exact W.ord_nil h
  | cons s _ ih =>
    intro vs H Q d h
    cases vs with
    | nil => exact W.have (fun s S => (d.len S : 0 = _ + 1)) fun e => nomatch e
    | cons v vs => exact W.ord_cons (W.asName (s.go d.inv.1 (ih d.inv.2 h)))
theorem StoN.len {es : List PySem.Str} {ps : List PV} (s : StoN env es ps T T') : es.length = ps.length := by
  induction s with
  | nil => rfl
  | cons _ _ ih => simp [ih]
theorem StoN.go {es : List PySem.Str} {ps : List PV} (s : StoN env es ps T T') : ∀ {vs : List Value} {H : Hold} {Q : Unit → Trk → Hold → Prop}, DenL H vs ps → Q () T' [] → W c h₀ n T H (assignInOrder (es.map fun n => PySem.bindName env n) vs) Q := by
  induction s with
  | nil => intro vs H Q d h; exact W.ord_nil h
  | cons s _ ih =>
    intro vs H Q d h
    cases vs with
    | nil => exact W.have (fun s S => (d.len S : 0 = _ + 1)) fun e => nomatch e
    | cons v vs => exact W.ord_cons (W.bindName (s.go d.inv.1 (ih d.inv.2 h)))
theorem DenL.rev {vs : List Value} {ps : List PV} (d : DenL H vs ps) : DenL H vs.reverse ps.reverse := fun D h k => (d D h k).reverse
theorem W.asTupP {elts : List Expr} {k : Nat} {v : Value} {ps : List PV} {Q : Unit → Trk → Hold → Prop} (d : Den H v (.tup ps)) (s : StoL env elts ps T T') (h : Q () T' []) : W c h₀ n T H (assign (.Tuple elts k pos) env v) Q := by
  obtain ⟨fs, e, l⟩ := s.names
  exact W.asTuple d (by rw [e, List.length_map, l]) (by rw [e]; simp) (bindVs_all fun vs N dl => s.go (dl H) h)

-- statements
section
variable {rest body orelse : List Stmt} {value test e o i : Expr} {p : PV} {x : PySem.Str} {pos' tpos : Pos} {b : Bool} {k : Nat} {elts : List Expr} {Q : Flow → Trk → Hold → Prop} {st : Stmt}
theorem W.execs_n (h : W c h₀ n T H (exec st env) (NxK c h₀ n H rest env Q)) : W c h₀ n T H (execs (st :: rest) env) Q := W.execs_cons (h.mono fun f _ _ q => by cases f <;> exact q)
theorem W.nx (h : W c h₀ n T H (execs rest env) Q) : NxK c h₀ n H rest env Q .next T N := h
theorem W.nxR {v : Value} (h : Q (.ret v) T N) : NxK c h₀ n H rest env Q (.ret v) T N := h
theorem W.sAssign (hs : swapsWith value (some (.Name x pos')) pos.line env = Pure.pure false) (he : PE c h₀ n T env value p) (s : Sto env x p T T') (h : W c h₀ n T' H (execs rest env) Q) : W c h₀ n T H (execs (.Assign [.Name x pos'] value pos :: rest) env) Q :=
  W.execs_cons (W.Assign' hs (he H _ (give_den fun v N d => s.go (d H) h)))
theorem W.sAssignI (hs : swapsWith value (some (.Name x pos')) pos.line env = Pure.pure false) (h : W c h₀ n T H (eval value env) (AsK c h₀ n H x rest env Q)) : W c h₀ n T H (execs (.Assign [.Name x pos'] value pos :: rest) env) Q :=
  W.execs_cons (W.Assign' hs h)
theorem W.sIf (ht : PT c h₀ n T env test b) (h : if b = true then W c h₀ n T H (execs body env) (NxK c h₀ n H rest env Q) else W c h₀ n T H (execs orelse env) (NxK c h₀ n H rest env Q)) : W c h₀ n T H (execs (.If test body orelse pos :: rest) env) Q :=
  W.execs_n (W.If (ht H _ h))
theorem W.sIf0 (ht : PT c h₀ n T env test b) (h : if b = true then W c h₀ n T H (execs body env) (NxK c h₀ n H rest env Q) else W c h₀ n T H (execs rest env) Q) : W c h₀ n T H (execs (.If test body [] pos :: rest) env) Q :=
  W.sIf ht (by cases b with | true => exact h | false => exact W.execs_nil h)
theorem W.sIfI (h : W c h₀ n T H (isTrue test env (eval test env)) (IfK c h₀ n H body orelse rest env Q)) : W c h₀ n T H (execs (.If test body orelse pos :: rest) env) Q := W.execs_n (W.If h)
theorem W.sRet (h : W c h₀ n T H (eval e env) (RetK Q)) : W c h₀ n T H (execs (.Return (some e) pos :: rest) env) Q := W.execs_n (W.Return (h.mono fun v _ _ q => q))
theorem W.sExpr (hi : interactive env = false) (hs : swapsWith e none pos.line env = Pure.pure false) (h : W c h₀ n T H (eval e env) (DoK c h₀ n H rest env Q)) : W c h₀ n T H (execs (.Expr e pos :: rest) env) Q := W.execs_cons (W.ExprS' hi hs h)
theorem W.sTup (hs : swapsWithSole [.Tuple elts k tpos] value pos.line env = Pure.pure false) (hw : swappedStores [.Tuple elts k tpos] value env = Pure.pure none) (h : W c h₀ n T H (eval value env) (AtK c h₀ n H (.Tuple elts k tpos) rest env Q)) : W c h₀ n T H (execs (.Assign [.Tuple elts k tpos] value pos :: rest) env) Q :=
  W.execs_cons (W.AssignTuple' hs hw h)
theorem W.sSub (hs : swapsWithSole [.Subscript o i tpos] value pos.line env = Pure.pure false) (hw : swappedStores [.Subscript o i tpos] value env = Pure.pure none) (h : W c h₀ n T H (eval value env) (AtK c h₀ n H (.Subscript o i tpos) rest env Q)) : W c h₀ n T H (execs (.Assign [.Subscript o i tpos] value pos :: rest) env) Q :=
  W.execs_cons (W.AssignSub' hs hw h)
def SwK (c : Cx) (h₀ : Heap) (n : Nat) (H : Hold) (names : List PySem.Str) (rest : List Stmt) (env : Env) (Q : Flow → Trk → Hold → Prop) : Value → Trk → Hold → Prop := fun v T N =>
  ∃ ps T', Den (N ++ H) v (.tup ps) ∧ StoN env names.reverse ps.reverse T T' ∧ W c h₀ n T' H (execs rest env) Q
theorem SwK.mk {names : List PySem.Str} {v : Value} (ps : List PV) (d : Den (N ++ H) v (.tup ps)) (s : StoN env names.reverse ps.reverse T T') (h : W c h₀ n T' H (execs rest env) Q) : SwK c h₀ n H names rest env Q v T N := ⟨ps, T', d, s, h⟩
theorem W.sSwap {names : List PySem.Str} (hw : swappedStores [.Tuple elts k tpos] value env = Pure.pure (some names)) (hs : swapsWithSole [.Tuple elts k tpos] value pos.line env = Pure.pure false)
    (h : W c h₀ n T H (eval value env) (SwK c h₀ n H names rest env Q)) : W c h₀ n T H (execs (.Assign [.Tuple elts k tpos] value pos :: rest) env) Q :=
  W.execs_cons (W.AssignSwap' hw hs (h.mono fun v T₁ N₁ ⟨ps, T', d, s, q⟩ => ⟨ps, d, by have := s.len; simpa using this, bindVs_all fun vs N dl => s.go (dl _).rev q⟩))
end

-- loops
theorem W.open {t : Sem α} {F : α → Trk → Hold → Prop} (h : ∀ Q', Hid F Q' → W c h₀ n T H t Q') : W c h₀ n T H t F := h F .self
section
variable {test target iter elt : Expr} {body orelse : List Stmt}
theorem W.AssignListCompG {ifs : List Expr} {scope : Scope} {cl : List (PySem.Str × Addr)} {y : PySem.Str} {py spos : Pos} {rest : List Stmt} {Q : Flow → Trk → Hold → Prop} (J : Value → List PV → Nat → List PV → Trk → Prop)
    (hsw : swapsWith (.ListComp elt [⟨target, iter, ifs, 0⟩] scope pos) (some (.Name y py)) spos.line env = Pure.pure true)
    (hclos : closureFor scope env = Pure.pure cl)
    (h : W c h₀ n T H (eval iter env) fun v T₁ N₁ => CompS c n (N₁ ++ H) elt target ifs scope cl env (J v) (fun outs T₂ => ∀ (D C : Addr), ∃ m T₄, Sto env y (.lst outs) ((C, .frame []) :: T₂) ((C, .frame m) :: T₄) ∧ W c h₀ n T₄ H (execs rest env) Q) v T₁)
    (hcell : ∀ y ∈ scope.names, y.2 ≠ .cell := by decide) (hkind : scope.kind = .function := by rfl) (hnames : ∀ y ∈ scope.names, y.2 = .local → scope.names.lookup y.1 = some .local := by decide)
    (hs : ∀ x, foldedSetIterable iter env x = Pure.pure x := by intro _; rfl) : W c h₀ n T H (execs (.Assign [.Name y py] (.ListComp elt [⟨target, iter, ifs, 0⟩] scope pos) spos :: rest) env) Q := by
  refine W.execs_cons (W.AssignListComp J hsw hclos (h.mono fun v T₁ N₁ s => ?_) hcell hkind hnames hs)
  cases s with
  | mk xs Z a b d z t w =>
    exact .mk xs Z a b d z t fun outs T₂ hj D C => (w outs T₂ hj D C).elim fun m w => w.elim fun T₄ w => w.1.go .hd ⟨m, T₄, rfl, w.2⟩
end
end
end Mine
end

section
open PySem PySem.W PyProof.Rows
open_top Mine.hd for PySem.Challenge.rw_pm0068_01
end

section
open PySem PySem.W PyProof.Rows PySem.Calls PySem.MeetsSeq
namespace Mine
section
variable {c : Cx} {h₀ : Heap} {n : Nat} {T T' : Trk} {H : Hold} {env : Env} {pos px : Pos} {x : PySem.Str} {es : List Expr} {f : Value} {Q : Value → Trk → Hold → Prop}
theorem W.CallY (hK : c.K = hd.heap_39 c.w.params) (hl : gloOk env x = true) (hstar : (backTo pos (starEach es env)).any (·.1) = false) (e : glob (hd.heap_39 c.w.params) x = some f) (k : keepB (hd.heap_39 c.w.params) f = true) (h : W c h₀ n T H (spliced (backTo pos (starEach es env))) (CalK2 c h₀ n H f Q)) : W c h₀ n T H (eval (.Call (.Name x px) es [] pos) env) Q :=
  W.CallX hl hstar (hK ▸ e) (hK ▸ k) h
theorem W.NameY (hK : c.K = hd.heap_39 c.w.params) (hl : gloOk env x = true) (e : glob (hd.heap_39 c.w.params) x = some f) (g : Q f T []) : W c h₀ n T H (eval (.Name x pos) env) Q := W.NameX hl (hK ▸ e) g
theorem W.loadY (hK : c.K = hd.heap_39 c.w.params) (hl : gloOk env x = true) (e : glob (hd.heap_39 c.w.params) x = some f) (g : Q f T []) : W c h₀ n T H (loadName env x) Q := W.loadX hl (hK ▸ e) g
theorem kf_Y {a : Addr} {B : Prop} (hK : c.K = hd.heap_39 c.w.params) (k : keepIn (hd.heap_39 c.w.params) (.ref a) = true) (h : B) : KeepF c.K (.ref a) ∧ B := ⟨.inr (.inr (hK ▸ k)), h⟩
/-- the dict of a Headers -/
abbrev esH (p : Params) (tk : Tok) (hl : Addr) : List DictEntry := [⟨PyData.keyHash p (PySem.Str.ofString "_headers"), .str (PySem.Str.ofString "_headers") tk, .ref hl⟩]
theorem W.ownH {a dx hl : Addr} {tk : Tok} {expr : Bool} (hK : c.K = hd.heap_39 c.w.params) (ix : In a (.obj (inst 223 dx)) T) (id : In dx (.obj (dictOf (esH c.w.params tk hl) 1)) T) (g : Q (.ref hl) T []) : W c h₀ n T H (getAttr (.ref a) (PySem.Str.ofString "_headers") expr) Q :=
  W.getOwn (attr := none) ix id (by rw [hK]; rfl) (by rw [hK]; rfl) (by rw [hK]; rfl) (by rw [hK]; rfl) rfl rfl g
theorem W.methH {name : PySem.Str} {a dx hl g : Addr} {tk : Tok} {pl : Sem Bool} {Q : Value × List Value → Trk → Hold → Prop} (hK : c.K = hd.heap_39 c.w.params) (ix : In a (.obj (inst 223 dx)) T) (id : In dx (.obj (dictOf (esH c.w.params tk hl) 1)) T)
    (hg : plainGet (hd.heap_39 c.w.params) 223 name = true) (hf : findIn (hd.heap_39 c.w.params) (.ref 223) name = some (some (.ref g))) (ht : isFn (hd.heap_39 c.w.params) (.ref g) = true) (hl : getL name (esH c.w.params tk hl) = some none) (h : Q (.ref g, [.ref a]) T []) : W c h₀ n T H (getMethod (.ref a) name pl) Q :=
  W.methInst ix id (hK ▸ hg) (hK ▸ hf) (hK ▸ ht) hl h
end
local macro_rules | `(tactic| walk_at "r") => `(tactic| rfl)
local macro_rules | `(tactic| walk_at "ra") => `(tactic| with_unfolding_all rfl)
local macro_rules | `(tactic| walk_at "den0") => `(tactic| with_reducible first | exact Den.hd | exact Den.flt (by assumption) | exact Den.val (by walk_at "ra") | ((first | apply Den.tl | apply Den.nilApp | apply Den.consApp | apply Den.appApp); walk_at "den0") | exact Den.ref)
local macro_rules | `(tactic| walk_at "denx") => `(tactic| first | exact Den.flt (by assumption) | exact Den.val (by walk_at "ra") | exact Den.hd | (apply Den.tl; walk_at "denx") | exact Den.ref)
local macro_rules | `(tactic| walk_at "den") => `(tactic| first | walk_at "den0" | walk_at "denx")
local macro_rules | `(tactic| walk_at "in") => `(tactic| first | exact In.head | assumption | (apply In.tail; walk_at "in"))
local macro_rules | `(tactic| walk_at "at") => `(tactic| first | exact At.head | assumption | (apply At.tail; walk_at "at"))
local macro_rules | `(tactic| walk_at "var") => `(tactic| first | exact Var.head | (apply Var.tail; (· decide +kernel); walk_at "var"))
local macro_rules | `(tactic| walk_at "put") => `(tactic| first | exact Put.nil | exact Put.head | (apply Put.tail; (· decide +kernel); walk_at "put"))
local macro_rules | `(tactic| walk_at "denl") => `(tactic| first | exact DenL.nil | (apply DenL.cons; (· walk_at "den"); walk_at "denl"))
local macro_rules | `(tactic| walk_at "lst") => `(tactic| first | (apply Lst.own; (· rfl); walk_at "in"; done) | (apply Lst.lst; walk_at "den"; done))
local macro_rules | `(tactic| walk_at "seq") => `(tactic| first | (apply Seq.own; (· rfl); walk_at "in"; done) | (apply Seq.tup; walk_at "den"; done) | (apply Seq.lst; walk_at "den"; done))
local macro_rules | `(tactic| walk_at "seqp") => `(tactic| first | exact SeqP.tup | exact SeqP.lst | (apply SeqP.own; walk_at "in"))
local macro_rules | `(tactic| walk_at "op2") => `(tactic| first
  | with_reducible exact Op2.arF (by assumption) (by walk_at "ra")
  | with_reducible exact Op2.cmF (by walk_at "ra")
  | ((with_reducible refine Op2.cmI (r := true) ?_); rfl)
  | ((with_reducible refine Op2.cmI (r := false) ?_); rfl)
  | with_reducible exact Op2.cmI (by walk_at "ra")
  | with_reducible exact Op2.arI (by walk_at "ra")
  | with_reducible exact Op2.cmN (by walk_at "ra"))
local macro_rules | `(tactic| walk_at "pe") => `(tactic| first
  | with_reducible exact PE.con (by assumption) (by walk_at "ra")
  | ((with_reducible refine' PE.loc ?a ?b ?c); (case a => walk_at "r"); (case b => walk_at "in"); (case c => walk_at "var"))
  | ((with_reducible refine' PE.cel ?a ?b ?c); (case a => walk_at "r"); (case b => walk_at "r"); (case c => walk_at "in"))
  | ((with_reducible refine' PE.bin ?a ?b ?c); (case a => walk_at "pe"); (case b => walk_at "pe"); (case c => walk_at "op2"))
  | ((with_reducible refine' PE.sub ?a ?b ?c ?d ?e ?f); (case a => intro _ _; walk_at "ra"); (case b => walk_at "pe"); (case c => walk_at "seqp"); (case d => walk_at "pe"); (case e => walk_at "r"); (case f => walk_at "r")))
local macro_rules | `(tactic| walk_at "pt") => `(tactic| ((with_reducible refine' PT.cmp ?a ?b ?c ?d); (case a => walk_at "ra"); (case b => walk_at "pe"); (case c => walk_at "pe"); (case d => walk_at "op2")))
local macro_rules | `(tactic| walk_at "sto") => `(tactic| first
  | refine Sto.loc rfl (by walk_at "at") (by walk_at "put")
  | refine Sto.cell rfl rfl (by walk_at "at"))
local macro_rules | `(tactic| walk_at "stol") => `(tactic| first | exact StoL.nil | (apply StoL.cons; (· walk_at "sto"); walk_at "stol"))
local macro_rules | `(tactic| walk_at "ston") => `(tactic| first | exact StoN.nil | (apply StoN.cons; (· walk_at "sto"); walk_at "ston"))
local macro_rules | `(tactic| walk_at "1") => `(tactic| first
  | with_reducible intro _
  | ((with_reducible refine' W.sAssign ?a ?b ?c ?_); (case a => walk_at "r"); (case b => walk_at "pe"); (case c => walk_at "sto"))
  | ((with_reducible refine W.sAssignI ?_ ?_); (· walk_at "r"))
  | ((with_reducible refine' W.sIf0 ?a ?_); (case a => walk_at "pt"))
  | ((with_reducible refine' W.sIf ?a ?_); (case a => walk_at "pt"))
  | with_reducible refine W.sIfI ?_
  | with_reducible refine W.sRet ?_
  | ((with_reducible refine W.sExpr ?_ ?_ ?_); (· walk_at "r"); (· walk_at "r"))
  | ((with_reducible refine W.sTup ?_ ?_ ?_); (· walk_at "r"); (· walk_at "r"))
  | ((with_reducible refine' W.sSwap ?a ?b ?_); (case a => walk_at "r"); (case b => walk_at "r"))
  | ((with_reducible refine W.sSub ?_ ?_ ?_); (· walk_at "r"); (· walk_at "r"))
  | with_reducible refine W.execs_n ?_
  | ((with_reducible refine' PE.use ?a ?_); (case a => walk_at "pe"))
  | ((with_reducible refine' W.NameY ?a ?b ?c ?_); (case a => assumption); (case b => walk_at "r"); (case c => walk_at "r"))
  | with_reducible refine W.BinG ?_
  | ((with_reducible refine' W.CallY ?a ?b ?c ?d ?e ?_); (case a => assumption); (case b => walk_at "r"); (case c => walk_at "r"); (case d => walk_at "r"); (case e => walk_at "r"))
  | ((with_reducible refine' W.CallL ?a ?b ?c ?d ?e ?_); (case a => walk_at "r"); (case b => walk_at "in"); (case c => walk_at "var"); (case d => walk_at "r"); (case e => assumption))
  | ((with_reducible refine W.CallName' ?_ ?_ ?_ ?_); (· decide +kernel); (· walk_at "r"); (· walk_at "r"))
  | ((with_reducible refine' W.MethG ?a ?b ?_); (case a => walk_at "r"); (case b => walk_at "r"))
  | ((with_reducible refine' W.CallMeth' ?a ?b ?c ?_); (case a => walk_at "r"); (case b => walk_at "r"); (case c => walk_at "r"))
  | ((fail_if_success with_reducible refine (?_ : W _ _ _ _ _ (eval (.Subscript _ (.Slice _ _ _ _) _) _) _)); (with_reducible refine' W.SubG ?a ?_); (case a => intro _ _; walk_at "ra"))
  | ((with_reducible refine W.CmpG ?_ ?_); (· walk_at "ra"))
  | with_reducible refine W.IfExp ?_
  | ((with_reducible refine W.AttG ?_ ?_ ?_); (· walk_at "r"); (· intro _ _; walk_at "r"))
  | with_reducible refine W.TupG ?_
  | with_reducible refine W.LisG ?_
  | ((with_reducible refine' W.loadY ?a ?b ?c ?_); (case a => assumption); (case b => walk_at "r"); (case c => walk_at "r"))
  | ((with_reducible refine' W.arI ?a ?_); (case a => walk_at "r"))
  | ((with_reducible refine' W.arF ?a ?b ?_); (case a => assumption); (case b => walk_at "r"))
  | ((with_reducible refine W.cmI (r := true) ?_ ?_); (· walk_at "r"))
  | ((with_reducible refine W.cmI (r := false) ?_ ?_); (· walk_at "r"))
  | ((with_reducible refine' W.cmI ?a ?_); (case a => walk_at "r"))
  | ((with_reducible refine' W.cmF ?a ?_); (case a => walk_at "r"))
  | ((with_reducible refine W.cmIs (r := true) ?_ ?_ ?_); (· walk_at "r"); (· walk_at "r"))
  | ((with_reducible refine W.cmIs (r := false) ?_ ?_ ?_); (· walk_at "r"); (· walk_at "r"))
  | ((with_reducible refine' Sto.go ?a ?b ?_); (case b => walk_at "den"); (case a => walk_at "sto"))
  | with_reducible refine W.execs_nil ?_
  | with_reducible refine W.truthy_bool ?_
  | ((with_reducible refine' PT.use ?a ?_); (case a => walk_at "pt"))
  | ((with_reducible refine W.TCmpG ?_ ?_); (· walk_at "ra"))
  | ((with_reducible refine W.splG ?_ ?_); (· walk_at "r"))
  | with_reducible refine W.spl_nil ?_
  | with_reducible refine W.kw_nil ?_
  | with_reducible refine W.kw_cons ?_
  | with_reducible refine kf_bi ?_
  | with_reducible refine kf_ty ?_
  | ((with_reducible refine kf_Y ?_ ?_ ?_); (· assumption); (· walk_at "r"))
  | with_reducible refine W.asName ?_
  | ((with_reducible refine' W.asTupP ?a ?b ?_); (case a => walk_at "den"); (case b => walk_at "stol"))
  | with_reducible refine W.asSubG ?_
  | ((with_reducible refine' W.item ?a ?b ?c ?_); (case a => walk_at "seq"); (case b => walk_at "r"); (case c => walk_at "r"))
  | ((with_reducible refine' seqAnd ?a ?_); (case a => walk_at "seq"))
  | with_reducible refine W.methLower ?_
  | with_reducible refine W.methJoin ?_
  | ((with_reducible refine' W.methH ?a ?b ?c ?d ?e ?f ?g ?_); (case a => assumption); (case b => walk_at "in"); (case c => walk_at "in"); (case d => walk_at "r"); (case e => walk_at "r"); (case f => walk_at "r"); (case g => walk_at "r"))
  | ((with_reducible refine' W.methItems ?a ?_); (case a => walk_at "in"))
  | ((with_reducible first | refine' W.mAppend ?a ?_ | refine' W.mInsert ?a ?_ | refine' W.mPop ?a ?_ | refine' W.mExtend ?a ?_); (case a => walk_at "lst"))
  | with_reducible refine leave ?_
  | ((with_reducible refine Hid.go (by assumption) ?_); (first | refine FoB.next ?_ | refine FwB.next ?_ | skip))
  | with_reducible refine W.max3f (by assumption) (by assumption) (by assumption) ?_
  | with_reducible refine W.min3f (by assumption) (by assumption) (by assumption) ?_
  | with_reducible refine W.typeStr ?_
  | with_reducible refine W.truthy_none ?_
  | ((with_reducible refine W.isTrue_value' ?_ ?_); (· walk_at "r"))
  | ((with_reducible refine' W.ownH ?a ?b ?c ?_); (case a => assumption); (case b => walk_at "in"); (case c => walk_at "in"))
  | with_reducible refine iteT ?_
  | with_reducible refine iteF ?_
  | ((with_reducible refine' W.newTuple' ?a ?b ?_); (case a => exact lt_line (Nat.le_of_ble_eq_true (by walk_at "ra"))); (case b => walk_at "denl")))
/-- the functions, as they stand -/
noncomputable def fn (p : Params) (a : Addr) : FuncData := match (hd.heap_39 p).lookup a with | some { data := .func fd, .. } => fd | _ => default

def rgbOf (h s v : UInt64) : UInt64 × UInt64 × UInt64 :=
  let six : UInt64 := 4618441417868443648
  let one : UInt64 := 4607182418800017408
  if fltEq s 0 then (v, v, v) else
  let i := truncI (Float64.mul h six)
  let f := Float64.sub (Float64.mul h six) (Float64.ofInt i)
  let p := Float64.mul v (Float64.sub one s)
  let q := Float64.mul v (Float64.sub one (Float64.mul s f))
  let t := Float64.mul v (Float64.sub one (Float64.mul s (Float64.sub one f)))
  if i.fmod 6 == 0 then (v, t, p) else if i.fmod 6 == 1 then (q, v, p) else if i.fmod 6 == 2 then (p, v, t) else if i.fmod 6 == 3 then (p, q, v) else if i.fmod 6 == 4 then (t, p, v) else (v, p, q)

section
variable {c : Cx} (hK : c.K = hd.heap_39 c.w.params) (hlo : 0 < c.low) {h₀ : Heap} {n : Nat} {T T' : Trk} {H : Hold} {α : Type} {env : Env} {pos : Pos} {s : Shared}

include hK hlo in
theorem k_h2r {x y z : UInt64} {xv yv zv : Value} {Q : Value → Trk → Hold → Prop} (hf : Float64.isFinite (Float64.mul x 4618441417868443648) = true) (hb : (truncI (Float64.mul x 4618441417868443648)).natAbs < 2 ^ 1023) (hy : fltEq y 0 = false) (dx : Den H xv (.flt x)) (dy : Den H yv (.flt y)) (dz : Den H zv (.flt z))
    (h : ∀ a, Q (.ref a) T [(.tup [.flt (rgbOf x y z).1, .flt (rgbOf x y z).2.1, .flt (rgbOf x y z).2.2], .ref a)]) :
    W c h₀ (n + 1) T H (call (.ref 79) [xv, yv, zv] []) Q := by
  refine W.callK (fd := fn c.w.params 79) (by rw [hK]; rfl) rfl (by rw [hK]; rfl) rfl rfl rfl rfl rfl (binds := [(PySem.Str.ofString "h", xv), (PySem.Str.ofString "s", yv), (PySem.Str.ofString "v", zv)]) (fun S => by rw [hK]; kernel_rfl) (bs := [(PySem.Str.ofString "h", .flt x), (PySem.Str.ofString "s", .flt y), (PySem.Str.ofString "v", .flt z)]) (.cons dx (.cons dy (.cons dz .nil))) (by kernel_rfl) (by kernel_rfl) fun L => ?_
  repeat walk_at "1"
  refine iteB (fun e => absurd (hy.symm.trans e) (by decide)) fun _ => ?_
  repeat walk_at "1"
  repeat walk_at "1"
  refine W.intF hf fun t => ?_
  repeat walk_at "1"
  refine W.sub_fi hb (by assumption) fun t ht => ?_
  repeat walk_at "1"
  have hret : ∀ {a : Addr} {m : List (PySem.Str × PV)} {p q r : UInt64}, (p, q, r) = rgbOf x y z → leaveF L Q (.ret (.ref a)) ((L, .frame m) :: T) [(.tup [.flt p, .flt q, .flt r], .ref a)] := fun {a m p q r} e => ⟨T, .cons _ (.refl _), by
    have := h a
    rw [← e] at this
    exact this⟩
  generalize hi : truncI (Float64.mul x 4618441417868443648) = i at *
  refine iteB (fun b0 => ?_) fun b0 => ?_
  · repeat walk_at "1"
    exact hret (by simp [rgbOf, hy, hi, b0])
  repeat walk_at "1"
  refine iteB (fun b1 => ?_) fun b1 => ?_
  · repeat walk_at "1"
    exact hret (by simp [rgbOf, hy, hi, b0, b1])
  repeat walk_at "1"
  refine iteB (fun b2 => ?_) fun b2 => ?_
  · repeat walk_at "1"
    exact hret (by simp [rgbOf, hy, hi, b0, b1, b2])
  repeat walk_at "1"
  refine iteB (fun b3 => ?_) fun b3 => ?_
  · repeat walk_at "1"
    exact hret (by simp [rgbOf, hy, hi, b0, b1, b2, b3])
  repeat walk_at "1"
  refine iteB (fun b4 => ?_) fun b4 => ?_
  · repeat walk_at "1"
    exact hret (by simp [rgbOf, hy, hi, b0, b1, b2, b3, b4])
  repeat walk_at "1"
  refine iteB (fun b5 => ?_) fun b5 => ?_
  · repeat walk_at "1"
    exact hret (by simp [rgbOf, hy, hi, b0, b1, b2, b3, b4, b5])
  exfalso
  have h1 := Int.fmod_nonneg_of_pos i (b := 6) (by decide)
  have h2 := Int.fmod_lt_of_pos i (b := 6) (by decide)
  simp only [beq_eq_false_iff_ne] at b0 b1 b2 b3 b4 b5
  omega
end
def hsvOf (r g b : UInt64) : UInt64 × UInt64 × UInt64 :=
  let maxc := fmax3 r g b
  let minc := fmin3 r g b
  if fltEq minc maxc then (0, 0, maxc) else
  let rangec := Float64.sub maxc minc
  let s := Float64.div rangec maxc
  let rc := Float64.div (Float64.sub maxc r) rangec
  let gc := Float64.div (Float64.sub maxc g) rangec
  let bc := Float64.div (Float64.sub maxc b) rangec
  let h := if fltEq r maxc then Float64.sub bc gc else if fltEq g maxc then Float64.sub (Float64.add 4611686018427387904 rc) bc else Float64.sub (Float64.add 4616189618054758400 gc) rc
  (fltMod (Float64.div h 4618441417868443648) 4607182418800017408, s, maxc)
def okRgb (r g b : UInt64) : Bool := !fltEq (fmin3 r g b) (fmax3 r g b) && !Float64.isZero (fmax3 r g b) && !Float64.isZero (Float64.sub (fmax3 r g b) (fmin3 r g b))
def colPV (c : UInt64 × UInt64 × UInt64) : PV := .tup [.flt c.1, .flt c.2.1, .flt c.2.2]

section
variable {c : Cx} (hK : c.K = hd.heap_39 c.w.params) (hlo : 0 < c.low) {h₀ : Heap} {n : Nat} {T T' : Trk} {H : Hold} {α : Type} {env : Env} {pos : Pos} {s : Shared}

include hK hlo in
theorem k_r2h {r g b : UInt64} {rv gv bv : Value} {Q : Value → Trk → Hold → Prop} (ok : okRgb r g b = true) (dr : Den H rv (.flt r)) (dg : Den H gv (.flt g)) (db : Den H bv (.flt b))
    (h : ∀ a, Q (.ref a) T [(colPV (hsvOf r g b), .ref a)]) :
    W c h₀ (n + 1) T H (call (.ref 72) [rv, gv, bv] []) Q := by
  unfold okRgb at ok
  simp only [Bool.and_eq_true, Bool.not_eq_true'] at ok
  obtain ⟨⟨h1, h2⟩, h3⟩ := ok
  refine W.callK (fd := fn c.w.params 72) (by rw [hK]; rfl) rfl (by rw [hK]; rfl) rfl rfl rfl rfl rfl (binds := [(PySem.Str.ofString "r", rv), (PySem.Str.ofString "g", gv), (PySem.Str.ofString "b", bv)]) (fun S => by rw [hK]; kernel_rfl)
    (bs := [(PySem.Str.ofString "r", .flt r), (PySem.Str.ofString "g", .flt g), (PySem.Str.ofString "b", .flt b)]) (.cons dr (.cons dg (.cons db .nil))) (by kernel_rfl) (by kernel_rfl) fun L => ?_
  have hret : ∀ {a : Addr} {m : List (PySem.Str × PV)} {p q r' : UInt64}, (p, q, r') = hsvOf r g b → leaveF L Q (.ret (.ref a)) ((L, .frame m) :: T) [(.tup [.flt p, .flt q, .flt r'], .ref a)] := fun {a m p q r'} e => ⟨T, .cons _ (.refl _), by
    have := h a
    rw [← e] at this
    exact this⟩
  repeat walk_at "1"
  with_reducible refine iteB (fun e => absurd (h1.symm.trans e) (by decide)) fun _ => ?_
  repeat walk_at "1"
  with_reducible refine W.div_ff h2 (by assumption) fun _ _ => ?_
  repeat walk_at "1"
  with_reducible refine W.div_ff h3 (by assumption) fun _ _ => ?_
  repeat walk_at "1"
  with_reducible refine W.div_ff h3 (by assumption) fun _ _ => ?_
  repeat walk_at "1"
  with_reducible refine W.div_ff h3 (by assumption) fun _ _ => ?_
  repeat walk_at "1"
  with_reducible refine iteB (fun b0 => ?_) fun b0 => ?_
  · repeat walk_at "1"
    with_reducible refine W.div_ff (by decide +kernel) (by assumption) fun _ _ => ?_
    repeat walk_at "1"
    with_reducible refine W.mod_ff (by decide +kernel) (by assumption) fun _ _ => ?_
    repeat walk_at "1"
    exact hret (by simp [hsvOf, h1, b0])
  repeat walk_at "1"
  with_reducible refine iteB (fun b1 => ?_) fun b1 => ?_
  · repeat walk_at "1"
    with_reducible refine W.div_ff (by decide +kernel) (by assumption) fun _ _ => ?_
    repeat walk_at "1"
    with_reducible refine W.mod_ff (by decide +kernel) (by assumption) fun _ _ => ?_
    repeat walk_at "1"
    exact hret (by simp [hsvOf, h1, b0, b1])
  · repeat walk_at "1"
    with_reducible refine W.div_ff (by decide +kernel) (by assumption) fun _ _ => ?_
    repeat walk_at "1"
    with_reducible refine W.mod_ff (by decide +kernel) (by assumption) fun _ _ => ?_
    repeat walk_at "1"
    exact hret (by simp [hsvOf, h1, b0, b1])

include hK hlo in
theorem k_read {r g b : UInt64} {v : Value} {Q : Value → Trk → Hold → Prop} (ok : okRgb r g b = true) (d : Den H v (colPV (r, g, b))) (h : ∀ a, Q (.ref a) T [(colPV (hsvOf r g b), .ref a)]) :
    W c h₀ (n + 2) T H (call (.ref 234) [v] []) Q := by
  refine W.callK (fd := fn c.w.params 234) (by rw [hK]; rfl) rfl (by rw [hK]; rfl) rfl rfl rfl rfl rfl (binds := [(PySem.Str.ofString "colour", v)]) (fun S => by rw [hK]; kernel_rfl)
    (bs := [(PySem.Str.ofString "colour", colPV (r, g, b))]) (.cons d .nil) (by kernel_rfl) (by kernel_rfl) fun L => ?_
  unfold colPV at *
  repeat walk_at "1"
  refine k_r2h hK hlo ok (by walk_at "den") (by walk_at "den") (by walk_at "den") fun a => ?_
  repeat walk_at "1"
  first | exact leave (h a) | exact h a

include hK hlo in
theorem k_level {r g b : UInt64} {v : Value} {Q : Value → Trk → Hold → Prop} (ok : okRgb r g b = true) (d : Den H v (colPV (r, g, b))) (h : ∀ t, t ≠ 0 → Q (.float (hsvOf r g b).2.2 t) T []) :
    W c h₀ (n + 3) T H (call (.ref 241) [v] []) Q := by
  refine W.callK (fd := fn c.w.params 241) (by rw [hK]; rfl) rfl (by rw [hK]; rfl) rfl rfl rfl rfl rfl (binds := [(PySem.Str.ofString "colour", v)]) (fun S => by rw [hK]; kernel_rfl)
    (bs := [(PySem.Str.ofString "colour", colPV (r, g, b))]) (.cons d .nil) (by kernel_rfl) (by kernel_rfl) fun L => ?_
  unfold colPV at *
  repeat walk_at "1"
  refine k_read hK hlo ok (by walk_at "den") fun a => ?_
  unfold colPV
  repeat walk_at "1"
  first | exact leave (h _ (by assumption)) | exact h _ (by assumption)

def placeOf (c : UInt64 × UInt64 × UInt64) : UInt64 := Float64.add (Float64.mul (Float64.ofInt 16) c.1) (Float64.div c.2.2 (Float64.ofInt 2))
include hK hlo in
theorem k_place {r g b : UInt64} {v : Value} {Q : Value → Trk → Hold → Prop} (ok : okRgb r g b = true) (d : Den H v (colPV (r, g, b))) (h : ∀ t, t ≠ 0 → Q (.float (placeOf (hsvOf r g b)) t) T []) :
    W c h₀ (n + 3) T H (call (.ref 248) [v] []) Q := by
  refine W.callK (fd := fn c.w.params 248) (by rw [hK]; rfl) rfl (by rw [hK]; rfl) rfl rfl rfl rfl rfl (binds := [(PySem.Str.ofString "colour", v)]) (fun S => by rw [hK]; kernel_rfl)
    (bs := [(PySem.Str.ofString "colour", colPV (r, g, b))]) (.cons d .nil) (by kernel_rfl) (by kernel_rfl) fun L => ?_
  unfold colPV at *
  repeat walk_at "1"
  refine k_read hK hlo ok (by walk_at "den") fun a => ?_
  unfold colPV
  repeat walk_at "1"
  with_reducible refine W.mul_if (by decide +kernel) (by assumption) fun _ _ => ?_
  repeat walk_at "1"
  with_reducible refine W.div_fi (by decide +kernel) (by decide +kernel) (by assumption) fun _ _ => ?_
  repeat walk_at "1"
  first | exact leave (h _ (by assumption)) | exact h _ (by assumption)
end
def hueOf (a : Nat) : UInt64 := tdiv (2 * a + 1) 16
def quart (b : Nat) : UInt64 := tdiv b 4
/-- the colour of a, b, c -/
def colOf (a b c : Nat) : UInt64 × UInt64 × UInt64 := rgbOf (hueOf a) (quart c) (quart b)
def factsAt (a b c d : Nat) : Bool :=
  let x := Float64.add (hueOf a) (Float64.ofInt d)
  Float64.isFinite (Float64.mul x 4618441417868443648) && decide ((truncI (Float64.mul x 4618441417868443648)).natAbs < 100) && !fltEq (quart c) 0 && rgbOf x (quart c) (quart b) == colOf a b c
def factsB (a b c : Nat) : Bool :=
  okRgb (colOf a b c).1 (colOf a b c).2.1 (colOf a b c).2.2 && hsvOf (colOf a b c).1 (colOf a b c).2.1 (colOf a b c).2.2 == (hueOf a, quart c, quart b)
theorem facts1' : ((List.range 8).all fun a => (List.range 4).all fun b => (List.range 4).all fun c => factsB a (b + 1) (c + 1)) = true := by decide +kernel
theorem facts2' : ((List.range 8).all fun a => (List.range 4).all fun b => (List.range 4).all fun c => (List.range 4).all fun d => factsAt a (b + 1) (c + 1) d) = true := by decide +kernel
theorem facts1 {a b c : Nat} (ha : a < 8) (hb : 1 ≤ b ∧ b ≤ 4) (hc : 1 ≤ c ∧ c ≤ 4) : okRgb (colOf a b c).1 (colOf a b c).2.1 (colOf a b c).2.2 = true ∧ hsvOf (colOf a b c).1 (colOf a b c).2.1 (colOf a b c).2.2 = (hueOf a, quart c, quart b) := by
  have h := facts1'
  simp only [List.all_eq_true, List.mem_range] at h
  have := h a ha (b - 1) (by omega) (c - 1) (by omega)
  rw [show b - 1 + 1 = b by omega, show c - 1 + 1 = c by omega] at this
  simpa [factsB] using this
theorem facts2 {a b c d : Nat} (ha : a < 8) (hb : 1 ≤ b ∧ b ≤ 4) (hc : 1 ≤ c ∧ c ≤ 4) (hd : d < 4) : Float64.isFinite (Float64.mul (Float64.add (hueOf a) (Float64.ofInt d)) 4618441417868443648) = true ∧
    (truncI (Float64.mul (Float64.add (hueOf a) (Float64.ofInt d)) 4618441417868443648)).natAbs < 100 ∧ fltEq (quart c) 0 = false ∧ rgbOf (Float64.add (hueOf a) (Float64.ofInt d)) (quart c) (quart b) = colOf a b c := by
  have h := facts2'
  simp only [List.all_eq_true, List.mem_range] at h
  have := h a ha (b - 1) (by omega) (c - 1) (by omega) d hd
  rw [show b - 1 + 1 = b by omega, show c - 1 + 1 = c by omega] at this
  simp only [factsAt, Bool.and_eq_true, decide_eq_true_eq, beq_iff_eq, Bool.not_eq_true'] at this
  exact ⟨this.1.1.1, this.1.1.2, this.1.2, this.2⟩
def bis (t : Nat → Bool) : Nat → Nat → Nat → Nat
  | 0, lo, _ => lo
  | f + 1, lo, hi => if lo < hi then (if t ((lo + hi) / 2) then bis t f lo ((lo + hi) / 2) else bis t f ((lo + hi) / 2 + 1) hi) else lo
theorem bis_fuel (t : Nat → Bool) : ∀ (f lo hi g : Nat), hi - lo ≤ f → hi - lo ≤ g → bis t f lo hi = bis t g lo hi
  | 0, lo, hi, g, h, _ => by
    cases g with
    | zero => rfl
    | succ g => simp only [bis]; rw [if_neg (by omega)]
  | f + 1, lo, hi, 0, _, h => by simp only [bis]; rw [if_neg (by omega)]
  | f + 1, lo, hi, g + 1, h, h' => by
    simp only [bis]
    by_cases hl : lo < hi
    · rw [if_pos hl, if_pos hl]
      rw [bis_fuel t f lo ((lo + hi) / 2) g (by omega) (by omega), bis_fuel t f ((lo + hi) / 2 + 1) hi g (by omega) (by omega)]
    · rw [if_neg hl, if_neg hl]
theorem bis_T {t : Nat → Bool} {lo hi : Nat} (h : lo < hi) (ht : t ((lo + hi) / 2) = true) : bis t (hi - lo) lo hi = bis t ((lo + hi) / 2 - lo) lo ((lo + hi) / 2) := by
  rw [show hi - lo = (hi - lo - 1) + 1 by omega]
  simp only [bis]
  rw [if_pos h, ht, if_pos rfl]
  exact bis_fuel _ _ _ _ _ (by omega) (by omega)
theorem bis_F {t : Nat → Bool} {lo hi : Nat} (h : lo < hi) (ht : t ((lo + hi) / 2) = false) : bis t (hi - lo) lo hi = bis t (hi - ((lo + hi) / 2 + 1)) ((lo + hi) / 2 + 1) hi := by
  rw [show hi - lo = (hi - lo - 1) + 1 by omega]
  simp only [bis]
  rw [if_pos h, ht, if_neg (by decide)]
  exact bis_fuel _ _ _ _ _ (by omega) (by omega)
theorem bis_0 {t : Nat → Bool} {lo : Nat} : bis t (lo - lo) lo lo = lo := by rw [Nat.sub_self]; rfl
theorem bis_le (t : Nat → Bool) : ∀ (f lo hi : Nat), lo ≤ hi → bis t f lo hi ≤ hi
  | 0, _, _, h => h
  | f + 1, lo, hi, h => by
    simp only [bis]
    split
    · split
      · exact Nat.le_trans (bis_le t f lo _ (by omega)) (by omega)
      · exact bis_le t f _ hi (by omega)
    · exact h
theorem mid_eq (lo hi : Nat) : ((lo : Int) + (hi : Int)).fdiv 2 = (((lo + hi) / 2 : Nat) : Int) := by
  rw [Int.fdiv_eq_ediv_of_nonneg _ (by decide)]
  omega

section
variable {c : Cx} (hK : c.K = hd.heap_39 c.w.params) (hlo : 0 < c.low) {h₀ : Heap} {n : Nat} {T T' : Trk} {H : Hold} {α : Type} {env : Env} {pos : Pos} {s : Shared}

include hK hlo in
theorem k_bisR {args : List Value} {kw : List (PySem.Str × Value)} {av xv : Value} {fa : Addr} {tk : Tok} {pa : PV} {xs : List PV} {x : UInt64} {kf : PV → UInt64} {Q : Value → Trk → Hold → Prop} (t : Nat → Bool)
    (e : ∀ S, peek c.K S (bindArgs (fn c.w.params 56) ⟨args, kw⟩) = some [(PySem.Str.ofString "a", av), (PySem.Str.ofString "x", xv), (PySem.Str.ofString "lo", .int 0 tk), (PySem.Str.ofString "hi", .none), (PySem.Str.ofString "key", .ref fa)])
    (da : Den H av pa) (la : LstP T pa xs) (hlen : xs.length ≤ 1000) (dx : Den H xv (.flt x)) (hf : keepIn c.K (.ref fa) = true)
    (hkey : ∀ (i : Nat) (p : PV), xs[i]? = some p → t i = fltLt x (kf p) ∧ ∀ (h₀ : Heap) (T : Trk) (H : Hold) (v : Value) (Q : Value → Trk → Hold → Prop), Den H v p → (∀ t, t ≠ 0 → Q (.float (kf p) t) T []) → W c h₀ n T H (call (.ref fa) [v] []) Q)
    {r : Nat} (hr : bis t xs.length 0 xs.length = r) (h : ∀ k, Q (.int (r : Nat) k) T []) :
    W c h₀ (n + 1) T H (call (.ref 56) args kw) Q := by
  refine W.callK (fd := fn c.w.params 56) (by rw [hK]; rfl) rfl (by rw [hK]; rfl) rfl rfl rfl rfl rfl e
    (bs := [(PySem.Str.ofString "a", pa), (PySem.Str.ofString "x", .flt x), (PySem.Str.ofString "lo", .int 0), (PySem.Str.ofString "hi", .none), (PySem.Str.ofString "key", .ref fa)])
    (.cons da (.cons dx (.cons .int (.cons .none (.cons .ref .nil))))) (by kernel_rfl) (by kernel_rfl) fun L => ?_
  repeat walk_at "1"
  refine LstP.give la fun v N hl => ?_
  repeat walk_at "1"
  refine W.len (hl _).tail hlen fun _ => ?_
  repeat walk_at "1"
  refine W.WhileG (fun k T₁ => ∃ lo hi : Nat, k = hi - lo ∧ lo ≤ hi ∧ hi ≤ xs.length ∧ bis t (hi - lo) lo hi = bis t xs.length 0 xs.length ∧
    T₁ = (L, .frame [(PySem.Str.ofString "a", pa), (PySem.Str.ofString "x", .flt x), (PySem.Str.ofString "lo", .int (lo : Int)), (PySem.Str.ofString "hi", .int (hi : Int)), (PySem.Str.ofString "key", .ref fa)]) :: T) ?_ xs.length ⟨0, xs.length, rfl, Nat.zero_le _, Nat.le_refl _, rfl, rfl⟩
  rintro k T₁ ⟨lo, hi, rfl, hle, hhi, hb, rfl⟩
  repeat walk_at "1"
  with_reducible refine iteB (fun hlt => ?_) fun hlt => ?_
  · have hlt' : lo < hi := by have := of_decide_eq_true hlt; omega
    repeat walk_at "1"
    refine W.fdiv_eq (by decide) (by decide) (mid_eq lo hi) fun _ => ?_
    repeat walk_at "1"
    refine LstP.give la fun v N hl => ?_
    repeat walk_at "1"
    have hm : (lo + hi) / 2 < xs.length := by omega
    have hx : xs[(lo + hi) / 2]? = some xs[(lo + hi) / 2] := List.getElem?_eq_getElem hm
    obtain ⟨ht, hk⟩ := hkey _ _ hx
    refine seqAnd (hl _).tail.seq ?_
    refine W.getItem (hl _).tail.seq rfl (by omega) hx (give_den fun u N' hu => ?_)
    repeat walk_at "1"
    refine hk _ _ _ _ _ (hu _) fun _ _ => ?_
    repeat walk_at "1"
    with_reducible refine iteB (fun hq => ?_) fun hq => ?_
    · repeat walk_at "1"
      exact ⟨(lo + hi) / 2 - lo, _, by omega, ⟨lo, (lo + hi) / 2, rfl, by omega, by omega, (bis_T hlt' (ht.trans hq)).symm.trans hb, rfl⟩, Weak.frameApp (m := [_, _, _, _, _]) (m' := [_])⟩
    · repeat walk_at "1"
      exact ⟨hi - ((lo + hi) / 2 + 1), _, by omega, ⟨(lo + hi) / 2 + 1, hi, rfl, by omega, by omega, (bis_F hlt' (ht.trans hq)).symm.trans hb, rfl⟩, Weak.frameApp (m := [_, _, _, _, _]) (m' := [_])⟩
  · repeat walk_at "1"
    have : lo = hi := by have := of_decide_eq_false hlt; omega
    subst this
    have hb' := (bis_0 (t := t) (lo := lo)).symm.trans (hb.trans hr)
    rw [hb']
    first | exact leave (h _) | exact h _
include hK hlo in
theorem k_bisN {args : List Value} {kw : List (PySem.Str × Value)} {av xv : Value} {tk : Tok} {pa : PV} {xs : List PV} {x : UInt64} {Q : Value → Trk → Hold → Prop} (t : Nat → Bool)
    (e : ∀ S, peek c.K S (bindArgs (fn c.w.params 56) ⟨args, kw⟩) = some [(PySem.Str.ofString "a", av), (PySem.Str.ofString "x", xv), (PySem.Str.ofString "lo", .int 0 tk), (PySem.Str.ofString "hi", .none), (PySem.Str.ofString "key", .none)])
    (da : Den H av pa) (la : LstP T pa xs) (hlen : xs.length ≤ 1000) (dx : Den H xv (.flt x))
    (hkey : ∀ (i : Nat) (p : PV), xs[i]? = some p → ∃ y, p = .flt y ∧ t i = fltLt x y)
    {r : Nat} (hr : bis t xs.length 0 xs.length = r) (h : ∀ k, Q (.int (r : Nat) k) T []) :
    W c h₀ (n + 1) T H (call (.ref 56) args kw) Q := by
  refine W.callK (fd := fn c.w.params 56) (by rw [hK]; rfl) rfl (by rw [hK]; rfl) rfl rfl rfl rfl rfl e
    (bs := [(PySem.Str.ofString "a", pa), (PySem.Str.ofString "x", .flt x), (PySem.Str.ofString "lo", .int 0), (PySem.Str.ofString "hi", .none), (PySem.Str.ofString "key", .none)])
    (.cons da (.cons dx (.cons .int (.cons .none (.cons .none .nil))))) (by kernel_rfl) (by kernel_rfl) fun L => ?_
  repeat walk_at "1"
  refine LstP.give la fun v N hl => ?_
  repeat walk_at "1"
  refine W.len (hl _).tail hlen fun _ => ?_
  repeat walk_at "1"
  refine W.WhileG (fun k T₁ => ∃ lo hi : Nat, k = hi - lo ∧ lo ≤ hi ∧ hi ≤ xs.length ∧ bis t (hi - lo) lo hi = bis t xs.length 0 xs.length ∧
    T₁ = (L, .frame [(PySem.Str.ofString "a", pa), (PySem.Str.ofString "x", .flt x), (PySem.Str.ofString "lo", .int (lo : Int)), (PySem.Str.ofString "hi", .int (hi : Int)), (PySem.Str.ofString "key", .none)]) :: T) ?_ xs.length ⟨0, xs.length, rfl, Nat.zero_le _, Nat.le_refl _, rfl, rfl⟩
  rintro k T₁ ⟨lo, hi, rfl, hle, hhi, hb, rfl⟩
  repeat walk_at "1"
  with_reducible refine iteB (fun hlt => ?_) fun hlt => ?_
  · have hlt' : lo < hi := by have := of_decide_eq_true hlt; omega
    repeat walk_at "1"
    refine W.fdiv_eq (by decide) (by decide) (mid_eq lo hi) fun _ => ?_
    repeat walk_at "1"
    refine LstP.give la fun v N hl => ?_
    repeat walk_at "1"
    have hm : (lo + hi) / 2 < xs.length := by omega
    have hx : xs[(lo + hi) / 2]? = some xs[(lo + hi) / 2] := List.getElem?_eq_getElem hm
    obtain ⟨y, hy, ht⟩ := hkey _ _ hx
    rw [hy] at hx
    refine seqAnd (hl _).tail.seq ?_
    refine W.getItem (hl _).tail.seq rfl (by omega) hx ?_
    repeat walk_at "1"
    with_reducible refine iteB (fun hq => ?_) fun hq => ?_
    · repeat walk_at "1"
      exact ⟨(lo + hi) / 2 - lo, _, by omega, ⟨lo, (lo + hi) / 2, rfl, by omega, by omega, (bis_T hlt' (ht.trans hq)).symm.trans hb, rfl⟩, Weak.frameApp (m := [_, _, _, _, _]) (m' := [_])⟩
    · repeat walk_at "1"
      exact ⟨hi - ((lo + hi) / 2 + 1), _, by omega, ⟨(lo + hi) / 2 + 1, hi, rfl, by omega, by omega, (bis_F hlt' (ht.trans hq)).symm.trans hb, rfl⟩, Weak.frameApp (m := [_, _, _, _, _]) (m' := [_])⟩
  · repeat walk_at "1"
    have : lo = hi := by have := of_decide_eq_false hlt; omega
    subst this
    have hb' := (bis_0 (t := t) (lo := lo)).symm.trans (hb.trans hr)
    rw [hb']
    first | exact leave (h _) | exact h _
include hK hlo in
theorem k_bisL {args : List Value} {kw : List (PySem.Str × Value)} {av xv : Value} {fa : Addr} {tk : Tok} {pa : PV} {xs : List PV} {x : UInt64} {kf : PV → UInt64} {Q : Value → Trk → Hold → Prop} (t : Nat → Bool)
    (e : ∀ S, peek c.K S (bindArgs (fn c.w.params 65) ⟨args, kw⟩) = some [(PySem.Str.ofString "a", av), (PySem.Str.ofString "x", xv), (PySem.Str.ofString "lo", .int 0 tk), (PySem.Str.ofString "hi", .none), (PySem.Str.ofString "key", .ref fa)])
    (da : Den H av pa) (la : LstP T pa xs) (hlen : xs.length ≤ 1000) (dx : Den H xv (.flt x)) (hf : keepIn c.K (.ref fa) = true)
    (hkey : ∀ (i : Nat) (p : PV), xs[i]? = some p → t i = !fltLt (kf p) x ∧ ∀ (h₀ : Heap) (T : Trk) (H : Hold) (v : Value) (Q : Value → Trk → Hold → Prop), Den H v p → (∀ t, t ≠ 0 → Q (.float (kf p) t) T []) → W c h₀ n T H (call (.ref fa) [v] []) Q)
    {r : Nat} (hr : bis t xs.length 0 xs.length = r) (h : ∀ k, Q (.int (r : Nat) k) T []) :
    W c h₀ (n + 1) T H (call (.ref 65) args kw) Q := by
  refine W.callK (fd := fn c.w.params 65) (by rw [hK]; rfl) rfl (by rw [hK]; rfl) rfl rfl rfl rfl rfl e
    (bs := [(PySem.Str.ofString "a", pa), (PySem.Str.ofString "x", .flt x), (PySem.Str.ofString "lo", .int 0), (PySem.Str.ofString "hi", .none), (PySem.Str.ofString "key", .ref fa)])
    (.cons da (.cons dx (.cons .int (.cons .none (.cons .ref .nil))))) (by kernel_rfl) (by kernel_rfl) fun L => ?_
  repeat walk_at "1"
  refine LstP.give la fun v N hl => ?_
  repeat walk_at "1"
  refine W.len (hl _).tail hlen fun _ => ?_
  repeat walk_at "1"
  refine W.WhileG (fun k T₁ => ∃ lo hi : Nat, k = hi - lo ∧ lo ≤ hi ∧ hi ≤ xs.length ∧ bis t (hi - lo) lo hi = bis t xs.length 0 xs.length ∧
    T₁ = (L, .frame [(PySem.Str.ofString "a", pa), (PySem.Str.ofString "x", .flt x), (PySem.Str.ofString "lo", .int (lo : Int)), (PySem.Str.ofString "hi", .int (hi : Int)), (PySem.Str.ofString "key", .ref fa)]) :: T) ?_ xs.length ⟨0, xs.length, rfl, Nat.zero_le _, Nat.le_refl _, rfl, rfl⟩
  rintro k T₁ ⟨lo, hi, rfl, hle, hhi, hb, rfl⟩
  repeat walk_at "1"
  with_reducible refine iteB (fun hlt => ?_) fun hlt => ?_
  · have hlt' : lo < hi := by have := of_decide_eq_true hlt; omega
    repeat walk_at "1"
    refine W.fdiv_eq (by decide) (by decide) (mid_eq lo hi) fun _ => ?_
    repeat walk_at "1"
    refine LstP.give la fun v N hl => ?_
    repeat walk_at "1"
    have hm : (lo + hi) / 2 < xs.length := by omega
    have hx : xs[(lo + hi) / 2]? = some xs[(lo + hi) / 2] := List.getElem?_eq_getElem hm
    obtain ⟨ht, hk⟩ := hkey _ _ hx
    refine seqAnd (hl _).tail.seq ?_
    refine W.getItem (hl _).tail.seq rfl (by omega) hx (give_den fun u N' hu => ?_)
    repeat walk_at "1"
    refine hk _ _ _ _ _ (hu _) fun _ _ => ?_
    repeat walk_at "1"
    with_reducible refine iteB (fun hq => ?_) fun hq => ?_
    · repeat walk_at "1"
      exact ⟨hi - ((lo + hi) / 2 + 1), _, by omega, ⟨(lo + hi) / 2 + 1, hi, rfl, by omega, by omega, (bis_F hlt' (ht.trans (by rw [hq]; rfl))).symm.trans hb, rfl⟩, Weak.frameApp (m := [_, _, _, _, _]) (m' := [_])⟩
    · repeat walk_at "1"
      exact ⟨(lo + hi) / 2 - lo, _, by omega, ⟨lo, (lo + hi) / 2, rfl, by omega, by omega, (bis_T hlt' (ht.trans (by rw [hq]; rfl))).symm.trans hb, rfl⟩, Weak.frameApp (m := [_, _, _, _, _]) (m' := [_])⟩
  · repeat walk_at "1"
    have : lo = hi := by have := of_decide_eq_false hlt; omega
    subst this
    have hb' := (bis_0 (t := t) (lo := lo)).symm.trans (hb.trans hr)
    rw [hb']
    first | exact leave (h _) | exact h _
end
section
variable {c : Cx} (hK : c.K = hd.heap_39 c.w.params) (hlo : 0 < c.low) {h₀ : Heap} {n : Nat} {T T' : Trk} {H : Hold} {α : Type} {env : Env} {pos : Pos} {s : Shared}

include hK hlo in
theorem k_insort {av xv : Value} {fa A : Addr} {xs : List PV} {p : PV} {kf : PV → UInt64} {Q : Value → Trk → Hold → Prop} (t : Nat → Bool)
    (av_ : av = .ref A) (x : At A (.list xs) (.list (xs.take (bis t xs.length 0 xs.length) ++ p :: xs.drop (bis t xs.length 0 xs.length))) T T') (hlen : xs.length ≤ 900) (dx : Den H xv p) (hf : keepIn c.K (.ref fa) = true)
    (hx : ∀ (h₀ : Heap) (T : Trk) (H : Hold) (v : Value) (Q : Value → Trk → Hold → Prop), Den H v p → (∀ t, t ≠ 0 → Q (.float (kf p) t) T []) → W c h₀ n T H (call (.ref fa) [v] []) Q)
    (hkey : ∀ (i : Nat) (q : PV), xs[i]? = some q → t i = fltLt (kf p) (kf q) ∧ ∀ (h₀ : Heap) (T : Trk) (H : Hold) (v : Value) (Q : Value → Trk → Hold → Prop), Den H v q → (∀ t, t ≠ 0 → Q (.float (kf q) t) T []) → W c h₀ n T H (call (.ref fa) [v] []) Q)
    (h : Q .none T' []) :
    W c h₀ (n + 2) T H (call (.ref 47) [av, xv] [(PySem.Str.ofString "key", .ref fa)]) Q := by
  subst av_
  refine W.callK (fd := fn c.w.params 47) (by rw [hK]; rfl) rfl (by rw [hK]; rfl) rfl rfl rfl rfl rfl (binds := [(PySem.Str.ofString "a", .ref A), (PySem.Str.ofString "x", xv), (PySem.Str.ofString "lo", .int 0 291), (PySem.Str.ofString "hi", .none), (PySem.Str.ofString "key", .ref fa)]) (fun S => by rw [hK]; kernel_rfl)
    (bs := [(PySem.Str.ofString "a", .ref A), (PySem.Str.ofString "x", p), (PySem.Str.ofString "lo", .int 0), (PySem.Str.ofString "hi", .none), (PySem.Str.ofString "key", .ref fa)])
    (.cons .ref (.cons dx (.cons .int (.cons .none (.cons .ref .nil))))) (by kernel_rfl) (by kernel_rfl) fun L => ?_
  repeat walk_at "1"
  refine give_den fun u N hu => ?_
  repeat walk_at "1"
  refine W.le (Nat.le_succ _) (hx _ _ _ _ _ (hu _) fun tx htx => ?_)
  repeat walk_at "1"
  rename_i tl
  refine k_bisR hK hlo t (av := .ref A) (xv := .float (kf p) tx) (tk := tl) (kf := kf) (fun S => by rw [hK]; kernel_rfl) Den.ref (.own (.tail x.in)) (by omega) (Den.flt htx) hf hkey rfl fun k => ?_
  repeat walk_at "1"
  repeat walk_at "1"
  refine W.methList F.slot_list_insert ty_insert (.own rfl (.tail x.in)) ?_
  repeat walk_at "1"
  refine give_den fun u N hu => ?_
  repeat walk_at "1"
  have hle : bis t xs.length 0 xs.length ≤ xs.length := bis_le t _ 0 _ (Nat.zero_le _)
  refine W.insert (by simpa using hu H) rfl hle (.tail x) (by omega) ?_
  repeat walk_at "1"
  exact ⟨T', .cons _ (.refl _), h⟩
end
section
variable {c : Cx} (hK : c.K = hd.heap_39 c.w.params) (hlo : 0 < c.low) {h₀ : Heap} {n : Nat} {T T' : Trk} {H : Hold} {α : Type} {env : Env} {pos : Pos} {s : Shared}

def plainText (c : Cx) (r : Addr) (x : PySem.Str) : Prop := ∀ tk S, peek c.K S (Builtin.«re.Pattern.search» ⟨[.ref r, .str x tk], []⟩) = some (.done (.ret .none))

include hK hlo in
theorem k_conv {sv v : Value} {sp : PV} {x : PySem.Str} {b : Bool} {Q : Value → Trk → Hold → Prop} (ds : Den H sv sp) (d : Den H v (.str x)) (hx : plainText c (if b then 89 else 94) x) (h : ∀ t, Q (.str x t) T []) :
    W c h₀ (n + 1) T H (call (.ref 124) [sv, v] [(PySem.Str.ofString "name", .bool b)]) Q := by
  refine W.callK (fd := fn c.w.params 124) (by rw [hK]; rfl) rfl (by rw [hK]; rfl) rfl rfl rfl rfl rfl (binds := [(PySem.Str.ofString "self", sv), (PySem.Str.ofString "value", v), (PySem.Str.ofString "name", .bool b)]) (fun S => by rw [hK]; kernel_rfl)
    (bs := [(PySem.Str.ofString "self", sp), (PySem.Str.ofString "value", .str x), (PySem.Str.ofString "name", .bool b)]) (.cons ds (.cons d (.cons .bool .nil))) (by kernel_rfl) (by kernel_rfl) fun L => ?_
  cases b with
  | true =>
    repeat walk_at "1"
    refine W.methSearch (r := 89) (by rw [hK]; rfl) rfl rfl ?_
    repeat walk_at "1"
    refine W.search (r := 89) (by rw [hK]; rfl) rfl (hx _) ?_
    repeat walk_at "1"
    first | exact leave (h _) | exact h _
  | false =>
    repeat walk_at "1"
    refine W.methSearch (r := 94) (by rw [hK]; rfl) rfl rfl ?_
    repeat walk_at "1"
    refine W.search (r := 94) (by rw [hK]; rfl) rfl (hx _) ?_
    repeat walk_at "1"
    first | exact leave (h _) | exact h _
end
section
variable {c : Cx} (hK : c.K = hd.heap_39 c.w.params) (hlo : 0 < c.low) {h₀ : Heap} {n : Nat} {T T' : Trk} {H : Hold} {α : Type} {env : Env} {pos : Pos} {s : Shared}


include hK hlo in
theorem k_make {Q : Value → Trk → Hold → Prop} (h : ∀ x dx hl tk, Q (.ref x) ((hl, .list []) :: (x, .obj (inst 223 dx)) :: (dx, .obj (dictOf (esH c.w.params tk hl) 1)) :: T) []) : W c h₀ (n + 3) T H (call (.ref 223) [] []) Q := by
  refine W.makeInst (fI := 117) (by rw [hK]; rfl) (by rw [hK]; rfl) (by rw [hK]; rfl) fun x dx A s hA S => ?_
  refine codeFn (Q := fun v T' N => v = .none ∧ Q (.ref x) T' N) (fd := fn c.w.params 117) (by rw [hK]; rfl) rfl (by rw [hK]; rfl) rfl rfl rfl rfl rfl (binds := [(PySem.Str.ofString "self", .ref x), (PySem.Str.ofString "headers", .none)]) (fun S => by rw [hK]; kernel_rfl)
    (bs := [(PySem.Str.ofString "self", .ref x), (PySem.Str.ofString "headers", .none)]) (.cons .ref (.cons .none .nil)) (by kernel_rfl) (by kernel_rfl) (fun L => ?_) hA S
  repeat walk_at "1"
  apply W.newListT'
  · size_fits
  · exact .nil
  repeat walk_at "1"
  rename_i hl
  refine W.typeList (.own rfl .head) ?_
  repeat walk_at "1"
  refine W.AssignAttr rfl ?_
  repeat walk_at "1"
  refine W.setAttrI (by walk_at "in") (by rw [hK]; rfl) (by rw [hK]; rfl) (by rw [hK]; rfl) (by rw [hK]; rfl) rfl (fun _ => (by show (1 : Nat) ≤ 1000; decide)) (fun tk => .tail (.tail (.tail .head))) fun tk => ?_
  repeat walk_at "1"
  refine W.ForG (fun _ _ _ T₂ => In hl (.list []) T₂ ∧ T₂ = (hl, TO.list []) :: (L, .frame [(PySem.Str.ofString "self", .ref x), (PySem.Str.ofString "headers", .ref hl)]) :: (x, .obj (inst 223 dx)) :: (dx, .obj (dictOf (esH c.w.params tk hl) 1)) :: T) ?_
  repeat walk_at "1"
  refine ⟨[], _, .own .head, ⟨.head, rfl⟩, fun _ _ e => e.1, fun i x _ h => by simp at h, ?_⟩
  rintro T₂ ⟨-, rfl⟩
  repeat walk_at "1"
  exact ⟨_, .cons_cons _ (.cons _ (.refl _)), rfl, h x dx hl tk⟩
end
section
variable {c : Cx} (hK : c.K = hd.heap_39 c.w.params) (hlo : 0 < c.low) {h₀ : Heap} {n : Nat} {T T' : Trk} {H : Hold} {α : Type} {env : Env} {pos : Pos} {s : Shared}

theorem W.bindsA {fd : FuncData} {args : Args} {binds : Addr → List (PySem.Str × Value)} {Q : List (PySem.Str × Value) → Trk → Hold → Prop} (e : bindArgs fd args = (alloc emptyDict >>= fun d => Pure.pure (binds d)))
    (h : ∀ d, (d == sysModules) = false → Q (binds d) ((d, .obj emptyDict) :: T) []) : W c h₀ n T H (bindArgs fd args) Q :=
  W.eqv e (W.bind (W.allocDict fun d hd => W.pure (h d hd)))

include hK hlo in
theorem k_add {x dx hl : Addr} {tk : Tok} {l : List PV} {nv vv : Value} {nm vl : PySem.Str} {Q : Value → Trk → Hold → Prop} (dn : Den H nv (.str nm)) (dv : Den H vv (.str vl)) (hn : plainText c 89 nm) (hv : plainText c 94 vl) (hlen : vl.length ≤ 900) (hll : l.length ≤ 900)
    (ix : In x (.obj (inst 223 dx)) T) (id : In dx (.obj (dictOf (esH c.w.params tk hl) 1)) T) (at_ : At hl (.list l) (.list (l ++ [.tup [.str nm, .str vl]])) T T')
    (h : Q .none T' []) : W c h₀ (n + 2) T H (call (.ref 220) [.ref x, nv, vv] []) Q := by
  have ihl := at_.in
  refine W.callF (fd := fn c.w.params 220) (by rw [hK]; rfl) rfl (by rw [hK]; rfl) rfl rfl rfl rfl rfl ?_
  with_reducible refine W.bindsA (binds := fun d => [(PySem.Str.ofString "self", .ref x), (PySem.Str.ofString "_name", nv), (PySem.Str.ofString "_value", vv), (PySem.Str.ofString "_params", .ref d)]) ?_ ?_
  · kernel_rfl
  intro d hd
  refine ⟨[(PySem.Str.ofString "self", .ref x), (PySem.Str.ofString "_name", .str nm), (PySem.Str.ofString "_value", .str vl), (PySem.Str.ofString "_params", .ref d)], .cons .ref (.cons dn (.cons dv (.cons .ref .nil))), of_decide_eq_true (by kernel_rfl), by kernel_rfl, fun L => ?_⟩
  repeat walk_at "1"
  apply W.newListT'
  · size_fits
  · exact .nil
  repeat walk_at "1"
  refine k_conv hK hlo (b := false) .ref .str hv fun _ => ?_
  repeat walk_at "1"
  refine W.append .str .head ?_ ?_
  · decide
  repeat walk_at "1"
  refine W.ForNone ?_
  repeat walk_at "1"
  refine W.callItems (by walk_at "in") hd fun v => ?_
  refine W.iterItems (d := d) (by walk_at "in") (by walk_at "in") fun I => ?_
  refine W.nextItems (by walk_at "in") ⟨rfl, ?_⟩
  repeat walk_at "1"
  refine k_conv hK hlo (b := true) .ref .str hn fun _ => ?_
  repeat walk_at "1"
  refine W.join1 (y := vl) ?_ (by walk_at "lst") fun _ => ?_
  · show vl.length + 2 ≤ 1000
    omega
  repeat walk_at "1"
  apply W.append
  · walk_at "den"
  · walk_at "at"
  · omega
  repeat walk_at "1"
  exact ⟨T', by repeat (first | exact List.Sublist.refl _ | apply List.Sublist.cons), h⟩
end
theorem W.chrN {c : Cx} {h₀ : Heap} {n : Nat} {T : Trk} {H : Hold} {i : Int} {t : Tok} {k : Nat} {Q : Value → Trk → Hold → Prop} (hi : i = (k : Int)) (hk : k ≤ 1114111) (h : ∀ t, Q (.str ⟨#[k]⟩ t) T []) : W c h₀ n T H (call (.builtin "chr") [.int i t] []) Q := by
  subst hi
  exact W.chr (Int.natCast_nonneg k) (Int.ofNat_le.mpr hk) h
theorem W.intFE {c : Cx} {h₀ : Heap} {n : Nat} {T : Trk} {H : Hold} {x : UInt64} {z : Int} {t : Tok} {Q : Value → Trk → Hold → Prop} (hf : Float64.isFinite x = true) (e : truncI x = z) (h : ∀ t, Q (.int z t) T []) : W c h₀ n T H (call (.type "int") [.float x t] []) Q := by
  subst e; exact W.intF hf h
theorem W.lenN {c : Cx} {h₀ : Heap} {n : Nat} {T : Trk} {H : Hold} {v : Value} {l : List PV} {k : Nat} {Q : Value → Trk → Hold → Prop} (d : Lst T H v l) (hk : l.length = k) (hl : k ≤ 1000) (h : ∀ t, Q (.int (k : Nat) t) T []) : W c h₀ n T H (call (.builtin "len") [v] []) Q := by
  subst hk; exact W.len d hl h
section
variable {c : Cx} (hK : c.K = hd.heap_39 c.w.params) (hlo : 0 < c.low) {h₀ : Heap} {n : Nat} {T T' : Trk} {H : Hold} {α : Type} {env : Env} {pos : Pos} {s : Shared}

theorem W.subs {t : Sem α} {Q : α → Trk → Hold → Prop} (h : W c h₀ n T H t fun a T' N => ∃ T'', T''.Sublist T' ∧ Q a T'' N) : W c h₀ n T H t Q :=
  fun A s hA S => wpAny_mono (h A s hA S) (fun a s' ⟨T', N, ⟨T'', hs, q⟩, S'⟩ => ⟨T'', N, q, S'.subs hs⟩) fun _ _ x => x
theorem W.callKC {f : Addr} {o : Obj} {fd : FuncData} {body : List Stmt} {args : List Value} {kw : List (PySem.Str × Value)} {binds : List (PySem.Str × Value)} {bs bl : List (PySem.Str × PV)} {cl : Addr → Trk} {Q : Value → Trk → Hold → Prop}
    (ho : c.K.lookup f = some o) (hd : o.data = .func fd) (hcd : codeIn c.K fd.code fd.qualname = true) (hbody : fd.body = .stmts body) (hclo : fd.closure = [])
    (hco : fd.scope.isCoroutine = false) (hgen : fd.scope.isGenerator = false) (hk : fd.scope.kind = .function)
    (e : ∀ S, peek c.K S (bindArgs fd ⟨args, kw⟩) = some binds) (d : DenB H binds bs) (nd : decide (bs.map (·.1)).Nodup = true) (hl : (bs.all fun y => fd.scope.names.lookup y.1 == some .local || fd.scope.names.lookup y.1 == some .cell) = true)
    (hnd : decide ((cellsFrom 0 fd.scope.names []).map (·.1)).Nodup = true) (hcl : ((cellsFrom 0 fd.scope.names []).all fun x => fd.scope.names.lookup x.1 == some .cell) = true)
    (eL : (bs.filter fun y => fd.scope.names.lookup y.1 == some .local) = bl) (eC : ∀ L, ((cellsFrom (L + 1) fd.scope.names []).map fun x => (x.2, TO.cell (bs.lookup x.1))) = cl L)
    (h : ∀ L, W c h₀ n ((L, .frame bl) :: (cl L ++ T)) H (execs body (callEnvC fd L f)) (leaveF L fun v T' N => ∃ T'', T''.Sublist T' ∧ Q v T'' N)) :
    W c h₀ (n + 1) T H (call (.ref f) args kw) Q :=
  W.subs <| W.callFnC ho hd hcd hbody hclo (W.binds e ⟨bs, d, of_decide_eq_true nd, hl, fun L => by rw [eL, eC]; exact h L⟩) (of_decide_eq_true hnd) hcl hco hgen hk

def entPV (e : PySem.Str × PySem.Str) : PV := .tup [.str e.1, .str e.2]

include hK hlo in
theorem k_getall {x dx hl : Addr} {tk : Tok} {es : List (PySem.Str × PySem.Str)} {qv : Value} {q : PySem.Str} {Q : Value → Trk → Hold → Prop} (dq : Den H qv (.str q)) (hq : plainText c 89 (Txt.lower q)) (hql : Builtin.Str.tooLong (Txt.lower q).length = false)
    (hes : ∀ e ∈ es, Builtin.Str.tooLong (Txt.lower e.1).length = false) (hlen : es.length ≤ 1000)
    (ix : In x (.obj (inst 223 dx)) T) (id : In dx (.obj (dictOf (esH c.w.params tk hl) 1)) T) (ihl : In hl (.list (es.map entPV)) T)
    (h : ∀ a, Q (.ref a) T [(.lst ((es.filter fun e => Txt.lower e.1 == Txt.lower q).map fun e => .str e.2), .ref a)]) : W c h₀ (n + 2) T H (call (.ref 162) [.ref x, qv] []) Q := by
  refine W.callKC (fd := fn c.w.params 162) (by rw [hK]; rfl) rfl (by rw [hK]; rfl) rfl rfl rfl rfl rfl
    (binds := [(PySem.Str.ofString "self", .ref x), (PySem.Str.ofString "name", qv)]) (fun S => by rw [hK]; kernel_rfl) (bs := [(PySem.Str.ofString "self", .ref x), (PySem.Str.ofString "name", .str q)]) (.cons .ref (.cons dq .nil)) (by kernel_rfl) (by kernel_rfl) (by kernel_rfl) (by kernel_rfl)
    (bl := [(PySem.Str.ofString "self", .ref x)]) (cl := fun L => [(L + 1, .cell (some (.str q)))]) (by kernel_rfl) (fun L => by kernel_rfl) fun L => ?_
  repeat walk_at "1"
  refine W.lower rfl hql fun _ => ?_
  repeat walk_at "1"
  refine k_conv hK hlo (b := true) .ref .str hq fun _ => ?_
  repeat walk_at "1"
  refine W.ListCompG (cl := [(PySem.Str.ofString "name", L + 1)]) (fun v xs i outs T₂ => outs = ((es.take i).filter fun e => Txt.lower e.1 == Txt.lower q).map (fun e => .str e.2) ∧ T₂ = (L, TO.frame [(PySem.Str.ofString "self", .ref x)]) :: (L + 1, .cell (some (.str (Txt.lower q)))) :: T) rfl ?_
  repeat walk_at "1"
  refine ⟨es.map entPV, _, .own (by walk_at "in"), by simpa using hlen, ⟨by simp, rfl⟩, ?_, ?_, ?_⟩
  · rintro i outs T₂ C D m ⟨-, rfl⟩
    exact .tail (.tail (.tail (.tail ihl)))
  · rintro i p outs T₂ hx ⟨rfl, rfl⟩ h₁ u C D
    obtain ⟨e, he, rfl⟩ : ∃ e, es[i]? = some e ∧ entPV e = p := by
      rw [List.getElem?_map] at hx
      cases hq : es[i]? with
      | none => rw [hq] at hx; cases hx
      | some e => rw [hq] at hx; exact ⟨e, rfl, by cases hx; rfl⟩
    have hmem : e ∈ es := List.mem_of_getElem? he
    have htake : es.take (i + 1) = es.take i ++ [e] := by rw [List.take_add_one, he]; rfl
    unfold entPV
    repeat walk_at "1"
    refine W.tests_one ?_
    repeat walk_at "1"
    refine W.lower rfl (hes e hmem) fun _ => ?_
    repeat walk_at "1"
    refine W.eqStr ?_
    cases hb : (Txt.lower e.1 == Txt.lower q) with
    | true =>
      repeat walk_at "1"
      exact ⟨.str e.2, _, _, .refl _, .str, by rw [htake]; simp [hb], rfl⟩
    | false =>
      repeat walk_at "1"
      exact ⟨_, _, .refl _, by rw [htake]; simp [hb], rfl⟩
  · rintro outs T₂ ⟨rfl, rfl⟩ D
    repeat walk_at "1"
    rw [show ((es.map entPV).length) = es.length by simp, List.take_length]
    exact ⟨T, .cons _ (.refl _), h D⟩

include hK hlo in
theorem k_items {x dx hl : Addr} {tk : Tok} {l : List PV} {Q : Value → Trk → Hold → Prop} (hlen : l.length ≤ 1000)
    (ix : In x (.obj (inst 223 dx)) T) (id : In dx (.obj (dictOf (esH c.w.params tk hl) 1)) T) (ihl : In hl (.list l) T)
    (h : ∀ a, Q (.ref a) T [(.lst l, .ref a)]) : W c h₀ (n + 1) T H (call (.ref 187) [.ref x] []) Q := by
  refine W.callK (fd := fn c.w.params 187) (by rw [hK]; rfl) rfl (by rw [hK]; rfl) rfl rfl rfl rfl rfl (binds := [(PySem.Str.ofString "self", .ref x)]) (fun S => by rw [hK]; kernel_rfl)
    (bs := [(PySem.Str.ofString "self", .ref x)]) (.cons .ref .nil) (by kernel_rfl) (by kernel_rfl) fun L => ?_
  repeat walk_at "1"
  refine W.SubSlice ?_
  repeat walk_at "1"
  refine W.part_none (W.part_none (W.part_none ⟨l, none, none, none, .own rfl (.tail ihl), .none, .none, .none, by decide, hlen, fun a => ?_⟩))
  rw [slice_all]
  repeat walk_at "1"
  first | exact leave (h _) | exact h _
end
def zero8 : List Nat := [0, 0, 0, 0, 0, 0, 0, 0]
def row8 (l : List Nat) : List PV := l.map natPV
def bestStep (side : Nat) (B : List (List Nat)) (p : Pick) : List (List Nat) :=
  B.set (mx p.2) ((B.getD (mx p.2) []).set (mx (p.1.map (sel side))) (max ((B.getD (mx p.2) []).getD (mx (p.1.map (sel side))) 0) p.1.length))
def bestOf (side : Nat) (ps : List Pick) : List (List Nat) := ps.foldl (bestStep side) (List.replicate 6 zero8)
def Best (B : List (List Nat)) : Prop := B.length = 6 ∧ ∀ l ∈ B, l.length = 8 ∧ ∀ x ∈ l, x ≤ 100
def PickOk (side : Nat) (p : Pick) : Prop := p.1 ≠ [] ∧ p.2 ≠ [] ∧ p.1.length ≤ 100 ∧ p.2.length ≤ 100 ∧ mx p.2 < 6 ∧ mx (p.1.map (sel side)) < 8
theorem natI (a b k : Nat) : ((a : Int) - (b : Int) - (k : Int)).toNat = a - b - k := by
  rw [Int.sub_sub, ← Int.natCast_add, Int.toNat_sub, Nat.sub_sub]
theorem toldB {m b r : Nat} (hb : b ≤ 100) (hr : r ≤ 100) : (-1000 : Int) ≤ (m : Int) - (b : Int) - (r : Int) := by omega
theorem toldC {m b r : Nat} (hm : m ≤ 100) : (m : Int) - (b : Int) - (r : Int) ≤ 1000 := by omega
theorem toldD {m b r : Nat} (hm : m ≤ 100) : m - b - r ≤ 1000 := Nat.le_trans (Nat.sub_le ..) (Nat.le_trans (Nat.sub_le ..) (Nat.le_trans hm (by decide)))
theorem toldE {m b r : Nat} (hm : m ≤ 100) (hr : r ≤ 100) : r + (m - b - r) ≤ 100 := by omega
theorem max3 {a b d : Nat} (ha : a ≤ 100) (hb : b ≤ 100) (hd : d ≤ 100) : max (max a b) d ≤ 100 := Nat.max_le.mpr ⟨Nat.max_le.mpr ⟨ha, hb⟩, hd⟩
theorem Best.zero : Best (List.replicate 6 zero8) := by
  refine ⟨rfl, fun l hl => ?_⟩
  have := List.eq_of_mem_replicate hl
  subst this
  exact ⟨rfl, by decide⟩
theorem Best.get {B : List (List Nat)} (h : Best B) {d : Nat} (hd : d < 6) : B[d]? = some (B.getD d []) ∧ (B.getD d []).length = 8 ∧ ∀ x ∈ B.getD d [], x ≤ 100 := by
  have e : B[d]? = some (B.getD d []) := by
    have : d < B.length := by rw [h.1]; exact hd
    rw [List.getD_eq_getElem?_getD, List.getElem?_eq_getElem this]; rfl
  exact ⟨e, h.2 _ (List.mem_of_getElem? e)⟩
theorem row_get {l : List Nat} (hl : l.length = 8) {t : Nat} (ht : t < 8) : l[t]? = some (l.getD t 0) := by
  have : t < l.length := by omega
  rw [List.getD_eq_getElem?_getD, List.getElem?_eq_getElem this]; rfl
theorem Best.step {side : Nat} {B : List (List Nat)} {p : Pick} (h : Best B) (ok : PickOk side p) : Best (bestStep side B p) := by
  obtain ⟨-, -, h3, -, h5, h6⟩ := ok
  obtain ⟨e, hl, hx⟩ := h.get h5
  refine ⟨by unfold bestStep; rw [List.length_set]; exact h.1, fun l hm => ?_⟩
  rcases List.mem_or_eq_of_mem_set hm with hm | rfl
  · exact h.2 l hm
  · refine ⟨by rw [List.length_set]; exact hl, fun x hm => ?_⟩
    rcases List.mem_or_eq_of_mem_set hm with hm | rfl
    · exact hx x hm
    · have := hx _ (List.mem_of_getElem? (row_get hl h6))
      omega
theorem Best.fold {side : Nat} : ∀ {ps : List Pick} {B : List (List Nat)}, Best B → (∀ p ∈ ps, PickOk side p) → Best (ps.foldl (bestStep side) B)
  | [], _, h, _ => h
  | p :: ps, B, h, ok => Best.fold (ps := ps) (h.step (ok p (List.mem_cons_self ..))) fun q hq => ok q (List.mem_cons_of_mem _ hq)
/-- row, reach, most -/
def toldStep (line : List Nat) (s : List Nat × Nat × List Nat) (top : Nat) : List Nat × Nat × List Nat :=
  let reach := max (max s.2.1 (s.2.2.getD top 0)) (line.getD top 0)
  (s.1 ++ List.replicate (reach - s.2.2.getD top 0 - s.1.length) top, reach, s.2.2.set top reach)
def toldRow (most line : List Nat) : List Nat × Nat × List Nat := (List.range 8).foldl (toldStep line) ([], 0, most)
/-- rows, most -/
def toldLine (s : List (List Nat) × List Nat) (line : List Nat) : List (List Nat) × List Nat := (s.1 ++ [(toldRow s.2 line).1], (toldRow s.2 line).2.2)
def toldOf (side : Nat) (ps : List Pick) : List (List Nat) := (((bestOf side ps).drop 1).foldl toldLine ([], zero8)).1
def ToldOk (s : List Nat × Nat × List Nat) : Prop := s.1.length ≤ 100 ∧ s.2.1 ≤ 100 ∧ s.2.2.length = 8 ∧ ∀ x ∈ s.2.2, x ≤ 100
theorem ToldOk.step {line : List Nat} {s : List Nat × Nat × List Nat} {top : Nat} (hl : line.length = 8) (hx : ∀ x ∈ line, x ≤ 100) (ht : top < 8) (h : ToldOk s) : ToldOk (toldStep line s top) := by
  obtain ⟨h1, h2, h3, h4⟩ := h
  have a := h4 _ (List.mem_of_getElem? (row_get h3 ht))
  have b := hx _ (List.mem_of_getElem? (row_get hl ht))
  refine ⟨?_, ?_, ?_, fun x hm => ?_⟩
  · simp only [toldStep, List.length_append, List.length_replicate]; exact toldE (max3 h2 a b) h1
  · simp only [toldStep]; exact max3 h2 a b
  · simp only [toldStep, List.length_set]; exact h3
  · simp only [toldStep] at hm
    rcases List.mem_or_eq_of_mem_set hm with hm | rfl
    · exact h4 x hm
    · omega
theorem ToldOk.fold {line : List Nat} (hl : line.length = 8) (hx : ∀ x ∈ line, x ≤ 100) : ∀ {ts : List Nat} {s : List Nat × Nat × List Nat}, (∀ t ∈ ts, t < 8) → ToldOk s → ToldOk (ts.foldl (toldStep line) s)
  | [], _, _, h => h
  | t :: ts, s, ht, h => ToldOk.fold (ts := ts) hl hx (fun q hq => ht q (List.mem_cons_of_mem _ hq)) (h.step hl hx (ht t (List.mem_cons_self ..)))
theorem toldLine_inv : ∀ (ls : List (List Nat)) (st : List (List Nat) × List Nat), (∀ l ∈ ls, l.length = 8 ∧ ∀ x ∈ l, x ≤ 100) → ToldOk ([], 0, st.2) → ToldOk ([], 0, (ls.foldl toldLine st).2) ∧ (ls.foldl toldLine st).1.length = st.1.length + ls.length
  | [], _, _, h => ⟨h, rfl⟩
  | l :: ls, st, hl, h => by
    have h1 := ToldOk.fold (line := l) (ts := List.range 8) (hl l (List.mem_cons_self ..)).1 (hl l (List.mem_cons_self ..)).2 (fun t ht => List.mem_range.mp ht) h
    have h2 := toldLine_inv ls (toldLine st l) (fun q hq => hl q (List.mem_cons_of_mem _ hq)) ⟨Nat.zero_le _, Nat.zero_le _, h1.2.2.1, h1.2.2.2⟩
    refine ⟨h2.1, h2.2.trans ?_⟩
    show (st.1 ++ [_]).length + _ = _
    simp; omega
theorem zipT_step {T : Trk} {Bs : List Addr} {B : List (List Nat)} {d : Nat} {b : Addr} {l l' : List Nat} (hb : Bs[d]? = some b) (hl : B[d]? = some l) : At b (.list (row8 l)) (.list (row8 l')) (zipT Bs (B.map row8) ++ T) (zipT Bs ((B.set d l').map row8) ++ T) := by
  rw [List.map_set]
  exact zipT_at hb (by rw [List.getElem?_map, hl]; rfl)


section
variable {c : Cx} (hK : c.K = hd.heap_39 c.w.params) (hlo : 0 < c.low) {h₀ : Heap} {n : Nat} {T T' : Trk} {H : Hold} {α : Type} {env : Env} {pos : Pos} {s : Shared}

include hK hlo in
theorem k_told {P : Addr} {pv sv : Value} {ps : List Pick} {side : Nat} {Q : Value → Trk → Hold → Prop} (dp : Den H pv (.ref P)) (ds : Den H sv (natPV side)) (hs : side < 2) (ip : In P (.list (ps.map pickPV)) T) (hlen : ps.length ≤ 1000) (ok : ∀ p ∈ ps, PickOk side p)
    (h : ∀ a, Q (.ref a) T [(.lst ((toldOf side ps).map fun r => .lst (row8 r)), .ref a)]) : W c h₀ (n + 1) T H (call (.ref 253) [pv, sv] []) Q := by
  refine W.post (W.callKC (fd := fn c.w.params 253) (by rw [hK]; rfl) rfl (by rw [hK]; rfl) rfl rfl rfl rfl rfl
    (binds := [(PySem.Str.ofString "picks", pv), (PySem.Str.ofString "side", sv)]) (fun S => by rw [hK]; kernel_rfl) (bs := [(PySem.Str.ofString "picks", .ref P), (PySem.Str.ofString "side", natPV side)]) (.cons dp (.cons ds .nil)) (by kernel_rfl) (by kernel_rfl) (by kernel_rfl) (by kernel_rfl)
    (bl := [(PySem.Str.ofString "picks", .ref P)]) (cl := fun L => [(L + 1, .cell (some (natPV side)))]) (by kernel_rfl) (fun L => by kernel_rfl) fun L => ?_)
  refine W.AssignListCompG (cl := []) (fun v xs i outs T₂ => ∃ Bs : List Addr, Bs.length = i ∧ outs = Bs.map .ref ∧ T₂ = zipT Bs ((List.replicate i zero8).map row8) ++ ((L, TO.frame [(PySem.Str.ofString "picks", .ref P)]) :: (L + 1, .cell (some (natPV side))) :: T)) rfl rfl ?_
  repeat walk_at "1"
  refine W.range (k := 6) rfl fun a t u v => ?_
  refine ⟨rngPV 6, _, .rng (by walk_at "den") (by decide), by decide, ⟨[], rfl, rfl, rfl⟩, fun _ _ _ _ _ _ _ => trivial, ?_, ?_⟩
  · rintro i x outs T₂ hx ⟨Bs, hB, rfl, rfl⟩ h₁ u C D
    have hxe : x = .int (i : Int) := by
      have hlt : i < 6 := by simpa [rngPV] using (List.getElem?_eq_some_iff.mp hx).1
      simp [rngPV, List.getElem?_map, List.getElem?_range, hlt] at hx
      exact hx.symm
    subst hxe
    repeat walk_at "1"
    refine W.tests_nil ?_
    repeat walk_at "1"
    apply W.newList'
    · size_fits
    · exact .cons .int .nil
    repeat walk_at "1"
    refine W.mulListT (l := [natPV 0]) (.lst (by walk_at "den")) (by decide) (by decide) (by decide) fun b => ?_
    have e : zipT (Bs ++ [b]) ((List.replicate (i + 1) zero8).map row8) = zipT Bs ((List.replicate i zero8).map row8) ++ [(b, .list (row8 zero8))] := by
      rw [List.replicate_succ', List.map_append, List.map_singleton, zipT_snoc (by simp [hB])]
    repeat walk_at "1"
    refine ⟨.ref b, [(PySem.Str.ofString "depth", .int (i : Int))], zipT (Bs ++ [b]) ((List.replicate (i + 1) zero8).map row8) ++ ((L, TO.frame [(PySem.Str.ofString "picks", .ref P)]) :: (L + 1, .cell (some (natPV side))) :: T), ?_, .ref, Bs ++ [b], by simp [hB], by simp, rfl⟩
    rw [e, List.append_assoc]
    exact List.perm_middle (l₁ := (_, _) :: (_, _) :: zipT Bs ((List.replicate i zero8).map row8))
  rintro outs T₂ ⟨Bs, hB, rfl, rfl⟩ D C
  have b0 : Best (List.replicate 6 zero8) := .zero
  obtain ⟨hBl⟩ : Nonempty (Bs.length = 6) := ⟨by simpa [rngPV] using hB⟩
  refine ⟨_, zipT Bs ((List.replicate 6 zero8).map row8) ++ ((L, TO.frame [(PySem.Str.ofString "picks", .ref P), (PySem.Str.ofString "best", .lst (Bs.map .ref))]) :: (L + 1, .cell (some (natPV side))) :: T), .loc rfl (.tail (At.app .head _)) (by walk_at "put"), ?_⟩
  refine W.weak (T' := (L, TO.frame [(PySem.Str.ofString "picks", .ref P), (PySem.Str.ofString "best", .lst (Bs.map .ref))]) :: (L + 1, .cell (some (natPV side))) :: (zipT Bs ((List.replicate 6 zero8).map row8) ++ T)) (.perm (by
    refine (List.perm_append_comm_assoc [_, _] _ _))) ?_
  with_reducible refine W.execs_n ?_
  refine W.ForG (fun v xs i T₂ => ∃ rest, T₂ = (L, TO.frame ((PySem.Str.ofString "picks", .ref P) :: (PySem.Str.ofString "best", .lst (Bs.map .ref)) :: rest)) :: (L + 1, .cell (some (natPV side))) :: (zipT Bs ((bestOf side (ps.take i)).map row8) ++ T)) ?_
  repeat walk_at "1"
  refine ⟨_, _, .own (.tail (.tail (In.app ip _))), ⟨[], rfl⟩, ?_, ?_, ?_⟩
  · rintro i T₂ ⟨rest, rfl⟩
    exact .tail (.tail (In.app ip _))
  --<A · 
  · rintro i x T₂ hx ⟨rest, rfl⟩ h₁ u Q' hQ'
    obtain ⟨p, hp, rfl⟩ : ∃ p, ps[i]? = some p ∧ PV.tup [.lst (p.1.map pairPV), .lst (p.2.map natPV)] = x := map_get hx
    have hmem : p ∈ ps := List.mem_of_getElem? hp
    obtain ⟨k1, k2, k3, k4, k5, k6⟩ := ok p hmem
    have bb : Best (bestOf side (ps.take i)) := Best.fold b0 fun q hq => ok q (List.mem_of_mem_take hq)
    obtain ⟨eB, lB, xB⟩ := bb.get k5
    obtain ⟨b, eb⟩ : ∃ b, Bs[mx p.2]? = some b := ⟨_, List.getElem?_eq_getElem (by omega)⟩
    have eb' : (Bs.map PV.ref)[mx p.2]? = some (.ref b) := by rw [List.getElem?_map, eb]; rfl
    have htake : bestOf side (ps.take (i + 1)) = bestStep side (bestOf side (ps.take i)) p := by
      unfold bestOf
      rw [List.take_add_one, hp, List.foldl_append]; rfl
    generalize bestOf side (ps.take i) = B at *
    refine W.weak (Weak.frameApp (m := [_, _]) (m' := rest)) ?_
    repeat walk_at "1"
    refine W.ListCompG (cl := [(PySem.Str.ofString "side", L + 1)]) (fun v xs i outs T₂ => outs = (p.1.take i).map (fun q => natPV (sel side q)) ∧ T₂ = (L, TO.frame [(PySem.Str.ofString "picks", .ref P), (PySem.Str.ofString "best", .lst (Bs.map .ref)), (PySem.Str.ofString "pick", .lst (p.1.map pairPV)), (PySem.Str.ofString "falls", .lst (p.2.map natPV))]) :: (L + 1, .cell (some (natPV side))) :: (zipT Bs (B.map row8) ++ T)) rfl ?_
    repeat walk_at "1"
    refine ⟨_, _, .lst (by walk_at "den"), by simpa using (Nat.le_trans k3 (by decide)), ⟨by simp, rfl⟩, fun _ _ _ _ _ _ _ => trivial, ?_, ?_⟩
    · rintro j x outs T₂ hx ⟨rfl, rfl⟩ h₁ u C D
      obtain ⟨q, hq, rfl⟩ : ∃ q, p.1[j]? = some q ∧ PV.tup [natPV q.1, natPV q.2] = x := map_get hx
      have htk : p.1.take (j + 1) = p.1.take j ++ [q] := by rw [List.take_add_one, hq]; rfl
      repeat walk_at "1"
      refine W.tests_nil ?_
      repeat walk_at "1"
      refine W.getItem (i := side) (p := natPV (sel side q)) (.tup (by walk_at "den")) rfl (by omega) (by
        unfold sel
        rcases (show side = 0 ∨ side = 1 by omega) with rfl | rfl <;> rfl) ?_
      repeat walk_at "1"
      exact ⟨natPV (sel side q), _, _, .refl _, .int, by rw [htk, List.map_append]; rfl, rfl⟩
    rintro outs T₂ ⟨eo, rfl⟩ D
    obtain rfl : outs = (p.1.map (sel side)).map natPV := by rw [eo]; simp
    repeat walk_at "1"
    refine W.maxN (l := p.1.map (sel side)) (.lst (by walk_at "den")) (by simpa using k1) fun _ => ?_
    repeat walk_at "1"
    refine W.maxN (l := p.2) (.lst (by walk_at "den")) k2 fun _ => ?_
    repeat walk_at "1"
    refine SwK.mk [natPV (mx (p.1.map (sel side))), natPV (mx p.2)] (by walk_at "den") (by walk_at "ston") ?_
    repeat walk_at "1"
    refine W.getItem (i := mx p.2) (.lst (by walk_at "den")) rfl (by omega) eb' ?_
    repeat walk_at "1"
    have ib := zipT_in (T := T) eb (show (B.map row8)[mx p.2]? = some (row8 (B.getD (mx p.2) [])) by rw [List.getElem?_map, eB]; rfl)
    refine seqAnd (.own rfl (.tail (.tail ib))) ?_
    refine W.itemN (l := B.getD (mx p.2) []) (.own rfl (.tail (.tail ib))) (by omega) (row_get lB k6) fun _ => ?_
    repeat walk_at "1"
    refine W.lenN (.lst (by walk_at "den")) (List.length_map ..) (Nat.le_trans k3 (by decide)) fun _ => ?_
    repeat walk_at "1"
    refine W.max2N fun _ => ?_
    repeat walk_at "1"
    refine W.getItem (i := mx p.2) (.lst (by walk_at "den")) rfl (by omega) eb' ?_
    repeat walk_at "1"
    refine W.setItem (p := natPV (max ((B.getD (mx p.2) []).getD (mx (p.1.map (sel side))) 0) p.1.length)) (by walk_at "den") rfl (by unfold row8; rw [List.length_map, lB]; exact k6) (by unfold row8; rw [List.length_map, lB]; decide) (.tail (.tail (zipT_at eb (show (B.map row8)[mx p.2]? = some (row8 (B.getD (mx p.2) [])) by rw [List.getElem?_map, eB]; rfl)))) ?_
    repeat walk_at "1"
    have e3 : (bestStep side B p).map row8 = (B.map row8).set (mx p.2) ((row8 (B.getD (mx p.2) [])).set (mx (p.1.map (sel side))) (natPV (max ((B.getD (mx p.2) []).getD (mx (p.1.map (sel side))) 0) p.1.length))) := by
      unfold bestStep row8; rw [List.map_set, List.map_set]
    rw [htake, e3]
    exact ⟨_, rfl⟩
  --A>
  rintro T₂ ⟨rest, rfl⟩
  have htk : ps.take (ps.map pickPV).length = ps := by simp
  rw [htk]
  have bb : Best (bestOf side ps) := Best.fold b0 ok
  refine W.weak (Weak.frameApp (m := [_, _]) (m' := rest)) ?_
  repeat walk_at "1"
  apply W.newListT'
  · size_fits
  · exact .nil
  intro R
  repeat walk_at "1"
  apply W.newList'
  · size_fits
  · exact .cons .int .nil
  repeat walk_at "1"
  refine W.mulListT (l := [natPV 0]) (.lst (by walk_at "den")) (by decide) (by decide) (by decide) fun M => ?_
  repeat walk_at "1"
  refine SwK.mk [.ref R, .ref M] (by walk_at "den") (by walk_at "ston") ?_
  repeat walk_at "1"
  have e0 : repN (Int.toNat 8) [natPV 0] = row8 zero8 := rfl
  rw [e0]
  generalize hbb : bestOf side ps = B at *
  refine W.ForWG (fun v xs i T₂ => T₂ = (M, .list (row8 (((B.drop 1).take i).foldl toldLine ([], zero8)).2)) :: (R, .list ((((B.drop 1).take i).foldl toldLine ([], zero8)).1.map fun r => .lst (row8 r))) ::
    (L, TO.frame [(PySem.Str.ofString "picks", .ref P), (PySem.Str.ofString "best", .lst (Bs.map .ref)), (PySem.Str.ofString "most", .ref M), (PySem.Str.ofString "rows", .ref R)]) :: (L + 1, .cell (some (natPV side))) :: (zipT Bs (B.map row8) ++ T)) ?_
  refine W.SubSlice ?_
  repeat walk_at "1"
  refine W.part_some ?_
  repeat walk_at "1"
  refine W.part_none (W.part_none ⟨Bs.map .ref, some ((1 : Nat) : Int), none, none, .lst (by walk_at "den"), .int _ _, .none, .none, by decide, by simp [hBl], fun a => ?_⟩)
  rw [slice_drop]
  refine ⟨_, .lst (by walk_at "den"), ⟨_, rfl, .refl⟩, ?_, ?_⟩
  · rintro i x T₂ hx rfl h₁ u Q' hQ'
    have key := fun T N h => hQ' .next T N h
    dsimp only [FwB, FoB] at key
    clear hQ'
    obtain ⟨b, eb, rfl⟩ : ∃ b, Bs[1 + i]? = some b ∧ PV.ref b = x := by
      rw [List.getElem?_drop] at hx
      exact map_get hx
    have hi : 1 + i < 6 := by
      have := (List.getElem?_eq_some_iff.mp eb).1
      omega
    obtain ⟨eB, lB, xB⟩ := bb.get hi
    have htk : (B.drop 1).take (i + 1) = (B.drop 1).take i ++ [B.getD (1 + i) []] := by
      rw [List.take_add_one, List.getElem?_drop, eB]; rfl
    rw [htk, List.foldl_append] at key
    obtain ⟨hm, hrs'⟩ := toldLine_inv ((B.drop 1).take i) ([], zero8) (fun l hl => bb.2 l (List.mem_of_mem_drop (List.mem_of_mem_take hl))) ⟨Nat.zero_le _, Nat.zero_le _, rfl, by decide⟩
    have hrs : (((B.drop 1).take i).foldl toldLine ([], zero8)).1.length ≤ 1000 := by
      rw [hrs', List.length_take]
      have : i ≤ 1000 := by omega
      show 0 + _ ≤ _
      omega
    clear hrs'
    generalize ((B.drop 1).take i).foldl toldLine ([], zero8) = st at *
    generalize hl : B.getD (1 + i) [] = ln at *
    obtain ⟨rs, most⟩ := st
    have ib := zipT_in (T := T) eb (show (B.map row8)[1 + i]? = some (row8 ln) by rw [List.getElem?_map, eB]; rfl)
    repeat walk_at "1"
    apply W.newListT'
    · size_fits
    · exact .nil
    intro Rw
    repeat walk_at "1"
    refine SwK.mk [.ref Rw, natPV 0] (by walk_at "den") (by walk_at "ston") ?_
    repeat walk_at "1"
    refine W.ForWG (fun v xs j T₂ => T₂ = (Rw, .list (row8 (((List.range 8).take j).foldl (toldStep ln) ([], 0, most)).1)) :: (M, .list (row8 (((List.range 8).take j).foldl (toldStep ln) ([], 0, most)).2.2)) :: (R, .list (rs.map fun r => .lst (row8 r))) ::
      (L, TO.frame [(PySem.Str.ofString "picks", .ref P), (PySem.Str.ofString "best", .lst (Bs.map .ref)), (PySem.Str.ofString "most", .ref M), (PySem.Str.ofString "rows", .ref R), (PySem.Str.ofString "line", .ref b), (PySem.Str.ofString "reach", natPV (((List.range 8).take j).foldl (toldStep ln) ([], 0, most)).2.1), (PySem.Str.ofString "row", .ref Rw)]) :: (L + 1, .cell (some (natPV side))) :: (zipT Bs (B.map row8) ++ T)) ?_
    repeat walk_at "1"
    refine W.range (k := 8) rfl fun a t u v => ?_
    refine ⟨rngPV 8, .rng (by walk_at "den") (by decide), ⟨_, rfl, .refl⟩, ?_, ?_⟩
    · rintro j x T₂ hx rfl h₁ u Q'' hQ''
      have key' := fun T N h => hQ'' .next T N h
      dsimp only [FwB, FoB] at key'
      clear hQ''
      obtain ⟨j', hj', rfl⟩ := map_get hx
      have hj8 : j < 8 := by
        have := (List.getElem?_eq_some_iff.mp hj').1
        simpa using this
      obtain rfl : j' = j := by
        rw [List.getElem?_range hj8] at hj'; cases hj'; rfl
      have htk : (List.range 8).take (j' + 1) = (List.range 8).take j' ++ [j'] := by
        rw [List.take_add_one, List.getElem?_range hj8]; rfl
      rw [htk, List.foldl_append] at key'
      have hs : ToldOk (((List.range 8).take j').foldl (toldStep ln) ([], 0, most)) := ToldOk.fold lB xB (fun t ht => by
        have := List.mem_range.mp (List.mem_of_mem_take ht); exact this) hm
      have hs' : ToldOk (toldStep ln (((List.range 8).take j').foldl (toldStep ln) ([], 0, most)) j') := hs.step lB xB hj8
      generalize ((List.range 8).take j').foldl (toldStep ln) ([], 0, most) = st at *
      obtain ⟨row, reach, most'⟩ := st
      obtain ⟨q1, q2, q3, q4⟩ := hs
      have q5 := q4 _ (List.mem_of_getElem? (row_get q3 hj8))
      have q6 := xB _ (List.mem_of_getElem? (row_get lB hj8))
      repeat walk_at "1"
      refine W.itemN (l := most') (.own rfl (by walk_at "in")) (by omega) (row_get q3 hj8) fun _ => ?_
      repeat walk_at "1"
      refine W.itemN (l := ln) (.own rfl (.tail (.tail (.tail (.tail (.tail ib)))))) (by omega) (row_get lB hj8) fun _ => ?_
      repeat walk_at "1"
      refine W.max3N fun _ => ?_
      repeat walk_at "1"
      apply W.newList'
      · size_fits
      · exact .cons .int .nil
      repeat walk_at "1"
      refine W.itemN (l := most') (.own rfl (by walk_at "in")) (by omega) (row_get q3 hj8) fun _ => ?_
      repeat walk_at "1"
      refine W.len (l := row8 row) (.own rfl (by walk_at "in")) (by unfold row8; rw [List.length_map]; exact Nat.le_trans q1 (by decide)) fun _ => ?_
      repeat walk_at "1"
      refine W.mulListN (l := [natPV j']) (k := max (max reach (most'.getD j' 0)) (ln.getD j' 0) - most'.getD j' 0 - row.length) (.lst (by walk_at "den")) ?_ ?_ ?_ ?_ fun _ => ?_
      · unfold row8; rw [List.length_map]
        exact natI _ _ _
      · unfold row8; rw [List.length_map]
        exact toldB q5 q1
      · exact toldC (max3 q2 q5 q6)
      · show 1 * _ ≤ 1000
        rw [Nat.one_mul]
        exact toldD (max3 q2 q5 q6)
      repeat walk_at "1"
      have e1 : row8 (toldStep ln (row, reach, most') j').1 = row8 row ++ repN (max (max reach (most'.getD j' 0)) (ln.getD j' 0) - most'.getD j' 0 - row.length) [natPV j'] := by
        unfold toldStep row8; rw [List.map_append, repN_one, List.map_replicate]
      have e2 : row8 (toldStep ln (row, reach, most') j').2.2 = (row8 most').set j' (natPV (max (max reach (most'.getD j' 0)) (ln.getD j' 0))) := by
        unfold toldStep row8; rw [List.map_set]
      refine W.extend (by walk_at "den") .head ?_ ?_
      · unfold row8
        rw [List.length_map, repN_one, List.length_replicate]
        exact Nat.le_trans (toldE (max3 q2 q5 q6) q1) (by decide)
      repeat walk_at "1"
      refine W.setItem (k := j') (l := row8 most') (p := natPV (max (max reach (most'.getD j' 0)) (ln.getD j' 0))) (by walk_at "den") rfl (by unfold row8; rw [List.length_map]; exact Nat.lt_of_lt_of_eq hj8 q3.symm) (by unfold row8; rw [List.length_map]; exact Nat.le_trans (Nat.le_of_eq q3) (by decide)) (.tail .head) ?_
      repeat walk_at "1"
      refine key' _ _ ⟨_, rfl, ?_⟩
      show Weak _ ((Rw, .list (row8 (toldStep ln (row, reach, most') j').1)) :: (M, .list (row8 (toldStep ln (row, reach, most') j').2.2)) :: _)
      rw [e1, e2]
      exact Weak.mid [_, _, _] (m := [_, _, _, _, _, _, _]) (m' := [_])
    rintro T₂ rfl
    have e3 : (List.range 8).take (rngPV 8).length = List.range 8 := rfl
    rw [e3]
    show W c h₁ n ((Rw, .list (row8 (toldRow most ln).1)) :: (M, .list (row8 (toldRow most ln).2.2)) :: (R, .list (rs.map fun r => .lst (row8 r))) ::
      (L, TO.frame [(PySem.Str.ofString "picks", .ref P), (PySem.Str.ofString "best", .lst (Bs.map .ref)), (PySem.Str.ofString "most", .ref M), (PySem.Str.ofString "rows", .ref R), (PySem.Str.ofString "line", .ref b), (PySem.Str.ofString "reach", natPV (toldRow most ln).2.1), (PySem.Str.ofString "row", .ref Rw)]) :: (L + 1, .cell (some (natPV side))) :: (zipT Bs (B.map row8) ++ T)) _ _ _
    repeat walk_at "1"
    refine W.freeze (.refl _) ?_
    refine W.append (p := .lst (row8 (toldRow most ln).1)) (by walk_at "den") (.tail .head) (by simpa using hrs) ?_
    repeat walk_at "1"
    refine key _ _ ⟨_, rfl, ?_⟩
    show Weak _ ((M, .list (row8 (toldRow most ln).2.2)) :: (R, .list ((rs ++ [(toldRow most ln).1]).map fun r => .lst (row8 r))) :: _)
    rw [List.map_append]
    exact Weak.mid [_, _] (m := [_, _, _, _]) (m' := [_, _, _])
  rintro T₂ rfl
  have e4 : (B.drop 1).take ((Bs.map PV.ref).drop 1).length = B.drop 1 := List.take_of_length_le (by simp [hBl, bb.1])
  rw [e4]
  generalize hR : (List.foldl toldLine ([], zero8) (B.drop 1)).1 = rs at *
  repeat walk_at "1"
  refine ⟨(R, .list (rs.map fun r => .lst (row8 r))) :: T, ?_, _, .refl _, T, [(.lst (rs.map fun r => .lst (row8 r)), .ref R)], fun c h H s S => S.freeze, ?_⟩
  · refine .cons _ (.cons_cons _ (.cons _ (.cons _ ?_)))
    exact List.sublist_append_right _ _
  · have := h R
    rw [toldOf, hbb, hR] at this
    exact this
end
abbrev Ent := Nat × Nat × Nat
def EntOk (e : Ent) : Prop := e.1 < 8 ∧ (1 ≤ e.2.1 ∧ e.2.1 ≤ 4) ∧ (1 ≤ e.2.2 ∧ e.2.2 ≤ 4)
def col (e : Ent) : UInt64 × UInt64 × UInt64 := colOf e.1 e.2.1 e.2.2
abbrev colP (e : Ent) : PV := .tup [.flt (col e).1, .flt (col e).2.1, .flt (col e).2.2]
def ab (e : Ent) : Nat × Nat := (e.1, e.2.1)
def lvE (e : Ent) : Nat := e.2.1
def kap (e : Ent) : Nat := 16 * e.1 + e.2.1
def zE : Ent := (0, 0, 0)
def kfPlace (p : PV) : UInt64 := match p with | .tup [.flt r, .flt g, .flt b] => placeOf (hsvOf r g b) | _ => 0
def kfLevel (p : PV) : UInt64 := match p with | .tup [.flt r, .flt g, .flt b] => (hsvOf r g b).2.2 | _ => 0
def placeAB (a b : Nat) : UInt64 := Float64.add (Float64.mul (Float64.ofInt 16) (hueOf a)) (Float64.div (quart b) (Float64.ofInt 2))

theorem kfPlace_col {e : Ent} (h : EntOk e) : kfPlace (colP e) = placeAB e.1 e.2.1 := by
  have := (facts1 h.1 h.2.1 h.2.2).2
  show placeOf (hsvOf (col e).1 (col e).2.1 (col e).2.2) = _
  unfold col
  rw [this]; rfl
theorem kfLevel_col {e : Ent} (h : EntOk e) : kfLevel (colP e) = quart e.2.1 := by
  have := (facts1 h.1 h.2.1 h.2.2).2
  show (hsvOf (col e).1 (col e).2.1 (col e).2.2).2.2 = _
  unfold col
  rw [this]
theorem placeLt' : ((List.range 8).all fun a => (List.range 4).all fun b => (List.range 8).all fun a' => (List.range 4).all fun b' => fltLt (placeAB a (b + 1)) (placeAB a' (b' + 1)) == decide (16 * a + (b + 1) < 16 * a' + (b' + 1))) = true := by decide +kernel
theorem levLt' : ((List.range 4).all fun b => (List.range 4).all fun b' => fltLt (quart (b + 1)) (quart (b' + 1)) == decide (b + 1 < b' + 1)) = true := by decide +kernel
theorem placeLt {e e' : Ent} (h : EntOk e) (h' : EntOk e') : fltLt (kfPlace (colP e)) (kfPlace (colP e')) = decide (kap e < kap e') := by
  rw [kfPlace_col h, kfPlace_col h']
  have k := placeLt'
  simp only [List.all_eq_true, List.mem_range, beq_iff_eq] at k
  have := k e.1 h.1 (e.2.1 - 1) (by have := h.2.1; omega) e'.1 h'.1 (e'.2.1 - 1) (by have := h'.2.1; omega)
  rw [show e.2.1 - 1 + 1 = e.2.1 by have := h.2.1; omega, show e'.2.1 - 1 + 1 = e'.2.1 by have := h'.2.1; omega] at this
  exact this
theorem levLt {e e' : Ent} (h : EntOk e) (h' : EntOk e') : fltLt (quart e.2.1) (quart e'.2.1) = decide (lvE e < lvE e') := by
  have k := levLt'
  simp only [List.all_eq_true, List.mem_range, beq_iff_eq] at k
  have := k (e.2.1 - 1) (by have := h.2.1; omega) (e'.2.1 - 1) (by have := h'.2.1; omega)
  rw [show e.2.1 - 1 + 1 = e.2.1 by have := h.2.1; omega, show e'.2.1 - 1 + 1 = e'.2.1 by have := h'.2.1; omega] at this
  exact this

/-- the line: each is put in behind its likes -/
def insE (l : List Ent) (e : Ent) : List Ent :=
  let k := bis (fun i => decide (kap e < kap (l.getD i zE))) l.length 0 l.length
  l.take k ++ e :: l.drop k
def lineOf (es : List Ent) : List Ent := es.foldl insE []
theorem insE_mem {l : List Ent} {e x : Ent} (h : x ∈ insE l e) : x = e ∨ x ∈ l := by
  unfold insE at h
  rcases List.mem_append.mp h with h | h
  · exact .inr (List.mem_of_mem_take h)
  · rcases List.mem_cons.mp h with h | h
    · exact .inl h
    · exact .inr (List.mem_of_mem_drop h)
theorem insE_len {l : List Ent} {e : Ent} : (insE l e).length = l.length + 1 := by
  unfold insE
  have := bis_le (fun i => decide (kap e < kap (l.getD i zE))) l.length 0 l.length (Nat.zero_le _)
  simp only [List.length_append, List.length_take, List.length_cons, List.length_drop]
  omega
theorem line_fold : ∀ (es l : List Ent), (∀ e ∈ es, EntOk e) → (∀ e ∈ l, EntOk e) → (∀ e ∈ es.foldl insE l, EntOk e) ∧ (es.foldl insE l).length = l.length + es.length
  | [], l, _, h => ⟨h, by simp⟩
  | e :: es, l, h, h' => by
    have r := line_fold es (insE l e) (fun x hx => h x (List.mem_cons_of_mem _ hx)) (fun x hx => (insE_mem hx).elim (fun q => q ▸ h e (List.mem_cons_self ..)) (h' x))
    refine ⟨r.1, r.2.trans ?_⟩
    rw [insE_len, List.length_cons]; omega


section
variable {α : Type} (lv : α → Nat) (z : α)
def plR (r : List α) (m : α) : Nat := bis (fun i => decide (lv m < lv (r.getD i z))) r.length 0 r.length
def plL (r : List α) (m : α) : Nat := bis (fun i => !decide (lv (r.getD i z) < lv m)) r.length 0 r.length
def rsk : Nat → List (List α) → α → Nat → List (List α) × Nat
  | 0, rows, _, k => (rows, k)
  | f + 1, rows, m, k =>
    if plR lv z (rows.getD k []) m < (rows.getD k []).length then rsk f (rows.set k ((rows.getD k []).set (plR lv z (rows.getD k []) m) m)) ((rows.getD k []).getD (plR lv z (rows.getD k []) m) z) (k + 1)
    else (rows.set k (rows.getD k [] ++ [m]), k)
def rskStep (s : List (List α) × List (Nat × α)) (e : α) : List (List α) × List (Nat × α) := ((rsk lv z 5 s.1 e 0).1, s.2 ++ [((rsk lv z 5 s.1 e 0).2, e)])
def rskAll (l : List α) : List (List α) × List (Nat × α) := l.foldl (rskStep lv z) ([[], [], [], [], []], [])
def un : Nat → List (List α) → α → Option (List (List α) × α)
  | 0, rows, m => some (rows, m)
  | j + 1, rows, m =>
    if plL lv z (rows.getD j []) m = 0 then none
    else un j (rows.set j ((rows.getD j []).set (plL lv z (rows.getD j []) m - 1) m)) ((rows.getD j []).getD (plL lv z (rows.getD j []) m - 1) z)
def unStep (rows : List (List α)) (k : Nat) : Option (List (List α) × α) :=
  match (rows.getD k []).getLast? with
  | none => none
  | some m => un lv z k (rows.set k (rows.getD k []).dropLast) m
def unAll : List Nat → List (List α) → Option (List α)
  | [], _ => some []
  | k :: ks, rows => match unStep lv z rows k with
    | none => none
    | some (rows', m) => match unAll ks rows' with
      | none => none
      | some l => some (m :: l)
end
def extP (p : Pick) (x : Nat × Nat) : Pick := (p.1 ++ [x], p.2 ++ [1 + mx (0 :: (((List.range p.1.length).filter fun i => decide ((p.1.getD i (0, 0)).2 > x.2)).map fun i => p.2.getD i 0))])
def pickStep (ps : List Pick) (x : Nat × Nat) : List Pick := ps ++ (([], []) :: ps).map fun p => extP p x
def picksOf (l : List (Nat × Nat)) : List Pick := l.foldl pickStep []
def lawBody : List Stmt := match PySem.Challenge.pw_pm0068_01.main.body.getLast? with | some (.FunctionDef _ _ body _ _ _ _ _ _ _) => body | _ => []
def lawScope : Scope := match PySem.Challenge.pw_pm0068_01.main.body.getLast? with | some (.FunctionDef _ _ _ _ _ _ scope _ _ _) => scope | _ => default
def stmtAt (k : Nat) : Stmt := lawBody.getD k default
def lawEnv (L fa : Addr) : Env := envOfC (PySem.Str.ofString "law") lawScope L fa (.ref 257)
abbrev lawT (L : Addr) (fr : List (PySem.Str × PV)) (co b ta pi fa dr : Option PV) (R : Trk) : Trk :=
  (L, .frame fr) :: (L + 1, .cell co) :: (L + 1 + 1, .cell b) :: (L + 1 + 1 + 1, .cell ta) :: (L + 1 + 1 + 1 + 1, .cell pi) :: (L + 1 + 1 + 1 + 1 + 1, .cell fa) :: (L + 1 + 1 + 1 + 1 + 1 + 1, .cell dr) :: R
/-- what a number tells -/
def aN (x : Int) : Nat := (x.fmod 8).toNat
def bN (x : Int) : Nat := (1 + (x.fdiv 8).fmod 4).toNat
def cN (x : Int) : Nat := (1 + (x.fdiv 32).fmod 4).toNat
def dN (x : Int) : Nat := ((x.fdiv 128).fmod 4).toNat
def entOf (x : Int) : Ent := (aN x, bN x, cN x)
theorem fmod_rng (x : Int) (k : Int) (hk : 0 < k) : 0 ≤ x.fmod k ∧ x.fmod k < k := ⟨Int.fmod_nonneg_of_pos x hk, Int.fmod_lt_of_pos x hk⟩
theorem nat_of {z : Int} {k : Nat} (h : 0 ≤ z ∧ z < (k : Int)) : z = (z.toNat : Int) ∧ z.toNat < k := ⟨(Int.toNat_of_nonneg h.1).symm, (Int.toNat_lt h.1).mpr h.2⟩
theorem one_of {z : Int} (h : 0 ≤ z ∧ z < 4) : 1 + z = ((1 + z).toNat : Int) ∧ 1 ≤ (1 + z).toNat ∧ (1 + z).toNat ≤ 4 := by omega
theorem aN_eq (x : Int) : x.fmod 8 = (aN x : Int) ∧ aN x < 8 := nat_of (fmod_rng x 8 (by decide))
theorem bN_eq (x : Int) : 1 + (x.fdiv 8).fmod 4 = (bN x : Int) ∧ 1 ≤ bN x ∧ bN x ≤ 4 := one_of (fmod_rng (x.fdiv 8) 4 (by decide))
theorem cN_eq (x : Int) : 1 + (x.fdiv 32).fmod 4 = (cN x : Int) ∧ 1 ≤ cN x ∧ cN x ≤ 4 := one_of (fmod_rng (x.fdiv 32) 4 (by decide))
theorem dN_eq (x : Int) : (x.fdiv 128).fmod 4 = (dN x : Int) ∧ dN x < 4 := nat_of (fmod_rng (x.fdiv 128) 4 (by decide))
theorem entOk (x : Int) : EntOk (entOf x) := ⟨(aN_eq x).2, (bN_eq x).2, (cN_eq x).2⟩
theorem infA : ((List.range 8).all fun a => !Float64.isInf (hueOf a)) = true := by decide +kernel
theorem infQ : ((List.range 5).all fun b => !Float64.isInf (quart b)) = true := by decide +kernel
theorem sameQ : ((List.range 5).all fun b => fltEq (quart b) (quart b)) = true := by decide +kernel
theorem sameH : ((List.range 8).all fun a => fltEq (hueOf a) (hueOf a)) = true := by decide +kernel
theorem all_at {n : Nat} {p : Nat → Bool} (h : ((List.range n).all p) = true) {k : Nat} (hk : k < n) : p k = true := List.all_eq_true.mp h k (List.mem_range.mpr hk)

theorem infA' {a : Nat} (h : a < 8) : Float64.isInf (tdiv (2 * (a : Int) + 1) 16) = false := (Bool.not_eq_true' _).mp (show (!Float64.isInf (hueOf a)) = true from all_at infA h)
theorem infQ' {b : Nat} (h : b ≤ 4) : Float64.isInf (tdiv (b : Int) 4) = false := (Bool.not_eq_true' _).mp (show (!Float64.isInf (quart b)) = true from all_at infQ (Nat.lt_succ_of_le h))
theorem same_read {a b c' : Nat} (ha : a < 8) (hb : b ≤ 4) (hc : c' ≤ 4) : same (.tup [.flt (hueOf a), .flt (quart c'), .flt (quart b)]) (.tup [.flt (hueOf a), .flt (quart c'), .flt (quart b)]) = true := by
  show (fltEq _ _ && (fltEq _ _ && (fltEq _ _ && true))) = true
  rw [all_at sameH ha, all_at sameQ (Nat.lt_succ_of_le hb), all_at sameQ (Nat.lt_succ_of_le hc)]; rfl

section
variable {c : Cx} (hK : c.K = hd.heap_39 c.w.params) (hlo : 0 < c.low) (hT : ToldK c) {h₀ : Heap} {n : Nat} {T T' : Trk} {H : Hold} {α : Type} {env : Env} {pos : Pos} {s : Shared}

include hK hlo in
theorem kw_place {e : Ent} (h : EntOk e) (h₀ : Heap) (T : Trk) (H : Hold) (v : Value) (Q : Value → Trk → Hold → Prop) (d : Den H v (colP e)) (k : ∀ t, t ≠ 0 → Q (.float (kfPlace (colP e)) t) T []) : W c h₀ (n + 3) T H (call (.ref 248) [v] []) Q :=
  k_place hK hlo (r := (col e).1) (g := (col e).2.1) (b := (col e).2.2) (facts1 h.1 h.2.1 h.2.2).1 d k
include hK hlo in
theorem kw_level {e : Ent} (h : EntOk e) (h₀ : Heap) (T : Trk) (H : Hold) (v : Value) (Q : Value → Trk → Hold → Prop) (d : Den H v (colP e)) (k : ∀ t, t ≠ 0 → Q (.float (kfLevel (colP e)) t) T []) : W c h₀ (n + 3) T H (call (.ref 241) [v] []) Q :=
  k_level hK hlo (r := (col e).1) (g := (col e).2.1) (b := (col e).2.2) (facts1 h.1 h.2.1 h.2.2).1 d k
include hK hlo in
theorem kw_read {e : Ent} (h : EntOk e) {v : Value} {Q : Value → Trk → Hold → Prop} (d : Den H v (colP e)) (k : ∀ a, Q (.ref a) T [(.tup [.flt (hueOf e.1), .flt (quart e.2.2), .flt (quart e.2.1)], .ref a)]) : W c h₀ (n + 2) T H (call (.ref 234) [v] []) Q := by
  refine k_read hK hlo (r := (col e).1) (g := (col e).2.1) (b := (col e).2.2) (facts1 h.1 h.2.1 h.2.2).1 d ?_
  unfold colPV
  have := (facts1 h.1 h.2.1 h.2.2).2
  show ∀ a, Q (.ref a) T [(.tup [.flt (hsvOf (colOf e.1 e.2.1 e.2.2).1 (colOf e.1 e.2.1 e.2.2).2.1 (colOf e.1 e.2.1 e.2.2).2.2).1, .flt (hsvOf (colOf e.1 e.2.1 e.2.2).1 (colOf e.1 e.2.1 e.2.2).2.1 (colOf e.1 e.2.1 e.2.2).2.2).2.1, .flt (hsvOf (colOf e.1 e.2.1 e.2.2).1 (colOf e.1 e.2.1 e.2.2).2.1 (colOf e.1 e.2.1 e.2.2).2.2).2.2], .ref a)]
  rw [this]
  exact k

include hK hlo hT in
theorem loop1 {tg it : Expr} {bd oe : List Stmt} {ps : Pos} (hst : stmtAt 1 = .For tg it bd oe ps) {L fa D C N : Addr} {x : Int} {u : Value} {es : List Ent} {bv : Option PV}
    (hes : ∀ e ∈ es, EntOk e) (hlen : es.length ≤ 100) {sv : PV} {Q : Flow → Trk → Hold → Prop}
    (h : ∀ fr, Q .next (lawT L ((PySem.Str.ofString "script", sv) :: (PySem.Str.ofString "line", .ref N) :: fr) (some (.ref C)) (some (natPV (bN x))) none none none (some (.ref D))
      ((N, .list ((insE (lineOf es) (entOf x)).map colP)) :: (C, .list (es.map colP ++ [colP (entOf x)])) :: (D, .list (es.map (fun e => pairPV (ab e)) ++ [pairPV (ab (entOf x))])) :: T)) []) :
    W c h₀ (n + 6) (lawT L [(PySem.Str.ofString "script", sv), (PySem.Str.ofString "line", .ref N)] (some (.ref C)) bv none none none (some (.ref D))
      ((N, .list ((lineOf es).map colP)) :: (C, .list (es.map colP)) :: (D, .list (es.map fun e => pairPV (ab e))) :: T)) ((.int x, u) :: H) (assign tg (lawEnv L fa) u) fun _ T₃ _ =>
      W c h₀ (n + 6) T₃ ((.int x, u) :: H) (execs bd (lawEnv L fa)) Q := by
  have hst' : Stmt.For _ _ _ _ _ = Stmt.For tg it bd oe ps := hst
  injection hst' with e1 e2 e3 e4 e5
  subst e1; subst e3
  obtain ⟨ea, la⟩ := aN_eq x
  obtain ⟨eb, lb⟩ := bN_eq x
  obtain ⟨ec, lc⟩ := cN_eq x
  obtain ⟨ed, ld⟩ := dN_eq x
  repeat walk_at "1"
  refine W.fdiv_eq (by decide) (by decide) rfl fun _ => ?_
  repeat walk_at "1"
  refine W.fdiv_eq (by decide) (by decide) rfl fun _ => ?_
  repeat walk_at "1"
  rw [ea, eb, ec]
  refine W.mul_ii (fun _ => ?_) (IntMulOk.of_left (by decide))
  repeat walk_at "1"
  refine W.div_ii (by decide) (infA' la) hlo fun _ _ => ?_
  repeat walk_at "1"
  refine W.fdiv_eq (by decide) (by decide) rfl fun _ => ?_
  repeat walk_at "1"
  rw [ed]
  refine W.add_fi (by omega) hlo fun _ _ => ?_
  repeat walk_at "1"
  refine W.div_ii (by decide) (infQ' lc.2) hlo fun _ _ => ?_
  repeat walk_at "1"
  refine W.div_ii (by decide) (infQ' lb.2) hlo fun _ _ => ?_
  repeat walk_at "1"
  obtain ⟨f1, f2, f3, f4⟩ := facts2 (d := dN x) la lb lc ld
  obtain ⟨g1, g2⟩ := facts1 la lb lc
  have hbig : 100 < 2 ^ 1023 := Nat.lt_of_lt_of_le (show 100 < 2 ^ 10 by decide) (Nat.pow_le_pow_right (by decide) (by decide))
  refine k_h2r hK hlo f1 (Nat.lt_of_lt_of_le f2 (Nat.le_of_lt hbig)) f3 (by walk_at "den") (by walk_at "den") (by walk_at "den") fun a => ?_
  show W c h₀ (n + 6) _ ([(PV.tup [.flt (rgbOf (Float64.add (hueOf (aN x)) (Float64.ofInt (dN x))) (quart (cN x)) (quart (bN x))).1, .flt (rgbOf (Float64.add (hueOf (aN x)) (Float64.ofInt (dN x))) (quart (cN x)) (quart (bN x))).2.1, .flt (rgbOf (Float64.add (hueOf (aN x)) (Float64.ofInt (dN x))) (quart (cN x)) (quart (bN x))).2.2], .ref a)] ++ _) _ _
  rw [f4]
  repeat walk_at "1"
  refine k_read hK hlo g1 (by walk_at "den") fun a => ?_
  unfold colPV
  rw [g2]
  repeat walk_at "1"
  refine W.mul_ii (fun _ => ?_) (IntMulOk.of_left (by decide))
  repeat walk_at "1"
  refine W.div_ii (by decide) (infA' la) hlo fun _ _ => ?_
  repeat walk_at "1"
  refine W.div_ii (by decide) (infQ' lc.2) hlo fun _ _ => ?_
  repeat walk_at "1"
  refine W.div_ii (by decide) (infQ' lb.2) hlo fun _ _ => ?_
  repeat walk_at "1"
  refine W.neSame hT rfl (Nat.le_of_ble_eq_true rfl) (by walk_at "den") (by walk_at "den") (same_read la lb.2 lc.2) ?_
  repeat walk_at "1"
  obtain ⟨hl1, hl2⟩ := line_fold es [] hes (fun e he => nomatch he)
  have hl2' : (lineOf es).length = es.length := hl2.trans (by simp)
  refine W.append (p := pairPV (ab (entOf x))) (by walk_at "den") (by walk_at "at") (by rw [List.length_map]; omega) ?_
  repeat walk_at "1"
  refine W.append (p := colP (entOf x)) (by walk_at "den") (by walk_at "at") (by rw [List.length_map]; omega) ?_
  repeat walk_at "1"
  have hkey : keepIn c.K (.ref 248) = true := by rw [hK]; rfl
  refine k_insort hK hlo (n := n + 4) (A := N) (xs := (lineOf es).map colP) (p := colP (entOf x)) (kf := kfPlace) (T' := lawT L [(PySem.Str.ofString "script", sv), (PySem.Str.ofString "line", .ref N), (PySem.Str.ofString "x", .int x), (PySem.Str.ofString "a", .int (aN x : Nat)), (PySem.Str.ofString "c", .int (cN x : Nat)), (PySem.Str.ofString "colour", colP (entOf x))]
      (some (.ref C)) (some (natPV (bN x))) none none none (some (.ref D)) ((N, .list ((insE (lineOf es) (entOf x)).map colP)) :: (C, .list (es.map colP ++ [colP (entOf x)])) :: (D, .list (es.map (fun e => pairPV (ab e)) ++ [pairPV (ab (entOf x))])) :: T))
    (fun i => decide (kap (entOf x) < kap ((lineOf es).getD i zE))) rfl ?_ (by rw [List.length_map]; omega) (by walk_at "den") hkey ?_ ?_ ?_
  · have e : (insE (lineOf es) (entOf x)).map colP = ((lineOf es).map colP).take (bis (fun i => decide (kap (entOf x) < kap ((lineOf es).getD i zE))) ((lineOf es).map colP).length 0 ((lineOf es).map colP).length) ++ colP (entOf x) :: ((lineOf es).map colP).drop (bis (fun i => decide (kap (entOf x) < kap ((lineOf es).getD i zE))) ((lineOf es).map colP).length 0 ((lineOf es).map colP).length) := by
      unfold insE
      rw [List.length_map, List.map_append, List.map_cons, List.map_take, List.map_drop]
    rw [e]
    walk_at "at"
  · exact fun h₀ T H v Q d k => kw_place (n := n + 1) hK hlo (entOk x) h₀ T H v Q d k
  · intro i q hq
    obtain ⟨e, he, rfl⟩ := map_get hq
    have hm : EntOk e := hl1 e (List.mem_of_getElem? he)
    refine ⟨?_, fun h₀ T H v Q d k => kw_place (n := n + 1) hK hlo hm h₀ T H v Q d k⟩
    rw [placeLt (entOk x) hm, List.getD_eq_getElem?_getD, he]; rfl
  repeat walk_at "1"
  exact h _
end
theorem lt5 {P : Nat → Prop} {k : Nat} (h : k < 5) (h0 : P 0) (h1 : P 1) (h2 : P 2) (h3 : P 3) (h4 : P 4) : P k := by
  rcases Nat.lt_succ_iff_lt_or_eq.mp h with h | rfl
  · rcases Nat.lt_succ_iff_lt_or_eq.mp h with h | rfl
    · rcases Nat.lt_succ_iff_lt_or_eq.mp h with h | rfl
      · rcases Nat.lt_succ_iff_lt_or_eq.mp h with h | rfl
        · rw [Nat.lt_one_iff.mp h]; exact h0
        · exact h1
      · exact h2
    · exact h3
  · exact h4
theorem lt8 {P : Nat → Prop} {k : Nat} (h : k < 8) (h0 : P 0) (h1 : P 1) (h2 : P 2) (h3 : P 3) (h4 : P 4) (h5 : P 5) (h6 : P 6) (h7 : P 7) : P k := by
  rcases Nat.lt_succ_iff_lt_or_eq.mp h with h | rfl
  · rcases Nat.lt_succ_iff_lt_or_eq.mp h with h | rfl
    · rcases Nat.lt_succ_iff_lt_or_eq.mp h with h | rfl
      · exact lt5 h h0 h1 h2 h3 h4
      · exact h5
    · exact h6
  · exact h7
def txtOf (a : Nat) : PySem.Str := PySem.Str.ofString (toString (a : Int))
def nmU (k : Nat) : PySem.Str := ⟨#[k + 65]⟩
def nmL (k : Nat) : PySem.Str := ⟨#[k + 97]⟩
theorem mulH : ((List.range 8).all fun a => Float64.isFinite (Float64.mul (Float64.ofInt 8) (hueOf a)) && truncI (Float64.mul (Float64.ofInt 8) (hueOf a)) == (a : Int)) = true := by decide +kernel
theorem mulH' {a : Nat} (h : a < 8) : Float64.isFinite (Float64.mul (Float64.ofInt 8) (hueOf a)) = true ∧ truncI (Float64.mul (Float64.ofInt 8) (hueOf a)) = (a : Int) := by
  have : (Float64.isFinite (Float64.mul (Float64.ofInt 8) (hueOf a)) && truncI (Float64.mul (Float64.ofInt 8) (hueOf a)) == (a : Int)) = true := all_at mulH h
  simpa using this
section
variable {c : Cx} (hK : c.K = hd.heap_39 c.w.params)
include hK
theorem plainU {k : Nat} (h : k < 5) : plainText c 89 (nmU k) := by
  refine lt5 (P := fun k => plainText c 89 (nmU k)) h ?_ ?_ ?_ ?_ ?_ <;> (unfold plainText; rw [hK]; intro _ _; kernel_rfl)
theorem plainL {k : Nat} (h : k < 5) : plainText c 89 (nmL k) := by
  refine lt5 (P := fun k => plainText c 89 (nmL k)) h ?_ ?_ ?_ ?_ ?_ <;> (unfold plainText; rw [hK]; intro _ _; kernel_rfl)
theorem plainT {k : Nat} (h : k < 8) : plainText c 94 (txtOf k) := by
  refine lt8 (P := fun k => plainText c 94 (txtOf k)) h ?_ ?_ ?_ ?_ ?_ ?_ ?_ ?_ <;> (unfold plainText; rw [hK]; intro _ _; kernel_rfl)
omit hK
theorem txt_len {a : Nat} (h : a < 8) : (txtOf a).length ≤ 900 := by
  have : ((List.range 8).all fun a => Nat.ble (txtOf a).length 900) = true := by decide +kernel
  exact Nat.le_of_ble_eq_true (all_at this h)
/-- what the table tells of the rows -/
inductive Tab : List (PySem.Str × PySem.Str) → List (Nat × Nat) → Prop
  | nil : Tab [] []
  | snoc {es rs nm k a} : Tab es rs → k < 5 → a < 8 → (nm = nmU k ∨ nm = nmL k) → Tab (es ++ [(nm, txtOf a)]) (rs ++ [(k, a)])
theorem Tab.len {es : List (PySem.Str × PySem.Str)} {rs : List (Nat × Nat)} (h : Tab es rs) : es.length = rs.length := by
  induction h with
  | nil => rfl
  | snoc _ _ _ _ ih => simp [ih]
def rowP (r : List Ent) : List PV := r.map colP
def RowsOk (i : Nat) (rows : List (List Ent)) : Prop := rows.length = 5 ∧ (∀ r ∈ rows, r.length ≤ i ∧ ∀ e ∈ r, EntOk e) ∧ ∀ j, i ≤ j → rows.getD j [] = []
theorem RowsOk.get {i : Nat} {rows : List (List Ent)} (h : RowsOk i rows) {k : Nat} (hk : k < 5) : rows[k]? = some (rows.getD k []) ∧ (rows.getD k []).length ≤ i ∧ ∀ e ∈ rows.getD k [], EntOk e := by
  have e : rows[k]? = some (rows.getD k []) := by
    have : k < rows.length := by rw [h.1]; exact hk
    rw [List.getD_eq_getElem?_getD, List.getElem?_eq_getElem this]; rfl
  exact ⟨e, h.2.1 _ (List.mem_of_getElem? e)⟩
theorem RowsOk.put {i k p : Nat} {rows : List (List Ent)} {m : Ent} (h : RowsOk i rows) (hk : k < i) (hi : i ≤ 5) (hm : EntOk m) : RowsOk i (rows.set k ((rows.getD k []).set p m)) := by
  obtain ⟨e, h1, h2⟩ := h.get (show k < 5 by omega)
  refine ⟨by rw [List.length_set]; exact h.1, fun r hr => ?_, fun j hj => ?_⟩
  · rcases List.mem_or_eq_of_mem_set hr with hr | rfl
    · exact h.2.1 r hr
    · refine ⟨by rw [List.length_set]; exact h1, fun e he => ?_⟩
      rcases List.mem_or_eq_of_mem_set he with he | rfl
      · exact h2 e he
      · exact hm
  · have := h.2.2 j hj
    rw [List.getD_eq_getElem?_getD] at this ⊢
    rw [List.getElem?_set_ne (by omega)]
    exact this
theorem RowsOk.add {i k : Nat} {rows : List (List Ent)} {m : Ent} (h : RowsOk i rows) (hk : k ≤ i) (hi : i < 5) (hm : EntOk m) : RowsOk (i + 1) (rows.set k (rows.getD k [] ++ [m])) := by
  obtain ⟨e, h1, h2⟩ := h.get (show k < 5 by omega)
  refine ⟨by rw [List.length_set]; exact h.1, fun r hr => ?_, fun j hj => ?_⟩
  · rcases List.mem_or_eq_of_mem_set hr with hr | rfl
    · have := h.2.1 r hr
      exact ⟨by omega, this.2⟩
    · refine ⟨by rw [List.length_append, List.length_singleton]; omega, fun e he => ?_⟩
      rcases List.mem_append.mp he with he | he
      · exact h2 e he
      · rw [List.mem_singleton.mp he]; exact hm
  · have := h.2.2 j (by omega)
    rw [List.getD_eq_getElem?_getD] at this ⊢
    rw [List.getElem?_set_ne (by omega)]
    exact this
theorem plR_le {α : Type} {lv : α → Nat} {z : α} {r : List α} {m : α} : plR lv z r m ≤ r.length := bis_le _ _ _ _ (Nat.zero_le _)
theorem plL_le {α : Type} {lv : α → Nat} {z : α} {r : List α} {m : α} : plL lv z r m ≤ r.length := bis_le _ _ _ _ (Nat.zero_le _)
theorem rowsT_at {Rs : List Addr} {rows : List (List Ent)} {T : Trk} {k : Nat} {R : Addr} {r r' : List Ent} (hR : Rs[k]? = some R) (hr : rows[k]? = some r) : At R (.list (rowP r)) (.list (rowP r')) (zipT Rs (rows.map rowP) ++ T) (zipT Rs ((rows.set k r').map rowP) ++ T) := by
  rw [List.map_set]
  exact zipT_at hR (by rw [List.getElem?_map, hr]; rfl)
end
section
variable {c : Cx} (hK : c.K = hd.heap_39 c.w.params) (hlo : 0 < c.low) (hT : ToldK c) {h₀ : Heap} {n : Nat} {T T' : Trk} {H : Hold} {α : Type} {env : Env} {pos : Pos} {s : Shared}

theorem rsk_T {α : Type} {lv : α → Nat} {z : α} {f k : Nat} {rows : List (List α)} {m : α} (h : plR lv z (rows.getD k []) m < (rows.getD k []).length) : rsk lv z (f + 1) rows m k = rsk lv z f (rows.set k ((rows.getD k []).set (plR lv z (rows.getD k []) m) m)) ((rows.getD k []).getD (plR lv z (rows.getD k []) m) z) (k + 1) := by
  show (if _ then _ else _) = _
  rw [if_pos h]
theorem rsk_F {α : Type} {lv : α → Nat} {z : α} {f k : Nat} {rows : List (List α)} {m : α} (h : ¬ plR lv z (rows.getD k []) m < (rows.getD k []).length) : rsk lv z (f + 1) rows m k = (rows.set k (rows.getD k [] ++ [m]), k) := by
  show (if _ then _ else _) = _
  rw [if_neg h]
theorem rowP_len (r : List Ent) : (rowP r).length = r.length := List.length_map ..
theorem In.law {a : Addr} {o : TO} {R : Trk} {L : Addr} {fr : List (PySem.Str × PV)} {co b ta pi fa dr : Option PV} (h : In a o R) : In a o (lawT L fr co b ta pi fa dr R) := .tail (.tail (.tail (.tail (.tail (.tail (.tail h))))))
theorem At.law {a : Addr} {o o' : TO} {R R' : Trk} {L : Addr} {fr : List (PySem.Str × PV)} {co b ta pi fa dr : Option PV} (h : At a o o' R R') : At a o o' (lawT L fr co b ta pi fa dr R) (lawT L fr co b ta pi fa dr R') := .tail (.tail (.tail (.tail (.tail (.tail (.tail h))))))
include hK hlo hT in
theorem loop2 {tg it : Expr} {bd oe : List Stmt} {ps : Pos} (hst : stmtAt 3 = .For tg it bd oe ps) {L fa N X DX HL : Addr} {tk : Tok} {Rs : List Addr} {rows : List (List Ent)} {es : List (PySem.Str × PySem.Str)} {rs : List (Nat × Nat)} {e : Ent} {u : Value} {i : Nat} {sv : PV} {co b pi fl dr : Option PV} {Q : Flow → Trk → Hold → Prop}
    (he : EntOk e) (hi : i < 5) (hR : Rs.length = 5) (hr : RowsOk i rows) (ht : Tab es rs) (hrs : rs.length ≤ 100)
    (h : ∀ fr es', Tab es' (rs ++ [((rsk lvE zE 5 rows e 0).2, e.1)]) → RowsOk (i + 1) (rsk lvE zE 5 rows e 0).1 → Q .next (lawT L ((PySem.Str.ofString "script", sv) :: (PySem.Str.ofString "line", .ref N) :: (PySem.Str.ofString "rows", .lst (Rs.map .ref)) :: fr) co b (some (.ref X)) pi fl dr
      (zipT Rs ((rsk lvE zE 5 rows e 0).1.map rowP) ++ (HL, .list (es'.map entPV)) :: (X, .obj (inst 223 DX)) :: (DX, .obj (dictOf (esH c.w.params tk HL) 1)) :: T)) []) :
    W c h₀ (n + 6) (lawT L [(PySem.Str.ofString "script", sv), (PySem.Str.ofString "line", .ref N), (PySem.Str.ofString "rows", .lst (Rs.map .ref))] co b (some (.ref X)) pi fl dr
      (zipT Rs (rows.map rowP) ++ (HL, .list (es.map entPV)) :: (X, .obj (inst 223 DX)) :: (DX, .obj (dictOf (esH c.w.params tk HL) 1)) :: T)) ((colP e, u) :: H) (assign tg (lawEnv L fa) u) fun _ T₃ _ =>
      W c h₀ (n + 6) T₃ ((colP e, u) :: H) (execs bd (lawEnv L fa)) Q := by
  have hst' : Stmt.For _ _ _ _ _ = Stmt.For tg it bd oe ps := hst
  injection hst' with e1 e2 e3 e4 e5
  subst e1; subst e3
  clear hst e2 e4 e5
  obtain ⟨R0, hR0⟩ : ∃ R, Rs[0]? = some R := ⟨_, List.getElem?_eq_getElem (by omega)⟩
  obtain ⟨q0, l0, k0⟩ := hr.get (show 0 < 5 by decide)
  obtain ⟨m1, m2⟩ := mulH' he.1
  have lv0 : ∀ e' : Ent, EntOk e' → fltLt (quart e.2.1) (kfLevel (colP e')) = decide (lvE e < lvE e') := fun e' h' => by rw [kfLevel_col h']; exact levLt he h'
  have kr : ∀ (T : Trk) (H : Hold) (v : Value) (Q : Value → Trk → Hold → Prop), Den H v (colP e) → (∀ a, Q (.ref a) T [(.tup [.flt (hueOf e.1), .flt (quart e.2.2), .flt (quart e.2.1)], .ref a)]) → W c h₀ (n + 6) T H (call (.ref 234) [v] []) Q := fun T H v Q d k => kw_read (n := n + 4) hK hlo he d k
  generalize hueOf e.1 = hu at kr m1 m2
  generalize quart e.2.2 = sh at kr
  generalize quart e.2.1 = le at kr lv0
  repeat walk_at "1"
  refine kr _ _ _ _ ?_ ?_
  · walk_at "den"
  intro a
  repeat walk_at "1"
  refine SwK.mk [colP e, natPV 0] ?_ (by walk_at "ston") ?_
  · walk_at "den"
  repeat walk_at "1"
  refine W.ListCompG (cl := []) (fun v xs j outs T₂ => outs = ((rows.getD 0 []).take j).map (fun e' => PV.flt (kfLevel (colP e'))) ∧ T₂ = lawT L [(PySem.Str.ofString "script", sv), (PySem.Str.ofString "line", .ref N), (PySem.Str.ofString "rows", .lst (Rs.map .ref)), (PySem.Str.ofString "colour", colP e), (PySem.Str.ofString "hue", .flt hu), (PySem.Str.ofString "share", .flt sh), (PySem.Str.ofString "level", .flt le), (PySem.Str.ofString "k", natPV 0), (PySem.Str.ofString "moved", colP e)] co b (some (.ref X)) pi fl dr
      (zipT Rs (rows.map rowP) ++ (HL, .list (es.map entPV)) :: (X, .obj (inst 223 DX)) :: (DX, .obj (dictOf (esH c.w.params tk HL) 1)) :: T)) rfl ?_
  repeat walk_at "1"
  refine W.getItem (i := 0) (p := .ref R0) (.lst (by walk_at "den")) rfl (by decide) (by rw [List.getElem?_map, hR0]; rfl) ?_
  repeat walk_at "1"
  have i0 := zipT_in (T := (HL, .list (es.map entPV)) :: (X, .obj (inst 223 DX)) :: (DX, .obj (dictOf (esH c.w.params tk HL) 1)) :: T) hR0 (show (rows.map rowP)[0]? = some (rowP (rows.getD 0 [])) by rw [List.getElem?_map, q0]; rfl)
  refine ⟨rowP (rows.getD 0 []), _, .own (by walk_at "in"), by unfold rowP; rw [List.length_map]; omega, ⟨by simp, rfl⟩, ?_, ?_, ?_⟩
  · rintro j outs T₂ C D m ⟨-, rfl⟩
    exact .tail (.tail (In.law i0))
  · rintro j x outs T₂ hx ⟨rfl, rfl⟩ h₁ u C D
    obtain ⟨e', he', rfl⟩ := map_get hx
    have ok' : EntOk e' := k0 e' (List.mem_of_getElem? he')
    have htk : (rows.getD 0 []).take (j + 1) = (rows.getD 0 []).take j ++ [e'] := by rw [List.take_add_one, he']; rfl
    repeat walk_at "1"
    refine W.tests_nil ?_
    repeat walk_at "1"
    refine kw_level (n := n + 3) hK hlo ok' _ _ _ _ _ ?_ ?_
    · walk_at "den"
    intro t ht
    repeat walk_at "1"
    exact ⟨.flt (kfLevel (colP e')), _, _, .refl _, .flt ht, by rw [htk, List.map_append]; rfl, rfl⟩
  rintro outs T₂ ⟨eo, rfl⟩ D
  obtain rfl : outs = (rows.getD 0 []).map (fun e' => PV.flt (kfLevel (colP e'))) := by rw [eo]; unfold rowP; simp
  repeat walk_at "1"
  rename_i tl htl
  refine k_bisN (n := n + 5) hK hlo (av := .ref D) (xv := .float le tl) (tk := 304) (pa := .lst ((rows.getD 0 []).map (fun e' => PV.flt (kfLevel (colP e'))))) (x := le) (fun i => decide (lvE e < lvE ((rows.getD 0 []).getD i zE))) (fun S => by rw [hK]; kernel_rfl) ?_ .lst ?_ ?_ ?_ (r := plR lvE zE (rows.getD 0 []) e) (by rw [List.length_map]; rfl) ?_
  · walk_at "den"
  · rw [List.length_map]; omega
  · walk_at "den"
  · intro j p hp
    obtain ⟨e', he', rfl⟩ := map_get hp
    exact ⟨_, rfl, by rw [lv0 e' (k0 e' (List.mem_of_getElem? he')), List.getD_eq_getElem?_getD, he']; rfl⟩
  intro t
  repeat walk_at "1"
  refine W.WhileG (fun m T₁ => ∃ (rw : List (List Ent)) (k : Nat) (mv : Ent), m = 5 - k ∧ k ≤ i ∧ EntOk mv ∧ RowsOk i rw ∧ rsk lvE zE (5 - k) rw mv k = rsk lvE zE 5 rows e 0 ∧
    T₁ = lawT L [(PySem.Str.ofString "script", sv), (PySem.Str.ofString "line", .ref N), (PySem.Str.ofString "rows", .lst (Rs.map .ref)), (PySem.Str.ofString "colour", colP e), (PySem.Str.ofString "hue", .flt hu), (PySem.Str.ofString "share", .flt sh), (PySem.Str.ofString "level", .flt le), (PySem.Str.ofString "k", natPV k), (PySem.Str.ofString "moved", colP mv), (PySem.Str.ofString "place", natPV (plR lvE zE (rw.getD k []) mv))] co b (some (.ref X)) pi fl dr
      (zipT Rs (rw.map rowP) ++ (HL, .list (es.map entPV)) :: (X, .obj (inst 223 DX)) :: (DX, .obj (dictOf (esH c.w.params tk HL) 1)) :: T)) ?_ 5 ⟨rows, 0, e, rfl, Nat.zero_le _, he, hr, rfl, rfl⟩
  rintro m T₁ ⟨rw, k, mv, rfl, hk, hmv, hrw, hrsk, rfl⟩
  obtain ⟨Rk, hRk⟩ : ∃ R, Rs[k]? = some R := ⟨_, List.getElem?_eq_getElem (by omega)⟩
  have hRk' : (Rs.map PV.ref)[k]? = some (.ref Rk) := by rw [List.getElem?_map, hRk]; rfl
  obtain ⟨qk, lk, kk⟩ := hrw.get (show k < 5 by omega)
  have ik := zipT_in (T := (HL, .list (es.map entPV)) :: (X, .obj (inst 223 DX)) :: (DX, .obj (dictOf (esH c.w.params tk HL) 1)) :: T) hRk (show (rw.map rowP)[k]? = some (rowP (rw.getD k [])) by rw [List.getElem?_map, qk]; rfl)
  repeat walk_at "1"
  refine W.getItem (i := k) (p := .ref Rk) (.lst (by walk_at "den")) rfl (by omega) hRk' ?_
  repeat walk_at "1"
  refine W.lenN (l := rowP (rw.getD k [])) (.own rfl (by walk_at "in")) (rowP_len _) (Nat.le_trans lk (Nat.le_trans (Nat.le_of_lt hi) (by decide))) fun _ => ?_
  repeat walk_at "1"
  with_reducible refine iteB (fun hlt => ?_) fun hlt => ?_
  · have hlt' : plR lvE zE (rw.getD k []) mv < (rw.getD k []).length := by have := of_decide_eq_true hlt; omega
    have hki : k < i := by
      rcases Nat.lt_or_ge k i with h' | h'
      · exact h'
      · have := hrw.2.2 k h'
        rw [this] at hlt'
        exact absurd hlt' (Nat.not_lt_zero _)
    obtain ⟨hv, ehv⟩ : ∃ hv, (rw.getD k [])[plR lvE zE (rw.getD k []) mv]? = some hv := ⟨_, List.getElem?_eq_getElem hlt'⟩
    have ehv' : (rw.getD k []).getD (plR lvE zE (rw.getD k []) mv) zE = hv := by rw [List.getD_eq_getElem?_getD, ehv]; rfl
    have okh : EntOk hv := kk hv (List.mem_of_getElem? ehv)
    have hrw1 := hrw.put (p := plR lvE zE (rw.getD k []) mv) hki (by omega) hmv
    obtain ⟨R1, hR1⟩ : ∃ R, Rs[k + 1]? = some R := ⟨_, List.getElem?_eq_getElem (by omega)⟩
    have hR1' : (Rs.map PV.ref)[k + 1]? = some (.ref R1) := by rw [List.getElem?_map, hR1]; rfl
    have hrsk1 : rsk lvE zE (5 - (k + 1)) (rw.set k ((rw.getD k []).set (plR lvE zE (rw.getD k []) mv) mv)) hv (k + 1) = rsk lvE zE 5 rows e 0 := by
      rw [← hrsk, show 5 - k = (5 - (k + 1)) + 1 from (Nat.sub_add_cancel (Nat.sub_pos_of_lt (Nat.lt_trans hki hi))).symm, rsk_T hlt', ehv']
    have hat := rowsT_at (T := (HL, .list (es.map entPV)) :: (X, .obj (inst 223 DX)) :: (DX, .obj (dictOf (esH c.w.params tk HL) 1)) :: T) (r' := (rw.getD k []).set (plR lvE zE (rw.getD k []) mv) mv) hRk qk
    generalize hp : plR lvE zE (rw.getD k []) mv = pl at *
    generalize hrw2 : rw.set k ((rw.getD k []).set pl mv) = rw2 at *
    obtain ⟨q1, l1, k1⟩ := hrw1.get (show k + 1 < 5 by omega)
    have i1 := zipT_in (T := (HL, .list (es.map entPV)) :: (X, .obj (inst 223 DX)) :: (DX, .obj (dictOf (esH c.w.params tk HL) 1)) :: T) hR1 (show (rw2.map rowP)[k + 1]? = some (rowP (rw2.getD (k + 1) [])) by rw [List.getElem?_map, q1]; rfl)
    repeat walk_at "1"
    refine W.getItem (i := k) (p := .ref Rk) (.lst (by walk_at "den")) rfl (by omega) hRk' ?_
    repeat walk_at "1"
    refine W.getItem (i := pl) (p := colP hv) (l := rowP (rw.getD k [])) (.own rfl (by walk_at "in")) rfl (by omega) (by unfold rowP; rw [List.getElem?_map, ehv]; rfl) ?_
    repeat walk_at "1"
    refine W.getItem (i := k) (p := .ref Rk) (.lst (by walk_at "den")) rfl (by omega) hRk' ?_
    repeat walk_at "1"
    have hat' : At Rk (.list (rowP (rw.getD k []))) (.list ((rowP (rw.getD k [])).set pl (colP mv))) (zipT Rs (rw.map rowP) ++ (HL, .list (es.map entPV)) :: (X, .obj (inst 223 DX)) :: (DX, .obj (dictOf (esH c.w.params tk HL) 1)) :: T) (zipT Rs (rw2.map rowP) ++ (HL, .list (es.map entPV)) :: (X, .obj (inst 223 DX)) :: (DX, .obj (dictOf (esH c.w.params tk HL) 1)) :: T) := by
      have : rowP ((rw.getD k []).set pl mv) = (rowP (rw.getD k [])).set pl (colP mv) := by unfold rowP; rw [List.map_set]
      rw [← this]; exact hat
    refine W.setItem (k := pl) (l := rowP (rw.getD k [])) (p := colP mv) ?_ rfl (by rw [rowP_len]; exact hlt') (by rw [rowP_len]; omega) (.law hat') ?_
    · walk_at "den"
    repeat walk_at "1"
    refine SwK.mk [colP hv, .int ((k : Int) + 1)] ?_ (by walk_at "ston") ?_
    · walk_at "den"
    repeat walk_at "1"
    refine W.getItem (i := k + 1) (p := .ref R1) (.lst (by walk_at "den")) rfl (by omega) hR1' ?_
    repeat walk_at "1"
    refine kw_level (n := n + 3) hK hlo okh _ _ _ _ _ ?_ ?_
    · walk_at "den"
    intro tl htl
    repeat walk_at "1"
    refine k_bisR (n := n + 5) hK hlo (fa := 241) (av := .ref R1) (xv := .float (kfLevel (colP hv)) tl) (tk := 304) (pa := .ref R1) (xs := rowP (rw2.getD (k + 1) [])) (x := kfLevel (colP hv)) (kf := kfLevel) (fun i => decide (lvE hv < lvE ((rw2.getD (k + 1) []).getD i zE))) (fun S => by rw [hK]; kernel_rfl) ?_ (.own (In.law i1)) ?_ ?_ (by rw [hK]; rfl) ?_ (r := plR lvE zE (rw2.getD (k + 1) []) hv) (by rw [rowP_len]; rfl) ?_
    · walk_at "den"
    · rw [rowP_len]; omega
    · walk_at "den"
    · intro j p hp
      obtain ⟨e', he', rfl⟩ := map_get hp
      have ok' : EntOk e' := k1 e' (List.mem_of_getElem? he')
      refine ⟨?_, fun h₀ T H v Q d q => kw_level (n := n + 2) hK hlo ok' h₀ T H v Q d q⟩
      rw [kfLevel_col okh, kfLevel_col ok', levLt okh ok', List.getD_eq_getElem?_getD, he']; rfl
    intro t
    repeat walk_at "1"
    refine ⟨5 - (k + 1), _, Nat.sub_lt_sub_left (Nat.lt_trans hki hi) (Nat.lt_succ_self k), ⟨rw2, k + 1, hv, rfl, hki, okh, hrw1, hrsk1, rfl⟩, ?_⟩
    exact Wk.weak (.frame .refl)
  have hge : ¬ plR lvE zE (rw.getD k []) mv < (rw.getD k []).length := by have := of_decide_eq_false hlt; omega
  have hfin : rsk lvE zE 5 rows e 0 = (rw.set k (rw.getD k [] ++ [mv]), k) := by
    rw [← hrsk, show 5 - k = (4 - k) + 1 from Nat.succ_sub (Nat.le_trans hk (Nat.le_of_lt_succ hi)), rsk_F hge]
  rw [hfin] at h
  have hok' := hrw.add (m := mv) hk hi hmv
  have hat : At Rk (.list (rowP (rw.getD k []))) (.list (rowP (rw.getD k []) ++ [colP mv])) (zipT Rs (rw.map rowP) ++ (HL, .list (es.map entPV)) :: (X, .obj (inst 223 DX)) :: (DX, .obj (dictOf (esH c.w.params tk HL) 1)) :: T) (zipT Rs ((rw.set k (rw.getD k [] ++ [mv])).map rowP) ++ (HL, .list (es.map entPV)) :: (X, .obj (inst 223 DX)) :: (DX, .obj (dictOf (esH c.w.params tk HL) 1)) :: T) := by
    have : rowP (rw.getD k [] ++ [mv]) = rowP (rw.getD k []) ++ [colP mv] := by unfold rowP; rw [List.map_append]; rfl
    rw [← this]; exact rowsT_at hRk qk
  repeat walk_at "1"
  refine W.getItem (i := k) (p := .ref Rk) (.lst (by walk_at "den")) rfl (by omega) hRk' ?_
  repeat walk_at "1"
  refine W.append (p := colP mv) ?_ (.law hat) (by rw [rowP_len]; omega) ?_
  · walk_at "den"
  generalize hrwf : rw.set k (rw.getD k [] ++ [mv]) = rwf at *
  have ix : In X (.obj (inst 223 DX)) (zipT Rs (rwf.map rowP) ++ (HL, .list (es.map entPV)) :: (X, .obj (inst 223 DX)) :: (DX, .obj (dictOf (esH c.w.params tk HL) 1)) :: T) := In.app (.tail .head) _
  have idx : In DX (.obj (dictOf (esH c.w.params tk HL) 1)) (zipT Rs (rwf.map rowP) ++ (HL, .list (es.map entPV)) :: (X, .obj (inst 223 DX)) :: (DX, .obj (dictOf (esH c.w.params tk HL) 1)) :: T) := In.app (.tail (.tail .head)) _
  repeat walk_at "1"
  refine W.inTup hT (by assumption) rfl (by walk_at "den") fun bq => ?_
  have hk5 : k < 5 := by omega
  have key : ∀ nm, (nm = nmU k ∨ nm = nmL k) → ∀ fr, Q .next (lawT L ((PySem.Str.ofString "script", sv) :: (PySem.Str.ofString "line", .ref N) :: (PySem.Str.ofString "rows", .lst (Rs.map .ref)) :: fr) co b (some (.ref X)) pi fl dr
      (zipT Rs (rwf.map rowP) ++ (HL, .list ((es ++ [(nm, txtOf e.1)]).map entPV)) :: (X, .obj (inst 223 DX)) :: (DX, .obj (dictOf (esH c.w.params tk HL) 1)) :: T)) [] := fun nm hnm fr => h fr _ (.snoc ht hk5 he.1 hnm) hok'
  have hel : (es.map entPV).length ≤ 900 := by rw [List.length_map, ht.len]; omega
  cases bq with
  | true =>
    repeat walk_at "1"
    refine W.chrN (k := k + 65) rfl (Nat.le_trans (Nat.add_le_add_right (Nat.le_of_lt hk5) 65) (by decide)) fun t => ?_
    repeat walk_at "1"
    refine W.mul_if (by decide +kernel) hlo fun _ _ => ?_
    repeat walk_at "1"
    refine W.intFE m1 m2 fun t => ?_
    repeat walk_at "1"
    refine W.strI (Nat.lt_of_le_of_lt (Nat.log2_le_self _) (by have := he.1; omega)) fun _ => ?_
    repeat walk_at "1"
    refine k_add (n := n + 4) hK hlo (nm := nmU k) (vl := txtOf e.1) (l := es.map entPV) .str .str (plainU hK hk5) (plainT hK he.1) (txt_len he.1) hel (In.law ix) (In.law idx) (.law (At.app .head _)) ?_
    repeat walk_at "1"
    have := key (nmU k) (.inl rfl)
    rw [List.map_append] at this
    exact this _
  | false =>
    repeat walk_at "1"
    refine W.chrN (k := k + 97) rfl (Nat.le_trans (Nat.add_le_add_right (Nat.le_of_lt hk5) 97) (by decide)) fun t => ?_
    repeat walk_at "1"
    refine W.mul_if (by decide +kernel) hlo fun _ _ => ?_
    repeat walk_at "1"
    refine W.intFE m1 m2 fun t => ?_
    repeat walk_at "1"
    refine W.strI (Nat.lt_of_le_of_lt (Nat.log2_le_self _) (by have := he.1; omega)) fun _ => ?_
    repeat walk_at "1"
    refine k_add (n := n + 4) hK hlo (nm := nmL k) (vl := txtOf e.1) (l := es.map entPV) .str .str (plainL hK hk5) (plainT hK he.1) (txt_len he.1) hel (In.law ix) (In.law idx) (.law (At.app .head _)) ?_
    repeat walk_at "1"
    have := key (nmL k) (.inr rfl)
    rw [List.map_append] at this
    exact this _
end
theorem picksOf_snoc (l : List (Nat × Nat)) (x : Nat × Nat) : picksOf (l ++ [x]) = pickStep (picksOf l) x := by unfold picksOf; rw [List.foldl_append]; rfl
def PkOk (k : Nat) (p : Pick) : Prop := p.1.length = p.2.length ∧ p.1.length ≤ k
theorem extP_ok {k : Nat} {p : Pick} {x : Nat × Nat} (h : PkOk k p) : PkOk (k + 1) (extP p x) := by
  unfold PkOk extP at *
  simp only [List.length_append, List.length_singleton]
  omega
theorem picks_inv : ∀ (l : List (Nat × Nat)), l.length ≤ 5 → (picksOf l).length ≤ 31 ∧ (picksOf l).length + 1 = 2 ^ l.length ∧ ∀ p ∈ picksOf l, PkOk l.length p := by
  intro l
  induction hn : l.length generalizing l with
  | zero =>
    intro _
    have : l = [] := List.length_eq_zero_iff.mp hn
    subst this
    exact ⟨by decide, rfl, fun p hp => nomatch hp⟩
  | succ k ih =>
    intro h5
    have hne : l ≠ [] := fun e => by rw [e] at hn; cases hn
    obtain ⟨l', x, rfl⟩ : ∃ l' x, l = l' ++ [x] := ⟨l.dropLast, l.getLast hne, (List.dropLast_concat_getLast hne).symm⟩
    have hk : l'.length = k := by simpa using hn
    obtain ⟨h1, h2, h3⟩ := ih l' hk (by omega)
    rw [picksOf_snoc]
    have e : (pickStep (picksOf l') x).length + 1 = 2 ^ (k + 1) := by
      unfold pickStep
      rw [List.length_append, List.length_map, List.length_cons, Nat.pow_succ]; omega
    refine ⟨?_, e, fun p hp => ?_⟩
    · have : 2 ^ (k + 1) ≤ 2 ^ 5 := Nat.pow_le_pow_right (by decide) h5
      omega
    · unfold pickStep at hp
      rcases List.mem_append.mp hp with hp | hp
      · have := h3 p hp
        exact ⟨this.1, by have := this.2; omega⟩
      · obtain ⟨p', hp', rfl⟩ := List.mem_map.mp hp
        refine extP_ok ?_
        rcases List.mem_cons.mp hp' with rfl | hp'
        · exact ⟨rfl, Nat.zero_le _⟩
        · exact h3 p' hp'
theorem rngPV_get {k j : Nat} {x : PV} (h : (rngPV k)[j]? = some x) : j < k ∧ x = natPV j := by
  obtain ⟨j', hj', rfl⟩ := map_get h
  have hlt : j < k := by simpa using (List.getElem?_eq_some_iff.mp hj').1
  rw [List.getElem?_range hlt] at hj'; cases hj'
  exact ⟨hlt, rfl⟩

section
variable {c : Cx} (hK : c.K = hd.heap_39 c.w.params) (hlo : 0 < c.low) (hT : ToldK c) {h₀ : Heap} {n : Nat} {T T' : Trk} {H : Hold} {α : Type} {env : Env} {pos : Pos} {s : Shared}

include hK hlo hT in
theorem loop3 {st : Stmt} (hst : stmtAt 5 = st) {L fa P D X : Addr} {sv li ro : PV} {co b : Option PV} {ds srt : List (Nat × Nat)} {q : Array Nat} {Q : Flow → Trk → Hold → Prop}
    (iD : In D (.list (ds.map pairPV)) T) (hds : ds.length = 5) (hq : runT (pairLt ds) (kas_sort 5) = some q) (hq5 : ∀ i ∈ q.toList, i < 5) (hqs : q.toList.map (fun i => ds.getD i (0, 0)) = srt) (hs5 : srt.length = 5)
    (h : Q .next (lawT L [(PySem.Str.ofString "script", sv), (PySem.Str.ofString "line", li), (PySem.Str.ofString "rows", ro), (PySem.Str.ofString "picks", .ref P)] co none (some (.ref X)) none none (some (.ref D)) ((P, .list ((picksOf srt).map pickPV)) :: T)) []) :
    W c h₀ (n + 6) (lawT L [(PySem.Str.ofString "script", sv), (PySem.Str.ofString "line", li), (PySem.Str.ofString "rows", ro), (PySem.Str.ofString "picks", .ref P)] co b (some (.ref X)) none none (some (.ref D)) ((P, .list []) :: T)) H (exec st (lawEnv L fa)) Q := by
  have hst' : Stmt.For _ _ _ _ _ = st := hst
  subst hst'
  clear hst
  refine W.ForWG (fun v xs i T₂ => T₂ = lawT L [(PySem.Str.ofString "script", sv), (PySem.Str.ofString "line", li), (PySem.Str.ofString "rows", ro), (PySem.Str.ofString "picks", .ref P)] co none (some (.ref X)) none none (some (.ref D)) ((P, .list ((picksOf (srt.take i)).map pickPV)) :: T)) ?_
  repeat walk_at "1"
  refine W.sortedT (L := L) .head (In.law (.tail iD)) hds hq hq5 fun a => ?_
  have e0 : (q.toList.map fun i => pairPV (ds.getD i (0, 0))) = srt.map pairPV := by rw [← hqs, List.map_map]; rfl
  rw [e0]
  refine ⟨srt.map pairPV, .lst (by walk_at "den"), ⟨_, rfl, Wk.weak (.keep (.keep (.cell .refl)))⟩, ?_, ?_⟩
  · rintro i x T₂ hx rfl h₁ u Q' hQ'
    have key := fun T N h => hQ' .next T N h
    dsimp only [FwB, FoB] at key
    clear hQ'
    obtain ⟨y, hy, rfl⟩ : ∃ y, srt[i]? = some y ∧ PV.tup [natPV y.1, natPV y.2] = x := map_get hx
    have hi : i < 5 := by have := (List.getElem?_eq_some_iff.mp hy).1; omega
    have htk : srt.take (i + 1) = srt.take i ++ [y] := by rw [List.take_add_one, hy]; rfl
    obtain ⟨p1, -, p3⟩ := picks_inv (srt.take i) (by rw [List.length_take]; omega)
    have hlen : (srt.take i).length ≤ 5 := by rw [List.length_take]; omega
    rw [htk, picksOf_snoc] at key
    generalize picksOf (srt.take i) = ps at *
    repeat walk_at "1"
    refine W.ForWG (fun v xs j T₂ => T₂ = lawT L [(PySem.Str.ofString "script", sv), (PySem.Str.ofString "line", li), (PySem.Str.ofString "rows", ro), (PySem.Str.ofString "picks", .ref P), (PySem.Str.ofString "a", natPV y.1)] co (some (natPV y.2)) (some (.ref X)) none none (some (.ref D)) ((P, .list ((ps ++ ((([], []) :: ps).take j).map fun p => extP p y).map pickPV)) :: T)) ?_
    repeat walk_at "1"
    apply W.newList'
    · size_fits
    · exact .nil
    repeat walk_at "1"
    apply W.newList'
    · size_fits
    · exact .nil
    repeat walk_at "1"
    apply W.newList'
    · size_fits
    · walk_at "denl"
    repeat walk_at "1"
    refine W.addLists (l := [pickPV ([], [])]) (l₂ := ps.map pickPV) (.lst (by walk_at "den")) (.own rfl (by walk_at "in")) (by rw [List.length_map]; show 1 + _ ≤ _; omega) fun a' => ?_
    refine ⟨(([], []) :: ps).map pickPV, .lst (by walk_at "den"), ⟨_, by rw [List.take_zero, List.map_nil, List.append_nil]; rfl, .refl⟩, ?_, ?_⟩
    · rintro j x T₂ hx rfl h₁ u Q'' hQ''
      have key' := fun T N h => hQ'' .next T N h
      dsimp only [FwB, FoB] at key'
      clear hQ''
      obtain ⟨p, hp, rfl⟩ : ∃ p, (([], []) :: ps : List Pick)[j]? = some p ∧ PV.tup [.lst (p.1.map pairPV), .lst (p.2.map natPV)] = x := map_get hx
      have hpk : PkOk 5 p := by
        have := List.mem_of_getElem? hp
        rcases List.mem_cons.mp this with rfl | this
        · exact ⟨rfl, Nat.zero_le _⟩
        · have := p3 p this
          exact ⟨this.1, by have := this.2; omega⟩
      have hj : j < ps.length + 1 := by simpa using (List.getElem?_eq_some_iff.mp hp).1
      have htk : (([], []) :: ps : List Pick).take (j + 1) = (([], []) :: ps : List Pick).take j ++ [p] := by rw [List.take_add_one, hp]; rfl
      have htk' : ps ++ ((([], []) :: ps : List Pick).take (j + 1)).map (fun p => extP p y) = (ps ++ ((([], []) :: ps : List Pick).take j).map fun p => extP p y) ++ [extP p y] := by rw [htk, List.map_append, List.append_assoc]; rfl
      have hl : (ps ++ ((([], []) :: ps : List Pick).take j).map fun p => extP p y).length ≤ 63 := by rw [List.length_append, List.length_map, List.length_take]; omega
      rw [htk'] at key'
      generalize (ps ++ ((([], []) :: ps : List Pick).take j).map fun p => extP p y) = cur at *
      clear htk htk'
      repeat walk_at "1"
      apply W.newList'
      · size_fits
      · exact .cons .int .nil
      repeat walk_at "1"
      refine W.ListCompG (cl := [(PySem.Str.ofString "pick", L + 1 + 1 + 1 + 1), (PySem.Str.ofString "falls", L + 1 + 1 + 1 + 1 + 1), (PySem.Str.ofString "b", L + 1 + 1)]) (fun v xs k outs T₂ => outs = (((List.range p.1.length).take k).filter fun i => decide ((p.1.getD i (0, 0)).2 > y.2)).map (fun i => natPV (p.2.getD i 0)) ∧
        T₂ = lawT L [(PySem.Str.ofString "script", sv), (PySem.Str.ofString "line", li), (PySem.Str.ofString "rows", ro), (PySem.Str.ofString "picks", .ref P), (PySem.Str.ofString "a", natPV y.1)] co (some (natPV y.2)) (some (.ref X)) (some (.lst (p.1.map pairPV))) (some (.lst (p.2.map natPV))) (some (.ref D)) ((P, .list (cur.map pickPV)) :: T)) rfl ?_
      repeat walk_at "1"
      refine W.lenN (l := p.1.map pairPV) (.lst (by walk_at "den")) (List.length_map ..) (Nat.le_trans hpk.2 (by decide)) fun _ => ?_
      repeat walk_at "1"
      refine W.range (k := p.1.length) rfl fun a t u v => ?_
      refine ⟨rngPV p.1.length, _, .rng (by walk_at "den") (by have := hpk.2; omega), by have := hpk.2; simp [rngPV]; omega, ⟨by simp, rfl⟩, fun _ _ _ _ _ _ _ => trivial, ?_, ?_⟩
      · rintro k x outs T₂ hx ⟨rfl, rfl⟩ h₁ u C Dq
        obtain ⟨hk, rfl⟩ := rngPV_get hx
        obtain ⟨pk, hpk'⟩ : ∃ pk, p.1[k]? = some pk := ⟨_, List.getElem?_eq_getElem hk⟩
        obtain ⟨fk, hfk⟩ : ∃ fk, p.2[k]? = some fk := ⟨_, List.getElem?_eq_getElem (by rw [← hpk.1]; exact hk)⟩
        have g1 : p.1.getD k (0, 0) = pk := by rw [List.getD_eq_getElem?_getD, hpk']; rfl
        have g2 : p.2.getD k 0 = fk := by rw [List.getD_eq_getElem?_getD, hfk]; rfl
        have htk : (List.range p.1.length).take (k + 1) = (List.range p.1.length).take k ++ [k] := by rw [List.take_add_one, List.getElem?_range hk]; rfl
        have k5 : k < 5 := by have := hpk.2; omega
        repeat walk_at "1"
        refine W.tests_one ?_
        repeat walk_at "1"
        refine W.getItem (i := k) (p := .tup [natPV pk.1, natPV pk.2]) (.lst (by walk_at "den")) rfl (by omega) (by rw [List.getElem?_map, hpk']; rfl) ?_
        repeat walk_at "1"
        cases hb : decide ((pk.2 : Int) > (y.2 : Int)) with
        | true =>
          have hb' : decide ((p.1.getD k (0, 0)).2 > y.2) = true := by rw [g1]; have := of_decide_eq_true hb; exact decide_eq_true (by omega)
          repeat walk_at "1"
          refine W.itemN (l := p.2) (.lst (by walk_at "den")) (by omega) hfk fun _ => ?_
          repeat walk_at "1"
          refine ⟨natPV fk, _, _, .refl _, .int, ?_, rfl⟩
          have ff : [k].filter (fun i => decide ((p.1.getD i (0, 0)).2 > y.2)) = [k] := by
            show (match decide ((p.1.getD k (0, 0)).2 > y.2) with | true => k :: [] | false => []) = [k]
            rw [hb']
          rw [htk, List.filter_append, List.map_append, ff, List.map_cons, g2]; rfl
        | false =>
          have hb' : decide ((p.1.getD k (0, 0)).2 > y.2) = false := by rw [g1]; have := of_decide_eq_false hb; exact decide_eq_false (by omega)
          have ff : [k].filter (fun i => decide ((p.1.getD i (0, 0)).2 > y.2)) = [] := by
            show (match decide ((p.1.getD k (0, 0)).2 > y.2) with | true => k :: [] | false => []) = []
            rw [hb']
          repeat walk_at "1"
          refine ⟨_, _, .refl _, ?_, rfl⟩
          rw [htk, List.filter_append, List.map_append, ff, List.map_nil, List.append_nil]
      rintro outs T₂ ⟨eo, rfl⟩ Dq
      obtain rfl : outs = (((List.range p.1.length).filter fun i => decide ((p.1.getD i (0, 0)).2 > y.2)).map (fun i => p.2.getD i 0)).map natPV := by
        rw [eo, List.map_map]
        have : (List.range p.1.length).take (rngPV p.1.length).length = List.range p.1.length := by simp [rngPV]
        rw [this]; rfl
      have hfl : (((List.range p.1.length).filter fun i => decide ((p.1.getD i (0, 0)).2 > y.2)).map (fun i => p.2.getD i 0)).length ≤ 5 := by
        rw [List.length_map]
        refine Nat.le_trans (List.length_filter_le ..) ?_
        rw [List.length_range]; exact hpk.2
      have hex : extP p y = (p.1 ++ [y], p.2 ++ [1 + mx (0 :: (((List.range p.1.length).filter fun i => decide ((p.1.getD i (0, 0)).2 > y.2)).map fun i => p.2.getD i 0))]) := rfl
      rw [hex] at key'
      generalize (((List.range p.1.length).filter fun i => decide ((p.1.getD i (0, 0)).2 > y.2)).map fun i => p.2.getD i 0) = fl at *
      repeat walk_at "1"
      refine W.addLists (l := [natPV 0]) (l₂ := fl.map natPV) (.lst (by walk_at "den")) (.lst (by walk_at "den")) (by rw [List.length_map]; show 1 + _ ≤ _; omega) fun a' => ?_
      repeat walk_at "1"
      refine W.maxN (l := 0 :: fl) (.lst (by walk_at "den")) (by simp) fun _ => ?_
      repeat walk_at "1"
      apply W.newList'
      · size_fits
      · refine .cons (p := pairPV y) ?_ .nil
        walk_at "den"
      repeat walk_at "1"
      refine W.addLists (l := p.1.map pairPV) (l₂ := [pairPV y]) (.lst (by walk_at "den")) (.lst (by walk_at "den")) (by rw [List.length_map]; have := hpk.2; show _ + 1 ≤ _; omega) fun a' => ?_
      repeat walk_at "1"
      apply W.newList'
      · size_fits
      · exact .cons (p := natPV (1 + mx (0 :: fl))) .int .nil
      repeat walk_at "1"
      refine W.addLists (l := p.2.map natPV) (l₂ := [natPV (1 + mx (0 :: fl))]) (.lst (by walk_at "den")) (.lst (by walk_at "den")) (by rw [List.length_map]; have := hpk.2; have := hpk.1; show _ + 1 ≤ _; omega) fun a' => ?_
      repeat walk_at "1"
      have eP : pickPV (p.1 ++ [y], p.2 ++ [1 + mx (0 :: fl)]) = .tup [.lst (p.1.map pairPV ++ [pairPV y]), .lst (p.2.map natPV ++ [natPV (1 + mx (0 :: fl))])] := by
        show PV.tup [.lst ((p.1 ++ [y]).map pairPV), .lst ((p.2 ++ [1 + mx (0 :: fl)]).map natPV)] = _
        rw [List.map_append, List.map_append]; rfl
      refine W.append (p := .tup [.lst (p.1.map pairPV ++ [pairPV y]), .lst (p.2.map natPV ++ [natPV (1 + mx (0 :: fl))])]) (by walk_at "den") (by walk_at "at") (by rw [List.length_map]; omega) ?_
      repeat walk_at "1"
      have eQ : (cur ++ [(p.1 ++ [y], p.2 ++ [1 + mx (0 :: fl)])]).map pickPV = cur.map pickPV ++ [.tup [.lst (p.1.map pairPV ++ [pairPV y]), .lst (p.2.map natPV ++ [natPV (1 + mx (0 :: fl))])]] := by
        rw [List.map_append, ← eP]; rfl
      refine key' _ _ ⟨_, rfl, ?_⟩
      rw [eQ]
      exact Wk.weak (.frame (.keep (.keep (.keep (.cell (.cell .refl))))))
    rintro T₂ rfl
    have e9 : (([], []) :: ps : List Pick).take ((([], []) :: ps : List Pick).map pickPV).length = ([], []) :: ps := by simp
    rw [e9]
    repeat walk_at "1"
    exact key _ _ ⟨_, rfl, Wk.weak (.frame (.keep (.cell .refl)))⟩
  rintro T₂ rfl
  repeat walk_at "1"
  have : srt.take (srt.map pairPV).length = srt := by simp
  rw [this]
  exact h
end
theorem dep_map {α : Type} {f : α → PV} {k : Nat} : ∀ {l : List α}, (∀ x ∈ l, dep (f x) ≤ k) → depL (l.map f) ≤ k
  | [], _ => by simp [depL]
  | x :: l, h => by
    show max (dep (f x)) (depL (l.map f)) ≤ k
    have h1 := h x (List.mem_cons_self ..)
    have h2 := dep_map (l := l) fun y hy => h y (List.mem_cons_of_mem _ hy)
    omega
theorem same_map {α : Type} {f g : α → PV} : ∀ {l : List α}, (∀ x ∈ l, same (f x) (g x) = true) → sameL (l.map f) (l.map g) = true
  | [], _ => rfl
  | x :: l, h => by
    show (same (f x) (g x) && sameL (l.map f) (l.map g)) = true
    rw [h x (List.mem_cons_self ..), same_map (l := l) fun y hy => h y (List.mem_cons_of_mem _ hy)]; rfl
def lev4 (e : Ent) : PV := .flt (Float64.mul (Float64.ofInt 4) (kfLevel (colP e)))
theorem four' : ((List.range 5).all fun b => Float64.cmpInt (Float64.mul (Float64.ofInt 4) (quart b)) (b : Int) == some Ordering.eq) = true := by decide +kernel
theorem four {e : Ent} (h : EntOk e) : same (lev4 e) (natPV (lvE e)) = true := by
  have : (Float64.cmpInt (Float64.mul (Float64.ofInt 4) (quart e.2.1)) ((e.2.1 : Nat) : Int) == some Ordering.eq) = true := all_at four' (Nat.lt_succ_of_le h.2.1.2)
  show (Float64.cmpInt (Float64.mul (Float64.ofInt 4) (kfLevel (colP e))) ((e.2.1 : Nat) : Int) == some Ordering.eq) = true
  rw [kfLevel_col h]; exact this
/-- the rows' levels, by four -/
def levs (rows : List (List Ent)) : List PV := rows.map fun r => .lst (r.map lev4)

section
variable {c : Cx} (hK : c.K = hd.heap_39 c.w.params) (hlo : 0 < c.low) (hT : ToldK c) {h₀ : Heap} {n : Nat} {T T' : Trk} {H : Hold} {α : Type} {env : Env} {pos : Pos} {s : Shared}

include hK hlo hT in
theorem cmp1 {st : Stmt} (hst : stmtAt 6 = st) {L fa P : Addr} {sv li : PV} {co b ta pi fl dr : Option PV} {Rs : List Addr} {rows : List (List Ent)} {i : Nat} {ps : List Pick} {Q : Flow → Trk → Hold → Prop}
    (hR : Rs.length = 5) (hr : RowsOk i rows) (hi : i ≤ 5) (hin : ∀ k R, Rs[k]? = some R → In R (.list (rowP (rows.getD k []))) T) (iP : In P (.list (ps.map pickPV)) T) (hps : ps.length ≤ 1000) (ok : ∀ p ∈ ps, PickOk 1 p)
    (htold : toldOf 1 ps = rows.map fun r => r.map lvE)
    (h : Q .next (lawT L [(PySem.Str.ofString "script", sv), (PySem.Str.ofString "line", li), (PySem.Str.ofString "rows", .lst (Rs.map .ref)), (PySem.Str.ofString "picks", .ref P)] co b ta pi fl dr T) []) :
    W c h₀ (n + 6) (lawT L [(PySem.Str.ofString "script", sv), (PySem.Str.ofString "line", li), (PySem.Str.ofString "rows", .lst (Rs.map .ref)), (PySem.Str.ofString "picks", .ref P)] co b ta pi fl dr T) H (exec st (lawEnv L fa)) Q := by
  have hst' : Stmt.If _ _ _ _ = st := hst
  subst hst'
  clear hst
  refine W.If ?_
  repeat walk_at "1"
  refine W.ListCompG (cl := []) (fun v xs i outs T₂ => outs = levs (rows.take i) ∧ T₂ = lawT L [(PySem.Str.ofString "script", sv), (PySem.Str.ofString "line", li), (PySem.Str.ofString "rows", .lst (Rs.map .ref)), (PySem.Str.ofString "picks", .ref P)] co b ta pi fl dr T) rfl ?_
  repeat walk_at "1"
  refine ⟨Rs.map .ref, _, .lst (by walk_at "den"), by simp [hR], ⟨rfl, rfl⟩, fun _ _ _ _ _ _ _ => trivial, ?_, ?_⟩
  · rintro k x outs T₂ hx ⟨rfl, rfl⟩ h₁ u C D
    obtain ⟨R, hRk, rfl⟩ := map_get hx
    have hk : k < 5 := by have := (List.getElem?_eq_some_iff.mp hRk).1; omega
    have iR := hin k R hRk
    obtain ⟨qk, lk, kk⟩ := hr.get hk
    have htk : levs (rows.take (k + 1)) = levs (rows.take k) ++ [.lst ((rows.getD k []).map lev4)] := by
      unfold levs; rw [List.take_add_one, qk, List.map_append]; rfl
    repeat walk_at "1"
    refine W.tests_nil ?_
    repeat walk_at "1"
    refine W.ListCompG (cl := []) (fun v xs j outs' T₂ => outs' = ((rows.getD k []).take j).map lev4 ∧ T₂ = (C, TO.frame [(PySem.Str.ofString "row", .ref R)]) :: (D, .list (levs (rows.take k))) :: lawT L [(PySem.Str.ofString "script", sv), (PySem.Str.ofString "line", li), (PySem.Str.ofString "rows", .lst (Rs.map .ref)), (PySem.Str.ofString "picks", .ref P)] co b ta pi fl dr T) rfl ?_
    repeat walk_at "1"
    refine ⟨rowP (rows.getD k []), _, .own (by walk_at "in"), by rw [rowP_len]; omega, ⟨by simp, rfl⟩, ?_, ?_, ?_⟩
    · rintro j outs T₂ C' D' m ⟨-, rfl⟩
      exact .tail (.tail (.tail (.tail (In.law iR))))
    · rintro j x outs T₂ hx ⟨rfl, rfl⟩ h₁ u C' D'
      obtain ⟨e', he', rfl⟩ := map_get hx
      have ok' : EntOk e' := kk e' (List.mem_of_getElem? he')
      have htk' : (rows.getD k []).take (j + 1) = (rows.getD k []).take j ++ [e'] := by rw [List.take_add_one, he']; rfl
      repeat walk_at "1"
      refine W.tests_nil ?_
      repeat walk_at "1"
      refine kw_level (n := n + 3) hK hlo ok' _ _ _ _ _ ?_ ?_
      · walk_at "den"
      intro t ht
      repeat walk_at "1"
      refine W.mul_if (by decide +kernel) hlo fun t ht => ?_
      repeat walk_at "1"
      exact ⟨lev4 e', _, _, .refl _, .flt ht, by rw [htk', List.map_append]; rfl, rfl⟩
    rintro outs T₂ ⟨eo, rfl⟩ D'
    obtain rfl : outs = (rows.getD k []).map lev4 := by rw [eo, rowP_len, List.take_length]
    repeat walk_at "1"
    exact ⟨.lst ((rows.getD k []).map lev4), _, _, .refl _, .hd, by rw [htk], rfl⟩
  rintro outs T₂ ⟨eo, rfl⟩ D
  obtain rfl : outs = levs rows := by rw [eo, List.length_map, hR, ← hr.1, List.take_length]
  repeat walk_at "1"
  refine k_told (n := n + 5) hK hlo (side := 1) (by walk_at "den") .int (by decide) (In.law iP) hps ok fun a => ?_
  rw [htold]
  repeat walk_at "1"
  refine W.neSame hT rfl ?_ (by walk_at "den") (by walk_at "den") ?_ ?_
  · show depL (levs rows) + 1 ≤ 20
    have : depL (levs rows) ≤ 1 := dep_map fun r _ => by
      show depL (r.map lev4) + 1 ≤ 1
      have : depL (r.map lev4) ≤ 0 := dep_map fun e _ => Nat.le_refl _
      omega
    omega
  · show sameL (levs rows) ((rows.map fun r => r.map lvE).map fun r => .lst (row8 r)) = true
    rw [List.map_map]
    refine same_map fun r hr' => ?_
    show sameL (r.map lev4) ((r.map lvE).map natPV) = true
    rw [List.map_map]
    exact same_map fun e he => four ((hr.2.1 r hr').2 e he)
  repeat walk_at "1"
  exact h
end
theorem low_U : ((List.range 5).all fun k => Txt.lower (nmU k) == nmL k) = true := by decide +kernel
theorem low_L : ((List.range 5).all fun k => Txt.lower (nmL k) == nmL k) = true := by decide +kernel
theorem low_of {k : Nat} (hk : k < 5) {nm : PySem.Str} (h : nm = nmU k ∨ nm = nmL k) : Txt.lower nm = nmL k := by
  rcases h with rfl | rfl
  · exact eq_of_beq (all_at low_U hk)
  · exact eq_of_beq (all_at low_L hk)
theorem nmL_inj {j k : Nat} : (nmL j == nmL k) = (j == k) := by
  by_cases h : j = k
  · subst h; simp
  · have : nmL j ≠ nmL k := fun e => h (by
      unfold nmL at e
      injection e with e
      have := congrArg (fun a : Array Nat => a[0]?) e
      simp at this
      exact this)
    rw [beq_eq_false_iff_ne.mpr this, beq_eq_false_iff_ne.mpr h]
theorem long_L {k : Nat} (hk : k < 5) : Builtin.Str.tooLong (nmL k).length = false := by
  have : ((List.range 5).all fun k => !Builtin.Str.tooLong (nmL k).length) = true := by decide +kernel
  exact (Bool.not_eq_true' _).mp (all_at this hk)
theorem Tab.ok {es : List (PySem.Str × PySem.Str)} {rs : List (Nat × Nat)} (h : Tab es rs) : ∀ e ∈ es, Builtin.Str.tooLong (Txt.lower e.1).length = false := by
  induction h with
  | nil => intro e h; cases h
  | snoc _ hk _ hn ih =>
    intro e he
    rcases List.mem_append.mp he with he | he
    · exact ih e he
    · rw [List.mem_singleton.mp he]
      show Builtin.Str.tooLong (Txt.lower _).length = false
      rw [low_of hk hn]; exact long_L hk
theorem Tab.filter {es : List (PySem.Str × PySem.Str)} {rs : List (Nat × Nat)} (h : Tab es rs) (k : Nat) : (es.filter fun e => Txt.lower e.1 == nmL k).map (fun e => PV.str e.2) = (rs.filter fun r => r.1 == k).map (fun r => PV.str (txtOf r.2)) := by
  induction h with
  | nil => rfl
  | snoc _ hk _ hn ih =>
    rename_i nm k' a _ _
    rw [List.filter_append, List.filter_append, List.map_append, List.map_append, ih]
    congr 1
    show ((match (Txt.lower nm == nmL k) with | true => [(nm, txtOf a)] | false => []) : List (PySem.Str × PySem.Str)).map _ = ((match (k' == k) with | true => [(k', a)] | false => []) : List (Nat × Nat)).map _
    rw [low_of hk hn, nmL_inj]
    cases (k' == k) <;> rfl
theorem Tab.small {es : List (PySem.Str × PySem.Str)} {rs : List (Nat × Nat)} (h : Tab es rs) : ∀ r ∈ rs, r.1 < 5 ∧ r.2 < 8 := by
  induction h with
  | nil => intro e h; cases h
  | snoc _ hk ha _ ih =>
    intro e he
    rcases List.mem_append.mp he with he | he
    · exact ih e he
    · rw [List.mem_singleton.mp he]; exact ⟨hk, ha⟩
def hues (rs : List (Nat × Nat)) (k : Nat) : List Nat := (rs.filter fun r => r.1 == k).map (·.2)

section
variable {c : Cx} (hK : c.K = hd.heap_39 c.w.params) (hlo : 0 < c.low) (hT : ToldK c) {h₀ : Heap} {n : Nat} {T T' : Trk} {H : Hold} {α : Type} {env : Env} {pos : Pos} {s : Shared}

include hK hlo hT in
theorem cmp2 {st : Stmt} (hst : stmtAt 7 = st) {L fa P X DX HL : Addr} {tk : Tok} {sv li ro : PV} {co b pi fl dr : Option PV} {es : List (PySem.Str × PySem.Str)} {rs : List (Nat × Nat)} {ps : List Pick} {Q : Flow → Trk → Hold → Prop}
    (ht : Tab es rs) (hrs : rs.length ≤ 100) (iX : In X (.obj (inst 223 DX)) T) (iD : In DX (.obj (dictOf (esH c.w.params tk HL) 1)) T) (iH : In HL (.list (es.map entPV)) T) (iP : In P (.list (ps.map pickPV)) T) (hps : ps.length ≤ 1000) (ok : ∀ p ∈ ps, PickOk 0 p)
    (htold : toldOf 0 ps = (List.range 5).map fun k => hues rs k)
    (h : Q .next (lawT L [(PySem.Str.ofString "script", sv), (PySem.Str.ofString "line", li), (PySem.Str.ofString "rows", ro), (PySem.Str.ofString "picks", .ref P)] co b (some (.ref X)) pi fl dr T) []) :
    W c h₀ (n + 6) (lawT L [(PySem.Str.ofString "script", sv), (PySem.Str.ofString "line", li), (PySem.Str.ofString "rows", ro), (PySem.Str.ofString "picks", .ref P)] co b (some (.ref X)) pi fl dr T) H (exec st (lawEnv L fa)) Q := by
  have hst' : Stmt.If _ _ _ _ = st := hst
  subst hst'
  clear hst
  refine W.If ?_
  repeat walk_at "1"
  refine W.ListCompG (cl := [(PySem.Str.ofString "table", L + 1 + 1 + 1)]) (fun v xs i outs T₂ => outs = (List.range i).map (fun k => PV.lst ((hues rs k).map natPV)) ∧ T₂ = lawT L [(PySem.Str.ofString "script", sv), (PySem.Str.ofString "line", li), (PySem.Str.ofString "rows", ro), (PySem.Str.ofString "picks", .ref P)] co b (some (.ref X)) pi fl dr T) rfl ?_
  repeat walk_at "1"
  refine W.range (k := 5) rfl fun a t u v => ?_
  refine ⟨rngPV 5, _, .rng (by walk_at "den") (by decide), by decide, ⟨rfl, rfl⟩, fun _ _ _ _ _ _ _ => trivial, ?_, ?_⟩
  · rintro k x outs T₂ hx ⟨rfl, rfl⟩ h₁ u C D
    obtain ⟨hk, rfl⟩ := rngPV_get hx
    repeat walk_at "1"
    refine W.tests_nil ?_
    repeat walk_at "1"
    refine W.ListCompG (cl := []) (fun v xs j outs' T₂ => outs' = ((hues rs k).take j).map natPV ∧ T₂ = (C, TO.frame [(PySem.Str.ofString "k", natPV k)]) :: (D, .list ((List.range k).map (fun k => PV.lst ((hues rs k).map natPV)))) :: lawT L [(PySem.Str.ofString "script", sv), (PySem.Str.ofString "line", li), (PySem.Str.ofString "rows", ro), (PySem.Str.ofString "picks", .ref P)] co b (some (.ref X)) pi fl dr T) rfl ?_
    repeat walk_at "1"
    refine W.chrN (k := k + 97) (Int.add_comm 97 (k : Int)) (Nat.le_trans (Nat.add_le_add_right (Nat.le_of_lt hk) 97) (by decide)) fun t => ?_
    repeat walk_at "1"
    have elow : Txt.lower (nmL k) = nmL k := low_of hk (.inr rfl)
    refine k_getall (n := n + 4) hK hlo (q := nmL k) .str (by rw [elow]; exact plainL hK hk) (by rw [elow]; exact long_L hk) ht.ok (by rw [ht.len]; omega) (.tail (.tail (In.law iX))) (.tail (.tail (In.law iD))) (.tail (.tail (In.law iH))) fun a' => ?_
    rw [elow, ht.filter]
    have hsm : ∀ r ∈ rs.filter (fun r => r.1 == k), r.2 < 8 := fun r hr => (ht.small r (List.mem_filter.mp hr).1).2
    have hfl : (rs.filter (fun r => r.1 == k)).length ≤ 100 := Nat.le_trans (List.length_filter_le ..) hrs
    have ehu : hues rs k = (rs.filter (fun r => r.1 == k)).map (·.2) := rfl
    rw [ehu]
    generalize hfr : rs.filter (fun r => r.1 == k) = fr at hsm hfl ⊢
    refine ⟨_, _, .lst (by walk_at "den"), by rw [List.length_map]; omega, ⟨by simp, rfl⟩, fun _ _ _ _ _ _ _ => trivial, ?_, ?_⟩
    · rintro j x outs T₂ hx ⟨rfl, rfl⟩ h₁ u C' D'
      obtain ⟨r, hr, rfl⟩ := map_get hx
      have ra := hsm r (List.mem_of_getElem? hr)
      have htk : (fr.map (·.2)).take (j + 1) = (fr.map (·.2)).take j ++ [r.2] := by rw [List.take_add_one, List.getElem?_map, hr]; rfl
      repeat walk_at "1"
      refine W.tests_nil ?_
      repeat walk_at "1"
      refine W.intS (k := (r.2 : Int)) (by omega) (by omega) fun _ => ?_
      repeat walk_at "1"
      exact ⟨natPV r.2, _, _, .refl _, .int, by rw [htk, List.map_append]; rfl, rfl⟩
    rintro outs T₂ ⟨eo, rfl⟩ D'
    obtain rfl : outs = (fr.map (·.2)).map natPV := by rw [eo, List.length_map, List.take_of_length_le (by simp)]
    repeat walk_at "1"
    exact ⟨.lst ((fr.map (fun r : Nat × Nat => r.2)).map natPV), _, _, .refl _, .hd, by rw [List.range_succ, List.map_append, List.map_singleton, ehu, hfr], rfl⟩
  rintro outs T₂ ⟨eo, rfl⟩ D
  obtain rfl : outs = (List.range 5).map (fun k => PV.lst ((hues rs k).map natPV)) := eo
  repeat walk_at "1"
  refine k_told (n := n + 5) hK hlo (side := 0) (by walk_at "den") .int (by decide) (In.law iP) hps ok fun a' => ?_
  rw [htold]
  repeat walk_at "1"
  refine W.neSame hT rfl ?_ (by walk_at "den") (by walk_at "den") ?_ ?_
  · show depL ((List.range 5).map (fun k => PV.lst ((hues rs k).map natPV))) + 1 ≤ 20
    have : depL ((List.range 5).map (fun k => PV.lst ((hues rs k).map natPV))) ≤ 1 := dep_map fun k _ => by
      show depL ((hues rs k).map natPV) + 1 ≤ 1
      have : depL ((hues rs k).map natPV) ≤ 0 := dep_map fun e _ => Nat.le_refl _
      omega
    omega
  · show sameL ((List.range 5).map (fun k => PV.lst ((hues rs k).map natPV))) (((List.range 5).map fun k => hues rs k).map fun r => .lst (row8 r)) = true
    rw [List.map_map]
    refine same_map fun k _ => ?_
    show sameL ((hues rs k).map natPV) ((hues rs k).map natPV) = true
    exact same_map fun e _ => by show ((e : Int) == (e : Int)) = true; simp
  repeat walk_at "1"
  exact h
end
theorem drop_get {α : Type} : ∀ {l : List α} {i : Nat} {x : α}, l[i]? = some x → l.drop i = x :: l.drop (i + 1)
  | [], i, x, h => by simp at h
  | y :: l, 0, x, h => by simp at h; subst h; rfl
  | y :: l, i + 1, x, h => by
    simp only [List.drop_succ_cons]
    exact drop_get (by simpa using h)
theorem Tab.rev {es : List (PySem.Str × PySem.Str)} {rs : List (Nat × Nat)} (h : Tab es rs) : ∀ (i : Nat) (e : PySem.Str × PySem.Str), es.reverse[i]? = some e → ∃ r : Nat × Nat, rs.reverse[i]? = some r ∧ r.1 < 5 ∧ r.2 < 8 ∧ (e.1 = nmU r.1 ∨ e.1 = nmL r.1) ∧ e.2 = txtOf r.2 := by
  induction h with
  | nil => intro i e h; simp at h
  | snoc _ hk ha hn ih =>
    rename_i nm k a _
    intro i e he
    rw [List.reverse_append] at he ⊢
    cases i with
    | zero =>
      have : (nm, txtOf a) = e := by simpa using he
      subst this
      exact ⟨(k, a), by simp, hk, ha, hn, rfl⟩
    | succ i => exact ih i e (by simpa using he)
def backPV (as : List Nat) (ms : List Ent) : List PV := List.zipWith (fun a m => PV.tup [.str (txtOf a), colP m]) as ms
def RowsW (rows : List (List Ent)) : Prop := rows.length = 5 ∧ ∀ r ∈ rows, r.length ≤ 5 ∧ ∀ e ∈ r, EntOk e
theorem RowsW.get {rows : List (List Ent)} (h : RowsW rows) {k : Nat} (hk : k < 5) : rows[k]? = some (rows.getD k []) ∧ (rows.getD k []).length ≤ 5 ∧ ∀ e ∈ rows.getD k [], EntOk e := by
  have e : rows[k]? = some (rows.getD k []) := by
    have : k < rows.length := by rw [h.1]; exact hk
    rw [List.getD_eq_getElem?_getD, List.getElem?_eq_getElem this]; rfl
  exact ⟨e, h.2 _ (List.mem_of_getElem? e)⟩
theorem RowsW.set {rows : List (List Ent)} (h : RowsW rows) {k : Nat} {r : List Ent} (hl : r.length ≤ 5) (hr : ∀ e ∈ r, EntOk e) : RowsW (rows.set k r) :=
  ⟨by rw [List.length_set]; exact h.1, fun q hq => by
    rcases List.mem_or_eq_of_mem_set hq with hq | rfl
    · exact h.2 q hq
    · exact ⟨hl, hr⟩⟩
section
variable {α : Type} {lv : α → Nat} {z : α}
theorem unAll_cons {k : Nat} {ks : List Nat} {rows : List (List α)} {out : List α} (h : unAll lv z (k :: ks) rows = some out) : ∃ rows' m rest, unStep lv z rows k = some (rows', m) ∧ unAll lv z ks rows' = some rest ∧ out = m :: rest := by
  unfold unAll at h
  split at h
  · cases h
  · rename_i rows' m e
    split at h
    · cases h
    · rename_i l e'
      cases h
      exact ⟨rows', m, l, e, e', rfl⟩
theorem unStep_some {k : Nat} {rows : List (List α)} {x : List (List α) × α} (h : unStep lv z rows k = some x) : ∃ init m, rows.getD k [] = init ++ [m] ∧ un lv z k (rows.set k init) m = some x := by
  unfold unStep at h
  split at h
  · cases h
  · rename_i m e
    have hne : rows.getD k [] ≠ [] := fun q => by rw [q] at e; cases e
    have e2 := List.dropLast_concat_getLast hne
    rw [List.getLast?_eq_some_getLast hne] at e
    cases e
    exact ⟨(rows.getD k []).dropLast, (rows.getD k []).getLast hne, e2.symm, h⟩
theorem un_succ {j : Nat} {rows : List (List α)} {m : α} {x : List (List α) × α} (h : un lv z (j + 1) rows m = some x) : plL lv z (rows.getD j []) m ≠ 0 ∧
    un lv z j (rows.set j ((rows.getD j []).set (plL lv z (rows.getD j []) m - 1) m)) ((rows.getD j []).getD (plL lv z (rows.getD j []) m - 1) z) = some x := by
  have h' : (if plL lv z (rows.getD j []) m = 0 then none else un lv z j (rows.set j ((rows.getD j []).set (plL lv z (rows.getD j []) m - 1) m)) ((rows.getD j []).getD (plL lv z (rows.getD j []) m - 1) z)) = some x := h
  split at h'
  · cases h'
  · exact ⟨by assumption, h'⟩
end

section
variable {c : Cx} (hK : c.K = hd.heap_39 c.w.params) (hlo : 0 < c.low) (hT : ToldK c) {h₀ : Heap} {n : Nat} {T T' : Trk} {H : Hold} {α : Type} {env : Env} {pos : Pos} {s : Shared}

include hK hlo hT in
theorem loop4 {st : Stmt} (hst : stmtAt 9 = st) {L fa P B X DX HL : Addr} {tk : Tok} {po : TO} {sv li pp : PV} {co b pi fl dr : Option PV} {Rs : List Addr} {rows : List (List Ent)} {es : List (PySem.Str × PySem.Str)} {rs : List (Nat × Nat)} {out : List Ent} {Q : Flow → Trk → Hold → Prop}
    (hR : Rs.length = 5) (hr : RowsW rows) (ht : Tab es rs) (hrs : rs.length ≤ 100) (hun : unAll lvE zE (rs.reverse.map (·.1)) rows = some out)
    (iX : In X (.obj (inst 223 DX)) T) (iD : In DX (.obj (dictOf (esH c.w.params tk HL) 1)) T) (iH : In HL (.list (es.map entPV)) T)
    (h : ∀ rows' : List (List Ent), Q .next (lawT L [(PySem.Str.ofString "script", sv), (PySem.Str.ofString "line", li), (PySem.Str.ofString "rows", .lst (Rs.map .ref)), (PySem.Str.ofString "picks", pp), (PySem.Str.ofString "back", .ref B)] co b (some (.ref X)) pi fl dr ((B, .list (backPV (rs.reverse.map (·.2)) out)) :: (P, po) :: (zipT Rs (rows'.map rowP) ++ T))) []) :
    W c h₀ (n + 6) (lawT L [(PySem.Str.ofString "script", sv), (PySem.Str.ofString "line", li), (PySem.Str.ofString "rows", .lst (Rs.map .ref)), (PySem.Str.ofString "picks", pp), (PySem.Str.ofString "back", .ref B)] co b (some (.ref X)) pi fl dr ((B, .list []) :: (P, po) :: (zipT Rs (rows.map rowP) ++ T))) H (exec st (lawEnv L fa)) Q := by
  have hst' : Stmt.For _ _ _ _ _ = st := hst
  subst hst'
  clear hst
  refine W.ForWG (fun v xs i T₂ => ∃ (rw : List (List Ent)) (rest : List Ent) (bl : List PV), RowsW rw ∧ unAll lvE zE ((rs.reverse.drop i).map (·.1)) rw = some rest ∧ bl ++ backPV ((rs.reverse.drop i).map (·.2)) rest = backPV (rs.reverse.map (·.2)) out ∧ bl.length = i ∧
    T₂ = lawT L [(PySem.Str.ofString "script", sv), (PySem.Str.ofString "line", li), (PySem.Str.ofString "rows", .lst (Rs.map .ref)), (PySem.Str.ofString "picks", pp), (PySem.Str.ofString "back", .ref B)] co b (some (.ref X)) pi fl dr ((B, .list bl) :: (P, po) :: (zipT Rs (rw.map rowP) ++ T))) ?_
  have iX' : In X (.obj (inst 223 DX)) (zipT Rs (rows.map rowP) ++ T) := In.app iX _
  have iD' : In DX (.obj (dictOf (esH c.w.params tk HL) 1)) (zipT Rs (rows.map rowP) ++ T) := In.app iD _
  have iH' : In HL (.list (es.map entPV)) (zipT Rs (rows.map rowP) ++ T) := In.app iH _
  refine W.SubSlice ?_
  repeat walk_at "1"
  refine k_items (n := n + 5) hK hlo (by rw [List.length_map, ht.len]; omega) (In.law (.tail (.tail iX'))) (In.law (.tail (.tail iD'))) (In.law (.tail (.tail iH'))) fun a => ?_
  repeat walk_at "1"
  refine W.part_none (W.part_none (W.part_some (W.UnaryOp ?_)))
  repeat walk_at "1"
  refine W.neg_i fun _ => ?_
  refine ⟨es.map entPV, none, none, some (-1), .lst (by walk_at "den"), .none, .none, .int _ _, by decide, by rw [List.length_map, ht.len]; omega, fun a' => ?_⟩
  rw [slice_rev, ← List.map_reverse]
  refine ⟨es.reverse.map entPV, .lst (by walk_at "den"), ⟨_, ⟨rows, out, [], hr, hun, rfl, rfl, rfl⟩, .refl⟩, ?_, ?_⟩
  · rintro i x T₂ hx ⟨rw, rest, bl, hrw, hu, hbl, hbi, rfl⟩ h₁ u
    obtain ⟨e', he', rfl⟩ : ∃ e', es.reverse[i]? = some e' ∧ PV.tup [.str e'.1, .str e'.2] = x := map_get hx
    obtain ⟨r, hrr, rk, ra, rn, rt⟩ := ht.rev i e' he'
    have hd := drop_get hrr
    rw [hd] at hu hbl
    rw [List.map_cons] at hu
    obtain ⟨rw', m, rest', hus, hu', rfl⟩ := unAll_cons hu
    obtain ⟨ini, m0, hini, hun0⟩ := unStep_some hus
    obtain ⟨Rk, hRk⟩ : ∃ R, Rs[r.1]? = some R := ⟨_, List.getElem?_eq_getElem (by omega)⟩
    have hRk' : (Rs.map PV.ref)[r.1]? = some (.ref Rk) := by rw [List.getElem?_map, hRk]; rfl
    obtain ⟨qk, lk, kk⟩ := hrw.get rk
    have ik := zipT_in (T := T) hRk (show (rw.map rowP)[r.1]? = some (rowP (rw.getD r.1 [])) by rw [List.getElem?_map, qk]; rfl)
    have hat : At Rk (.list (rowP ini ++ [colP m0])) (.list (rowP ini)) (zipT Rs (rw.map rowP) ++ T) (zipT Rs ((rw.set r.1 ini).map rowP) ++ T) := by
      have e1 : rowP (rw.getD r.1 []) = rowP ini ++ [colP m0] := by rw [hini]; unfold rowP; rw [List.map_append]; rfl
      rw [← e1]; exact rowsT_at hRk qk
    rw [hini] at lk kk
    have hini5 : ini.length ≤ 4 := by rw [List.length_append, List.length_singleton] at lk; omega
    have hrw0 : RowsW (rw.set r.1 ini) := hrw.set (by omega) fun e he => kk e (List.mem_append_left _ he)
    have okm0 : EntOk m0 := kk m0 (List.mem_append_right _ (List.mem_singleton.mpr rfl))
    obtain ⟨nm, tx⟩ := e'
    simp only at rn rt
    subst rt
    have elow : Txt.lower nm = nmL r.1 := low_of rk rn
    repeat walk_at "1"
    refine W.lower elow (by rw [elow]; exact long_L rk) fun _ => ?_
    repeat walk_at "1"
    refine W.ord (k := r.1 + 97) fun _ => ?_
    repeat walk_at "1"
    rw [show ((r.1 + 97 : Nat) : Int) - 97 = (r.1 : Int) by omega]
    refine W.getItem (i := r.1) (p := .ref Rk) (.lst (by walk_at "den")) rfl (by omega) hRk' ?_
    repeat walk_at "1"
    refine W.pop (.law (.tail (.tail hat))) (by rw [rowP_len]; omega) ?_
    repeat walk_at "1"
    refine W.ForWG (fun v xs j T₂ => ∃ (rj : List (List Ent)) (mj : Ent), RowsW rj ∧ EntOk mj ∧ un lvE zE (r.1 - j) rj mj = some (rw', m) ∧
      T₂ = lawT L [(PySem.Str.ofString "script", sv), (PySem.Str.ofString "line", li), (PySem.Str.ofString "rows", .lst (Rs.map .ref)), (PySem.Str.ofString "picks", pp), (PySem.Str.ofString "back", .ref B), (PySem.Str.ofString "name", .str nm), (PySem.Str.ofString "text", .str (txtOf r.2)), (PySem.Str.ofString "k", natPV r.1), (PySem.Str.ofString "moved", colP mj)] co b (some (.ref X)) pi fl dr ((B, .list bl) :: (P, po) :: (zipT Rs (rj.map rowP) ++ T))) ?_
    refine W.SubSlice ?_
    refine W.SubSlice ?_
    repeat walk_at "1"
    refine W.part_none (W.part_some ?_)
    repeat walk_at "1"
    refine W.part_none ⟨Rs.map .ref, none, some ((r.1 : Nat) : Int), none, .lst (by walk_at "den"), .none, .int _ _, .none, by decide, by rw [List.length_map]; omega, fun a1 => ?_⟩
    rw [slice_take]
    refine W.part_none (W.part_none (W.part_some (W.UnaryOp ?_)))
    repeat walk_at "1"
    refine W.neg_i fun _ => ?_
    refine ⟨(Rs.map .ref).take r.1, none, none, some (-1), .lst (by walk_at "den"), .none, .none, .int _ _, by decide, by rw [List.length_take, List.length_map]; omega, fun a2 => ?_⟩
    rw [slice_rev]
    have hlr : ((Rs.map PV.ref).take r.1).reverse.length = r.1 := by rw [List.length_reverse, List.length_take, List.length_map]; omega
    refine ⟨((Rs.map PV.ref).take r.1).reverse, .lst (by walk_at "den"), ⟨_, ⟨_, m0, hrw0, okm0, hun0, rfl⟩, .refl⟩, ?_, ?_⟩
    · rintro j x T₂ hx ⟨rj, mj, hrj, okm, hunj, rfl⟩ h₁ u
      have hj : j < r.1 := by
        have := (List.getElem?_eq_some_iff.mp hx).1
        rw [hlr] at this; exact this
      obtain ⟨q, hq⟩ : ∃ q, r.1 - j = q + 1 := ⟨r.1 - j - 1, (Nat.sub_add_cancel (Nat.sub_pos_of_lt hj)).symm⟩
      have hqr : q + 1 ≤ r.1 := hq ▸ Nat.sub_le r.1 j
      have hq5 : q < 5 := Nat.lt_trans hqr rk
      obtain ⟨Rq, hRq, rfl⟩ : ∃ Rq, Rs[q]? = some Rq ∧ PV.ref Rq = x := by
        rw [List.getElem?_reverse (by rw [List.length_take, List.length_map]; omega)] at hx
        have e1 : ((Rs.map PV.ref).take r.1).length - 1 - j = q := by rw [show ((Rs.map PV.ref).take r.1).length = r.1 from (List.length_reverse ..).symm.trans hlr, Nat.sub_right_comm, hq]; rfl
        rw [e1, List.getElem?_take_of_lt hqr] at hx
        exact map_get hx
      rw [hq] at hunj
      obtain ⟨hne, hun1⟩ := un_succ hunj
      obtain ⟨qq, lq, kq⟩ := hrj.get hq5
      have iq := zipT_in (T := T) hRq (show (rj.map rowP)[q]? = some (rowP (rj.getD q [])) by rw [List.getElem?_map, qq]; rfl)
      have hple : plL lvE zE (rj.getD q []) mj ≤ (rj.getD q []).length := plL_le
      have hatq := rowsT_at (T := T) (r' := (rj.getD q []).set (plL lvE zE (rj.getD q []) mj - 1) mj) hRq qq
      have hat' : At Rq (.list (rowP (rj.getD q []))) (.list ((rowP (rj.getD q [])).set (plL lvE zE (rj.getD q []) mj - 1) (colP mj))) (zipT Rs (rj.map rowP) ++ T) (zipT Rs ((rj.set q ((rj.getD q []).set (plL lvE zE (rj.getD q []) mj - 1) mj)).map rowP) ++ T) := by
        have : rowP ((rj.getD q []).set (plL lvE zE (rj.getD q []) mj - 1) mj) = (rowP (rj.getD q [])).set (plL lvE zE (rj.getD q []) mj - 1) (colP mj) := by unfold rowP; rw [List.map_set]
        rw [← this]; exact hatq
      obtain ⟨hv, ehv⟩ : ∃ hv, (rj.getD q [])[plL lvE zE (rj.getD q []) mj - 1]? = some hv := ⟨_, List.getElem?_eq_getElem (by omega)⟩
      have ehv' : (rj.getD q []).getD (plL lvE zE (rj.getD q []) mj - 1) zE = hv := by rw [List.getD_eq_getElem?_getD, ehv]; rfl
      have okh : EntOk hv := kq hv (List.mem_of_getElem? ehv)
      rw [ehv'] at hun1
      have hrj' : RowsW (rj.set q ((rj.getD q []).set (plL lvE zE (rj.getD q []) mj - 1) mj)) := hrj.set (by rw [List.length_set]; exact lq) fun e he => by
        rcases List.mem_or_eq_of_mem_set he with he | rfl
        · exact kq e he
        · exact okm
      have key : ∀ k, bis (fun i => !decide (lvE ((rj.getD q []).getD i zE) < lvE mj)) (rj.getD q []).length 0 (rj.getD q []).length = k → k = plL lvE zE (rj.getD q []) mj := fun k e => e.symm
      repeat walk_at "1"
      refine kw_level (n := n + 3) hK hlo okm _ _ _ _ _ ?_ ?_
      · walk_at "den"
      intro tl htl
      repeat walk_at "1"
      refine k_bisL (n := n + 5) hK hlo (fa := 241) (av := .ref Rq) (xv := .float (kfLevel (colP mj)) tl) (tk := 318) (pa := .ref Rq) (xs := rowP (rj.getD q [])) (x := kfLevel (colP mj)) (kf := kfLevel) (fun i => !decide (lvE ((rj.getD q []).getD i zE) < lvE mj)) (fun S => by rw [hK]; kernel_rfl) ?_ (.own (In.law (.tail (.tail iq)))) ?_ ?_ (by rw [hK]; rfl) ?_ (r := plL lvE zE (rj.getD q []) mj) (by rw [rowP_len]; rfl) ?_
      · walk_at "den"
      · rw [rowP_len]; omega
      · walk_at "den"
      · intro i' p hp
        obtain ⟨e', he', rfl⟩ := map_get hp
        have ok' : EntOk e' := kq e' (List.mem_of_getElem? he')
        refine ⟨?_, fun h₀ T H v Q d q => kw_level (n := n + 2) hK hlo ok' h₀ T H v Q d q⟩
        rw [kfLevel_col okm, kfLevel_col ok', levLt ok' okm, List.getD_eq_getElem?_getD, he']; rfl
      intro t
      clear key
      generalize hpl : plL lvE zE (rj.getD q []) mj = pl at *
      repeat walk_at "1"
      refine W.getItem (i := pl - 1) (p := colP hv) (l := rowP (rj.getD q [])) (.own rfl (by walk_at "in")) (by omega) (by omega) (by unfold rowP; rw [List.getElem?_map, ehv]; rfl) ?_
      repeat walk_at "1"
      refine W.setItem (k := pl - 1) (l := rowP (rj.getD q [])) (p := colP mj) ?_ (by omega) (by rw [rowP_len]; omega) (by rw [rowP_len]; omega) (.law (.tail (.tail hat'))) ?_
      · walk_at "den"
      repeat walk_at "1"
      exact ⟨_, ⟨_, hv, hrj', okh, by rw [show r.1 - (j + 1) = q from (Nat.sub_add_eq ..).trans (by rw [hq]; rfl)]; exact hun1, rfl⟩, Wk.weak (.frame .refl)⟩
    rintro T₂ ⟨rj, mj, hrj, okm, hunj, rfl⟩
    rw [hlr, Nat.sub_self] at hunj
    have hunj' : some (rj, mj) = some (rw', m) := hunj
    cases hunj'
    repeat walk_at "1"
    refine W.append (p := .tup [.str (txtOf r.2), colP m]) (by walk_at "den") (by walk_at "at") (by rw [hbi]; have := (List.getElem?_eq_some_iff.mp hrr).1; rw [List.length_reverse] at this; omega) ?_
    repeat walk_at "1"
    refine ⟨_, ⟨rw', rest', bl ++ [.tup [.str (txtOf r.2), colP m]], hrj, hu', ?_, by rw [List.length_append, hbi]; rfl, rfl⟩, Wk.weak (.frame .refl)⟩
    rw [List.append_assoc]; exact hbl
  rintro T₂ ⟨rw, rest, bl, hrw, hu, hbl, hbi, rfl⟩
  have hdr : rs.reverse.drop (es.reverse.map entPV).length = [] := List.drop_eq_nil_of_le (by simp [ht.len])
  rw [hdr] at hu hbl
  have hu' : some [] = some rest := hu
  cases hu'
  have hbl' : bl = backPV (rs.reverse.map (·.2)) out := by rw [← hbl]; exact (List.append_nil _).symm
  subst hbl'
  repeat walk_at "1"
  exact h rw
end
theorem nanC : ((List.range 8).all fun a => (List.range 4).all fun b => (List.range 4).all fun c => fltEq (colOf a (b + 1) (c + 1)).1 (colOf a (b + 1) (c + 1)).1 && fltEq (colOf a (b + 1) (c + 1)).2.1 (colOf a (b + 1) (c + 1)).2.1 && fltEq (colOf a (b + 1) (c + 1)).2.2 (colOf a (b + 1) (c + 1)).2.2) = true := by decide +kernel
theorem At.inR {a : Addr} {o o' : TO} : ∀ {T T' : Trk}, At a o o' T T' → In a o' T'
  | _, _, .head => .head
  | _, _, .tail h => .tail h.inR
theorem same_col {e : Ent} (h : EntOk e) : same (colP e) (colP e) = true := by
  have k := nanC
  simp only [List.all_eq_true, List.mem_range] at k
  have := k e.1 h.1 (e.2.1 - 1) (by have := h.2.1; omega) (e.2.2 - 1) (by have := h.2.2; omega)
  rw [show e.2.1 - 1 + 1 = e.2.1 by have := h.2.1; omega, show e.2.2 - 1 + 1 = e.2.2 by have := h.2.2; omega] at this
  simp only [Bool.and_eq_true] at this
  show (fltEq (col e).1 (col e).1 && (fltEq (col e).2.1 (col e).2.1 && (fltEq (col e).2.2 (col e).2.2 && true))) = true
  unfold col
  rw [this.1.1, this.1.2, this.2]; rfl
def finPV (es : List Ent) (k : Nat) : PV := .tup [.str (txtOf (es.getD k zE).1), colP (es.getD k zE)]

section
variable {c : Cx} (hK : c.K = hd.heap_39 c.w.params) (hlo : 0 < c.low) (hT : ToldK c) {h₀ : Heap} {n : Nat} {T T' : Trk} {H : Hold} {α : Type} {env : Env} {pos : Pos} {s : Shared}

include hK hlo hT in
theorem fin5 {s1 s2 : Stmt} (hs1 : stmtAt 10 = s1) (hs2 : stmtAt 11 = s2) (hl : LamAt c h₀) {L fa B D C : Addr} {sv li ro pp : PV} {b ta pi fl : Option PV} {es : List Ent} {bl : List PV} {q : Array Nat} {T' : Addr → Trk}
    (hes : ∀ e ∈ es, EntOk e) (h5 : es.length = 5) (iB : In B (.list bl) T) (iD : In D (.list (es.map fun e => pairPV (ab e))) T) (iC : In C (.list (es.map colP)) T) (hbl : bl.length ≤ 900)
    (hat : ∀ c', At 255 (.obj (tabObj #[])) (.obj (tabObj #[rawInt 252, rawInt 33, .ref c'])) T (T' c')) (iB' : ∀ c', In B (.list bl) (T' c')) (iD' : ∀ c', In D (.list (es.map fun e => pairPV (ab e))) (T' c')) (iC' : ∀ c', In C (.list (es.map colP)) (T' c'))
    (hq : runT (pairLt (es.map ab)) (kas_sort 5) = some q) (hq5 : ∀ i ∈ q.toList, i < 5) (hfin : bl.reverse = q.toList.map (finPV es)) :
    W c h₀ (n + 6) (lawT L [(PySem.Str.ofString "script", sv), (PySem.Str.ofString "line", li), (PySem.Str.ofString "rows", ro), (PySem.Str.ofString "picks", pp), (PySem.Str.ofString "back", .ref B)] (some (.ref C)) b ta pi fl (some (.ref D)) T) H (execs [s1, s2] (lawEnv L fa)) fun f T₂ N => f = .ret (.bool true) ∧ ∃ c', In 255 (.obj (tabObj #[rawInt 252, rawInt 33, .ref c'])) T₂ := by
  have hst1 : Stmt.Assign _ _ _ = s1 := hs1
  have hst2 : Stmt.Return _ _ = s2 := hs2
  subst hst1; subst hst2
  clear hs1 hs2
  repeat walk_at "1"
  refine W.range (k := 5) rfl fun a t u v => ?_
  repeat walk_at "1"
  refine W.Lambda (clos := [(PySem.Str.ofString "drawn", L + 1 + 1 + 1 + 1 + 1 + 1)]) (T' := fun c' => lawT L [(PySem.Str.ofString "script", sv), (PySem.Str.ofString "line", li), (PySem.Str.ofString "rows", ro), (PySem.Str.ofString "picks", pp), (PySem.Str.ofString "back", .ref B)] (some (.ref C)) b ta pi fl (some (.ref D)) (T' c')) hl rfl rfl rfl rfl (fun c' => .law (hat c')) ?_
  intro f c' oc ctv vs t' pm ho hv
  repeat walk_at "1"
  have eab : (es.map ab).map pairPV = es.map fun e => pairPV (ab e) := by rw [List.map_map]; rfl
  refine W.sortedK (t := t) (u := u) (v := v) (L := L) (D := D) (f := f) (c' := c') (ps := es.map ab) (.tail (.tail .head)) (.tail (.tail (In.law (by rw [eab]; exact iD' c')))) (.tail (.tail (.tail (.tail (.tail (.tail (.tail (.tail .head)))))))) .head (.tail .head) ho hv ?_ (by rw [List.length_map, h5]) hq hq5 ?_
  · walk_at "den"
  intro a'
  repeat walk_at "1"
  refine W.SubSlice ?_
  repeat walk_at "1"
  refine W.part_none (W.part_none (W.part_some (W.UnaryOp ?_)))
  repeat walk_at "1"
  refine W.neg_i fun _ => ?_
  refine ⟨bl, none, none, some (-1), .own rfl (.tail (.tail (In.law (iB' c')))), .none, .none, .int _ _, by decide, by omega, fun a2 => ?_⟩
  rw [slice_rev]
  refine W.ListCompG (cl := [(PySem.Str.ofString "drawn", L + 1 + 1 + 1 + 1 + 1 + 1), (PySem.Str.ofString "colours", L + 1)]) (fun v xs i outs T₂ => outs = (q.toList.take i).map (finPV es) ∧ T₂ = (f, .obj (kla_obj "<lambda>" ((lawEnv L fa).qual ++ "<lambda>") (lamParams ⟨252, 40, 252, 41⟩) (lamBody ⟨252, 43, 252, 48⟩ ⟨252, 49, 252, 50⟩ ⟨252, 43, 252, 51⟩) lamScope [(PySem.Str.ofString "drawn", L + 1 + 1 + 1 + 1 + 1 + 1)] pm c' ctv)) :: (c', .obj oc) ::
    lawT L [(PySem.Str.ofString "script", sv), (PySem.Str.ofString "line", li), (PySem.Str.ofString "rows", ro), (PySem.Str.ofString "picks", pp), (PySem.Str.ofString "back", .ref B), (PySem.Str.ofString "order", .lst (q.toList.map natPV))] (some (.ref C)) b ta pi fl (some (.ref D)) (T' c')) rfl ?_
  repeat walk_at "1"
  have hq64 : q.toList.length ≤ 1000 := by
    have : bl.reverse.length = q.toList.length := by rw [hfin, List.length_map]
    rw [List.length_reverse] at this; omega
  have iD'' : In D (.list (es.map fun e => pairPV (ab e))) (T' c') := iD' c'
  have iC'' : In C (.list (es.map colP)) (T' c') := iC' c'
  refine ⟨q.toList.map natPV, _, .lst (by walk_at "den"), by rw [List.length_map]; exact hq64, ⟨rfl, rfl⟩, fun _ _ _ _ _ _ _ => trivial, ?_, ?_⟩
  · rintro i x outs T₂ hx ⟨rfl, rfl⟩ h₁ u' C' D'
    obtain ⟨k, hk, rfl⟩ : ∃ k, q.toList[i]? = some k ∧ natPV k = x := map_get hx
    have hk5 : k < 5 := hq5 k (List.mem_of_getElem? hk)
    obtain ⟨e, he⟩ : ∃ e, es[k]? = some e := ⟨_, List.getElem?_eq_getElem (by omega)⟩
    have he' : es.getD k zE = e := by rw [List.getD_eq_getElem?_getD, he]; rfl
    have oke : EntOk e := hes e (List.mem_of_getElem? he)
    have htk : (q.toList.take (i + 1)).map (finPV es) = (q.toList.take i).map (finPV es) ++ [.tup [.str (txtOf e.1), colP e]] := by
      rw [List.take_add_one, hk, List.map_append, ← he']; rfl
    repeat walk_at "1"
    refine W.tests_nil ?_
    repeat walk_at "1"
    refine W.getItem (i := k) (p := .tup [natPV e.1, natPV e.2.1]) (.own rfl (.tail (.tail (.tail (.tail (In.law iD'')))))) rfl (by omega) (by rw [List.getElem?_map, he]; rfl) ?_
    repeat walk_at "1"
    refine W.strI (Nat.lt_of_le_of_lt (Nat.log2_le_self _) (by have : e.1 < 8 := oke.1; show (e.1 : Int).natAbs < 1920; omega)) fun _ => ?_
    repeat walk_at "1"
    refine W.getItem (i := k) (p := colP e) (.own rfl (.tail (.tail (.tail (.tail (In.law iC'')))))) rfl (by omega) (by rw [List.getElem?_map, he]; rfl) ?_

    repeat walk_at "1"
    exact ⟨.tup [.str (txtOf e.1), colP e], _, _, .refl _, .hd, by rw [htk], rfl⟩
  rintro outs T₂ ⟨eo, rfl⟩ D'
  obtain rfl : outs = q.toList.map (finPV es) := by rw [eo, List.length_map, List.take_length]
  refine W.eqSame (l := bl.reverse) (l' := q.toList.map (finPV es)) hT ?_ (by walk_at "den") (by walk_at "den") ?_ ?_
  · rw [hfin]
    refine Nat.le_trans (dep_map (k := 3) fun k _ => ?_) (by decide)
    exact Nat.le_of_ble_eq_true rfl
  · rw [hfin]
    refine same_map fun k hk => ?_
    have hk5 : k < 5 := hq5 k hk
    have hm : es.getD k zE ∈ es := by
      rw [List.getD_eq_getElem?_getD, List.getElem?_eq_getElem (by omega)]
      exact List.getElem_mem _
    show (_ == _ && (same (colP (es.getD k zE)) (colP (es.getD k zE)) && true)) = true
    rw [same_col (hes _ hm)]; simp
  exact ⟨rfl, c', .tail (.tail (In.law (hat c').inR))⟩
end
structure LawFacts (es : List Ent) (q : Array Nat) : Prop where
  sort : runT (pairLt (es.map ab)) (kas_sort 5) = some q
  q5 : ∀ i ∈ q.toList, i < 5
  line : q.toList.map (fun i => es.getD i zE) = lineOf es
  lv : toldOf 1 (picksOf ((lineOf es).map ab)) = (rskAll lvE zE (lineOf es)).1.map fun r => r.map lvE
  hu : toldOf 0 (picksOf ((lineOf es).map ab)) = (List.range 5).map fun k => hues ((rskAll lvE zE (lineOf es)).2.map fun r => (r.1, r.2.1)) k
  ok0 : ∀ p ∈ picksOf ((lineOf es).map ab), PickOk 0 p
  ok1 : ∀ p ∈ picksOf ((lineOf es).map ab), PickOk 1 p
  back : unAll lvE zE (((rskAll lvE zE (lineOf es)).2.map fun r => (r.1, r.2.1)).reverse.map (·.1)) (rskAll lvE zE (lineOf es)).1 = some (lineOf es).reverse
theorem rskAll_snoc {α : Type} {lv : α → Nat} {z : α} (l : List α) (e : α) : rskAll lv z (l ++ [e]) = rskStep lv z (rskAll lv z l) e := by unfold rskAll; rw [List.foldl_append]; rfl
theorem lineOf_snoc (l : List Ent) (e : Ent) : lineOf (l ++ [e]) = insE (lineOf l) e := by unfold lineOf; rw [List.foldl_append]; rfl
theorem rec_snd {α : Type} {lv : α → Nat} {z : α} : ∀ (l : List α) (s : List (List α) × List (Nat × α)), ((l.foldl (rskStep lv z) s).2.map (·.2)) = s.2.map (·.2) ++ l
  | [], s => by simp
  | e :: l, s => by
    rw [List.foldl_cons, rec_snd l]
    show (s.2 ++ [_]).map _ ++ l = _
    rw [List.map_append, List.append_assoc]; rfl
def five : List Int := [205, 112, 263, 426, 100]
def xs5 (ns : List Int) : List Int := ns.take 5 ++ five.drop ns.length
theorem xs5_len (ns : List Int) : (xs5 ns).length = 5 := by
  unfold xs5
  rw [List.length_append, List.length_take, List.length_drop]
  show min 5 ns.length + (5 - ns.length) = 5
  omega
theorem zip_back : ∀ (l : List Ent), backPV (l.map (·.1)) l = l.map fun e => PV.tup [.str (txtOf e.1), colP e]
  | [] => rfl
  | e :: l => by
    show PV.tup [.str (txtOf e.1), colP e] :: backPV (l.map (·.1)) l = _
    rw [zip_back l]; rfl

theorem perm5 (a b c r0 r1 r2 r3 r4 : Addr × TO) (l7 rest : Trk) : List.Perm (l7 ++ ([r0, r1, r2, r3, r4] ++ ([a, b, c] ++ rest))) ([a, b, c, r4, r3, r2, r1, r0] ++ (l7 ++ rest)) := by
  have p1 : List.Perm ([r0, r1, r2, r3, r4] ++ ([a, b, c] ++ rest)) ([a, b, c, r4, r3, r2, r1, r0] ++ rest) :=
    (List.perm_append_comm_assoc _ _ _).trans (List.Perm.append_left [a, b, c] ((List.reverse_perm [r0, r1, r2, r3, r4]).symm.append_right rest))
  exact (List.Perm.append_left l7 p1).trans (List.perm_append_comm_assoc l7 [a, b, c, r4, r3, r2, r1, r0] rest)
def recsOf (l : List Ent) : List (Nat × Nat) := (rskAll lvE zE l).2.map fun r => (r.1, r.2.1)
theorem lawBody_eq : lawBody = [stmtAt 0, stmtAt 1, stmtAt 2, stmtAt 3, stmtAt 4, stmtAt 5, stmtAt 6, stmtAt 7, stmtAt 8, stmtAt 9, stmtAt 10, stmtAt 11] := rfl

section
variable {c : Cx} (hK : c.K = hd.heap_39 c.w.params) (hT : ToldK c) {h₀ : Heap} {n : Nat} {T T' : Trk} {H : Hold} {α : Type} {env : Env} {pos : Pos} {s : Shared}

include hK hT in
theorem k_law (h0 : c.low = 0) (hl : LamAt c h₀) {L fa : Addr} {ns : List Int} (hns : ns.length ≤ 63) {q : Array Nat} (F : LawFacts ((xs5 ns).map entOf) q) :
    W c h₀ (n + 6) (lawT L [(PySem.Str.ofString "script", .lst (ns.map .int))] none none none none none none [(255, .obj (tabObj #[]))]) H (execs lawBody (lawEnv L fa)) fun f T₂ N => f = .ret (.bool true) ∧ ∃ ps, In 255 (.obj (tabObj ps)) T₂ := by
  have hK' : c.up.K = hd.heap_39 c.up.w.params := hK
  have hlo : 0 < c.up.low := Nat.one_pos
  have hT' : ToldK c.up := hT
  have hes : ∀ e ∈ (xs5 ns).map entOf, EntOk e := fun e he => by
    obtain ⟨x, _, rfl⟩ := List.mem_map.mp he
    exact entOk x
  have h5 : ((xs5 ns).map entOf).length = 5 := by rw [List.length_map, xs5_len]
  refine (?_ : W _ _ _ _ _ (execs (Stmt.Assign _ _ _ :: lawBody.drop 1) _) _)
  repeat walk_at "1"
  apply W.newListT'
  · size_fits
  · exact .nil
  intro D
  repeat walk_at "1"
  apply W.newListT'
  · size_fits
  · exact .nil
  intro C
  repeat walk_at "1"
  apply W.newListT'
  · size_fits
  · exact .nil
  intro N
  repeat walk_at "1"
  refine W.weak (T' := lawT L [(PySem.Str.ofString "script", .lst (ns.map .int)), (PySem.Str.ofString "line", .ref N)] (some (.ref C)) none none none none (some (.ref D)) ((N, .list []) :: (C, .list []) :: (D, .list []) :: [(255, .obj (tabObj #[]))])) (.perm (List.perm_append_comm_assoc [_, _, _, _, _, _, _] [_, _, _] [_])) ?_
  have st1 : stmtAt 1 = Stmt.For _ _ _ _ _ := rfl
  refine (?_ : W _ _ _ _ _ (execs (Stmt.For _ _ _ _ _ :: lawBody.drop 2) _) _)
  refine W.forUp h0 (fun v xs i T₂ => T₂ = lawT L [(PySem.Str.ofString "script", .lst (ns.map .int)), (PySem.Str.ofString "line", .ref N)] (some (.ref C)) none none none none (some (.ref D)) ((N, .list ((lineOf (((xs5 ns).map entOf).take i)).map colP)) :: (C, .list ((((xs5 ns).map entOf).take i).map colP)) :: (D, .list ((((xs5 ns).map entOf).take i).map fun e => pairPV (ab e))) :: [(255, .obj (tabObj #[]))])) ?_
  refine WU.BinOp (WU.SubSlice ?_)
  repeat walk_at "1"
  refine W.part_none (WU.part_some (WU.Const_int fun t => W.part_none ⟨ns.map .int, none, some ((5 : Nat) : Int), none, .lst (by walk_at "den"), .none, .int _ _, .none, by decide, by rw [List.length_map]; omega, fun a => ?_⟩))
  rw [slice_take]
  refine W.SubSlice ?_
  repeat walk_at "1"
  apply W.newList'
  · size_fits
  · walk_at "denl"
  repeat walk_at "1"
  refine W.part_some ?_
  repeat walk_at "1"
  refine W.lenN (l := ns.map .int) (.lst (by walk_at "den")) (List.length_map ..) (Nat.le_trans hns (by decide)) fun _ => ?_
  refine W.part_none (W.part_none ⟨five.map .int, some ((ns.length : Nat) : Int), none, none, .lst ?_, .int _ _, .none, .none, by decide, by decide, fun a2 => ?_⟩)
  · walk_at "den"
  rw [slice_drop]
  refine W.addLists (l := (ns.map .int).take 5) (l₂ := (five.map .int).drop ns.length) (.lst (by walk_at "den")) (.lst (by walk_at "den")) ?_ fun a3 => ?_
  · rw [List.length_take, List.length_drop]
    show min 5 _ + (5 - _) ≤ 1000
    omega
  have exs : (ns.map PV.int).take 5 ++ (five.map PV.int).drop ns.length = (xs5 ns).map .int := by unfold xs5; rw [List.map_append, List.map_take, List.map_drop]
  rw [exs]
  refine ⟨(xs5 ns).map .int, .lst (by walk_at "den"), ⟨_, rfl, .refl⟩, ?_, rfl, ?_⟩
  · rintro i x T₂ hx rfl h₁ u
    obtain ⟨y, hy, rfl⟩ := map_get hx
    have hi : i < 5 := by have := (List.getElem?_eq_some_iff.mp hy).1; rw [xs5_len] at this; exact this
    have htk : ((xs5 ns).map entOf).take (i + 1) = ((xs5 ns).map entOf).take i ++ [entOf y] := by rw [List.take_add_one, List.getElem?_map, hy]; rfl
    refine loop1 (c := c.up) hK' hlo hT' st1 (es := ((xs5 ns).map entOf).take i) (fun e he => hes e (List.mem_of_mem_take he)) (by rw [List.length_take]; omega) fun fr => ?_
    refine ⟨rfl, _, rfl, ?_⟩
    rw [htk, lineOf_snoc, List.map_append, List.map_append]
    exact Wk.weak (.frame (m := [_, _]) (m' := fr) (.keep (.cell .refl)))
  rintro T₂ rfl
  have htk : ((xs5 ns).map entOf).take ((xs5 ns).map PV.int).length = (xs5 ns).map entOf := by rw [List.length_map, xs5_len]; exact List.take_of_length_le (by rw [h5]; exact Nat.le_refl _)
  rw [htk]
  obtain ⟨hln, hll⟩ := line_fold ((xs5 ns).map entOf) [] hes (fun e he => nomatch he)
  generalize (xs5 ns).map entOf = es at *
  have hll' : (lineOf es).length = 5 := hll.trans (by rw [h5]; rfl)
  refine (?_ : W _ _ _ _ _ (execs (Stmt.Assign _ _ _ :: lawBody.drop 3) _) _)
  repeat walk_at "1"
  apply W.newListT'
  · size_fits
  · exact .nil
  intro R0
  repeat walk_at "1"
  apply W.newListT'
  · size_fits
  · exact .nil
  intro R1
  repeat walk_at "1"
  apply W.newListT'
  · size_fits
  · exact .nil
  intro R2
  repeat walk_at "1"
  apply W.newListT'
  · size_fits
  · exact .nil
  intro R3
  repeat walk_at "1"
  apply W.newListT'
  · size_fits
  · exact .nil
  intro R4
  repeat walk_at "1"
  apply W.newList'
  · size_fits
  · walk_at "denl"
  repeat walk_at "1"
  refine k_make (n := n + 3) hK' hlo fun X DX HL tk => ?_
  repeat walk_at "1"
  refine W.weak (T' := lawT L [(PySem.Str.ofString "script", .lst (ns.map .int)), (PySem.Str.ofString "line", .ref N), (PySem.Str.ofString "rows", .lst ([R0, R1, R2, R3, R4].map .ref))] (some (.ref C)) none (some (.ref X)) none none (some (.ref D))
    (zipT [R0, R1, R2, R3, R4] ((rskAll lvE zE []).1.map rowP) ++ (HL, .list (([] : List (PySem.Str × PySem.Str)).map entPV)) :: (X, .obj (inst 223 DX)) :: (DX, .obj (dictOf (esH c.up.w.params tk HL) 1)) :: [(N, .list ((lineOf es).map colP)), (C, .list (es.map colP)), (D, .list (es.map fun e => pairPV (ab e))), (255, .obj (tabObj #[]))]))
    (.perm (perm5 (HL, _) (X, _) (DX, _) _ _ _ _ _ [_, _, _, _, _, _, _] _)) ?_
  have hRs : ([R0, R1, R2, R3, R4] : List Addr).length = 5 := rfl
  generalize ([R0, R1, R2, R3, R4] : List Addr) = Rs at *
  have st3 : stmtAt 3 = Stmt.For _ _ _ _ _ := rfl
  refine (?_ : W _ _ _ _ _ (execs (Stmt.For _ _ _ _ _ :: lawBody.drop 4) _) _)
  refine W.execs_n ?_
  refine W.ForG (fun v xs i T₂ => ∃ fr es', Tab es' (recsOf ((lineOf es).take i)) ∧ RowsOk i (rskAll lvE zE ((lineOf es).take i)).1 ∧
    T₂ = lawT L ((PySem.Str.ofString "script", .lst (ns.map .int)) :: (PySem.Str.ofString "line", .ref N) :: (PySem.Str.ofString "rows", .lst (Rs.map .ref)) :: fr) (some (.ref C)) none (some (.ref X)) none none (some (.ref D))
    (zipT Rs ((rskAll lvE zE ((lineOf es).take i)).1.map rowP) ++ (HL, .list (es'.map entPV)) :: (X, .obj (inst 223 DX)) :: (DX, .obj (dictOf (esH c.up.w.params tk HL) 1)) :: [(N, .list ((lineOf es).map colP)), (C, .list (es.map colP)), (D, .list (es.map fun e => pairPV (ab e))), (255, .obj (tabObj #[]))])) ?_
  have iN : ∀ (rw : List (List PV)) (a b d : Addr × TO), In N (.list ((lineOf es).map colP)) (zipT Rs rw ++ a :: b :: d :: [(N, .list ((lineOf es).map colP)), (C, .list (es.map colP)), (D, .list (es.map fun e => pairPV (ab e))), (255, .obj (tabObj #[]))]) := fun rw a b d => In.app (.tail (.tail (.tail .head))) _
  repeat walk_at "1"
  refine ⟨_, _, .own (In.law (iN _ _ _ _)), ⟨[], [], .nil, ⟨rfl, fun r hr => ?_, fun j _ => ?_⟩, rfl⟩, ?_, ?_, ?_⟩
  · rcases (show r = [] by simpa [rskAll] using hr) with rfl
    exact ⟨Nat.le_refl _, fun e he => nomatch he⟩
  · match j with
    | 0 => rfl
    | 1 => rfl
    | 2 => rfl
    | 3 => rfl
    | 4 => rfl
    | j + 5 => rfl
  · rintro i T₂ ⟨fr, es', -, -, rfl⟩
    exact In.law (iN _ _ _ _)
  · rintro i x T₂ hx ⟨fr, es', ht, hro, rfl⟩ h₁ u Q' hQ'
    obtain ⟨e, he, rfl⟩ := map_get hx
    have hi : i < 5 := by have := (List.getElem?_eq_some_iff.mp he).1; omega
    have htk : (lineOf es).take (i + 1) = (lineOf es).take i ++ [e] := by rw [List.take_add_one, he]; rfl
    have hrl : (recsOf ((lineOf es).take i)).length ≤ 100 := by
      unfold recsOf
      rw [List.length_map]
      have := congrArg List.length (rec_snd (lv := lvE) (z := zE) ((lineOf es).take i) ([[], [], [], [], []], []))
      rw [List.length_map, List.map_nil, List.nil_append, List.length_take] at this
      show (rskAll lvE zE _).2.length ≤ 100
      unfold rskAll
      omega
    refine W.weak (Weak.mid [] (m := [_, _, _]) (m' := fr)) ?_
    refine loop2 (c := c.up) hK' hlo hT' st3 (hln e (List.mem_of_getElem? he)) hi hRs hro ht hrl fun fr' es'' ht' hro' => ?_
    refine hQ' .next _ _ ⟨fr', es'', ?_, ?_, ?_⟩
    · rw [htk]; unfold recsOf; rw [rskAll_snoc]
      show Tab es'' ((_ ++ [_]).map _)
      rw [List.map_append]; exact ht'
    · rw [htk, rskAll_snoc]; exact hro'
    · rw [htk, rskAll_snoc]; rfl
  rintro T₂ ⟨fr, es', ht, hro, rfl⟩
  have htk : (lineOf es).take ((lineOf es).map colP).length = lineOf es := by rw [List.length_map]; exact List.take_length
  rw [List.length_map, hll', ← hll'] at hro
  rw [htk] at ht ⊢
  rw [List.take_length] at hro
  have hro5 : (rskAll lvE zE (lineOf es)).1.length = 5 := hro.1
  have hrl : (recsOf (lineOf es)).length ≤ 100 := by
    unfold recsOf
    rw [List.length_map]
    have := congrArg List.length (rec_snd (lv := lvE) (z := zE) (lineOf es) ([[], [], [], [], []], []))
    rw [List.length_map, List.map_nil, List.nil_append] at this
    show (rskAll lvE zE _).2.length ≤ 100
    unfold rskAll
    omega
  generalize hrows : (rskAll lvE zE (lineOf es)).1 = rows at *
  have hback := F.back
  have hlv := F.lv
  have hhu := F.hu
  rw [hrows] at hback hlv
  refine W.weak (Weak.mid [] (m := [_, _, _]) (m' := fr)) ?_
  refine W.execs_nil ?_
  refine (?_ : W _ _ _ _ _ (execs (Stmt.Assign _ _ _ :: lawBody.drop 5) _) _)
  repeat walk_at "1"
  apply W.newListT'
  · size_fits
  · exact .nil
  intro P
  repeat walk_at "1"
  have iD : In D (.list ((es.map ab).map pairPV)) (zipT Rs (rows.map rowP) ++ (HL, .list (es'.map entPV)) :: (X, .obj (inst 223 DX)) :: (DX, .obj (dictOf (esH c.up.w.params tk HL) 1)) :: [(N, .list ((lineOf es).map colP)), (C, .list (es.map colP)), (D, .list (es.map fun e => pairPV (ab e))), (255, .obj (tabObj #[]))]) := by
    have : (es.map ab).map pairPV = es.map fun e => pairPV (ab e) := by rw [List.map_map]; rfl
    rw [this]
    exact In.app (.tail (.tail (.tail (.tail (.tail .head))))) _
  have iX : ∀ l, In X (.obj (inst 223 DX)) (zipT Rs l ++ (HL, .list (es'.map entPV)) :: (X, .obj (inst 223 DX)) :: (DX, .obj (dictOf (esH c.up.w.params tk HL) 1)) :: [(N, .list ((lineOf es).map colP)), (C, .list (es.map colP)), (D, .list (es.map fun e => pairPV (ab e))), (255, .obj (tabObj #[]))]) := fun l => In.app (.tail .head) _
  have iDX : ∀ l, In DX (.obj (dictOf (esH c.up.w.params tk HL) 1)) (zipT Rs l ++ (HL, .list (es'.map entPV)) :: (X, .obj (inst 223 DX)) :: (DX, .obj (dictOf (esH c.up.w.params tk HL) 1)) :: [(N, .list ((lineOf es).map colP)), (C, .list (es.map colP)), (D, .list (es.map fun e => pairPV (ab e))), (255, .obj (tabObj #[]))]) := fun l => In.app (.tail (.tail .head)) _
  have iHL : ∀ l, In HL (.list (es'.map entPV)) (zipT Rs l ++ (HL, .list (es'.map entPV)) :: (X, .obj (inst 223 DX)) :: (DX, .obj (dictOf (esH c.up.w.params tk HL) 1)) :: [(N, .list ((lineOf es).map colP)), (C, .list (es.map colP)), (D, .list (es.map fun e => pairPV (ab e))), (255, .obj (tabObj #[]))]) := fun l => In.app .head _
  refine W.weak (T' := lawT L [(PySem.Str.ofString "script", .lst (ns.map .int)), (PySem.Str.ofString "line", .ref N), (PySem.Str.ofString "rows", .lst (Rs.map .ref)), (PySem.Str.ofString "picks", .ref P)] (some (.ref C)) none (some (.ref X)) none none (some (.ref D))
    ((P, .list []) :: (zipT Rs (rows.map rowP) ++ (HL, .list (es'.map entPV)) :: (X, .obj (inst 223 DX)) :: (DX, .obj (dictOf (esH c.up.w.params tk HL) 1)) :: [(N, .list ((lineOf es).map colP)), (C, .list (es.map colP)), (D, .list (es.map fun e => pairPV (ab e))), (255, .obj (tabObj #[]))]))) ?_ ?_
  · exact .perm (List.perm_middle (l₁ := [_, _, _, _, _, _, _]))
  refine (?_ : W _ _ _ _ _ (execs (stmtAt 5 :: lawBody.drop 6) _) _)
  have hm5 : (es.map ab).length = 5 := by rw [List.length_map, h5]
  have hqs : q.toList.map (fun i => (es.map ab).getD i (0, 0)) = (lineOf es).map ab := by
    rw [← F.line, List.map_map]
    refine List.map_congr_left fun i hi => ?_
    have := F.q5 i hi
    show (es.map ab).getD i (0, 0) = ab (es.getD i zE)
    rw [List.getD_eq_getElem?_getD, List.getD_eq_getElem?_getD, List.getElem?_map, List.getElem?_eq_getElem (by omega)]; rfl
  refine W.execs_n (loop3 (c := c.up) hK' hlo hT' rfl iD hm5 F.sort F.q5 hqs (by rw [List.length_map, hll']) ?_)
  refine (?_ : W _ _ _ _ _ (execs (stmtAt 6 :: lawBody.drop 7) _) _)
  obtain ⟨hp1, -, hp3⟩ := picks_inv ((lineOf es).map ab) (by rw [List.length_map, hll']; exact Nat.le_refl _)
  have hin : ∀ (po : TO) k R, Rs[k]? = some R → In R (.list (rowP (rows.getD k []))) ((P, po) :: (zipT Rs (rows.map rowP) ++ (HL, .list (es'.map entPV)) :: (X, .obj (inst 223 DX)) :: (DX, .obj (dictOf (esH c.up.w.params tk HL) 1)) :: [(N, .list ((lineOf es).map colP)), (C, .list (es.map colP)), (D, .list (es.map fun e => pairPV (ab e))), (255, .obj (tabObj #[]))])) := fun po k R hR => by
    have hk : k < 5 := by have := (List.getElem?_eq_some_iff.mp hR).1; omega
    exact .tail (zipT_in hR (by rw [List.getElem?_map, (hro.get hk).1]; rfl))
  refine W.execs_n (cmp1 (c := c.up) hK' hlo hT' rfl hRs hro (by omega) (hin _) .head (by omega) F.ok1 hlv ?_)
  refine (?_ : W _ _ _ _ _ (execs (stmtAt 7 :: lawBody.drop 8) _) _)
  refine W.execs_n (cmp2 (c := c.up) hK' hlo hT' rfl ht hrl (.tail (iX _)) (.tail (iDX _)) (.tail (iHL _)) .head (by omega) F.ok0 hhu ?_)
  have er : (recsOf (lineOf es)).reverse.map (·.2) = (lineOf es).reverse.map (·.1) := by
    have : (recsOf (lineOf es)).map (·.2) = (lineOf es).map (·.1) := by
      unfold recsOf
      have := rec_snd (lv := lvE) (z := zE) (lineOf es) ([[], [], [], [], []], [])
      rw [List.map_nil, List.nil_append] at this
      rw [List.map_map]
      have e2 : (rskAll lvE zE (lineOf es)).2.map (fun r => r.2.1) = ((rskAll lvE zE (lineOf es)).2.map (·.2)).map (·.1) := by rw [List.map_map]; rfl
      show (rskAll lvE zE (lineOf es)).2.map (fun r => r.2.1) = _
      rw [e2]
      show List.map _ (List.map _ (rskAll lvE zE (lineOf es)).2) = _
      unfold rskAll
      rw [this]
    rw [List.map_reverse, this, List.map_reverse]
  refine (?_ : W _ _ _ _ _ (execs (Stmt.Assign _ _ _ :: lawBody.drop 9) _) _)
  repeat walk_at "1"
  apply W.newListT'
  · size_fits
  · exact .nil
  intro B
  repeat walk_at "1"
  refine W.weak (T' := lawT L [(PySem.Str.ofString "script", .lst (ns.map .int)), (PySem.Str.ofString "line", .ref N), (PySem.Str.ofString "rows", .lst (Rs.map .ref)), (PySem.Str.ofString "picks", .ref P), (PySem.Str.ofString "back", .ref B)] (some (.ref C)) none (some (.ref X)) none none (some (.ref D))
    ((B, .list []) :: (P, .list ((picksOf ((lineOf es).map ab)).map pickPV)) :: (zipT Rs (rows.map rowP) ++ (HL, .list (es'.map entPV)) :: (X, .obj (inst 223 DX)) :: (DX, .obj (dictOf (esH c.up.w.params tk HL) 1)) :: [(N, .list ((lineOf es).map colP)), (C, .list (es.map colP)), (D, .list (es.map fun e => pairPV (ab e))), (255, .obj (tabObj #[]))]))) ?_ ?_
  · exact .perm (List.perm_middle (l₁ := [_, _, _, _, _, _, _]))
  refine (?_ : W _ _ _ _ _ (execs (stmtAt 9 :: lawBody.drop 10) _) _)
  refine W.execs_n (loop4 (c := c.up) hK' hlo hT' rfl hRs ⟨hro.1, fun r hr => ⟨by have := (hro.2.1 r hr).1; omega, (hro.2.1 r hr).2⟩⟩ ht hrl hback (.tail .head) (.tail (.tail .head)) .head fun rows' => ?_)
  show W c.up h₀ (n + 6) _ H (execs [stmtAt 10, stmtAt 11] (lawEnv L fa)) _
  rw [er, zip_back]
  have hlbl : ((lineOf es).reverse.map fun e => PV.tup [.str (txtOf e.1), colP e]).length ≤ 900 := by rw [List.length_map, List.length_reverse, hll']; decide
  have hfin : ((lineOf es).reverse.map fun e => PV.tup [.str (txtOf e.1), colP e]).reverse = q.toList.map (finPV es) := by
    rw [← List.map_reverse, List.reverse_reverse, ← F.line, List.map_map]; rfl
  generalize ((lineOf es).reverse.map fun e => PV.tup [.str (txtOf e.1), colP e]) = bl at *
  refine (fin5 (c := c.up) hK' hlo hT' rfl rfl ⟨hl.code, hl.bm⟩ (B := B) (D := D) (C := C) (es := es) (bl := bl) (q := q) (T' := fun c' => (B, .list bl) :: (P, .list ((picksOf ((lineOf es).map ab)).map pickPV)) :: (zipT Rs (rows'.map rowP) ++ (HL, .list (es'.map entPV)) :: (X, .obj (inst 223 DX)) :: (DX, .obj (dictOf (esH c.up.w.params tk HL) 1)) :: [(N, .list ((lineOf es).map colP)), (C, .list (es.map colP)), (D, .list (es.map fun e => pairPV (ab e))), (255, .obj (tabObj #[rawInt 252, rawInt 33, .ref c']))]))
    hes h5 .head ?_ ?_ hlbl ?_ (fun _ => .head) ?_ ?_ F.sort F.q5 hfin).mono fun f T₂ N ⟨e, c', i⟩ => ⟨e, _, i⟩
  · exact .tail (.tail (In.app (.tail (.tail (.tail (.tail (.tail .head))))) _))
  · exact .tail (.tail (In.app (.tail (.tail (.tail (.tail .head)))) _))
  · exact fun c' => .tail (.tail (At.app (.tail (.tail (.tail (.tail (.tail (.tail .head)))))) _))
  · exact fun c' => .tail (.tail (In.app (.tail (.tail (.tail (.tail (.tail .head))))) _))
  · exact fun c' => .tail (.tail (In.app (.tail (.tail (.tail (.tail .head)))) _))
end
theorem rep_ints {P : Params} {D : List Addr} {h h' : Heap} : ∀ {ns : List Int} {vs : List Value}, WellAll P h vs (ofPys (ns.map PyData.int)) → RepL D h' (ns.map PV.int) vs
  | [], vs, w => by cases w; simp only [List.map_nil, RepL]
  | n :: ns, vs, w => by
    rw [List.map_cons] at w
    rcases w with _ | ⟨w1, w2⟩
    rcases w1 with _ | _ | ⟨_, t⟩
    simp only [List.map_cons, RepL]
    refine ⟨_, _, rfl, ?_, rep_ints w2⟩
    simp only [Rep]
    exact ⟨t, rfl⟩
theorem law_close {w : World} {s₁ : Shared} {h₁ : Heap} {tk : Nat} {L fa S : Addr} {ns : List Int} {mL : PySem.Str → Option Value} {o1 o2 o3 o4 o5 o6 : Obj} {p : Program} {loose : List PySem.Str} {mean : ExcName → Option Value} {mg mb : PySem.Str → Option Value} {Q : Flow → Shared → Prop} {E : Value → Shared → Prop}
    (hF : ∀ ns : List Int, ∃ q, LawFacts ((xs5 ns).map entOf) q)
    (hT9 : TabsAt [(257, 255)] s₁.heap) (w1 : Well w.params s₁.heap (.ref S) (ofPy (PyData.list (ns.map PyData.int)))) (hns : ¬ (63 : Int) < (ns.length : Int))
    (X : (hd.heap_39 w.params).In (ghostOf s₁.heap [(257, 255)])) (T : Top p loose mean mg mb (ghostOf s₁.heap [(257, 255)])) (F : Fr (ghostOf s₁.heap [(257, 255)]) L h₁ mL) (hmL : mL (PySem.Str.ofString "script") = some (.ref S))
    (C : CodeHd (ghostOf s₁.heap [(257, 255)]) 257 255)
    (N : News (ghostOf s₁.heap [(257, 255)]) L h₁ [(L + 1 + 1 + 1 + 1 + 1 + 1, o6), (L + 1 + 1 + 1 + 1 + 1, o5), (L + 1 + 1 + 1 + 1, o4), (L + 1 + 1 + 1, o3), (L + 1 + 1, o2), (L + 1, o1), (255, tabObj #[])])
    (d6 : ∃ v, o6.data = .cell v) (d5 : ∃ v, o5.data = .cell v) (d4 : ∃ v, o4.data = .cell v) (d3 : ∃ v, o3.data = .cell v) (d2 : ∃ v, o2.data = .cell v) (d1 : ∃ v, o1.data = .cell v) (hL : 255 < L)
    (hQ : ∀ s', (∀ b o, (ghostOf s₁.heap [(257, 255)]).get? b = some o → s'.heap.get? b = some o) → s'.gens = s₁.gens → s'.os = s₁.os → (∃ ps, s'.heap.get? 255 = some (tabObj ps)) → Q (.ret (.bool true)) s') :
    wpAny (model PySem.Challenge.rw_pm0068_01.row.prog w) (callerA.deeper (lawEnv L fa)) (execs lawBody (lawEnv L fa)) Q E { s₁ with heap := h₁, toks := tk } := by
  obtain ⟨q, hq⟩ := hF ns
  have hw : ∃ vs : List Value, s₁.heap.get? S = some (lstObj vs.toArray 0) ∧ WellAll w.params s₁.heap vs (ofPys (ns.map PyData.int)) := by
    have w2 : Well w.params s₁.heap (.ref S) (.list (ofPys (ns.map PyData.int))) := w1
    cases w2 with
    | list h1 h2 => exact ⟨_, h1, h2⟩
  obtain ⟨vs, hS, hvs⟩ := hw
  have hSg : (ghostOf s₁.heap [(257, 255)]).get? S = some (lstObj vs.toArray 0) := ghost_get hT9 hS (fun e => by cases e)
  obtain ⟨bm, ob, b1, b2, b3, b4, b5, b6⟩ := T.bmain
  let c : Cx := ⟨PySem.Challenge.rw_pm0068_01.row.prog, w, hd.heap_39 w.params, p, loose, mg, mb, s₁.gens, s₁.drawn, s₁.os, 0⟩
  have hT : ToldK c := fun t S => by kernel_rfl
  have main := k_law (c := c) (n := 30) (H := [(.lst (ns.map .int), .ref S)]) (h₀ := ghostOf s₁.heap [(257, 255)]) rfl hT rfl ⟨C, bm, ob, b1, b2, b3, b4, b5, b6⟩ (L := L) (fa := fa) (ns := ns) (by omega) hq
  have hA : AOk (30 + 6) (callerA.deeper (lawEnv L fa)) := by
    refine ⟨rfl, ?_, ?_⟩
    · show callerA.depth + 1 + 36 < 990
      decide
    · show callerA.units + 3 + 10 * 36 < 9800
      decide
  refine wpAny_mono (main _ _ hA ?_) (fun f s' ⟨T', M, ⟨hf, ps, hi⟩, S'⟩ => ?_) fun _ _ x => x.elim
  · have cell : ∀ {a : Addr} {o : Obj}, h₁.get? a = some o → (∃ v, o.data = .cell v) → ∀ D, Own D h₁ a (.cell none) := fun e ⟨v, hv⟩ D => ⟨v, ⟨_, e, hv⟩, fun p hp => nomatch hp⟩
    have n255 : (ghostOf s₁.heap [(257, 255)]).get? 255 = none := (N (255, tabObj #[]) (.tail _ (.tail _ (.tail _ (.tail _ (.tail _ (.tail _ (.head _)))))))).2.2
    have Ng : ∀ {a o}, (a, o) ∈ [(L + 1 + 1 + 1 + 1 + 1 + 1, o6), (L + 1 + 1 + 1 + 1 + 1, o5), (L + 1 + 1 + 1 + 1, o4), (L + 1 + 1 + 1, o3), (L + 1 + 1, o2), (L + 1, o1), (255, tabObj #[])] → h₁.get? a = some o := fun h => (N _ h).1
    have hlt : ∀ {a o}, (ghostOf s₁.heap [(257, 255)]).get? a = some o → a < L := fun e => Nat.lt_of_lt_of_le (Heap.lt_size e) F.above
    have hSD : ∀ D : List Addr, (∀ a ∈ D, a = 255 ∨ L ≤ a) → RepL D h₁ (ns.map PV.int) vs → Rep D h₁ (.lst (ns.map .int)) (.ref S) := fun D hD r => by
      simp only [Rep]
      refine ⟨S, vs.toArray, 0, rfl, F.keep _ _ hSg, fun hm => ?_, by simpa using r⟩
      rcases hD S hm with e | e
      · have := n255
        rw [e] at hSg
        rw [hSg] at this; cases this
      · exact absurd (hlt hSg) (Nat.not_lt.mpr e)
    have hD : ∀ a ∈ dom (lawT L [(PySem.Str.ofString "script", PV.lst (ns.map .int))] none none none none none none [(255, .obj (tabObj #[]))]), a = 255 ∨ L ≤ a := by
      refine (?_ : ∀ a ∈ [L, L + 1, L + 2, L + 3, L + 4, L + 5, L + 6, 255], _)
      refine List.forall_mem_cons.mpr ⟨.inr (Nat.le_refl _), List.forall_mem_cons.mpr ⟨.inr (Nat.le_add_right L 1), List.forall_mem_cons.mpr ⟨.inr (Nat.le_add_right L 2), List.forall_mem_cons.mpr ⟨.inr (Nat.le_add_right L 3),
        List.forall_mem_cons.mpr ⟨.inr (Nat.le_add_right L 4), List.forall_mem_cons.mpr ⟨.inr (Nat.le_add_right L 5), List.forall_mem_cons.mpr ⟨.inr (Nat.le_add_right L 6), List.forall_mem_cons.mpr ⟨.inl rfl, fun _ h => nomatch h⟩⟩⟩⟩⟩⟩⟩⟩
    refine ⟨⟨X, topRead_of T⟩, F.keep, fun x hx => ?_, ?_, ?_, fun x hx => ?_, rfl, rfl, rfl, Nat.zero_le _⟩
    · have n1 : ∀ a, L ≤ a → (ghostOf s₁.heap [(257, 255)]).get? a = none := fun a ha => Heap.get?_none_of_le (Nat.le_trans F.above ha)
      rcases hD x.1 (List.mem_map_of_mem hx) with e | e
      · rw [e]; exact n255
      · exact n1 _ e
    · refine List.forall_mem_cons.mpr ⟨⟨mL, F.ns, fun y p hy => ?_⟩, List.forall_mem_cons.mpr ⟨cell (Ng (o := o1) (.tail _ (.tail _ (.tail _ (.tail _ (.tail _ (.head _))))))) d1 _, List.forall_mem_cons.mpr ⟨cell (Ng (o := o2) (.tail _ (.tail _ (.tail _ (.tail _ (.head _)))))) d2 _,
        List.forall_mem_cons.mpr ⟨cell (Ng (o := o3) (.tail _ (.tail _ (.tail _ (.head _))))) d3 _, List.forall_mem_cons.mpr ⟨cell (Ng (o := o4) (.tail _ (.tail _ (.head _)))) d4 _, List.forall_mem_cons.mpr ⟨cell (Ng (o := o5) (.tail _ (.head _))) d5 _,
        List.forall_mem_cons.mpr ⟨cell (Ng (o := o6) (.head _)) d6 _, List.forall_mem_cons.mpr ⟨Ng (o := tabObj #[]) (.tail _ (.tail _ (.tail _ (.tail _ (.tail _ (.tail _ (.head _))))))), fun _ h => nomatch h⟩⟩⟩⟩⟩⟩⟩⟩
      rw [List.lookup_cons] at hy
      cases he : y == PySem.Str.ofString "script" with
      | true =>
        rw [he] at hy
        cases hy
        rw [beq_iff_eq.mp he]
        exact ⟨_, hmL, hSD _ hD (rep_ints hvs)⟩
      | false => rw [he] at hy; exact nomatch hy
    · have e : dom (lawT L [(PySem.Str.ofString "script", PV.lst (ns.map .int))] none none none none none none [(255, .obj (tabObj #[]))]) = [L, L + 1, L + 2, L + 3, L + 4, L + 5, L + 6, 255] := rfl
      rw [e]
      have key : ([L, L + 1, L + 2, L + 3, L + 4, L + 5, L + 6] ++ [255] : List Nat).Nodup := by
        have e7 : ([L, L + 1, L + 2, L + 3, L + 4, L + 5, L + 6] : List Nat) = (List.range 7).map (L + ·) := rfl
        refine List.nodup_append.mpr ⟨by rw [e7]; exact List.Pairwise.map _ (fun a b h e => h (Nat.add_left_cancel e)) List.nodup_range, List.nodup_cons.mpr ⟨(fun h => nomatch h), List.nodup_nil⟩, fun a ha b hb e => ?_⟩
        rw [e7] at ha
        obtain ⟨k, _, rfl⟩ := List.mem_map.mp ha
        rw [List.mem_singleton.mp hb] at e
        exact absurd (Nat.lt_of_lt_of_le hL (Nat.le_add_right L k)) (by rw [e]; exact Nat.lt_irrefl _)
      exact key
    · rcases List.mem_singleton.mp hx with rfl
      exact hSD _ hD (rep_ints hvs)
  · subst hf
    exact hQ s' S'.keep S'.gens S'.os ⟨ps, S'.get hi⟩
end Mine
end

section
open PySem PySem.W PyProof.Rows
set_option Elab.async false
set_option maxRecDepth 100000
set_option maxHeartbeats 4000000
set_option linter.unusedVariables false
set_option linter.unusedSimpArgs false
namespace Mine

def topP (side : Nat) (p : Pick) : Nat := mx (p.1.map (sel side))
def mxF (P : Pick → Bool) : List Pick → Nat
  | [] => 0
  | p :: l => if P p = true then max p.1.length (mxF P l) else mxF P l
theorem max_tt (a x y : Nat) : max a (max x y) = max (max a x) (max a y) := by
  rw [Nat.max_assoc, Nat.max_left_comm x, ← Nat.max_assoc a a, Nat.max_self]
theorem mxF_or (P Q : Pick → Bool) : ∀ l, mxF (fun p => P p || Q p) l = max (mxF P l) (mxF Q l)
  | [] => rfl
  | p :: l => by
    have ih := mxF_or P Q l
    simp only [mxF]
    rcases Bool.eq_false_or_eq_true (P p) with hP | hP <;> rcases Bool.eq_false_or_eq_true (Q p) with hQ | hQ <;> simp only [hP, hQ, ih, Bool.or_true, Bool.or_false, if_true, if_false, Bool.false_eq_true] <;> first | exact max_tt _ _ _ | exact (Nat.max_assoc _ _ _).symm | exact Nat.max_left_comm _ _ _ | omega
theorem mxF_congr {P Q : Pick → Bool} : ∀ {l : List Pick}, (∀ p ∈ l, P p = Q p) → mxF P l = mxF Q l
  | [], _ => rfl
  | p :: l, h => by
    simp only [mxF]
    rw [h p (List.mem_cons_self ..), mxF_congr (l := l) fun q hq => h q (List.mem_cons_of_mem _ hq)]
theorem mxF_zero {P : Pick → Bool} : ∀ {l : List Pick}, (∀ p ∈ l, P p = false) → mxF P l = 0
  | [], _ => rfl
  | p :: l, h => by
    simp only [mxF]
    rw [h p (List.mem_cons_self ..), mxF_zero (l := l) fun q hq => h q (List.mem_cons_of_mem _ hq)]; rfl
theorem getD_set {α : Type} (l : List α) (i j : Nat) (x y : α) : (l.set i x).getD j y = if i = j ∧ i < l.length then x else l.getD j y := by
  rw [List.getD_eq_getElem?_getD, List.getD_eq_getElem?_getD, List.getElem?_set]
  by_cases h : i = j
  · subst h
    by_cases h2 : i < l.length
    · simp [h2]
    · simp [h2]
  · simp [h]
theorem best_fold {side d t : Nat} (hd : d < 6) (ht : t < 8) : ∀ (ps : List Pick) (B : List (List Nat)), Best B → (∀ p ∈ ps, PickOk side p) →
    ((ps.foldl (bestStep side) B).getD d []).getD t 0 = max ((B.getD d []).getD t 0) (mxF (fun p => mx p.2 == d && topP side p == t) ps)
  | [], B, _, _ => by simp [mxF]
  | p :: ps, B, hB, ok => by
    rw [List.foldl_cons, best_fold hd ht ps _ (hB.step (ok p (List.mem_cons_self ..))) fun q hq => ok q (List.mem_cons_of_mem _ hq)]
    obtain ⟨-, -, -, -, k5, k6⟩ := ok p (List.mem_cons_self ..)
    obtain ⟨e1, l1, -⟩ := hB.get k5
    have hb : ((bestStep side B p).getD d []).getD t 0 = if mx p.2 = d ∧ topP side p = t then max ((B.getD d []).getD t 0) p.1.length else (B.getD d []).getD t 0 := by
      unfold bestStep
      rw [getD_set]
      by_cases h1 : mx p.2 = d
      · subst h1
        rw [if_pos ⟨rfl, by rw [hB.1]; exact k5⟩, getD_set]
        by_cases h2 : mx (p.1.map (sel side)) = t
        · subst h2
          rw [if_pos ⟨rfl, by rw [l1]; exact k6⟩, if_pos ⟨rfl, rfl⟩]
        · rw [if_neg (fun h => h2 h.1), if_neg (fun h => h2 h.2)]
      · rw [if_neg (fun h => h1 h.1), if_neg (fun h => h1 h.1)]
    rw [hb]
    simp only [mxF]
    by_cases h : mx p.2 = d ∧ topP side p = t
    · have : (mx p.2 == d && topP side p == t) = true := by simp [h.1, h.2]
      rw [if_pos h, if_pos this]; exact Nat.max_assoc _ _ _
    · have : ¬ (mx p.2 == d && topP side p == t) = true := by simpa using h
      rw [if_neg h, if_neg this]
theorem best_get {side d t : Nat} (hd : d < 6) (ht : t < 8) {ps : List Pick} (ok : ∀ p ∈ ps, PickOk side p) : ((bestOf side ps).getD d []).getD t 0 = mxF (fun p => mx p.2 == d && topP side p == t) ps := by
  unfold bestOf
  rw [best_fold hd ht ps _ .zero ok]
  have : ((List.replicate 6 zero8).getD d []).getD t 0 = 0 := by
    have h : ∀ d < 6, ∀ t < 8, ((List.replicate 6 zero8).getD d []).getD t 0 = 0 := by decide
    exact h d hd t ht
  rw [this, Nat.zero_max]

/-- rows told by numbers that rise -/
def flat (lam : Nat → Nat) : Nat → List Nat
  | 0 => []
  | n + 1 => flat lam n ++ List.replicate (lam n - (if n = 0 then 0 else lam (n - 1))) n
theorem flat_len {lam : Nat → Nat} : ∀ (n : Nat), (∀ v, v + 1 < n → lam v ≤ lam (v + 1)) → (flat lam n).length = if n = 0 then 0 else lam (n - 1)
  | 0, _ => rfl
  | n + 1, h => by
    have ih := flat_len n fun v hv => h v (by omega)
    simp only [flat, List.length_append, List.length_replicate, ih]
    cases n with
    | zero => simp
    | succ n =>
      have := h n (by omega)
      simp; omega
theorem told_row {m ln : List Nat} {gp gn : Nat → Nat} (hm : m.length = 8) (hp : ∀ v, v < 8 → m.getD v 0 = gp v) (hg : ∀ v, v < 8 → max (max (if v = 0 then 0 else gn (v - 1)) (gp v)) (ln.getD v 0) = gn v)
    (mono : ∀ v, v + 1 < 8 → gn v - gp v ≤ gn (v + 1) - gp (v + 1)) : ∀ n, n ≤ 8 → ∃ mm, (List.range n).foldl (toldStep ln) ([], 0, m) = (flat (fun v => gn v - gp v) n, (if n = 0 then 0 else gn (n - 1)), mm) ∧ mm.length = 8 ∧ ∀ v, v < 8 → mm.getD v 0 = if v < n then gn v else gp v
  | 0, _ => ⟨m, rfl, hm, fun v hv => by rw [if_neg (Nat.not_lt_zero _)]; exact hp v hv⟩
  | n + 1, hn => by
    obtain ⟨mm, e, hl, hv⟩ := told_row hm hp hg mono n (by omega)
    rw [List.range_succ, List.foldl_append, e]
    have h1 : mm.getD n 0 = gp n := by rw [hv n (by omega), if_neg (Nat.lt_irrefl _)]
    have h2 := hg n (by omega)
    have h3 := flat_len (lam := fun v => gn v - gp v) n fun v hv => mono v (by omega)
    have h4 : max (max (if n = 0 then 0 else gn (n - 1)) (mm.getD n 0)) (ln.getD n 0) = gn n := by rw [h1]; exact h2
    refine ⟨mm.set n (gn n), ?_, by rw [List.length_set]; exact hl, fun v hv8 => ?_⟩
    · show toldStep ln (flat (fun v => gn v - gp v) n, (if n = 0 then 0 else gn (n - 1)), mm) n = _
      simp only [toldStep]
      rw [h4, h1, h3]
      simp only [flat]
      rfl
    · rw [getD_set]
      by_cases h : n = v
      · subst h
        rw [if_pos ⟨rfl, by omega⟩, if_pos (Nat.lt_succ_self _)]
      · rw [if_neg (fun q => h q.1), hv v hv8]
        by_cases h' : v < n
        · rw [if_pos h', if_pos (by omega)]
        · rw [if_neg h', if_neg (by omega)]

def Gr (side : Nat) (ps : List Pick) (d v : Nat) : Nat := mxF (fun p => decide (mx p.2 ≤ d) && decide (topP side p ≤ v)) ps
theorem Gr_step {side : Nat} {ps : List Pick} {d v : Nat} : max (max (if v = 0 then 0 else Gr side ps (d + 1) (v - 1)) (Gr side ps d v)) (mxF (fun p => mx p.2 == d + 1 && topP side p == v) ps) = Gr side ps (d + 1) v := by
  unfold Gr
  cases v with
  | zero =>
    rw [if_pos rfl, Nat.zero_max, ← mxF_or]
    refine mxF_congr fun p _ => ?_
    rw [Bool.eq_iff_iff]
    simp; omega
  | succ v =>
    rw [if_neg (by omega), ← mxF_or, ← mxF_or]
    refine mxF_congr fun p _ => ?_
    rw [Bool.eq_iff_iff]
    simp; omega
theorem told_lines {side : Nat} {ps : List Pick} (ok : ∀ p ∈ ps, PickOk side p) (g0 : ∀ v, Gr side ps 0 v = 0) (mono : ∀ d, d < 5 → ∀ v, v + 1 < 8 → Gr side ps (d + 1) v - Gr side ps d v ≤ Gr side ps (d + 1) (v + 1) - Gr side ps d (v + 1)) :
    ∀ (k : Nat), k ≤ 5 → ∃ mm, (((bestOf side ps).drop 1).take k).foldl toldLine ([], zero8) = ((List.range k).map fun d => flat (fun v => Gr side ps (d + 1) v - Gr side ps d v) 8, mm) ∧ mm.length = 8 ∧ ∀ v, v < 8 → mm.getD v 0 = Gr side ps k v
  | 0, _ => ⟨zero8, rfl, rfl, fun v hv => by
    have : ∀ v < 8, zero8.getD v 0 = 0 := by decide
    rw [g0]; exact this v hv⟩
  | k + 1, hk => by
    obtain ⟨mm, e, hl, hv⟩ := told_lines ok g0 mono k (by omega)
    have bb : Best (bestOf side ps) := Best.fold .zero ok
    obtain ⟨eB, lB, -⟩ := bb.get (show 1 + k < 6 by omega)
    have htk : ((bestOf side ps).drop 1).take (k + 1) = ((bestOf side ps).drop 1).take k ++ [(bestOf side ps).getD (1 + k) []] := by
      rw [List.take_add_one, List.getElem?_drop, eB]; rfl
    rw [htk, List.foldl_append, e]
    obtain ⟨m2, e2, hl2, hv2⟩ := told_row (ln := (bestOf side ps).getD (1 + k) []) (gp := Gr side ps k) (gn := Gr side ps (k + 1)) hl hv (fun v hv8 => by
      rw [best_get (by omega) hv8 ok, show 1 + k = k + 1 by omega]; exact Gr_step) (mono k (by omega)) 8 (Nat.le_refl _)
    refine ⟨m2, ?_, hl2, fun v hv8 => by rw [hv2 v hv8, if_pos hv8]⟩
    show toldLine (_, mm) _ = _
    unfold toldLine toldRow
    simp only
    rw [e2, List.range_succ, List.map_append]
    rfl
theorem told_spec {side : Nat} {ps : List Pick} (ok : ∀ p ∈ ps, PickOk side p) (g0 : ∀ v, Gr side ps 0 v = 0) (mono : ∀ d, d < 5 → ∀ v, v + 1 < 8 → Gr side ps (d + 1) v - Gr side ps d v ≤ Gr side ps (d + 1) (v + 1) - Gr side ps d (v + 1)) :
    toldOf side ps = (List.range 5).map fun d => flat (fun v => Gr side ps (d + 1) v - Gr side ps d v) 8 := by
  obtain ⟨mm, e, -, -⟩ := told_lines ok g0 mono 5 (Nat.le_refl _)
  have bb : Best (bestOf side ps) := Best.fold .zero ok
  rw [List.take_of_length_le (by rw [List.length_drop, bb.1]; exact Nat.le_refl _)] at e
  unfold toldOf
  rw [e]

/-- a sorted list is told by counts -/
def cle (s : List Nat) (v : Nat) : Nat := (s.filter fun x => decide (x ≤ v)).length
theorem filter_lt_succ {s : List Nat} (hs : s.Pairwise (· ≤ ·)) (n : Nat) : s.filter (fun x => decide (x < n + 1)) = s.filter (fun x => decide (x < n)) ++ s.filter (fun x => decide (x = n)) := by
  induction s with
  | nil => rfl
  | cons x s ih =>
    rw [List.pairwise_cons] at hs
    have ih' := ih hs.2
    rcases Nat.lt_trichotomy x n with h | h | h
    · have : ¬ x = n := by omega
      have h' : x < n + 1 := by omega
      simp only [List.filter_cons, h, h', this, decide_true, decide_false, if_true, Bool.false_eq_true, if_false, ih', List.cons_append]
    · subst h
      have h' : x < x + 1 := by omega
      have h0 : s.filter (fun y => decide (y < x)) = [] := by
        rw [List.filter_eq_nil_iff]
        intro y hy
        have := hs.1 y hy
        simp; omega
      simp only [List.filter_cons, h', Nat.lt_irrefl, decide_true, decide_false, if_true, Bool.false_eq_true, if_false, ih', h0, List.nil_append]
    · have h1 : ¬ x < n := by omega
      have h2 : ¬ x < n + 1 := by omega
      have h3 : ¬ x = n := by omega
      simp only [List.filter_cons, h1, h2, h3, decide_false, Bool.false_eq_true, if_false, ih']
theorem flat_sorted {s : List Nat} (hs : s.Pairwise (· ≤ ·)) : ∀ n, flat (cle s) n = s.filter fun x => decide (x < n)
  | 0 => by simp [flat]
  | n + 1 => by
    rw [filter_lt_succ hs n, flat, flat_sorted hs n]
    congr 1
    have e : cle s n - (if n = 0 then 0 else cle s (n - 1)) = (s.filter fun x => decide (x = n)).length := by
      have h1 : cle s n = (s.filter fun x => decide (x < n)).length + (s.filter fun x => decide (x = n)).length := by
        rw [← List.length_append, ← filter_lt_succ hs n]
        unfold cle
        congr 2
        funext x
        rw [Bool.eq_iff_iff]; simp; omega
      have h2 : (if n = 0 then 0 else cle s (n - 1)) = (s.filter fun x => decide (x < n)).length := by
        cases n with
        | zero =>
          have : s.filter (fun x => decide (x < 0)) = [] := by rw [List.filter_eq_nil_iff]; intro y _; simp
          rw [this]; rfl
        | succ n =>
          rw [if_neg (by omega)]
          unfold cle
          congr 2
          funext x
          rw [Bool.eq_iff_iff]; simp; omega
      omega
    rw [e]
    refine (List.eq_replicate_iff.mpr ⟨rfl, fun x hx => ?_⟩).symm
    simpa using (List.mem_filter.mp hx).2
theorem flat_all {s : List Nat} (hs : s.Pairwise (· ≤ ·)) (h8 : ∀ x ∈ s, x < 8) : flat (cle s) 8 = s := by
  rw [flat_sorted hs]
  rw [List.filter_eq_self]
  intro x hx
  simpa using h8 x hx
theorem flat_congr {f g : Nat → Nat} : ∀ {n : Nat}, (∀ v, v < n → f v = g v) → flat f n = flat g n
  | 0, _ => rfl
  | n + 1, h => by
    simp only [flat]
    rw [flat_congr (n := n) fun v hv => h v (by omega), h n (by omega)]
    cases n with
    | zero => rfl
    | succ n => rw [if_neg (by omega), if_neg (by omega), show n + 1 - 1 = n from rfl, h n (by omega)]
end Mine
end

section
open PySem PySem.W PyProof.Rows
set_option Elab.async false
set_option maxRecDepth 100000
set_option maxHeartbeats 4000000
set_option linter.unusedVariables false
set_option linter.unusedSimpArgs false
namespace Mine

theorem snoc_ind {α : Type} {M : List α → Prop} (h0 : M []) (h1 : ∀ l x, M l → M (l ++ [x])) (l : List α) : M l := by
  have : ∀ r : List α, M r.reverse := by
    intro r
    induction r with
    | nil => exact h0
    | cons x r ih => rw [List.reverse_cons]; exact h1 _ x ih
  rw [← List.reverse_reverse l]; exact this _
theorem foldmax_le : ∀ (l : List Nat) (a k : Nat), a ≤ k → (∀ x ∈ l, x ≤ k) → l.foldl max a ≤ k
  | [], a, k, h, _ => h
  | x :: l, a, k, h, hl => foldmax_le l (max a x) k (by have := hl x (List.mem_cons_self ..); omega) fun y hy => hl y (List.mem_cons_of_mem _ hy)
theorem le_foldmax : ∀ (l : List Nat) (a : Nat), a ≤ l.foldl max a ∧ ∀ x ∈ l, x ≤ l.foldl max a
  | [], a => ⟨Nat.le_refl _, fun _ h => nomatch h⟩
  | x :: l, a => by
    obtain ⟨h1, h2⟩ := le_foldmax l (max a x)
    refine ⟨Nat.le_trans (Nat.le_max_left ..) h1, fun y hy => ?_⟩
    rcases List.mem_cons.mp hy with rfl | hy
    · exact Nat.le_trans (Nat.le_max_right ..) h1
    · exact h2 y hy
theorem mx_le {l : List Nat} {k : Nat} (h : ∀ x ∈ l, x ≤ k) : mx l ≤ k := foldmax_le l 0 k (Nat.zero_le _) h
theorem le_mx {l : List Nat} {x : Nat} (h : x ∈ l) : x ≤ mx l := (le_foldmax l 0).2 x h
theorem mx_snoc (l : List Nat) (x : Nat) : mx (l ++ [x]) = max (mx l) x := by unfold mx; rw [List.foldl_append]; rfl
theorem mx_le_iff {l : List Nat} {k : Nat} : mx l ≤ k ↔ ∀ x ∈ l, x ≤ k := ⟨fun h x hx => Nat.le_trans (le_mx hx) h, mx_le⟩

def PkI (l : List (Nat × Nat)) (p : Pick) : Prop := p.1 ≠ [] ∧ p.1.length = p.2.length ∧ p.1.length ≤ l.length ∧ (∀ x ∈ p.1, x ∈ l) ∧ ∀ f ∈ p.2, 1 ≤ f ∧ f ≤ p.2.length
theorem extP_I {l : List (Nat × Nat)} {p : Pick} {x : Nat × Nat} (hl : p.1.length = p.2.length) (hn : p.1.length ≤ l.length) (hm : ∀ y ∈ p.1, y ∈ l) (hf : ∀ f ∈ p.2, 1 ≤ f ∧ f ≤ p.2.length) : PkI (l ++ [x]) (extP p x) := by
  unfold PkI extP
  simp only
  refine ⟨by simp, by simp [hl], by simp; exact hn, fun y hy => ?_, fun f hfm => ?_⟩
  · rcases List.mem_append.mp hy with hy | hy
    · exact List.mem_append_left _ (hm y hy)
    · exact List.mem_append_right _ hy
  · rw [List.length_append, List.length_singleton]
    rcases List.mem_append.mp hfm with h | h
    · have := hf f h; omega
    · rw [List.mem_singleton.mp h]
      have : mx (0 :: (((List.range p.1.length).filter fun i => decide ((p.1.getD i (0, 0)).2 > x.2)).map fun i => p.2.getD i 0)) ≤ p.2.length := mx_le fun y hy => by
        rcases List.mem_cons.mp hy with rfl | hy
        · exact Nat.zero_le _
        · obtain ⟨i, _, rfl⟩ := List.mem_map.mp hy
          rw [List.getD_eq_getElem?_getD]
          cases q : p.2[i]? with
          | none => exact Nat.zero_le _
          | some f => exact (hf f (List.mem_of_getElem? q)).2
      omega
theorem picks_I (l : List (Nat × Nat)) : ∀ p ∈ picksOf l, PkI l p := by
  refine snoc_ind (M := fun l => ∀ p ∈ picksOf l, PkI l p) (fun p h => nomatch h) (fun l x ih p hp => ?_) l
  rw [picksOf_snoc] at hp
  unfold pickStep at hp
  rcases List.mem_append.mp hp with hp | hp
  · obtain ⟨a, b, c, d, e⟩ := ih p hp
    exact ⟨a, b, by rw [List.length_append]; omega, fun y hy => List.mem_append_left _ (d y hy), e⟩
  · obtain ⟨p', hp', rfl⟩ := List.mem_map.mp hp
    rcases List.mem_cons.mp hp' with rfl | hp'
    · exact extP_I rfl (Nat.zero_le _) (fun y h => nomatch h) fun f h => nomatch h
    · obtain ⟨a, b, c, d, e⟩ := ih p' hp'
      exact extP_I b c d e
theorem picks_ok {l : List (Nat × Nat)} {side : Nat} (h5 : l.length ≤ 5) (h8 : ∀ x ∈ l, sel side x < 8) : ∀ p ∈ picksOf l, PickOk side p := fun p hp => by
  obtain ⟨a, b, c, d, e⟩ := picks_I l p hp
  refine ⟨a, fun q => ?_, by omega, by omega, ?_, ?_⟩
  · rw [q] at b; exact a (List.length_eq_zero_iff.mp b)
  · have : mx p.2 ≤ 5 := mx_le fun f hf => by have := e f hf; omega
    omega
  · have : mx (p.1.map (sel side)) ≤ 7 := mx_le fun f hf => by
      obtain ⟨x, hx, rfl⟩ := List.mem_map.mp hf
      have := h8 x (d x hx); omega
    omega
theorem picks_dep {l : List (Nat × Nat)} : ∀ p ∈ picksOf l, 1 ≤ mx p.2 := fun p hp => by
  obtain ⟨a, b, c, d, e⟩ := picks_I l p hp
  obtain ⟨f, hf⟩ : ∃ f, f ∈ p.2 := by
    cases q : p.2 with
    | nil => rw [q] at b; exact absurd (List.length_eq_zero_iff.mp b) a
    | cons f r => exact ⟨f, List.mem_cons_self ..⟩
  exact Nat.le_trans (e f hf).1 (le_mx hf)
theorem g0_of {l : List (Nat × Nat)} {side : Nat} (v : Nat) : Gr side (picksOf l) 0 v = 0 := mxF_zero fun p hp => by
  have := picks_dep p hp
  simp; omega

theorem picks_filter (P : Nat × Nat → Bool) (l : List (Nat × Nat)) : picksOf (l.filter P) = (picksOf l).filter fun p => p.1.all P := by
  refine snoc_ind (M := fun l => picksOf (l.filter P) = (picksOf l).filter fun p => p.1.all P) rfl (fun l x ih => ?_) l
  have hext : ∀ p : Pick, (extP p x).1.all P = (p.1.all P && P x) := fun p => by unfold extP; simp
  rw [picksOf_snoc, List.filter_append]
  unfold pickStep
  rw [List.filter_append, ← ih]
  cases hx : P x with
  | true =>
    have : [x].filter P = [x] := by simp [hx]
    rw [this, picksOf_snoc]
    unfold pickStep
    congr 1
    rw [List.filter_map]
    have : ((fun p : Pick => p.1.all P) ∘ fun p => extP p x) = fun p => p.1.all P := by funext p; simp [hext, hx]
    rw [this, List.filter_cons, ih]
    rfl
  | false =>
    have : [x].filter P = [] := by simp [hx]
    rw [this, List.append_nil]
    have : (((([], []) : Pick) :: picksOf l).map fun p => extP p x).filter (fun p => p.1.all P) = [] := by
      rw [List.filter_eq_nil_iff]
      intro p hp
      obtain ⟨p', _, rfl⟩ := List.mem_map.mp hp
      rw [hext, hx]; simp
    rw [this, List.append_nil]
def GP (ps : List Pick) (d : Nat) : Nat := mxF (fun p => decide (mx p.2 ≤ d)) ps
theorem mxF_filter (P Q : Pick → Bool) : ∀ l, mxF (fun p => P p && Q p) l = mxF P (l.filter Q)
  | [] => rfl
  | p :: l => by
    have ih := mxF_filter P Q l
    rw [List.filter_cons]
    rcases Bool.eq_false_or_eq_true (Q p) with hQ | hQ
    · rw [if_pos hQ]
      simp only [mxF, hQ, Bool.and_true, ih]
    · rw [if_neg (by simp [hQ])]
      simp only [mxF, hQ, Bool.and_false, ih]; rfl
theorem Gr_word {side : Nat} {l : List (Nat × Nat)} {d v : Nat} : Gr side (picksOf l) d v = GP (picksOf (l.filter fun x => decide (sel side x ≤ v))) d := by
  rw [picks_filter]
  unfold Gr GP
  rw [← mxF_filter]
  refine mxF_congr fun p _ => ?_
  congr 1
  rw [Bool.eq_iff_iff]
  unfold topP
  simp only [decide_eq_true_eq, mx_le_iff, List.mem_map, forall_exists_index, and_imp, forall_apply_eq_imp_iff₂, List.all_eq_true]

/-- the same by fewer steps -/
abbrev QP := List (Nat × Nat) × Nat × Nat
def mxN (a b : Nat) : Nat := cond (Nat.ble a b) b a
theorem mxN_eq (a b : Nat) : mxN a b = max a b := by
  unfold mxN
  cases h : Nat.ble a b with
  | true => have := Nat.le_of_ble_eq_true h; show b = _; omega
  | false =>
    have : ¬ a ≤ b := fun q => by rw [Nat.ble_eq_true_of_le q] at h; cases h
    show a = _; omega
def fallE : List (Nat × Nat) → Nat → Nat
  | [], _ => 0
  | y :: l, b => cond (Nat.ble (b + 1) y.1) (mxN y.2 (fallE l b)) (fallE l b)
def extQ (b : Nat) (q : QP) : QP := ((b, fallE q.1 b + 1) :: q.1, mxN q.2.1 (fallE q.1 b + 1), q.2.2 + 1)
def stepQ (qs : List QP) (b : Nat) : List QP := qs ++ ((([], 0, 0) : QP) :: qs).map (extQ b)
def allB (l : List Nat) : List QP := l.foldl stepQ []
def gQ : List QP → Nat → Nat
  | [], _ => 0
  | q :: l, d => cond (Nat.ble q.2.1 d) (mxN q.2.2 (gQ l d)) (gQ l d)
def toQ (p : Pick) : QP := (((p.1.map (·.2)).zip p.2).reverse, mx p.2, p.1.length)
theorem ble_eq (a b : Nat) : Nat.ble a b = decide (a ≤ b) := by
  cases h : Nat.ble a b with
  | true => exact (decide_eq_true (Nat.le_of_ble_eq_true h)).symm
  | false => exact (decide_eq_false fun q => by rw [Nat.ble_eq_true_of_le q] at h; cases h).symm
theorem gQ_eq (d : Nat) : ∀ ps : List Pick, gQ (ps.map toQ) d = GP ps d
  | [] => rfl
  | p :: ps => by
    have ih := gQ_eq d ps
    show cond (Nat.ble (mx p.2) d) (mxN p.1.length (gQ (ps.map toQ) d)) (gQ (ps.map toQ) d) = if decide (mx p.2 ≤ d) = true then max p.1.length (GP ps d) else GP ps d
    rw [ih, ble_eq, mxN_eq]
    by_cases h : mx p.2 ≤ d <;> simp [h]
theorem fall_eq (b : Nat) : ∀ (zs : List ((Nat × Nat) × Nat)), fallE (((zs.map (·.1)).map (·.2)).zip (zs.map (·.2))).reverse b = mx (0 :: (((List.range zs.length).filter fun i => decide (((zs.map (·.1)).getD i (0, 0)).2 > b)).map fun i => (zs.map (·.2)).getD i 0)) := by
  intro zs
  refine snoc_ind (M := fun zs => fallE (((zs.map (·.1)).map (·.2)).zip (zs.map (·.2))).reverse b = mx (0 :: (((List.range zs.length).filter fun i => decide (((zs.map (·.1)).getD i (0, 0)).2 > b)).map fun i => (zs.map (·.2)).getD i 0))) rfl (fun zs z ih => ?_) zs
  have el : (zs ++ [z]).length = zs.length + 1 := by simp
  have g1 : ∀ i ∈ List.range zs.length, ((zs ++ [z]).map (·.1)).getD i (0, 0) = (zs.map (·.1)).getD i (0, 0) := fun i hi => by
    have hi' := List.mem_range.mp hi
    rw [List.map_append, List.getD_eq_getElem?_getD, List.getD_eq_getElem?_getD, List.getElem?_append_left (by rw [List.length_map]; exact hi')]
  have g2 : ∀ i ∈ List.range zs.length, ((zs ++ [z]).map (·.2)).getD i 0 = (zs.map (·.2)).getD i 0 := fun i hi => by
    have hi' := List.mem_range.mp hi
    rw [List.map_append, List.getD_eq_getElem?_getD, List.getD_eq_getElem?_getD, List.getElem?_append_left (by rw [List.length_map]; exact hi')]
  have g3 : ((zs ++ [z]).map (·.1)).getD zs.length (0, 0) = z.1 := by
    rw [List.map_append, List.getD_eq_getElem?_getD, List.getElem?_append_right (by simp)]; simp
  have g4 : ((zs ++ [z]).map (·.2)).getD zs.length 0 = z.2 := by
    rw [List.map_append, List.getD_eq_getElem?_getD, List.getElem?_append_right (by simp)]; simp
  have ez : (((zs ++ [z]).map (·.1)).map (·.2)).zip ((zs ++ [z]).map (·.2)) = (((zs.map (·.1)).map (·.2)).zip (zs.map (·.2))) ++ [(z.1.2, z.2)] := by
    rw [List.map_append, List.map_append, List.map_append, List.zip_append (by simp)]; rfl
  rw [ez, List.reverse_append, el, List.range_succ, List.filter_append, List.map_append]
  show cond (Nat.ble (b + 1) z.1.2) (mxN z.2 (fallE (((zs.map (·.1)).map (·.2)).zip (zs.map (·.2))).reverse b)) (fallE (((zs.map (·.1)).map (·.2)).zip (zs.map (·.2))).reverse b) = _
  rw [ih]
  have e1 : ((List.range zs.length).filter fun i => decide ((((zs ++ [z]).map (·.1)).getD i (0, 0)).2 > b)) = (List.range zs.length).filter fun i => decide (((zs.map (·.1)).getD i (0, 0)).2 > b) :=
    List.filter_congr fun i hi => by rw [g1 i hi]
  have e2 : (((List.range zs.length).filter fun i => decide (((zs.map (·.1)).getD i (0, 0)).2 > b)).map fun i => ((zs ++ [z]).map (·.2)).getD i 0) = ((List.range zs.length).filter fun i => decide (((zs.map (·.1)).getD i (0, 0)).2 > b)).map fun i => (zs.map (·.2)).getD i 0 :=
    List.map_congr_left fun i hi => g2 i (List.mem_filter.mp hi).1
  rw [e1, e2, ble_eq, mxN_eq]
  by_cases h : z.1.2 > b
  · have : [zs.length].filter (fun i => decide ((((zs ++ [z]).map (·.1)).getD i (0, 0)).2 > b)) = [zs.length] := by
      simp only [List.filter_cons, g3, h, decide_true, if_true, List.filter_nil]
    rw [this, List.map_cons, List.map_nil, g4, ← List.cons_append, mx_snoc]
    have h' : b + 1 ≤ z.1.2 := h
    simp only [h', decide_true, cond_true]; omega
  · have : [zs.length].filter (fun i => decide ((((zs ++ [z]).map (·.1)).getD i (0, 0)).2 > b)) = [] := by
      simp only [List.filter_cons, g3, h, decide_false, List.filter_nil]; rfl
    rw [this, List.map_nil, List.append_nil]
    have h' : ¬ b + 1 ≤ z.1.2 := by omega
    simp only [h', decide_false, cond_false]
theorem toQ_ext {p : Pick} {x : Nat × Nat} (hl : p.1.length = p.2.length) : toQ (extP p x) = extQ x.2 (toQ p) := by
  have e1 : (p.1.zip p.2).map (·.1) = p.1 := List.map_fst_zip (Nat.le_of_eq hl)
  have e2 : (p.1.zip p.2).map (·.2) = p.2 := List.map_snd_zip (Nat.le_of_eq hl.symm)
  have e3 : (p.1.zip p.2).length = p.1.length := by rw [List.length_zip]; omega
  have k := fall_eq x.2 (p.1.zip p.2)
  rw [e1, e2, e3] at k
  have kf : 1 + mx (0 :: (((List.range p.1.length).filter fun i => decide ((p.1.getD i (0, 0)).2 > x.2)).map fun i => p.2.getD i 0)) = fallE (toQ p).1 x.2 + 1 := by
    show _ = fallE ((p.1.map (·.2)).zip p.2).reverse x.2 + 1
    rw [k]; omega
  unfold extP
  rw [kf]
  unfold toQ extQ
  simp only
  rw [List.map_append, List.zip_append (by rw [List.length_map]; exact hl), List.reverse_append, mx_snoc, mxN_eq, List.length_append]
  rfl
theorem allB_eq (l : List (Nat × Nat)) : allB (l.map (·.2)) = (picksOf l).map toQ := by
  refine snoc_ind (M := fun l => allB (l.map (·.2)) = (picksOf l).map toQ) rfl (fun l x ih => ?_) l
  rw [List.map_append, picksOf_snoc]
  unfold allB at ih ⊢
  rw [List.foldl_append, ih]
  show stepQ _ x.2 = _
  unfold stepQ pickStep
  rw [List.map_append, List.map_map]
  congr 1
  show extQ x.2 _ :: _ = toQ (extP ([], []) x) :: _
  congr 1
  rw [List.map_map]
  exact List.map_congr_left fun p hp => (toQ_ext (picks_I l p hp).2.1).symm
theorem GP_word (l : List (Nat × Nat)) (d : Nat) : GP (picksOf l) d = gQ (allB (l.map (·.2))) d := by rw [allB_eq, gQ_eq]
end Mine
end

section
open PySem PySem.W PyProof.Rows
set_option Elab.async false
set_option maxRecDepth 100000
set_option maxHeartbeats 4000000
set_option linter.unusedVariables false
set_option linter.unusedSimpArgs false
namespace Mine
def lvU (u : List Nat) (i : Nat) : Nat := u.getD i 0
def lens {α : Type} (rows : List (List α)) : List Nat := rows.map List.length
def sumTo : List Nat → Nat → Nat
  | _, 0 => 0
  | [], _ => 0
  | x :: l, d + 1 => x + sumTo l d
def nodeK (u : List Nat) : Bool :=
  let a := rskAll (lvU u) 5 (List.range (u.length - 1))
  let q := rsk (lvU u) 5 5 a.1 (u.length - 1) 0
  (unStep (lvU u) 5 q.1 q.2 == some (a.1, u.length - 1)) && (lens q.1 == lens (a.1.set q.2 (a.1.getD q.2 [] ++ [0]))) && [1, 2, 3, 4, 5].all fun d => Nat.beq (gQ (allB u) d) (sumTo (lens q.1) d)
def sortB : List Nat → Bool
  | [] => true
  | x :: l => l.all (fun y => Nat.ble x y) && sortB l
def leafK (u : List Nat) : Bool :=
  let a := rskAll (lvU u) 5 (List.range u.length)
  (a.1.all fun r => sortB (r.map (lvU u))) && [0, 1, 2, 3].all fun v => lens (rskAll (lvU (u.filter (fun x => decide (x ≤ v)))) 5 (List.range (u.filter (fun x => decide (x ≤ v))).length)).1 == a.1.map fun r => (r.filter fun i => Nat.ble (lvU u i) v).length
def words : Nat → List (List Nat)
  | 0 => [[]]
  | n + 1 => (words n).flatMap fun u => [1 :: u, 2 :: u, 3 :: u, 4 :: u]
theorem words_mem : ∀ (u : List Nat), (∀ x ∈ u, 1 ≤ x ∧ x ≤ 4) → u ∈ words u.length
  | [], _ => List.mem_singleton.mpr rfl
  | x :: u, h => by
    have ih := words_mem u fun y hy => h y (List.mem_cons_of_mem _ hy)
    have hx := h x (List.mem_cons_self ..)
    show x :: u ∈ (words u.length).flatMap _
    rw [List.mem_flatMap]
    refine ⟨u, ih, ?_⟩
    rcases (show x = 1 ∨ x = 2 ∨ x = 3 ∨ x = 4 by omega) with rfl | rfl | rfl | rfl <;> simp
theorem node1 : (words 1).all nodeK = true := by decide +kernel
theorem node2 : (words 2).all nodeK = true := by decide +kernel
theorem node3 : (words 3).all nodeK = true := by decide +kernel
theorem node4_1 : (words 3).all (fun v => nodeK (1 :: v)) = true := by decide +kernel
theorem node4_2 : (words 3).all (fun v => nodeK (2 :: v)) = true := by decide +kernel
theorem node4_3 : (words 3).all (fun v => nodeK (3 :: v)) = true := by decide +kernel
theorem node4_4 : (words 3).all (fun v => nodeK (4 :: v)) = true := by decide +kernel
theorem node5_11 : (words 3).all (fun v => nodeK (1 :: 1 :: v)) = true := by decide +kernel
theorem leaf5_11 : (words 3).all (fun v => leafK (1 :: 1 :: v)) = true := by decide +kernel
theorem node5_12 : (words 3).all (fun v => nodeK (1 :: 2 :: v)) = true := by decide +kernel
theorem leaf5_12 : (words 3).all (fun v => leafK (1 :: 2 :: v)) = true := by decide +kernel
theorem node5_13 : (words 3).all (fun v => nodeK (1 :: 3 :: v)) = true := by decide +kernel
theorem leaf5_13 : (words 3).all (fun v => leafK (1 :: 3 :: v)) = true := by decide +kernel
theorem node5_14 : (words 3).all (fun v => nodeK (1 :: 4 :: v)) = true := by decide +kernel
theorem leaf5_14 : (words 3).all (fun v => leafK (1 :: 4 :: v)) = true := by decide +kernel
theorem node5_21 : (words 3).all (fun v => nodeK (2 :: 1 :: v)) = true := by decide +kernel
theorem leaf5_21 : (words 3).all (fun v => leafK (2 :: 1 :: v)) = true := by decide +kernel
theorem node5_22 : (words 3).all (fun v => nodeK (2 :: 2 :: v)) = true := by decide +kernel
theorem leaf5_22 : (words 3).all (fun v => leafK (2 :: 2 :: v)) = true := by decide +kernel
theorem node5_23 : (words 3).all (fun v => nodeK (2 :: 3 :: v)) = true := by decide +kernel
theorem leaf5_23 : (words 3).all (fun v => leafK (2 :: 3 :: v)) = true := by decide +kernel
theorem node5_24 : (words 3).all (fun v => nodeK (2 :: 4 :: v)) = true := by decide +kernel
theorem leaf5_24 : (words 3).all (fun v => leafK (2 :: 4 :: v)) = true := by decide +kernel
theorem node5_31 : (words 3).all (fun v => nodeK (3 :: 1 :: v)) = true := by decide +kernel
theorem leaf5_31 : (words 3).all (fun v => leafK (3 :: 1 :: v)) = true := by decide +kernel
theorem node5_32 : (words 3).all (fun v => nodeK (3 :: 2 :: v)) = true := by decide +kernel
theorem leaf5_32 : (words 3).all (fun v => leafK (3 :: 2 :: v)) = true := by decide +kernel
theorem node5_33 : (words 3).all (fun v => nodeK (3 :: 3 :: v)) = true := by decide +kernel
theorem leaf5_33 : (words 3).all (fun v => leafK (3 :: 3 :: v)) = true := by decide +kernel
theorem node5_34 : (words 3).all (fun v => nodeK (3 :: 4 :: v)) = true := by decide +kernel
theorem leaf5_34 : (words 3).all (fun v => leafK (3 :: 4 :: v)) = true := by decide +kernel
theorem node5_41 : (words 3).all (fun v => nodeK (4 :: 1 :: v)) = true := by decide +kernel
theorem leaf5_41 : (words 3).all (fun v => leafK (4 :: 1 :: v)) = true := by decide +kernel
theorem node5_42 : (words 3).all (fun v => nodeK (4 :: 2 :: v)) = true := by decide +kernel
theorem leaf5_42 : (words 3).all (fun v => leafK (4 :: 2 :: v)) = true := by decide +kernel
theorem node5_43 : (words 3).all (fun v => nodeK (4 :: 3 :: v)) = true := by decide +kernel
theorem leaf5_43 : (words 3).all (fun v => leafK (4 :: 3 :: v)) = true := by decide +kernel
theorem node5_44 : (words 3).all (fun v => nodeK (4 :: 4 :: v)) = true := by decide +kernel
theorem leaf5_44 : (words 3).all (fun v => leafK (4 :: 4 :: v)) = true := by decide +kernel
theorem four_cases {x : Nat} (h : 1 ≤ x ∧ x ≤ 4) : x = 1 ∨ x = 2 ∨ x = 3 ∨ x = 4 := by omega
theorem node_at {u : List Nat} (h : ∀ x ∈ u, 1 ≤ x ∧ x ≤ 4) (hl : u.length ≤ 5) (hne : u ≠ []) : nodeK u = true := by
  match u, h, hl, hne with
  | [a], h, _, _ => exact List.all_eq_true.mp node1 _ (words_mem [a] h)
  | [a, b], h, _, _ => exact List.all_eq_true.mp node2 _ (words_mem [a, b] h)
  | [a, b, c], h, _, _ => exact List.all_eq_true.mp node3 _ (words_mem [a, b, c] h)
  | [a, b, c, d], h, _, _ =>
    have m := words_mem [b, c, d] fun x hx => h x (List.mem_cons_of_mem _ hx)
    rcases four_cases (h a (by simp)) with rfl | rfl | rfl | rfl
    · exact List.all_eq_true.mp node4_1 _ m
    · exact List.all_eq_true.mp node4_2 _ m
    · exact List.all_eq_true.mp node4_3 _ m
    · exact List.all_eq_true.mp node4_4 _ m
  | [a, b, c, d, e], h, _, _ =>
    have m := words_mem [c, d, e] fun x hx => h x (List.mem_cons_of_mem _ (List.mem_cons_of_mem _ hx))
    rcases four_cases (h a (by simp)) with rfl | rfl | rfl | rfl <;> rcases four_cases (h b (by simp)) with rfl | rfl | rfl | rfl
    · exact List.all_eq_true.mp node5_11 _ m
    · exact List.all_eq_true.mp node5_12 _ m
    · exact List.all_eq_true.mp node5_13 _ m
    · exact List.all_eq_true.mp node5_14 _ m
    · exact List.all_eq_true.mp node5_21 _ m
    · exact List.all_eq_true.mp node5_22 _ m
    · exact List.all_eq_true.mp node5_23 _ m
    · exact List.all_eq_true.mp node5_24 _ m
    · exact List.all_eq_true.mp node5_31 _ m
    · exact List.all_eq_true.mp node5_32 _ m
    · exact List.all_eq_true.mp node5_33 _ m
    · exact List.all_eq_true.mp node5_34 _ m
    · exact List.all_eq_true.mp node5_41 _ m
    · exact List.all_eq_true.mp node5_42 _ m
    · exact List.all_eq_true.mp node5_43 _ m
    · exact List.all_eq_true.mp node5_44 _ m
  | a :: b :: c :: d :: e :: f :: r, _, hl, _ => simp at hl
theorem leaf_at {u : List Nat} (h : ∀ x ∈ u, 1 ≤ x ∧ x ≤ 4) (hl : u.length = 5) : leafK u = true := by
  match u, h, hl with
  | [a, b, c, d, e], h, _ =>
    have m := words_mem [c, d, e] fun x hx => h x (List.mem_cons_of_mem _ (List.mem_cons_of_mem _ hx))
    rcases four_cases (h a (by simp)) with rfl | rfl | rfl | rfl <;> rcases four_cases (h b (by simp)) with rfl | rfl | rfl | rfl
    · exact List.all_eq_true.mp leaf5_11 _ m
    · exact List.all_eq_true.mp leaf5_12 _ m
    · exact List.all_eq_true.mp leaf5_13 _ m
    · exact List.all_eq_true.mp leaf5_14 _ m
    · exact List.all_eq_true.mp leaf5_21 _ m
    · exact List.all_eq_true.mp leaf5_22 _ m
    · exact List.all_eq_true.mp leaf5_23 _ m
    · exact List.all_eq_true.mp leaf5_24 _ m
    · exact List.all_eq_true.mp leaf5_31 _ m
    · exact List.all_eq_true.mp leaf5_32 _ m
    · exact List.all_eq_true.mp leaf5_33 _ m
    · exact List.all_eq_true.mp leaf5_34 _ m
    · exact List.all_eq_true.mp leaf5_41 _ m
    · exact List.all_eq_true.mp leaf5_42 _ m
    · exact List.all_eq_true.mp leaf5_43 _ m
    · exact List.all_eq_true.mp leaf5_44 _ m
end Mine
end

section
open PySem PySem.W PyProof.Rows
set_option Elab.async false
set_option maxRecDepth 100000
set_option maxHeartbeats 4000000
set_option linter.unusedVariables false
set_option linter.unusedSimpArgs false
namespace Mine

section
variable {α β : Type} (f : α → β) (lv : β → Nat) (z : α)
theorem getD_map (l : List α) (i : Nat) : (l.map f).getD i (f z) = f (l.getD i z) := by
  rw [List.getD_eq_getElem?_getD, List.getD_eq_getElem?_getD, List.getElem?_map]
  cases l[i]? <;> rfl
theorem rowD_map (rows : List (List α)) (k : Nat) : (rows.map (·.map f)).getD k [] = (rows.getD k []).map f := by
  rw [List.getD_eq_getElem?_getD, List.getD_eq_getElem?_getD, List.getElem?_map]
  cases rows[k]? <;> rfl
theorem plR_map (r : List α) (m : α) : plR lv (f z) (r.map f) (f m) = plR (fun x => lv (f x)) z r m := by
  unfold plR
  rw [List.length_map]
  congr 1
  funext i
  rw [getD_map]
theorem plL_map (r : List α) (m : α) : plL lv (f z) (r.map f) (f m) = plL (fun x => lv (f x)) z r m := by
  unfold plL
  rw [List.length_map]
  congr 1
  funext i
  rw [getD_map]
theorem rsk_map : ∀ (n : Nat) (rows : List (List α)) (m : α) (k : Nat), rsk lv (f z) n (rows.map (·.map f)) (f m) k = ((rsk (fun x => lv (f x)) z n rows m k).1.map (·.map f), (rsk (fun x => lv (f x)) z n rows m k).2)
  | 0, rows, m, k => rfl
  | n + 1, rows, m, k => by
    have h1 := rowD_map f rows k
    have h2 := plR_map f lv z (rows.getD k []) m
    by_cases h : plR (fun x => lv (f x)) z (rows.getD k []) m < (rows.getD k []).length
    · rw [rsk_T h, rsk_T (by rw [h1, h2, List.length_map]; exact h), h1, h2, getD_map, ← List.map_set, ← List.map_set]
      exact rsk_map n _ _ _
    · rw [rsk_F h, rsk_F (by rw [h1, h2, List.length_map]; exact h), h1]
      simp only
      rw [List.map_set, List.map_append]; rfl
theorem rskAll_map (l : List α) : rskAll lv (f z) (l.map f) = ((rskAll (fun x => lv (f x)) z l).1.map (·.map f), (rskAll (fun x => lv (f x)) z l).2.map fun r => (r.1, f r.2)) := by
  refine snoc_ind (M := fun l => rskAll lv (f z) (l.map f) = ((rskAll (fun x => lv (f x)) z l).1.map (·.map f), (rskAll (fun x => lv (f x)) z l).2.map fun r => (r.1, f r.2))) rfl (fun l x ih => ?_) l
  rw [List.map_append]
  show rskAll lv (f z) (l.map f ++ [f x]) = _
  rw [rskAll_snoc, rskAll_snoc, ih]
  unfold rskStep
  simp only
  rw [rsk_map, List.map_append]; rfl
theorem un_map : ∀ (n : Nat) (rows : List (List α)) (m : α), un lv (f z) n (rows.map (·.map f)) (f m) = (un (fun x => lv (f x)) z n rows m).map fun x => (x.1.map (·.map f), f x.2)
  | 0, rows, m => rfl
  | n + 1, rows, m => by
    have h1 := rowD_map f rows n
    have h2 := plL_map f lv z (rows.getD n []) m
    show (if plL lv (f z) ((rows.map (·.map f)).getD n []) (f m) = 0 then none else un lv (f z) n ((rows.map (·.map f)).set n (((rows.map (·.map f)).getD n []).set (plL lv (f z) ((rows.map (·.map f)).getD n []) (f m) - 1) (f m))) (((rows.map (·.map f)).getD n []).getD (plL lv (f z) ((rows.map (·.map f)).getD n []) (f m) - 1) (f z))) =
      (if plL (fun x => lv (f x)) z (rows.getD n []) m = 0 then none else un (fun x => lv (f x)) z n (rows.set n ((rows.getD n []).set (plL (fun x => lv (f x)) z (rows.getD n []) m - 1) m)) ((rows.getD n []).getD (plL (fun x => lv (f x)) z (rows.getD n []) m - 1) z)).map _
    rw [h1, h2]
    by_cases h : plL (fun x => lv (f x)) z (rows.getD n []) m = 0
    · rw [if_pos h, if_pos h]; rfl
    · rw [if_neg h, if_neg h, getD_map, ← List.map_set, ← List.map_set]
      exact un_map n _ _
theorem unStep_map (rows : List (List α)) (k : Nat) : unStep lv (f z) (rows.map (·.map f)) k = (unStep (fun x => lv (f x)) z rows k).map fun x => (x.1.map (·.map f), f x.2) := by
  unfold unStep
  rw [rowD_map]
  rw [List.getLast?_map]
  cases (rows.getD k []).getLast? with
  | none => rfl
  | some m =>
    show un lv (f z) k ((rows.map (·.map f)).set k ((rows.getD k []).map f).dropLast) (f m) = _
    have : ((rows.getD k []).map f).dropLast = (rows.getD k []).dropLast.map f := by rw [List.dropLast_eq_take, List.dropLast_eq_take, List.length_map, List.map_take]
    rw [this, ← List.map_set]
    exact un_map f lv z k _ _
end
end Mine
end

section
open PySem PySem.W PyProof.Rows
set_option Elab.async false
set_option maxRecDepth 100000
set_option maxHeartbeats 4000000
set_option linter.unusedVariables false
set_option linter.unusedSimpArgs false
namespace Mine

theorem lens_map {α β : Type} (f : α → β) (rows : List (List α)) : lens (rows.map (·.map f)) = lens rows := by
  unfold lens
  rw [List.map_map]
  exact List.map_congr_left fun r _ => List.length_map ..
def fOf (l : List Ent) (i : Nat) : Ent := l.getD i zE
theorem fOf_range (l : List Ent) (n : Nat) (h : n ≤ l.length) : (List.range n).map (fOf l) = l.take n := by
  refine List.ext_getElem? fun i => ?_
  rw [List.getElem?_map, List.getElem?_take]
  by_cases hi : i < n
  · rw [List.getElem?_range hi, if_pos hi]
    have : l[i]? = some (l[i]'(by omega)) := List.getElem?_eq_getElem (by omega)
    show some (l.getD i zE) = _
    rw [List.getD_eq_getElem?_getD, this]; rfl
  · rw [if_neg hi]
    have : (List.range n)[i]? = none := List.getElem?_eq_none (by simp; omega)
    rw [this]; rfl
theorem fOf_five {l : List Ent} (h : l.length ≤ 5) : fOf l 5 = zE := by
  unfold fOf
  rw [List.getD_eq_getElem?_getD, List.getElem?_eq_none h]; rfl
theorem lv_fOf (l : List Ent) : (fun i => lvE (fOf l i)) = lvU (l.map lvE) := by
  funext i
  exact (getD_map lvE zE l i).symm
theorem lev_ok {l : List Ent} (h : ∀ e ∈ l, EntOk e) : ∀ x ∈ l.map lvE, 1 ≤ x ∧ x ≤ 4 := fun x hx => by
  obtain ⟨e, he, rfl⟩ := List.mem_map.mp hx
  exact (h e he).2.1
theorem rskAll_idx {l : List Ent} (h5 : l.length ≤ 5) {n : Nat} (hn : n ≤ l.length) : rskAll lvE zE (l.take n) = ((rskAll (lvU (l.map lvE)) 5 (List.range n)).1.map (·.map (fOf l)), (rskAll (lvU (l.map lvE)) 5 (List.range n)).2.map fun r => (r.1, fOf l r.2)) := by
  have := rskAll_map (fOf l) lvE 5 (List.range n)
  rw [fOf_five h5, fOf_range l n hn, lv_fOf] at this
  exact this
/-- one more: what goes in comes out -/
theorem node_ent {p : List Ent} {e : Ent} (h : ∀ x ∈ p ++ [e], EntOk x) (h5 : (p ++ [e]).length ≤ 5) :
    unStep lvE zE (rsk lvE zE 5 (rskAll lvE zE p).1 e 0).1 (rsk lvE zE 5 (rskAll lvE zE p).1 e 0).2 = some ((rskAll lvE zE p).1, e) ∧
    lens (rsk lvE zE 5 (rskAll lvE zE p).1 e 0).1 = (lens (rskAll lvE zE p).1).set (rsk lvE zE 5 (rskAll lvE zE p).1 e 0).2 (((rskAll lvE zE p).1.getD (rsk lvE zE 5 (rskAll lvE zE p).1 e 0).2 []).length + 1) ∧
    ∀ d, 1 ≤ d → d ≤ 5 → gQ (allB ((p ++ [e]).map lvE)) d = sumTo (lens (rskAll lvE zE (p ++ [e])).1) d := by
  have hp : (p ++ [e]).take p.length = p := by simp
  have hl : (p ++ [e]).length = p.length + 1 := by simp
  have e1 := rskAll_idx h5 (n := p.length) (by omega)
  rw [hp] at e1
  have ee : e = fOf (p ++ [e]) p.length := by
    unfold fOf
    rw [List.getD_eq_getElem?_getD, List.getElem?_append_right (Nat.le_refl _)]; simp
  have hN := node_at (lev_ok h) (by rw [List.length_map]; exact h5) (by simp)
  unfold nodeK at hN
  have hul : ((p ++ [e]).map lvE).length - 1 = p.length := by rw [List.length_map, hl]; omega
  rw [hul] at hN
  simp only [Bool.and_eq_true] at hN
  obtain ⟨⟨n1, n2⟩, n3⟩ := hN
  have n1' := eq_of_beq n1
  have n2' := eq_of_beq n2
  have ers : rsk lvE zE 5 (rskAll lvE zE p).1 e 0 = ((rsk (lvU ((p ++ [e]).map lvE)) 5 5 (rskAll (lvU ((p ++ [e]).map lvE)) 5 (List.range p.length)).1 p.length 0).1.map (·.map (fOf (p ++ [e]))), (rsk (lvU ((p ++ [e]).map lvE)) 5 5 (rskAll (lvU ((p ++ [e]).map lvE)) 5 (List.range p.length)).1 p.length 0).2) := by
    have k := rsk_map (fOf (p ++ [e])) lvE 5 5 (rskAll (lvU ((p ++ [e]).map lvE)) 5 (List.range p.length)).1 p.length 0
    rw [fOf_five h5, ← ee, lv_fOf] at k
    rw [e1]; exact k
  have e1' : (rskAll lvE zE p).1 = (rskAll (lvU ((p ++ [e]).map lvE)) 5 (List.range p.length)).1.map (·.map (fOf (p ++ [e]))) := by rw [e1]
  refine ⟨?_, ?_, fun d h1 h2 => ?_⟩
  · rw [ers, e1']
    simp only
    have k := unStep_map (fOf (p ++ [e])) lvE 5 (rsk (lvU ((p ++ [e]).map lvE)) 5 5 (rskAll (lvU ((p ++ [e]).map lvE)) 5 (List.range p.length)).1 p.length 0).1 (rsk (lvU ((p ++ [e]).map lvE)) 5 5 (rskAll (lvU ((p ++ [e]).map lvE)) 5 (List.range p.length)).1 p.length 0).2
    rw [fOf_five h5, lv_fOf] at k
    rw [k, n1']
    show some (_, fOf (p ++ [e]) p.length) = _
    rw [← ee]
  · rw [ers, e1']
    simp only
    rw [lens_map, lens_map, n2', rowD_map, List.length_map]
    unfold lens
    rw [List.map_set]
    simp
  · rw [rskAll_snoc]
    show _ = sumTo (lens (rsk lvE zE 5 (rskAll lvE zE p).1 e 0).1) d
    rw [ers]
    simp only
    rw [lens_map]
    have := List.all_eq_true.mp n3 d (by
      rcases (show d = 1 ∨ d = 2 ∨ d = 3 ∨ d = 4 ∨ d = 5 by omega) with rfl | rfl | rfl | rfl | rfl <;> simp)
    exact Nat.eq_of_beq_eq_true this
theorem split_last {α : Type} {l : List α} (h : l ≠ []) : ∃ p e, l = p ++ [e] := ⟨l.dropLast, l.getLast h, (List.dropLast_concat_getLast h).symm⟩
theorem greene {l : List Ent} (h : ∀ x ∈ l, EntOk x) (h5 : l.length ≤ 5) (d : Nat) (hd : d ≤ 5) : gQ (allB (l.map lvE)) d = sumTo (lens (rskAll lvE zE l).1) d := by
  by_cases hne : l = []
  · subst hne
    have : ∀ d ≤ 5, (0 : Nat) = sumTo [0, 0, 0, 0, 0] d := by decide
    exact this d hd
  · obtain ⟨p, e, rfl⟩ := split_last hne
    cases d with
    | zero =>
      have : gQ (allB ((p ++ [e]).map lvE)) 0 = 0 := by
        have e1 : (p ++ [e]).map lvE = ((p ++ [e]).map ab).map (·.2) := by rw [List.map_map]; rfl
        rw [e1, ← GP_word]
        exact mxF_zero fun q hq => by have := picks_dep q hq; simp; omega
      rw [this]
      cases lens (rskAll lvE zE (p ++ [e])).1 <;> rfl
    | succ d => exact (node_ent h h5).2.2 (d + 1) (by omega) hd
theorem rows_five (l : List Ent) : (rskAll lvE zE l).1.length = 5 := by
  refine snoc_ind (M := fun l => (rskAll lvE zE l).1.length = 5) rfl (fun l x ih => ?_) l
  rw [rskAll_snoc]
  have : ∀ (n : Nat) (rows : List (List Ent)) (m : Ent) (k : Nat), (rsk lvE zE n rows m k).1.length = rows.length := by
    intro n
    induction n with
    | zero => intro rows m k; rfl
    | succ n ih =>
      intro rows m k
      by_cases h : plR lvE zE (rows.getD k []) m < (rows.getD k []).length
      · rw [rsk_T h, ih, List.length_set]
      · rw [rsk_F h]; exact List.length_set ..
  show (rsk lvE zE 5 (rskAll lvE zE l).1 x 0).1.length = 5
  rw [this, ih]
theorem rec_count (l : List Ent) : (∀ x ∈ l, EntOk x) → l.length ≤ 5 → ∀ k, k < 5 → ((rskAll lvE zE l).1.getD k []).length = ((rskAll lvE zE l).2.filter fun r => r.1 == k).length := by
  refine snoc_ind (M := fun l => (∀ x ∈ l, EntOk x) → l.length ≤ 5 → ∀ k, k < 5 → ((rskAll lvE zE l).1.getD k []).length = ((rskAll lvE zE l).2.filter fun r => r.1 == k).length) (fun _ _ k hk => ?_) (fun l x ih h h5 k hk => ?_) l
  · have : ∀ k < 5, ((([[], [], [], [], []] : List (List Ent))).getD k []).length = 0 := by decide
    exact this k hk
  · have ih' := ih (fun y hy => h y (List.mem_append_left _ hy)) (by simp at h5; omega) k hk
    obtain ⟨-, n2, -⟩ := node_ent h h5
    rw [rskAll_snoc]
    show ((rsk lvE zE 5 (rskAll lvE zE l).1 x 0).1.getD k []).length = (((rskAll lvE zE l).2 ++ [((rsk lvE zE 5 (rskAll lvE zE l).1 x 0).2, x)]).filter fun r => r.1 == k).length
    have el : ∀ (rows : List (List Ent)), (rows.getD k []).length = (lens rows).getD k 0 := fun rows => by
      unfold lens
      exact (getD_map List.length [] rows k).symm
    rw [List.filter_append, List.length_append, ← ih', el, n2, getD_set, el]
    have hlen : (lens (rskAll lvE zE l).1).length = 5 := by unfold lens; rw [List.length_map, rows_five]
    by_cases hk' : (rsk lvE zE 5 (rskAll lvE zE l).1 x 0).2 = k
    · rw [if_pos ⟨hk', by rw [hlen, hk']; exact hk⟩, hk', ← el]
      simp
    · rw [if_neg (fun q => hk' q.1)]
      have : ((rsk lvE zE 5 (rskAll lvE zE l).1 x 0).2 == k) = false := by simpa using hk'
      simp [this]
theorem sum_diff : ∀ (l : List Nat) (d : Nat), sumTo l (d + 1) - sumTo l d = l.getD d 0
  | [], d => by cases d <;> rfl
  | x :: l, 0 => by show x + sumTo l 0 - 0 = x; cases l <;> rfl
  | x :: l, d + 1 => by
    show x + sumTo l (d + 1) - (x + sumTo l d) = l.getD d 0
    rw [← sum_diff l d]; exact Nat.add_sub_add_left _ _ _
theorem cle_mono (s : List Nat) (v : Nat) : cle s v ≤ cle s (v + 1) := by
  unfold cle
  refine (List.Sublist.length_le ?_)
  have : s.filter (fun x => decide (x ≤ v)) = (s.filter fun x => decide (x ≤ v + 1)).filter fun x => decide (x ≤ v) := by
    rw [List.filter_filter]
    refine List.filter_congr fun x _ => ?_
    rw [Bool.eq_iff_iff]; simp; omega
  rw [this]
  exact List.filter_sublist
end Mine
end

section
open PySem PySem.W PyProof.Rows
set_option Elab.async false
set_option maxRecDepth 100000
set_option maxHeartbeats 4000000
set_option linter.unusedVariables false
set_option linter.unusedSimpArgs false
namespace Mine

theorem recs_line (l : List Ent) : (rskAll lvE zE l).2.map (·.2) = l := by
  have := rec_snd (lv := lvE) (z := zE) l ([[], [], [], [], []], [])
  rw [List.map_nil, List.nil_append] at this
  exact this
theorem recs_filter (v : Nat) (l : List Ent) : l.Pairwise (fun x y => x.1 ≤ y.1) → (rskAll lvE zE (l.filter fun e => decide (e.1 ≤ v))).2 = (rskAll lvE zE l).2.filter fun r => decide (r.2.1 ≤ v) := by
  refine snoc_ind (M := fun l => l.Pairwise (fun x y => x.1 ≤ y.1) → (rskAll lvE zE (l.filter fun e => decide (e.1 ≤ v))).2 = (rskAll lvE zE l).2.filter fun r => decide (r.2.1 ≤ v)) (fun _ => rfl) (fun l e ih hs => ?_) l
  obtain ⟨hs1, -, hs2⟩ := List.pairwise_append.mp hs
  by_cases he : e.1 ≤ v
  · have all : ∀ x ∈ l ++ [e], x.1 ≤ v := fun x hx => by
      rcases List.mem_append.mp hx with hx | hx
      · exact Nat.le_trans (hs2 x hx e (List.mem_singleton.mpr rfl)) he
      · rw [List.mem_singleton.mp hx]; exact he
    rw [List.filter_eq_self.mpr fun x hx => decide_eq_true (all x hx)]
    refine (List.filter_eq_self.mpr fun r hr => decide_eq_true (all r.2 ?_)).symm
    rw [← recs_line (l ++ [e])]
    exact List.mem_map_of_mem hr
  · have h1 : (l ++ [e]).filter (fun e => decide (e.1 ≤ v)) = l.filter fun e => decide (e.1 ≤ v) := by
      rw [List.filter_append]
      simp [he]
    rw [h1, rskAll_snoc, ih hs1]
    show _ = ((rskAll lvE zE l).2 ++ [(_, e)]).filter _
    rw [List.filter_append]
    simp [he]
theorem cle_hues (d v : Nat) : ∀ recs : List (Nat × Ent), cle (hues (recs.map fun r => (r.1, r.2.1)) d) v = ((recs.filter fun r => decide (r.2.1 ≤ v)).filter fun r => r.1 == d).length
  | [] => rfl
  | r :: recs => by
    have ih := cle_hues d v recs
    unfold cle hues at ih ⊢
    rw [List.map_cons]
    by_cases h1 : r.1 = d <;> by_cases h2 : r.2.1 ≤ v <;> simp [List.filter_cons, h1, h2, ih]
theorem word_of (l : List Ent) (side v : Nat) : ((l.map ab).filter fun x => decide (sel side x ≤ v)).map (·.2) = (l.filter fun e => decide (sel side (ab e) ≤ v)).map lvE := by
  rw [List.filter_map, List.map_map]; rfl
theorem Gr_ent {l : List Ent} (h : ∀ x ∈ l, EntOk x) (h5 : l.length ≤ 5) (side d v : Nat) (hd : d ≤ 5) : Gr side (picksOf (l.map ab)) d v = sumTo (lens (rskAll lvE zE (l.filter fun e => decide (sel side (ab e) ≤ v))).1) d := by
  rw [Gr_word, GP_word, word_of]
  exact greene (fun x hx => h x (List.mem_filter.mp hx).1) (Nat.le_trans (List.length_filter_le ..) h5) d hd
theorem lam_ent {l : List Ent} (h : ∀ x ∈ l, EntOk x) (h5 : l.length ≤ 5) (side d v : Nat) (hd : d < 5) : Gr side (picksOf (l.map ab)) (d + 1) v - Gr side (picksOf (l.map ab)) d v = ((rskAll lvE zE (l.filter fun e => decide (sel side (ab e) ≤ v))).1.getD d []).length := by
  rw [Gr_ent h h5 side (d + 1) v (by omega), Gr_ent h h5 side d v (by omega), sum_diff]
  exact getD_map List.length [] _ d
theorem sel_lt {l : List Ent} (h : ∀ x ∈ l, EntOk x) (side : Nat) : ∀ x ∈ l.map ab, sel side x < 8 := fun x hx => by
  obtain ⟨e, he, rfl⟩ := List.mem_map.mp hx
  have : e.1 < 8 := (h e he).1
  have : e.2.1 ≤ 4 := (h e he).2.1.2
  unfold sel ab
  split
  · assumption
  · show e.2.1 < 8; omega
theorem part_ok {l : List Ent} (h : ∀ x ∈ l, EntOk x) (h5 : l.length ≤ 5) (side : Nat) : ∀ p ∈ picksOf (l.map ab), PickOk side p := picks_ok (by rw [List.length_map]; exact h5) (sel_lt h side)
theorem hues_sub (rs : List (Nat × Nat)) (k : Nat) : (hues rs k).Sublist (rs.map (·.2)) := (List.filter_sublist).map _
theorem part_hu {l : List Ent} (h : ∀ x ∈ l, EntOk x) (h5 : l.length ≤ 5) (hs : l.Pairwise (fun x y => x.1 ≤ y.1)) : toldOf 0 (picksOf (l.map ab)) = (List.range 5).map fun k => hues ((rskAll lvE zE l).2.map fun r => (r.1, r.2.1)) k := by
  have hlam : ∀ d, d < 5 → ∀ v, Gr 0 (picksOf (l.map ab)) (d + 1) v - Gr 0 (picksOf (l.map ab)) d v = cle (hues ((rskAll lvE zE l).2.map fun r => (r.1, r.2.1)) d) v := fun d hd v => by
    rw [lam_ent h h5 0 d v hd, rec_count _ (fun x hx => h x (List.mem_filter.mp hx).1) (Nat.le_trans (List.length_filter_le ..) h5) d hd, cle_hues]
    show ((rskAll lvE zE (l.filter fun e => decide (e.1 ≤ v))).2.filter _).length = _
    rw [recs_filter v l hs]
  rw [told_spec (part_ok h h5 0) (fun v => g0_of v) fun d hd v hv => by rw [hlam d hd v, hlam d hd (v + 1)]; exact cle_mono _ v]
  refine List.map_congr_left fun d hd => ?_
  have hd' := List.mem_range.mp hd
  rw [flat_congr fun v _ => hlam d hd' v]
  have e1 : ((rskAll lvE zE l).2.map fun r => (r.1, r.2.1)).map (·.2) = l.map (·.1) := by
    rw [List.map_map]
    have := congrArg (List.map (·.1)) (recs_line l)
    rw [List.map_map] at this
    exact this
  have sub := hues_sub ((rskAll lvE zE l).2.map fun r => (r.1, r.2.1)) d
  rw [e1] at sub
  refine flat_all (List.Pairwise.sublist sub (List.pairwise_map.mpr hs)) fun x hx => ?_
  obtain ⟨e, he, rfl⟩ := List.mem_map.mp (sub.subset hx)
  exact (h e he).1

theorem rsk_mem (S : Ent → Prop) : ∀ (n : Nat) (rows : List (List Ent)) (m : Ent) (k : Nat), S m → (∀ r ∈ rows, ∀ e ∈ r, S e) → ∀ r ∈ (rsk lvE zE n rows m k).1, ∀ e ∈ r, S e
  | 0, rows, m, k, _, h => h
  | n + 1, rows, m, k, hm, h => by
    have hrow : ∀ e ∈ rows.getD k [], S e := fun e he => by
      rw [List.getD_eq_getElem?_getD] at he
      cases q : rows[k]? with
      | none => rw [q] at he; cases he
      | some r => rw [q] at he; exact h r (List.mem_of_getElem? q) e he
    by_cases hp : plR lvE zE (rows.getD k []) m < (rows.getD k []).length
    · rw [rsk_T hp]
      refine rsk_mem S n _ _ _ ?_ fun r hr e he => ?_
      · rw [List.getD_eq_getElem?_getD, List.getElem?_eq_getElem hp]
        exact hrow _ (List.getElem_mem _)
      · rcases List.mem_or_eq_of_mem_set hr with hr | rfl
        · exact h r hr e he
        · rcases List.mem_or_eq_of_mem_set he with he | rfl
          · exact hrow e he
          · exact hm
    · rw [rsk_F hp]
      intro r hr e he
      rcases List.mem_or_eq_of_mem_set hr with hr | rfl
      · exact h r hr e he
      · rcases List.mem_append.mp he with he | he
        · exact hrow e he
        · rw [List.mem_singleton.mp he]; exact hm
theorem rows_mem (l : List Ent) : ∀ r ∈ (rskAll lvE zE l).1, ∀ e ∈ r, e ∈ l := by
  refine snoc_ind (M := fun l => ∀ r ∈ (rskAll lvE zE l).1, ∀ e ∈ r, e ∈ l) (fun r hr e he => ?_) (fun l x ih => ?_) l
  · rcases (show r = [] by simpa [rskAll] using hr) with rfl
    cases he
  · rw [rskAll_snoc]
    exact rsk_mem (fun e => e ∈ l ++ [x]) 5 _ x 0 (List.mem_append_right _ (List.mem_singleton.mpr rfl)) fun r hr e he => List.mem_append_left _ (ih r hr e he)
theorem sort_pw : ∀ {l : List Nat}, sortB l = true → l.Pairwise (· ≤ ·)
  | [], _ => .nil
  | x :: l, h => by
    simp only [sortB, Bool.and_eq_true, List.all_eq_true] at h
    exact List.pairwise_cons.mpr ⟨fun y hy => Nat.le_of_ble_eq_true (h.1 y hy), sort_pw h.2⟩
theorem leaf_ent {l : List Ent} (h : ∀ x ∈ l, EntOk x) (h5 : l.length = 5) : (∀ r ∈ (rskAll lvE zE l).1, (r.map lvE).Pairwise (· ≤ ·)) ∧
    ∀ v, lens (rskAll lvE zE (l.filter fun e => decide (lvE e ≤ v))).1 = (rskAll lvE zE l).1.map fun r => (r.filter fun e => decide (lvE e ≤ v)).length := by
  have hN := leaf_at (lev_ok h) (by rw [List.length_map]; exact h5)
  unfold leafK at hN
  simp only [Bool.and_eq_true] at hN
  obtain ⟨n1, n2⟩ := hN
  have e1 := rskAll_idx (l := l) (by omega) (n := l.length) (Nat.le_refl _)
  rw [List.take_length] at e1
  have elm : (l.map lvE).length = l.length := List.length_map ..
  rw [elm] at n1 n2
  have e1' : (rskAll lvE zE l).1 = (rskAll (lvU (l.map lvE)) 5 (List.range l.length)).1.map (·.map (fOf l)) := by rw [e1]
  refine ⟨fun r hr => ?_, fun v => ?_⟩
  · rw [e1'] at hr
    obtain ⟨r', hr', rfl⟩ := List.mem_map.mp hr
    have := sort_pw (List.all_eq_true.mp n1 r' hr')
    rw [List.map_map]
    have e2 : (lvE ∘ fOf l) = lvU (l.map lvE) := lv_fOf l
    rw [e2]; exact this
  · by_cases hv : v ≤ 3
    · have n3 := eq_of_beq (List.all_eq_true.mp n2 v (by
        rcases (show v = 0 ∨ v = 1 ∨ v = 2 ∨ v = 3 by omega) with rfl | rfl | rfl | rfl <;> simp))
      have ef : (l.map lvE).filter (fun x => decide (x ≤ v)) = (l.filter fun e => decide (lvE e ≤ v)).map lvE := by rw [List.filter_map]; rfl
      have e4 := rskAll_idx (l := l.filter fun e => decide (lvE e ≤ v)) (Nat.le_trans (List.length_filter_le ..) (by omega)) (n := (l.filter fun e => decide (lvE e ≤ v)).length) (Nat.le_refl _)
      rw [List.take_length] at e4
      rw [ef, List.length_map] at n3
      rw [e4]
      simp only
      rw [lens_map, n3, e1', List.map_map]
      refine List.map_congr_left fun r _ => ?_
      show _ = ((r.map (fOf l)).filter fun e => decide (lvE e ≤ v)).length
      rw [List.filter_map, List.length_map]
      congr 1
      refine List.filter_congr fun i _ => ?_
      rw [ble_eq]
      have := congrFun (lv_fOf l) i
      show decide (lvU (l.map lvE) i ≤ v) = decide (lvE (fOf l i) ≤ v)
      rw [← this]
    · have hle : ∀ e ∈ l, lvE e ≤ v := fun e he => by have := (h e he).2.1.2; show e.2.1 ≤ v; omega
      rw [List.filter_eq_self.mpr fun e he => decide_eq_true (hle e he)]
      unfold lens
      refine List.map_congr_left fun r hr => ?_
      rw [List.filter_eq_self.mpr fun e he => decide_eq_true (hle e (rows_mem l r hr e he))]
theorem part_lv {l : List Ent} (h : ∀ x ∈ l, EntOk x) (h5 : l.length = 5) : toldOf 1 (picksOf (l.map ab)) = (rskAll lvE zE l).1.map fun r => r.map lvE := by
  obtain ⟨k1, k2⟩ := leaf_ent h h5
  have hlam : ∀ d, d < 5 → ∀ v, Gr 1 (picksOf (l.map ab)) (d + 1) v - Gr 1 (picksOf (l.map ab)) d v = cle (((rskAll lvE zE l).1.getD d []).map lvE) v := fun d hd v => by
    rw [lam_ent h (by omega) 1 d v hd]
    show ((rskAll lvE zE (l.filter fun e => decide (lvE e ≤ v))).1.getD d []).length = _
    have e1 : ((rskAll lvE zE (l.filter fun e => decide (lvE e ≤ v))).1.getD d []).length = (lens (rskAll lvE zE (l.filter fun e => decide (lvE e ≤ v))).1).getD d 0 := (getD_map List.length [] _ d).symm
    rw [e1, k2 v]
    have e2 := getD_map (fun r : List Ent => (r.filter fun e => decide (lvE e ≤ v)).length) [] (rskAll lvE zE l).1 d
    have e3 : ((rskAll lvE zE l).1.map fun r => (r.filter fun e => decide (lvE e ≤ v)).length).getD d 0 = (((rskAll lvE zE l).1.getD d []).filter fun e => decide (lvE e ≤ v)).length := e2
    rw [e3]
    unfold cle
    rw [List.filter_map, List.length_map]; rfl
  rw [told_spec (part_ok h (by omega) 1) (fun v => g0_of v) fun d hd v hv => by rw [hlam d hd v, hlam d hd (v + 1)]; exact cle_mono _ v]
  have hr5 := rows_five l
  refine List.ext_getElem? fun d => ?_
  rw [List.getElem?_map, List.getElem?_map]
  by_cases hd : d < 5
  · rw [List.getElem?_range hd]
    have e1 : (rskAll lvE zE l).1[d]? = some ((rskAll lvE zE l).1.getD d []) := by
      have : d < (rskAll lvE zE l).1.length := by omega
      rw [List.getD_eq_getElem?_getD, List.getElem?_eq_getElem this]; rfl
    rw [e1]
    show some (flat _ 8) = some _
    have hm := List.mem_of_getElem? e1
    rw [flat_congr fun v _ => hlam d hd v, flat_all (k1 _ hm) fun x hx => ?_]
    obtain ⟨e, he, rfl⟩ := List.mem_map.mp hx
    have := (h e (rows_mem l _ hm e he)).2.1.2
    show e.2.1 < 8; omega
  · rw [List.getElem?_eq_none (by simp; omega), List.getElem?_eq_none (by omega)]; rfl
theorem unAll_step {α : Type} {lv : α → Nat} {z : α} {k : Nat} {ks : List Nat} {rows rows' : List (List α)} {m : α} {l : List α} (h : unStep lv z rows k = some (rows', m)) (h2 : unAll lv z ks rows' = some l) : unAll lv z (k :: ks) rows = some (m :: l) := by
  unfold unAll
  rw [h]
  simp only
  rw [h2]
theorem part_back (l : List Ent) : (∀ x ∈ l, EntOk x) → l.length ≤ 5 → unAll lvE zE (((rskAll lvE zE l).2.map fun r => (r.1, r.2.1)).reverse.map (·.1)) (rskAll lvE zE l).1 = some l.reverse := by
  refine snoc_ind (M := fun l => (∀ x ∈ l, EntOk x) → l.length ≤ 5 → unAll lvE zE (((rskAll lvE zE l).2.map fun r => (r.1, r.2.1)).reverse.map (·.1)) (rskAll lvE zE l).1 = some l.reverse) (fun _ _ => rfl) (fun l e ih h h5 => ?_) l
  have ih' := ih (fun y hy => h y (List.mem_append_left _ hy)) (by simp at h5; omega)
  obtain ⟨n1, -, -⟩ := node_ent h h5
  rw [rskAll_snoc]
  show unAll lvE zE ((((rskAll lvE zE l).2 ++ [((rsk lvE zE 5 (rskAll lvE zE l).1 e 0).2, e)]).map fun r => (r.1, r.2.1)).reverse.map (·.1)) (rsk lvE zE 5 (rskAll lvE zE l).1 e 0).1 = _
  rw [List.map_append, List.reverse_append, List.map_append, List.reverse_append]
  show unAll lvE zE ((rsk lvE zE 5 (rskAll lvE zE l).1 e 0).2 :: (((rskAll lvE zE l).2.map fun r => (r.1, r.2.1)).reverse.map (·.1))) _ = some (e :: l.reverse)
  exact unAll_step n1 ih'
end Mine
end

section
open PySem PySem.W PyProof.Rows
set_option Elab.async false
set_option maxRecDepth 100000
set_option maxHeartbeats 4000000
set_option linter.unusedVariables false
set_option linter.unusedSimpArgs false
namespace Mine
def insI (key : Nat → Nat) (l : List Nat) (i : Nat) : List Nat :=
  let k := bis (fun j => decide (key i < key (l.getD j 5))) l.length 0 l.length
  l.take k ++ i :: l.drop k
def lineI (key : Nat → Nat) : List Nat := [0, 1, 2, 3, 4].foldl (insI key) []
def sortR : List Nat → Bool
  | [] => true
  | x :: l => l.all (fun y => Nat.ble x y) && sortR l
def sortK (R : List Nat) : Bool :=
  match runT (fun i j => Nat.ble (R.getD i 0 + 1) (R.getD j 0)) (kas_sort 5) with
  | some q => q.toList == lineI (fun i => R.getD i 0) && sortR ((lineI (fun i => R.getD i 0)).map fun i => R.getD i 0) && q.toList.all (fun i => Nat.ble (i + 1) 5)
  | none => false
def cntR (R : List Nat) (x : Nat) : List Nat → Nat
  | [] => 0
  | y :: l => cond (Nat.ble (y + 1) x) (cntR R x l + 1) (cntR R x l)
def validR (R : List Nat) : Bool := R.all fun x => Nat.beq x (cntR R x R)
def sortV (R : List Nat) : Bool := !validR R || sortK R
def wordsR : Nat → List (List Nat)
  | 0 => [[]]
  | n + 1 => (wordsR n).flatMap fun u => [0 :: u, 1 :: u, 2 :: u, 3 :: u, 4 :: u]
theorem wordsR_mem : ∀ (u : List Nat), (∀ x ∈ u, x < 5) → u ∈ wordsR u.length
  | [], _ => List.mem_singleton.mpr rfl
  | x :: u, h => by
    have ih := wordsR_mem u fun y hy => h y (List.mem_cons_of_mem _ hy)
    have hx := h x (List.mem_cons_self ..)
    show x :: u ∈ (wordsR u.length).flatMap _
    rw [List.mem_flatMap]
    refine ⟨u, ih, ?_⟩
    rcases (show x = 0 ∨ x = 1 ∨ x = 2 ∨ x = 3 ∨ x = 4 by omega) with rfl | rfl | rfl | rfl | rfl <;> simp
theorem sort5_0 : (wordsR 4).all (fun v => sortV (0 :: v)) = true := by decide +kernel
theorem sort5_1 : (wordsR 4).all (fun v => sortV (1 :: v)) = true := by decide +kernel
theorem sort5_2 : (wordsR 4).all (fun v => sortV (2 :: v)) = true := by decide +kernel
theorem sort5_3 : (wordsR 4).all (fun v => sortV (3 :: v)) = true := by decide +kernel
theorem sort5_4 : (wordsR 4).all (fun v => sortV (4 :: v)) = true := by decide +kernel
theorem sort_at {R : List Nat} (h : ∀ x ∈ R, x < 5) (hl : R.length = 5) : sortV R = true := by
  match R, h, hl with
  | [a, b, c, d, e], h, _ =>
    have m := wordsR_mem [b, c, d, e] fun x hx => h x (List.mem_cons_of_mem _ hx)
    have ha := h a (by simp)
    rcases (show a = 0 ∨ a = 1 ∨ a = 2 ∨ a = 3 ∨ a = 4 by omega) with rfl | rfl | rfl | rfl | rfl
    · exact List.all_eq_true.mp sort5_0 _ m
    · exact List.all_eq_true.mp sort5_1 _ m
    · exact List.all_eq_true.mp sort5_2 _ m
    · exact List.all_eq_true.mp sort5_3 _ m
    · exact List.all_eq_true.mp sort5_4 _ m
theorem sortR_pw : ∀ {l : List Nat}, sortR l = true → l.Pairwise (· ≤ ·)
  | [], _ => .nil
  | x :: l, h => by
    simp only [sortR, Bool.and_eq_true, List.all_eq_true] at h
    exact List.pairwise_cons.mpr ⟨fun y hy => Nat.le_of_ble_eq_true (h.1 y hy), sortR_pw h.2⟩

theorem runT_congr {α : Type} {lt lt' : Nat → Nat → Bool} (h : ∀ i j, i < 5 → j < 5 → lt i j = lt' i j) : ∀ t : KasT α, runT lt t = runT lt' t
  | .ret _ => rfl
  | .ask i j k => by
    unfold runT
    by_cases hij : i < 5 ∧ j < 5
    · rw [if_pos hij, if_pos hij, h i j hij.1 hij.2]
      exact runT_congr h _
    · rw [if_neg hij, if_neg hij]
theorem bis_congr {t t' : Nat → Bool} : ∀ (f lo hi : Nat), (∀ j, lo ≤ j → j < hi → t j = t' j) → bis t f lo hi = bis t' f lo hi
  | 0, _, _, _ => rfl
  | f + 1, lo, hi, h => by
    simp only [bis]
    by_cases hl : lo < hi
    · rw [if_pos hl, if_pos hl, h ((lo + hi) / 2) (by omega) (by omega)]
      rw [bis_congr f lo ((lo + hi) / 2) fun j h1 h2 => h j h1 (by omega), bis_congr f ((lo + hi) / 2 + 1) hi fun j h1 h2 => h j (by omega) h2]
    · rw [if_neg hl, if_neg hl]
theorem insI_congr {key key' : Nat → Nat} (h : ∀ i j, i < 5 → j < 5 → (key i < key j ↔ key' i < key' j)) {l : List Nat} {i : Nat} (hl : ∀ x ∈ l, x < 5) (hi : i < 5) : insI key l i = insI key' l i := by
  have e : bis (fun j => decide (key i < key (l.getD j 5))) l.length 0 l.length = bis (fun j => decide (key' i < key' (l.getD j 5))) l.length 0 l.length := bis_congr _ _ _ fun j _ hj => by
    have hm : l.getD j 5 < 5 := by
      rw [List.getD_eq_getElem?_getD, List.getElem?_eq_getElem hj]
      exact hl _ (List.getElem_mem _)
    exact decide_eq_decide.mpr (h _ _ hi hm)
  unfold insI
  simp only [e]
theorem insI_mem {key : Nat → Nat} {l : List Nat} {i x : Nat} (h : x ∈ insI key l i) : x = i ∨ x ∈ l := by
  unfold insI at h
  rcases List.mem_append.mp h with h | h
  · exact .inr (List.mem_of_mem_take h)
  · rcases List.mem_cons.mp h with h | h
    · exact .inl h
    · exact .inr (List.mem_of_mem_drop h)
theorem fold_congr {key key' : Nat → Nat} (h : ∀ i j, i < 5 → j < 5 → (key i < key j ↔ key' i < key' j)) : ∀ (is l : List Nat), (∀ x ∈ is, x < 5) → (∀ x ∈ l, x < 5) → is.foldl (insI key) l = is.foldl (insI key') l
  | [], _, _, _ => rfl
  | i :: is, l, hi, hl => by
    have h0 := hi i (List.mem_cons_self ..)
    rw [List.foldl_cons, List.foldl_cons, insI_congr h hl h0]
    exact fold_congr h is _ (fun x hx => hi x (List.mem_cons_of_mem _ hx)) fun x hx => (insI_mem hx).elim (fun e => e ▸ h0) (hl x)
theorem insE_map (f : Nat → Ent) (h5 : f 5 = zE) (l : List Nat) (i : Nat) : insE (l.map f) (f i) = (insI (fun i => kap (f i)) l i).map f := by
  unfold insE insI
  have e : (fun j => decide (kap (f i) < kap ((l.map f).getD j zE))) = fun j => decide (kap (f i) < kap (f (l.getD j 5))) := by
    funext j
    have : (l.map f).getD j zE = f (l.getD j 5) := by
      rw [List.getD_eq_getElem?_getD, List.getD_eq_getElem?_getD, List.getElem?_map]
      cases l[j]? with
      | none => exact h5.symm
      | some x => rfl
    rw [this]
  rw [List.length_map, e]
  simp only
  rw [List.map_append, List.map_cons, List.map_take, List.map_drop]
theorem lineOf_map (f : Nat → Ent) (h5 : f 5 = zE) : ∀ (is l : List Nat), (is.map f).foldl insE (l.map f) = (is.foldl (insI fun i => kap (f i)) l).map f
  | [], _ => rfl
  | i :: is, l => by
    rw [List.map_cons, List.foldl_cons, List.foldl_cons, insE_map f h5]
    exact lineOf_map f h5 is _
theorem cnt_le {P Q : Nat → Bool} : ∀ {l : List Nat}, (∀ x ∈ l, P x = true → Q x = true) → (l.filter P).length ≤ (l.filter Q).length
  | [], _ => Nat.le_refl _
  | x :: l, h => by
    have ih := cnt_le (l := l) fun y hy => h y (List.mem_cons_of_mem _ hy)
    have hx := h x (List.mem_cons_self ..)
    rw [List.filter_cons, List.filter_cons]
    cases hP : P x with
    | true => rw [hx hP]; simp; exact ih
    | false =>
      cases hQ : Q x with
      | true => simp; omega
      | false => simpa using ih
theorem cnt_lt {P Q : Nat → Bool} {y : Nat} (hQ : Q y = true) (hP : P y = false) : ∀ {l : List Nat}, y ∈ l → (∀ x ∈ l, P x = true → Q x = true) → (l.filter P).length < (l.filter Q).length
  | x :: l, hm, h => by
    have hl := cnt_le (l := l) fun y hy => h y (List.mem_cons_of_mem _ hy)
    have hx := h x (List.mem_cons_self ..)
    rw [List.filter_cons, List.filter_cons]
    rcases List.mem_cons.mp hm with rfl | hm
    · rw [hP, hQ]; simp; omega
    · have ih := cnt_lt hQ hP hm fun y hy => h y (List.mem_cons_of_mem _ hy)
      cases hP' : P x with
      | true => rw [hx hP']; simp; exact ih
      | false =>
        cases hQ' : Q x with
        | true => simp; omega
        | false => simpa using ih
/-- ranks tell the order -/
def rank (key : Nat → Nat) (i : Nat) : Nat := ([0, 1, 2, 3, 4].filter fun j => decide (key j < key i)).length
theorem rank_lt {key : Nat → Nat} {i j : Nat} (hi : i < 5) (hj : j < 5) : rank key i < rank key j ↔ key i < key j := by
  have mem : ∀ {k}, k < 5 → k ∈ [0, 1, 2, 3, 4] := fun {k} hk => by
    rcases (show k = 0 ∨ k = 1 ∨ k = 2 ∨ k = 3 ∨ k = 4 by omega) with rfl | rfl | rfl | rfl | rfl <;> simp
  constructor
  · intro h
    rcases Nat.lt_or_ge (key i) (key j) with h' | h'
    · exact h'
    · have : rank key j ≤ rank key i := cnt_le fun x _ hx => by simp at hx ⊢; omega
      omega
  · intro h
    exact cnt_lt (y := i) (by simpa using h) (by simp) (mem hi) fun x _ hx => by simp at hx ⊢; omega
theorem rank_five {key : Nat → Nat} {i : Nat} (hi : i < 5) : rank key i < 5 := by
  have mem : i ∈ [0, 1, 2, 3, 4] := by
    rcases (show i = 0 ∨ i = 1 ∨ i = 2 ∨ i = 3 ∨ i = 4 by omega) with rfl | rfl | rfl | rfl | rfl <;> simp
  have := cnt_lt (P := fun j => decide (key j < key i)) (Q := fun _ => true) (y := i) rfl (by simp) mem (fun _ _ _ => rfl)
  simpa [rank] using this
theorem cntR_eq (R : List Nat) (x : Nat) : ∀ l, cntR R x l = (l.filter fun y => decide (y < x)).length
  | [] => rfl
  | y :: l => by
    have ih := cntR_eq R x l
    show cond (Nat.ble (y + 1) x) (cntR R x l + 1) (cntR R x l) = _
    rw [ih, ble_eq, List.filter_cons]
    by_cases h : y < x
    · have h' : y + 1 ≤ x := h
      simp [h, h']
    · have h' : ¬ y + 1 ≤ x := by omega
      simp [h, h']
def ranks (key : Nat → Nat) : List Nat := [0, 1, 2, 3, 4].map (rank key)
theorem ranks_get {key : Nat → Nat} {i : Nat} (hi : i < 5) : (ranks key).getD i 0 = rank key i := by
  rcases (show i = 0 ∨ i = 1 ∨ i = 2 ∨ i = 3 ∨ i = 4 by omega) with rfl | rfl | rfl | rfl | rfl <;> rfl
theorem ranks_valid (key : Nat → Nat) : validR (ranks key) = true := by
  unfold validR
  rw [List.all_eq_true]
  intro x hx
  obtain ⟨i, hi, rfl⟩ := List.mem_map.mp hx
  have lt5 : ∀ k ∈ [0, 1, 2, 3, 4], k < 5 := by decide
  rw [cntR_eq]
  have : (((ranks key).filter fun y => decide (y < rank key i))).length = rank key i := by
    unfold ranks
    rw [List.filter_map, List.length_map]
    unfold rank
    congr 1
    refine List.filter_congr fun j hj => ?_
    exact decide_eq_decide.mpr (rank_lt (lt5 j hj) (lt5 i hi))
  rw [this]
  exact Nat.beq_refl _
theorem sort_facts {es : List Ent} (h5 : es.length = 5) (ok : ∀ e ∈ es, EntOk e) : ∃ q, runT (pairLt (es.map ab)) (kas_sort 5) = some q ∧ (∀ i ∈ q.toList, i < 5) ∧ q.toList.map (fun i => es.getD i zE) = lineOf es ∧ (lineOf es).Pairwise (fun x y => x.1 ≤ y.1) := by
  let key : Nat → Nat := fun i => kap (es.getD i zE)
  have lt5 : ∀ k ∈ [0, 1, 2, 3, 4], k < 5 := by decide
  have hm : ∀ {i}, i < 5 → EntOk (es.getD i zE) := fun {i} hi => by
    rw [List.getD_eq_getElem?_getD, List.getElem?_eq_getElem (by omega)]
    exact ok _ (List.getElem_mem _)
  have hk : ∀ i j, i < 5 → j < 5 → ((ranks key).getD i 0 < (ranks key).getD j 0 ↔ key i < key j) := fun i j hi hj => by rw [ranks_get hi, ranks_get hj]; exact rank_lt hi hj
  have hV := sort_at (R := ranks key) (fun x hx => by
    obtain ⟨i, hi, rfl⟩ := List.mem_map.mp hx
    exact rank_five (lt5 i hi)) rfl
  unfold sortV at hV
  rw [ranks_valid] at hV
  have hK : sortK (ranks key) = true := by simpa using hV
  unfold sortK at hK
  split at hK
  · rename_i q hq
    simp only [Bool.and_eq_true] at hK
    obtain ⟨⟨k1, k2⟩, k3⟩ := hK
    have k1' := eq_of_beq k1
    have hes : es = [0, 1, 2, 3, 4].map fun i => es.getD i zE := by
      refine List.ext_getElem? fun i => ?_
      by_cases hi : i < 5
      · have e1 : es[i]? = some (es.getD i zE) := by rw [List.getD_eq_getElem?_getD, List.getElem?_eq_getElem (by omega)]; rfl
        rw [e1]
        rcases (show i = 0 ∨ i = 1 ∨ i = 2 ∨ i = 3 ∨ i = 4 by omega) with rfl | rfl | rfl | rfl | rfl <;> rfl
      · rw [List.getElem?_eq_none (by omega), List.getElem?_eq_none (by simp; omega)]
    have h5' : es.getD 5 zE = zE := by rw [List.getD_eq_getElem?_getD, List.getElem?_eq_none (by omega)]; rfl
    have hI : lineI (fun i => (ranks key).getD i 0) = lineI key := fold_congr (fun i j hi hj => hk i j hi hj) _ _ lt5 (fun x h => nomatch h)
    have hline : lineOf es = (lineI key).map fun i => es.getD i zE := by
      have := lineOf_map (fun i => es.getD i zE) h5' [0, 1, 2, 3, 4] []
      rw [← hes] at this
      exact this
    have q5 : ∀ i ∈ q.toList, i < 5 := fun i hi => Nat.le_of_ble_eq_true (List.all_eq_true.mp k3 i hi)
    refine ⟨q, ?_, q5, ?_, ?_⟩
    · rw [← hq]
      refine runT_congr (fun i j hi hj => ?_) _
      have ei : (es.map ab).getD i (0, 0) = ab (es.getD i zE) := by
        rw [List.getD_eq_getElem?_getD, List.getD_eq_getElem?_getD, List.getElem?_map, List.getElem?_eq_getElem (by omega)]; rfl
      have ej : (es.map ab).getD j (0, 0) = ab (es.getD j zE) := by
        rw [List.getD_eq_getElem?_getD, List.getD_eq_getElem?_getD, List.getElem?_map, List.getElem?_eq_getElem (by omega)]; rfl
      have oi := hm hi
      have oj := hm hj
      rw [ble_eq]
      have h1 : ((ranks key).getD i 0 + 1 ≤ (ranks key).getD j 0) ↔ key i < key j := hk i j hi hj
      rw [decide_eq_decide.mpr h1]
      unfold pairLt
      rw [ei, ej]
      show (decide ((es.getD i zE).1 < (es.getD j zE).1) || ((es.getD i zE).1 == (es.getD j zE).1 && decide ((es.getD i zE).2.1 < (es.getD j zE).2.1))) = decide (16 * (es.getD i zE).1 + (es.getD i zE).2.1 < 16 * (es.getD j zE).1 + (es.getD j zE).2.1)
      have b1 := oi.2.1
      have b2 := oj.2.1
      rw [Bool.eq_iff_iff]
      simp only [Bool.or_eq_true, Bool.and_eq_true, decide_eq_true_eq, beq_iff_eq]
      omega
    · rw [hline, k1', hI]
    · rw [hline]
      have hmem : ∀ i ∈ lineI key, i < 5 := fun i hi => by rw [← hI, ← k1'] at hi; exact q5 i hi
      have pw := sortR_pw k2
      rw [hI, List.pairwise_map] at pw
      rw [List.pairwise_map]
      refine List.Pairwise.imp_of_mem (fun {i j} hi hj hij => ?_) pw
      have hi5 := hmem i hi
      have hj5 := hmem j hj
      have : ¬ key j < key i := fun hc => by have := (hk j i hj5 hi5).mpr hc; omega
      have b1 := (hm hi5).2.1
      have b2 := (hm hj5).2.1
      have this' : ¬ (16 * (es.getD j zE).1 + (es.getD j zE).2.1 < 16 * (es.getD i zE).1 + (es.getD i zE).2.1) := this
      show (es.getD i zE).1 ≤ (es.getD j zE).1
      omega
  · cases hK
end Mine
end

section
open PySem PySem.W PyProof.Rows
set_option Elab.async false
set_option maxRecDepth 100000
set_option maxHeartbeats 4000000
set_option linter.unusedVariables false
set_option linter.unusedSimpArgs false
namespace Mine
theorem law_facts (ns : List Int) : ∃ q, LawFacts ((xs5 ns).map entOf) q := by
  have hes : ∀ e ∈ (xs5 ns).map entOf, EntOk e := fun e he => by
    obtain ⟨x, _, rfl⟩ := List.mem_map.mp he
    exact entOk x
  have h5 : ((xs5 ns).map entOf).length = 5 := by rw [List.length_map, xs5_len]
  generalize (xs5 ns).map entOf = es at *
  obtain ⟨q, s1, s2, s3, s4⟩ := sort_facts h5 hes
  obtain ⟨hln, hll⟩ := line_fold es [] hes (fun e he => nomatch he)
  have hll' : (lineOf es).length = 5 := hll.trans (by rw [h5]; rfl)
  exact ⟨q, s1, s2, s3, part_lv hln hll', part_hu hln (Nat.le_of_eq hll') s4, part_ok hln (Nat.le_of_eq hll') 0, part_ok hln (Nat.le_of_eq hll') 1, part_back _ hln (Nat.le_of_eq hll')⟩
end Mine
end

open PySem PySem.W PyProof.Rows PySem.Calls PySem.MeetsSeq
theorem PySem.Challenge.cw_pm0068_01_holds : PySem.Challenge.rw_pm0068_01.Holds :=
  Mine.hd (by
    k_go0
    refine Mine.law_close Mine.law_facts (by assumption) (by assumption) (by assumption) (by assumption) (by assumption) (by assumption) (by kernel_rfl) (by assumption) (by assumption) ⟨_, by assumption⟩ ⟨_, by assumption⟩ ⟨_, by assumption⟩ ⟨_, by assumption⟩ ⟨_, by assumption⟩ ⟨_, by assumption⟩ (by assumption) fun s' k hg ho ht => ?_
    refine ⟨⟨Or.inl ⟨.bool true, .bool true, [], rfl, fun _ => rfl, .bool true, ?_, fun _ => ⟨List.nodup_nil, fun _ h => nomatch h⟩⟩, k, ho, hg.trans (by assumption)⟩, ht, trivial⟩
    kernel_rfl)
