import PyProof.Rows.All
import Wide.All
import OpenK.AllK
import Wide.FinOn
import Lean
import PySem.Challenge.RW_om0166_01
open PySem PySem.W PySem.Spec PySem.Calls PyProof.Rows
set_option Elab.async false
set_option maxRecDepth 1000000
set_option maxHeartbeats 0
set_option linter.unusedVariables false
set_option linter.all false
namespace Mine
theorem hide {g : Prop} (h : ∀ P : Prop, (g → P) → P) : g := h g id

inductive ConsR (p : Value → Prop) (q : List Value → Prop) (ws : List Value) : Prop
  | mk (y : Value) (ys : List Value) (e : ws = y :: ys) (a : p y) (b : q ys)
inductive V where
  | none | bool (b : Bool) | int (i : Int) | str (x : Str) | ref (a : Addr) | tup (vs : List V) | imm (v : Value)
  | rng (n : Nat) | vals (d : Addr)

mutual
def VR (h : Heap) : V → Value → Prop
  | .none, v => v = .none
  | .bool b, v => v = .bool b
  | .int i, v => ∃ t, v = .int i t
  | .str x, v => ∃ t, v = .str x t
  | .ref a, v => v = .ref a
  | .imm u, v => v = u
  | .tup vs, v => ∃ a ws, v = .ref a ∧ h.IsTuple a ws ∧ VRs h vs ws.toList
  | .rng n, v => ∃ a t u w, v = .ref a ∧ IsRange h a 0 n 1 t u w ∧ n < 1000000
  | .vals d, v => ∃ a, v = .ref a ∧ h.IsValuesView a d
def VRs (h : Heap) : List V → List Value → Prop
  | [], ws => ws = []
  | x :: xs, ws => ConsR (VR h x) (VRs h xs) ws
end

inductive AO where
  | list (vs : List V)
  | dict (kvs : List (Str × V)) (ep : Nat)
  | inst (c d : Addr)
  | ns (fs : List (Str × V))
  | slots (c d : Addr) (fs : List (Option V))
  | set (xs : List Str)
  | iter (l : Addr) (i : Nat)
  | next (it : Addr)

abbrev AH := Addr → Option AO
abbrev Map := Str → Option V

structure Cx where
  prog : Program
  w : World
  g : Heap
  os : OsState × Drawn

abbrev Cx.M (c : Cx) : Model := model c.prog c.w

def OptR (h : Heap) : Option V → Option Value → Prop
  | none, y => y = none
  | some x, y => ∃ v, y = some v ∧ VR h x v

def OR (c : Cx) (h : Heap) (a : Addr) : AO → Prop
  | .list vs => ∃ items n, h.get? a = some (listOf items n) ∧ VRs h vs items.toList
  | .dict kvs ep => ∃ ys, h.DictAt (strKind c.prog c.w) a ys ep ∧ ys.map (·.1) = kvs.map (·.1) ∧ VRs h (kvs.map (·.2)) (ys.map (·.2)) ∧ (a == sysModules) = false
  | .inst k d => h.get? a = some (instObj k d)
  | .ns fs => ∃ es n, h.get? a = some (dictOf es n) ∧ Paired (fun f e => (∃ t, e.key = Value.str f.1 t) ∧ VR h f.2 e.val) fs es
  | .slots k d fs => ∃ sl, h.get? a = some { cls := .ref k, dict := some d, data := .plain, slots := sl } ∧ Paired (OptR h) fs sl.toList
  | .set xs => ∃ S, h.SetOf (strKind c.prog c.w) a S xs.length ∧ (∀ x, S x = true ↔ x ∈ xs) ∧ xs.Nodup
  | .iter l i => h.get? a = some { cls := .type "list_iterator", data := .fields #[.ref l, .int i 0] }
  | .next it => h.get? a = some { cls := .type "method-wrapper", data := .fields #[.builtin "list_iterator.__next__", .ref it] }

def Kp (o o' : Obj) : Prop := o' = o ∨ ((∃ es n, o.data = .dict es n) ∧ ∃ sl, o' = { o with slots := sl })
theorem Kp.refl (o : Obj) : Kp o o := .inl rfl
theorem Kp.trans {a b c : Obj} (x : Kp a b) (y : Kp b c) : Kp a c := by
  rcases x with rfl | ⟨⟨es, n, hd⟩, sl, rfl⟩
  · exact y
  · rcases y with rfl | ⟨_, sl', rfl⟩
    · exact .inr ⟨⟨es, n, hd⟩, sl, rfl⟩
    · exact .inr ⟨⟨es, n, hd⟩, sl', rfl⟩
theorem Kp.data {a b : Obj} (x : Kp a b) : b.data = a.data ∧ b.cls = a.cls ∧ b.dict = a.dict := by
  rcases x with rfl | ⟨_, sl, rfl⟩ <;> exact ⟨rfl, rfl, rfl⟩
theorem Kp.eq {a b : Obj} (x : Kp a b) (h : ∀ es n, a.data ≠ .dict es n) : b = a := by
  rcases x with rfl | ⟨⟨es, n, hd⟩, _⟩
  · rfl
  · exact absurd hd (h es n)

structure Rep (c : Cx) (H : AH) (s : Shared) : Prop where
  keep : ∀ b o, c.g.get? b = some o → s.heap.get? b = some o
  gens : s.gens = #[]
  os : (s.os, s.drawn) = c.os
  at_ : ∀ a o, H a = some o → OR c s.heap a o
  new : ∀ a o, H a = some o → c.g.get? a = none

structure Step (H : AH) (s : Shared) (H' : AH) (s' : Shared) : Prop where
  kept : ∀ b o, s.heap.get? b = some o → H b = none → ∃ o', s'.heap.get? b = some o' ∧ Kp o o'
  new : ∀ b o, H' b = some o → H b = none → s.heap.get? b = none
  alive : ∀ b o, s.heap.get? b = some o → ∃ o', s'.heap.get? b = some o'

theorem Step.refl (H : AH) (s : Shared) : Step H s H s := ⟨fun b o e _ => ⟨o, e, .refl o⟩, (fun b o e n => by rw [n] at e; cases e), fun b o e => ⟨o, e⟩⟩
theorem Step.free {H H' : AH} {s s' : Shared} (x : Step H s H' s') {b : Addr} {ob : Obj} (hb : H b = none) (hlt : s.heap.get? b = some ob) : H' b = none := by
  cases e : H' b with
  | none => rfl
  | some o => rw [x.new b o e hb] at hlt; cases hlt
theorem Step.old {H H' : AH} {s s' : Shared} (x : Step H s H' s') {b : Addr} (h : s'.heap.get? b = none) : s.heap.get? b = none := by
  cases e : s.heap.get? b with
  | none => rfl
  | some o => obtain ⟨o', e'⟩ := x.alive b o e; rw [h] at e'; cases e'
theorem Step.trans {H₁ H₂ H₃ : AH} {s₁ s₂ s₃ : Shared} (x : Step H₁ s₁ H₂ s₂) (y : Step H₂ s₂ H₃ s₃) : Step H₁ s₁ H₃ s₃ := by
  refine ⟨fun b o e n => ?_, fun b o e n => ?_, fun b o e => ?_⟩
  · obtain ⟨o', e', k⟩ := x.kept b o e n
    obtain ⟨o'', e'', k'⟩ := y.kept b o' e' (x.free n e)
    exact ⟨o'', e'', k.trans k'⟩
  · cases e2 : H₂ b with
    | none => exact x.old (y.new b o e e2)
    | some o2 => exact x.new b o2 e2 n
  · obtain ⟨o', e'⟩ := x.alive b o e
    exact y.alive b o' e'
theorem Step.of_keeps {H H' : AH} {s s' : Shared} (k : ∀ b o, s.heap.get? b = some o → s'.heap.get? b = some o) (hn : ∀ b o, H' b = some o → H b = none → s.heap.get? b = none) : Step H s H' s' :=
  ⟨fun b o e _ => ⟨o, k b o e, .refl o⟩, hn, fun b o e => ⟨o, k b o e⟩⟩

def immCls : Value → Bool
  | .type n => n == "tuple" || n == "range" || n == "dict_values"
  | _ => false
def immData : Data → Bool
  | .seq _ _ => true
  | .fields _ => true
  | _ => false
def TK (h h' : Heap) : Prop := ∀ a o, h.get? a = some o → immCls o.cls = true → immData o.data = true → h'.get? a = some o
theorem TK.refl (h : Heap) : TK h h := fun _ _ x _ _ => x
theorem TK.trans {a b c : Heap} (x : TK a b) (y : TK b c) : TK a c := fun t o z h1 h2 => y t o (x t o z h1 h2) h1 h2
theorem TK.of_keeps {h h' : Heap} (k : ∀ b o, h.get? b = some o → h'.get? b = some o) : TK h h' := fun a o e _ _ => k a o e
theorem TK.tup {h h' : Heap} (k : TK h h') {a : Addr} {ws : Array Value} : h.IsTuple a ws → h'.IsTuple a ws := fun ⟨o, e, hc, n, hd⟩ => ⟨o, k a o e (by rw [hc]; rfl) (by rw [hd]; rfl), hc, n, hd⟩
theorem TK.range {h h' : Heap} (k : TK h h') {r : Addr} {a b c : Int} {t u v : Tok} (x : IsRange h r a b c t u v) : IsRange h' r a b c t u v := k r _ x rfl rfl
theorem TK.values {h h' : Heap} (k : TK h h') {a d : Addr} : h.IsValuesView a d → h'.IsValuesView a d := fun ⟨o, e, hc, hd⟩ => ⟨o, k a o e (by rw [hc]; rfl) (by rw [hd]; rfl), hc, hd⟩
theorem immData_nd {d : Data} (h : immData d = true) : ∀ es n, d ≠ .dict es n := fun es n q => by rw [q] at h; cases h

mutual
theorem VR.mono {h h' : Heap} (k : TK h h') : ∀ {x : V} {v : Value}, VR h x v → VR h' x v
  | .none, _, e => e
  | .bool _, _, e => e
  | .int _, _, e => e
  | .str _, _, e => e
  | .ref _, _, e => e
  | .imm _, _, e => e
  | .tup vs, _, e => by
    obtain ⟨a, ws, e1, e2, e3⟩ := e
    exact ⟨a, ws, e1, k.tup e2, VRs.mono k e3⟩
  | .rng n, _, e => by
    obtain ⟨a, t, u, w, e1, e2, e3⟩ := e
    exact ⟨a, t, u, w, e1, k.range e2, e3⟩
  | .vals d, _, e => by
    obtain ⟨a, e1, e2⟩ := e
    exact ⟨a, e1, k.values e2⟩
theorem VRs.mono {h h' : Heap} (k : TK h h') : ∀ {xs : List V} {vs : List Value}, VRs h xs vs → VRs h' xs vs
  | [], _, e => e
  | x :: xs, _, e => by
    obtain ⟨y, ys, rfl, e1, e2⟩ := e
    exact ⟨y, ys, rfl, VR.mono k e1, VRs.mono k e2⟩
end

theorem VRs.length {h : Heap} : ∀ {xs : List V} {vs : List Value}, VRs h xs vs → xs.length = vs.length
  | [], _, e => by cases e; rfl
  | x :: xs, _, e => by obtain ⟨y, ys, rfl, _, b⟩ := e; simp [b.length]
theorem VRs.append {h : Heap} : ∀ {xs : List V} {vs : List Value} {ys : List V} {us : List Value}, VRs h xs vs → VRs h ys us → VRs h (xs ++ ys) (vs ++ us)
  | [], _, _, _, e, f => by cases e; exact f
  | x :: xs, _, _, _, e, f => by obtain ⟨y, ys', rfl, a, b⟩ := e; exact ⟨y, _, rfl, a, b.append f⟩
theorem VRs.get {h : Heap} : ∀ {xs : List V} {vs : List Value}, VRs h xs vs → ∀ {i : Nat} {x : V}, xs[i]? = some x → ∃ v, vs[i]? = some v ∧ VR h x v
  | [], _, _, i, x, hx => by simp at hx
  | x :: xs, _, e, 0, x', hx => by obtain ⟨y, ys, rfl, a, _⟩ := e; simp at hx; subst hx; exact ⟨y, rfl, a⟩
  | x :: xs, _, e, i + 1, x', hx => by obtain ⟨y, ys, rfl, _, b⟩ := e; simpa using b.get (by simpa using hx)
theorem VRs.get' {h : Heap} : ∀ {xs : List V} {vs : List Value}, VRs h xs vs → ∀ {i : Nat} {v : Value}, vs[i]? = some v → ∃ x, xs[i]? = some x ∧ VR h x v
  | [], _, e, i, x, hx => by cases e; simp at hx
  | x :: xs, _, e, 0, x', hx => by obtain ⟨y, ys, rfl, a, _⟩ := e; simp at hx; subst hx; exact ⟨x, rfl, a⟩
  | x :: xs, _, e, i + 1, x', hx => by obtain ⟨y, ys, rfl, _, b⟩ := e; simpa using b.get' (by simpa using hx)
theorem VRs.split {h : Heap} : ∀ {xs : List V} {vs : List Value} {ys : List V}, VRs h (xs ++ ys) vs → ∃ us ws, vs = us ++ ws ∧ VRs h xs us ∧ VRs h ys ws
  | [], vs, ys, e => ⟨[], vs, rfl, rfl, e⟩
  | x :: xs, _, ys, e => by
    obtain ⟨y, ys', rfl, a, b⟩ := e
    obtain ⟨us, ws, rfl, c, d⟩ := b.split
    exact ⟨y :: us, ws, rfl, ⟨y, us, rfl, a, c⟩, d⟩

theorem paired_mono {α β : Type} {F F' : α → β → Prop} (hf : ∀ a b, F a b → F' a b) : ∀ {l₁ : List α} {l₂ : List β}, Paired F l₁ l₂ → Paired F' l₁ l₂
  | _, _, .nil => .nil
  | _, _, .cons h t => .cons (hf _ _ h) (paired_mono hf t)
theorem OptR.mono {h h' : Heap} (k : TK h h') {x : Option V} {y : Option Value} (e : OptR h x y) : OptR h' x y := by
  cases x with
  | none => exact e
  | some x => obtain ⟨v, rfl, b⟩ := e; exact ⟨v, rfl, b.mono k⟩

theorem OR.mono {c : Cx} {h h' : Heap} {a : Addr} (k : TK h h') (ho : h'.get? a = h.get? a) : ∀ {o : AO}, OR c h a o → OR c h' a o
  | .list vs, ⟨items, n, e, r⟩ => ⟨items, n, ho.trans e, r.mono k⟩
  | .dict kvs ep, ⟨ys, ⟨o, es, e, r⟩, hk, hv, hs⟩ => ⟨ys, ⟨o, es, ho.trans e, r⟩, hk, hv.mono k, hs⟩
  | .inst _ _, e => ho.trans e
  | .ns fs, ⟨es, n, e, r⟩ => ⟨es, n, ho.trans e, paired_mono (fun _ _ ⟨x, y⟩ => ⟨x, y.mono k⟩) r⟩
  | .slots _ _ _, ⟨sl, e, r⟩ => ⟨sl, ho.trans e, paired_mono (fun _ _ x => x.mono k) r⟩
  | .set xs, ⟨S, e, r⟩ => ⟨S, by unfold Heap.SetOf at e ⊢; simpa only [ho] using e, r⟩
  | .iter _ _, e => ho.trans e
  | .next _, e => ho.trans e

theorem OR.there {c : Cx} {h : Heap} {a : Addr} : ∀ {o : AO}, OR c h a o → ∃ ob, h.get? a = some ob ∧ immCls ob.cls = false
  | .list _, ⟨_, _, e, _⟩ => ⟨_, e, rfl⟩
  | .dict _ _, ⟨_, ⟨o, _, e, x, _⟩, _⟩ => ⟨o, e, by rw [x.1]; rfl⟩
  | .inst _ _, e => ⟨_, e, rfl⟩
  | .ns _, ⟨_, _, e, _⟩ => ⟨_, e, rfl⟩
  | .slots _ _ _, ⟨_, e, _⟩ => ⟨_, e, rfl⟩
  | .set _, ⟨_, e, _⟩ => by
    obtain ⟨o, _, _, _, e, q, _⟩ := e
    exact ⟨o, e, by rw [q.1]; rfl⟩
  | .iter _ _, e => ⟨_, e, rfl⟩
  | .next _, e => ⟨_, e, rfl⟩

def upd (H : AH) (a : Addr) (o : AO) : AH := fun b => if b = a then some o else H b
theorem upd_self (H : AH) (a : Addr) (o : AO) : upd H a o a = some o := if_pos rfl
theorem upd_ne (H : AH) {a b : Addr} (o : AO) (h : b ≠ a) : upd H a o b = H b := if_neg h

theorem Rep.there {c : Cx} {H : AH} {s : Shared} (R : Rep c H s) {a : Addr} {o : AO} (e : H a = some o) : ∃ ob, s.heap.get? a = some ob ∧ immCls ob.cls = false := (R.at_ a o e).there
theorem Rep.lt {c : Cx} {H : AH} {s : Shared} (R : Rep c H s) {a : Addr} {o : AO} (e : H a = some o) : a < s.heap.objs.size := by
  obtain ⟨_, x, _⟩ := R.there e
  exact Heap.lt_size x
theorem Rep.free {c : Cx} {H : AH} {s : Shared} (R : Rep c H s) {a : Addr} (h : s.heap.objs.size ≤ a) : H a = none := by
  cases e : H a with
  | none => rfl
  | some o => exact absurd (R.lt e) (Nat.not_lt.mpr h)
theorem Rep.imm {c : Cx} {H : AH} {s : Shared} (R : Rep c H s) {a : Addr} {o : Obj} (e : s.heap.get? a = some o) (hc : immCls o.cls = true) : H a = none := by
  cases z : H a with
  | none => rfl
  | some ao =>
    obtain ⟨ob, e', hne⟩ := R.there z
    rw [e] at e'; cases e'
    rw [hc] at hne; cases hne
theorem Rep.tk {c : Cx} {H H' : AH} {s s' : Shared} (R : Rep c H s) (x : Step H s H' s') : TK s.heap s'.heap := by
  intro a o e hc hd
  obtain ⟨o', e', k⟩ := x.kept a o e (R.imm e hc)
  rw [k.eq (immData_nd hd)] at e'
  exact e'
theorem Rep.silent {c : Cx} {H : AH} {s s' : Shared} (R : Rep c H s) (k : ∀ b o, s.heap.get? b = some o → s'.heap.get? b = some o) (hg : s'.gens = s.gens) (ho : (s'.os, s'.drawn) = (s.os, s.drawn)) : Rep c H s' :=
  ⟨fun b o e => k b o (R.keep b o e), hg.trans R.gens, ho.trans R.os, fun a o e => by
    obtain ⟨ob, x, _⟩ := R.there e
    exact (R.at_ a o e).mono (TK.of_keeps k) ((k _ _ x).trans x.symm), R.new⟩
theorem Step.silent {H : AH} {s s' : Shared} (k : ∀ b o, s.heap.get? b = some o → s'.heap.get? b = some o) : Step H s H s' :=
  .of_keeps k (fun b o e n => by rw [n] at e; cases e)
theorem Rep.toks {c : Cx} {H : AH} {s : Shared} (R : Rep c H s) (t : Nat) : Rep c H { s with toks := t } := R.silent (fun _ _ e => e) rfl rfl
theorem Step.toks (H : AH) (s : Shared) (t : Nat) : Step H s H { s with toks := t } := .silent (fun _ _ e => e)
theorem Rep.push0 {c : Cx} {H : AH} {s : Shared} (R : Rep c H s) (o : Obj) (t : Nat) : Rep c H { s with heap := s.heap.push o, toks := t } := R.silent (fun _ _ e => Heap.get?_push_of_some _ e) rfl rfl
theorem Step.push0 (H : AH) (s : Shared) (o : Obj) (t : Nat) : Step H s H { s with heap := s.heap.push o, toks := t } := .silent (fun _ _ e => Heap.get?_push_of_some _ e)
theorem Rep.add {c : Cx} {H : AH} {s : Shared} (R : Rep c H s) {a : Addr} {ao : AO} (ha : c.g.get? a = none) (h : OR c s.heap a ao) : Rep c (upd H a ao) s := by
  refine ⟨R.keep, R.gens, R.os, fun b x e => ?_, fun b x e => ?_⟩
  · unfold upd at e
    split at e
    · rename_i q; cases e; subst q; exact h
    · exact R.at_ b x e
  · unfold upd at e
    split at e
    · rename_i q; subst q; exact ha
    · exact R.new b x e
theorem Step.add {H H' : AH} {s s' : Shared} (x : Step H s H' s') {a : Addr} {ao : AO} (ha : H a = none → s.heap.get? a = none) : Step H s (upd H' a ao) s' :=
  ⟨x.kept, fun b o e n => by
    unfold upd at e
    split at e
    · rename_i q; subst q; exact ha n
    · exact x.new b o e n, x.alive⟩
theorem Rep.fresh {c : Cx} {H : AH} {s : Shared} (R : Rep c H s) {a : Addr} (h : s.heap.get? a = none) : H a = none := by
  cases e : H a with
  | none => rfl
  | some o => obtain ⟨_, x, _⟩ := R.there e; rw [h] at x; cases x
theorem Rep.gnone {c : Cx} {H : AH} {s : Shared} (R : Rep c H s) {a : Addr} (h : s.heap.get? a = none) : c.g.get? a = none := by
  cases e : c.g.get? a with
  | none => rfl
  | some o => rw [R.keep a o e] at h; cases h
theorem get?_size (h : Heap) : h.get? h.objs.size = none := Heap.get?_none_of_le (Nat.le_refl _)
theorem Rep.push {c : Cx} {H : AH} {s : Shared} (R : Rep c H s) (o : Obj) (t : Nat) (ao : AO) (h : OR c (s.heap.push o) s.heap.objs.size ao) : Rep c (upd H s.heap.objs.size ao) { s with heap := s.heap.push o, toks := t } :=
  (R.push0 o t).add (R.gnone (get?_size _)) h
theorem Step.push (H : AH) (s : Shared) (o : Obj) (t : Nat) (ao : AO) : Step H s (upd H s.heap.objs.size ao) { s with heap := s.heap.push o, toks := t } :=
  (Step.push0 H s o t).add fun _ => get?_size _
theorem Rep.put {c : Cx} {H : AH} {s : Shared} (R : Rep c H s) {a : Addr} {o ao : AO} {h' : Heap} {t : Nat} (e : H a = some o) (hs : ∀ b o, b ≠ a → s.heap.get? b = some o → h'.get? b = some o) (h : OR c h' a ao) : Rep c (upd H a ao) { s with heap := h', toks := t } := by
  have tk : TK s.heap h' := by
    intro b ob e1 hc hd
    refine hs b _ (fun q => ?_) e1
    subst q
    rw [R.imm e1 hc] at e; cases e
  refine ⟨fun b x q => hs b _ (fun z => ?_) (R.keep b x q), R.gens, R.os, fun b x q => ?_, fun b x q => ?_⟩
  · subst z
    rw [R.new _ _ e] at q; cases q
  · unfold upd at q
    split at q
    · rename_i z; cases q; subst z; exact h
    · rename_i z
      obtain ⟨o2, e2, _⟩ := R.there q
      exact (R.at_ b x q).mono tk ((hs b _ z e2).trans e2.symm)
  · unfold upd at q
    split at q
    · rename_i z; subst z; exact R.new _ _ e
    · exact R.new b x q
theorem Step.put {c : Cx} {H : AH} {s : Shared} {a : Addr} {o ao : AO} {h' : Heap} {t : Nat} (e : H a = some o) (hs : ∀ b o, b ≠ a → s.heap.get? b = some o → h'.get? b = some o) (h : OR c h' a ao) : Step H s (upd H a ao) { s with heap := h', toks := t } := by
  refine ⟨fun b ob q n => ⟨ob, hs b _ (fun z => ?_) q, .refl _⟩, fun b ob q n => ?_, fun b ob q => ?_⟩
  · subst z; rw [n] at e; cases e
  · unfold upd at q
    split at q
    · rename_i z; subst z; rw [n] at e; cases e
    · rw [n] at q; cases q
  · by_cases z : b = a
    · subst z; obtain ⟨o2, e2, _⟩ := h.there; exact ⟨o2, e2⟩
    · exact ⟨ob, hs b _ z q⟩
theorem Rep.less {c : Cx} {H H' : AH} {s : Shared} (R : Rep c H s) (h : ∀ a o, H' a = some o → H a = some o) : Rep c H' s :=
  ⟨R.keep, R.gens, R.os, fun a o e => R.at_ a o (h a o e), fun a o e => R.new a o (h a o e)⟩
theorem mem_of_lookup {α β : Type} [BEq α] [LawfulBEq α] : ∀ {l : List (α × β)} {x : α} {k : β}, l.lookup x = some k → (x, k) ∈ l
  | [], _, _, h => by simp at h
  | (y, b) :: r, x, k, h => by
    rw [List.lookup_cons] at h
    split at h
    · rename_i q; cases h; rw [beq_iff_eq.mp q]; exact List.mem_cons_self ..
    · exact List.mem_cons_of_mem _ (mem_of_lookup h)
structure FrameAt (c : Cx) (env : Env) (m : Map) (H : AH) (h : Heap) : Prop where
  kind : env.scope.kind = .function
  glob : env.globals = mainGlobals
  bltn : env.builtins = builtinsNs
  loc : ∃ m₀, h.Ns env.locals m₀ ∧ ∀ x v, m x = some v → env.kindOf x = some .local → ∃ u, m₀ x = some u ∧ VR h v u
  cel : ∀ x v, m x = some v → env.kindOf x ≠ some .local → (env.kindOf x = some .cell ∨ env.kindOf x = some .free) ∧ ∃ k u, env.cells.lookup x = some k ∧ h.IsCell k (some u) ∧ VR h v u
  free : H env.locals = none
  low : c.g.get? env.locals = none
  cfree : ∀ k ∈ env.cells, H k.2 = none ∧ (∃ v₀, h.IsCell k.2 v₀) ∧ c.g.get? k.2 = none
  nd : (env.cells.map (·.2)).Nodup

theorem FrameAt.step {c : Cx} {env : Env} {m : Map} {H H' : AH} {s s' : Shared} (F : FrameAt c env m H s.heap) (R : Rep c H s) (x : Step H s H' s') : FrameAt c env m H' s'.heap := by
  have tk := R.tk x
  refine hide fun Pz bkz => ?_
  obtain ⟨m₀, ⟨oL, es, ep, hL, hLd, hr⟩, hm⟩ := F.loc
  obtain ⟨oL', hL', k⟩ := x.kept _ _ hL F.free
  refine bkz ?_
  refine ⟨F.kind, F.glob, F.bltn, ⟨m₀, ⟨oL', es, ep, hL', k.data.1.trans hLd, hr⟩, fun y v e hk => ?_⟩, fun y v e hk => ?_, x.free F.free hL, F.low, (fun k hk => ?_), F.nd⟩
  · obtain ⟨u, a, b⟩ := hm y v e hk
    exact ⟨u, a, b.mono tk⟩
  · refine hide fun Pz bkz => ?_
    obtain ⟨hk', k, u, a, ⟨ok, ek, dk⟩, b⟩ := F.cel y v e hk
    have hH := (F.cfree (y, k) (mem_of_lookup a)).1
    obtain ⟨ok', ek', kk⟩ := x.kept _ _ ek hH
    refine bkz ?_
    exact ⟨hk', k, u, a, ⟨ok', ek', kk.data.1.trans dk⟩, b.mono tk⟩
  · refine hide fun Pz bkz => ?_
    obtain ⟨a, ⟨v₀, o, e, b⟩, d⟩ := F.cfree k hk
    obtain ⟨o', e', kk⟩ := x.kept _ _ e a
    refine bkz ?_
    exact ⟨x.free a e, ⟨v₀, o', e', kk.data.1.trans b⟩, d⟩

inductive Md where
  | quiet | held | loose
structure Ok (c : Cx) (q : Md) (d : Nat) (A : Around) (H : AH) (h : Heap) : Prop where
  depth : A.depth + 5 * d ≤ 900
  units : A.units + 50 * d ≤ 9000
  quiet : q = .quiet → A.handled = none
  hnd : q = .held → ∃ a ob vs, A.handled = some (.ref a) ∧ H a = none ∧ h.get? a = some ob ∧ ob.data = .fields vs ∧ vs[2]? = some .none
  stack : ∃ l, A.frames = some l ∧ h.FunFrames c.g l ∧ ∀ e ∈ l, ∀ L, e.frame = some L → H L = none ∧ ∃ o es n, h.get? L = some o ∧ o.data = .dict es n
theorem frames_step {c : Cx} {H H' : AH} {h h' : Heap} : ∀ {l : List Env} (k : ∀ e ∈ l, ∀ L, e.frame = some L → ∀ o, h.get? L = some o → H L = none → ∃ o', h'.get? L = some o' ∧ Kp o o') (hn : ∀ b o, H b = none → h.get? b = some o → H' b = none),
    h.FunFrames c.g l → (∀ e ∈ l, ∀ L, e.frame = some L → H L = none ∧ ∃ o es n, h.get? L = some o ∧ o.data = .dict es n) → h'.FunFrames c.g l ∧ ∀ e ∈ l, ∀ L, e.frame = some L → H' L = none ∧ ∃ o es n, h'.get? L = some o ∧ o.data = .dict es n
  | [], _, _, _, _ => ⟨trivial, fun _ h => nomatch h⟩
  | e :: l, k, hn, ⟨hk, ⟨L, o, hf, hn', ho, hd⟩, r⟩, hH => by
    have ih := frames_step (fun e' he => k e' (.tail _ he)) hn r fun e' he => hH e' (.tail _ he)
    refine hide fun Pz bkz => ?_
    obtain ⟨hL, o₂, es, n, ho₂, hd₂⟩ := hH e (.head _) L hf
    rw [ho] at ho₂; cases ho₂
    obtain ⟨o', ho', k'⟩ := k e (.head _) L hf o ho hL
    refine bkz ?_
    refine ⟨⟨hk, ⟨L, o', hf, hn', ho', fun vs q => hd vs (k'.data.1.symm.trans q)⟩, ih.1⟩, fun e' he L' hf' => ?_⟩
    rcases List.mem_cons.mp he with rfl | he
    · rw [hf] at hf'; cases hf'
      exact ⟨hn _ _ hL ho, o', es, n, ho', k'.data.1.trans hd₂⟩
    · exact ih.2 e' he L' hf'
theorem Ok.step {c : Cx} {q : Md} {d : Nat} {A : Around} {H H' : AH} {s s' : Shared} (O : Ok c q d A H s.heap) (x : Step H s H' s') : Ok c q d A H' s'.heap := by
  obtain ⟨l, a, b, e⟩ := O.stack
  obtain ⟨b', e'⟩ := frames_step (fun _ _ b _ o ho hH => x.kept b o ho hH) (fun b o hb hlt => x.free hb hlt) b e
  refine ⟨O.depth, O.units, O.quiet, fun hq => ?_, l, a, b', e'⟩
  refine hide fun Pz bkz => ?_
  obtain ⟨a, ob, vs, h1, h2, h3, h4, h5⟩ := O.hnd hq
  obtain ⟨o', e', k⟩ := x.kept a ob h3 h2
  refine bkz ?_
  exact ⟨a, o', vs, h1, x.free h2 h3, e', k.data.1.trans h4, h5⟩

structure BRep (c : Cx) (q : Md) (d : Nat) (A : Around) (H : AH) (s : Shared) : Prop where
  rep : Rep c H s
  ok : Ok c q d A H s.heap
theorem BRep.step {c : Cx} {q : Md} {d : Nat} {A : Around} {H H' : AH} {s s' : Shared} (B : BRep c q d A H s) (R : Rep c H' s') (x : Step H s H' s') : BRep c q d A H' s' := ⟨R, B.ok.step x⟩
structure FRep (c : Cx) (q : Md) (d : Nat) (A : Around) (env : Env) (m : Map) (H : AH) (s : Shared) : Prop extends BRep c q d A H s where
  fr : FrameAt c env m H s.heap
theorem FRep.step {c : Cx} {q : Md} {d : Nat} {A : Around} {env : Env} {m : Map} {H H' : AH} {s s' : Shared} (F : FRep c q d A env m H s) (R : Rep c H' s') (x : Step H s H' s') : FRep c q d A env m H' s' :=
  ⟨F.toBRep.step R x, F.fr.step F.rep x⟩

inductive Exc where
  | b (n : String)
  | own (a : Addr)
  | ch (n : String)
def Exc.cls : Exc → Value
  | .b n => .type n
  | .own a => .ref a
  | .ch n => .type n
def Exc.plain : Exc → Bool
  | .ch _ => false
  | _ => true
inductive TbR (fl : Option Addr) (h₀ : Heap) (H : AH) (h : Heap) (e : Addr) (tb : Value) : Prop
  | mk (T : Addr) (oT : Obj) (ts : Array Value) (a : tb = .ref T) (b : T ≠ e) (c : h₀.get? T = none) (d : H T = none) (f : h.get? T = some oT) (g : immCls oT.cls = false ∧ oT.data = .fields ts) (r : ts[3]? = some .none ∨ ∃ L, fl = some L ∧ ts[3]? = some (rawInt L))
inductive ExcR (fl : Option Addr) (h₀ : Heap) (H : AH) (h : Heap) (k : Exc) (ex : Value) : Prop
  | mk (e : Addr) (ob : Obj) (vs : Array Value) (tb : Value) (a : ex = .ref e) (b : h₀.get? e = none) (c : H e = none) (d : h.get? e = some ob) (f : ob.cls = k.cls ∧ immCls k.cls = false ∧ (k.plain = true → vs[2]? = some .none)) (g : ob.data = .fields vs) (i : vs[1]? = some tb) (j : tb = .none ∨ TbR fl h₀ H h e tb)

inductive OutE (c : Cx) (H : AH) (s : Shared) (P : V → AH → Prop) (v : Value) (s' : Shared) : Prop
  | mk (x : V) (H' : AH) (a : P x H') (b : VR s'.heap x v) (r : Rep c H' s') (z : Step H s H' s')
inductive OutX (c : Cx) (fl : Option Addr) (H : AH) (s : Shared) (X : Exc → AH → Prop) (ex : Value) (s' : Shared) : Prop
  | mk (k : Exc) (H' : AH) (a : X k H') (b : ExcR fl s.heap H' s'.heap k ex) (r : Rep c H' s') (z : Step H s H' s')
theorem OutE.from {c : Cx} {H H₁ : AH} {s s₁ : Shared} {P : V → AH → Prop} (x : Step H s H₁ s₁) {v : Value} {s' : Shared} (o : OutE c H₁ s₁ P v s') : OutE c H s P v s' := by
  obtain ⟨y, H', a, b, r, z⟩ := o
  exact ⟨y, H', a, b, r, x.trans z⟩
theorem ExcR.from {fl : Option Addr} {h₀ h₁ : Heap} {H : AH} {h : Heap} {k : Exc} {ex : Value} (hold : ∀ b, h₁.get? b = none → h₀.get? b = none) (x : ExcR fl h₁ H h k ex) : ExcR fl h₀ H h k ex := by
  obtain ⟨e, ob, vs, tb, a, b, c, d, f, g, i, j⟩ := x
  refine ⟨e, ob, vs, tb, a, hold e b, c, d, f, g, i, j.imp id ?_⟩
  rintro ⟨T, oT, ts, a, b, n, hH, hT, hd, r⟩
  exact ⟨T, oT, ts, a, b, hold T n, hH, hT, hd, r⟩
theorem OutX.from {c : Cx} {fl : Option Addr} {H H₁ : AH} {s s₁ : Shared} {X : Exc → AH → Prop} (x : Step H s H₁ s₁) {v : Value} {s' : Shared} (o : OutX c fl H₁ s₁ X v s') : OutX c fl H s X v s' := by
  obtain ⟨y, H', a, b, r, z⟩ := o
  exact ⟨y, H', a, b.from fun _ h => x.old h, r, x.trans z⟩
theorem OutE.mono {c : Cx} {H : AH} {s : Shared} {P P' : V → AH → Prop} (h : ∀ x H', P x H' → P' x H') {v : Value} {s' : Shared} (o : OutE c H s P v s') : OutE c H s P' v s' := by
  obtain ⟨y, H', a, b, r, z⟩ := o
  exact ⟨y, H', h _ _ a, b, r, z⟩
abbrev awT (c : Cx) (A : Around) (fl : Option Addr) (t : Sem Value) (H : AH) (P : V → AH → Prop) (X : Exc → AH → Prop) (s : Shared) : Prop := wpAny c.M A t (OutE c H s P) (OutX c fl H s X) s
theorem awT.from {c : Cx} {A : Around} {fl : Option Addr} {t : Sem Value} {H H₁ : AH} {s s₁ : Shared} {P : V → AH → Prop} {X : Exc → AH → Prop} (x : Step H s H₁ s₁) (h : awT c A fl t H₁ P X s₁) : wpAny c.M A t (OutE c H s P) (OutX c fl H s X) s₁ :=
  wpAny_mono h (fun _ _ => OutE.from x) fun _ _ => OutX.from x
def awE (c : Cx) (q : Md) (d : Nat) (A : Around) (env : Env) (e : Expr) (m : Map) (H : AH) (P : V → AH → Prop) (X : Exc → AH → Prop) : Prop :=
  ∀ s, FRep c q d A env m H s → awT c A env.frame (eval e env) H P X s
def awO (c : Cx) (q : Md) (d : Nat) (A : Around) (fl : Option Addr) (t : List Value → Sem Value) (xs : List V) (H : AH) (P : V → AH → Prop) (X : Exc → AH → Prop) : Prop :=
  ∀ s vs, BRep c q d A H s → VRs s.heap xs vs → awT c A fl (t vs) H P X s
structure Gd (K : Frag) (p : Program) (loose : List Str) (mg mb : Str → Option Value) (h : Heap) : Prop where
  X : K.In h
  T : TopRead p loose mg mb h
  sm : ∃ b o, sysModules < b ∧ h.get? b = some o
theorem Gd.notSm {K : Frag} {p : Program} {loose : List Str} {mg mb : Str → Option Value} {g h : Heap} (G : Gd K p loose mg mb g) (k : ∀ b o, g.get? b = some o → h.get? b = some o) : (h.objs.size == sysModules) = false := by
  obtain ⟨b, o, hb, e⟩ := G.sm
  exact beq_eq_false_iff_ne.mpr (Nat.ne_of_gt (Nat.lt_trans hb (Heap.lt_size (k b o e))))
abbrev toV : Value → V
  | .none => .none
  | .bool b => .bool b
  | .int i _ => .int i
  | .str x _ => .str x
  | .ref a => .ref a
  | v => .imm v
theorem VR.toV (h : Heap) (v : Value) : VR h (toV v) v := by
  cases v <;> first | exact rfl | exact ⟨_, rfl⟩

section
variable {c : Cx} {q : Md} {d : Nat} {A : Around} {env : Env} {m : Map} {H : AH} {P : V → AH → Prop} {X : Exc → AH → Prop} {pos : Pos}
  {K : Frag} {p : Program} {loose : List Str} {mg mb : Str → Option Value}

theorem OutE.here {s : Shared} {x : V} {v : Value} (R : Rep c H s) (hv : VR s.heap x v) (h : P x H) : OutE c H s P v s := ⟨x, H, h, hv, R, .refl _ _⟩
theorem OutE.tok {s : Shared} {x : V} {v : Value} {t : Nat} (R : Rep c H s) (hv : VR s.heap x v) (h : P x H) : OutE c H s P v { s with toks := t } := ⟨x, H, h, hv, R.toks t, .toks _ _ _⟩

theorem awE_Name {x : Str} {v : V} (hm : m x = some v) (h : P v H) (hd : (x == ("__debug__" : Str)) = false) (hc : (x == ("__classdict__" : Str)) = false) : awE c q d A env (.Name x pos) m H P X := by
  intro s F
  by_cases hk : env.kindOf x = some .local
  · obtain ⟨m₀, hn, hm'⟩ := F.fr.loc
    obtain ⟨u, hu, hv⟩ := hm' x v hm hk
    exact wpAny_Name (wpAny_loadName_local F.fr.kind hk hn hu (.here F.rep hv h)) hd
  · obtain ⟨hk', k, u, hl, hcell, hv⟩ := F.fr.cel x v hm hk
    rcases hk' with hk' | hk'
    · exact wpAny_Name (wpAny_loadName_cell F.fr.kind hk' hl hcell (.here F.rep hv h)) hd
    · exact wpAny_Name (wpAny_loadName_free F.fr.kind hk' hl hcell (.here F.rep hv h) hc) hd
theorem awE_Glob {x : Str} {v : Value} (G : Gd K p loose mg mb c.g) (hk : env.kindOf x = some .globalImplicit) (e : nsIn K mainGlobals x = some (some v)) (h : P (toV v) H) (hd : (x == ("__debug__" : Str)) = false) : awE c q d A env (.Name x pos) m H P X := by
  intro s F
  refine Name_function_global F.fr.kind hk (loadGlobal_global (mg := mg) ?_ (mg_of G.X G.T.g e) (.here F.rep (.toV _ _) h)) hd
  rw [F.fr.glob]
  exact G.T.g.keeps F.rep.keep
theorem awE_Bltn {x : Str} {v : Value} (G : Gd K p loose mg mb c.g) (hk : env.kindOf x = some .globalImplicit) (e : nsIn K mainGlobals x = some none) (hv : bootBuiltins x = some v) (hn : x ≠ "__name__") (h : P (toV v) H) (hd : (x == ("__debug__" : Str)) = false) : awE c q d A env (.Name x pos) m H P X := by
  intro s F
  refine Name_function_global F.fr.kind hk (loadGlobal_builtin (mg := mg) (mb := mb) ?_ (mg_none_of G.X G.T.g e) ?_ ((G.T.builtins x hn).trans hv) (.here F.rep (.toV _ _) h)) hd
  · rw [F.fr.glob]; exact G.T.g.keeps F.rep.keep
  · rw [F.fr.bltn]; exact G.T.b.keeps F.rep.keep

def constV : Const → Option V
  | .none => some .none
  | .bool b => some (.bool b)
  | .int i => some (.int i)
  | .str x => some (.str x)
  | _ => none
theorem awE_Const {k : Const} {n : Nat} {v : V} (hk : constV k = some v) (h : P v H) : awE c q d A env (.Constant k n pos) m H P X := by
  intro s F
  cases k <;> cases hk
  · exact wpAny_Constant_none (.here (x := .none) F.rep rfl h)
  · exact wpAny_Constant_bool (.here (x := .bool _) F.rep rfl h)
  · exact wpAny_Constant_int (.tok (x := .int _) F.rep ⟨_, rfl⟩ h)
  · exact wpAny_Constant_str (.tok (x := .str _) F.rep ⟨_, rfl⟩ h)

theorem awT_then {e : Expr} {P₁ : V → AH → Prop} (h : awE c q d A env e m H P₁ X) {s : Shared} (F : FRep c q d A env m H s) {Q : Value → Shared → Prop} {E : Value → Shared → Prop}
    (k : ∀ x H₁ s₁ v, P₁ x H₁ → FRep c q d A env m H₁ s₁ → VR s₁.heap x v → Step H s H₁ s₁ → Q v s₁) (hE : ∀ v s', OutX c env.frame H s X v s' → E v s') : wpAny c.M A (eval e env) Q E s :=
  wpAny_mono (h s F) (fun v s₁ ⟨x, H₁, hp, hv, R, S⟩ => k x H₁ s₁ v hp (F.step R S) hv S) hE
theorem awE_two {l r : Expr} {op : Value → Value → Sem Value} (h : awE c q d A env l m H (fun x H₁ => awE c q d A env r m H₁ (fun y H₂ => awO c q d A env.frame (fun vs => op (vs.getD 0 .none) (vs.getD 1 .none)) [x, y] H₂ P X) X) X)
    {s : Shared} (F : FRep c q d A env m H s) : wpAny c.M A (eval l env) (fun a s₁ => wpAny c.M A (eval r env) (fun b s₂ => wpAny c.M A (op a b) (OutE c H s P) (OutX c env.frame H s X) s₂) (OutX c env.frame H s X) s₁) (OutX c env.frame H s X) s :=
  awT_then h F (fun x H₁ s₁ v hp F₁ hv S => awT_then hp F₁ (fun y H₂ s₂ u hq F₂ hu S₂ => awT.from (S.trans S₂) (hq s₂ [v, u] F₂.toBRep ⟨v, [u], rfl, hv.mono (F₁.rep.tk S₂), u, [], rfl, hu, rfl⟩)) fun _ _ => OutX.from S) fun _ _ o => o
theorem awE_BinOp {l r : Expr} {op : Operator} (h : awE c q d A env l m H (fun x H₁ => awE c q d A env r m H₁ (fun y H₂ => awO c q d A env.frame (fun vs => binaryOp op (vs.getD 0 .none) (vs.getD 1 .none)) [x, y] H₂ P X) X) X) : awE c q d A env (.BinOp l op r pos) m H P X :=
  fun _ F => wpAny_BinOp (awE_two h F)
theorem awE_Compare {l r : Expr} {op : CmpOp} (hb : behindInMarks op r = false) (h : awE c q d A env l m H (fun x H₁ => awE c q d A env r m H₁ (fun y H₂ => awO c q d A env.frame (fun vs => compareOp op (vs.getD 0 .none) (vs.getD 1 .none)) [x, y] H₂ P X) X) X) : awE c q d A env (.Compare l [op] [r] pos) m H P X :=
  fun _ F => wpAny_Compare1 (awE_two h F) hb

inductive OutB (c : Cx) (H : AH) (s : Shared) (P : Bool → AH → Prop) (b : Bool) (s' : Shared) : Prop
  | mk (H' : AH) (a : P b H') (r : Rep c H' s') (z : Step H s H' s')
theorem OutB.from {H₁ : AH} {s s₁ : Shared} {P : Bool → AH → Prop} (x : Step H s H₁ s₁) {b : Bool} {s' : Shared} (o : OutB c H₁ s₁ P b s') : OutB c H s P b s' := by
  obtain ⟨H', a, r, z⟩ := o
  exact ⟨H', a, r, x.trans z⟩
def awB (c : Cx) (q : Md) (d : Nat) (A : Around) (env : Env) (e : Expr) (m : Map) (H : AH) (P : Bool → AH → Prop) (X : Exc → AH → Prop) : Prop :=
  ∀ s, FRep c q d A env m H s → wpAny c.M A (isTrue e env (eval e env)) (OutB c H s P) (OutX c env.frame H s X) s
def truthV (H : AH) : V → Option Bool
  | .none => some false
  | .bool b => some b
  | .ref a => match H a with
    | some (.list vs) => if vs.length < 2 ^ 60 then some (!vs.isEmpty) else none
    | _ => none
  | _ => none
theorem truth_ok {x : V} {v : Value} {b : Bool} {s : Shared} {P : Bool → AH → Prop} {E : Value → Shared → Prop} (B : BRep c q d A H s) (hv : VR s.heap x v) (e : truthV H x = some b) (h : P b H) : wpAny c.M A (truthy v) (OutB c H s P) E s := by
  cases x with
  | none => cases e; cases hv; exact wpAny_pure ⟨H, h, B.rep, .refl _ _⟩
  | bool b' => cases e; cases hv; exact wpAny_pure ⟨H, h, B.rep, .refl _ _⟩
  | ref a =>
    cases hv
    simp only [truthV] at e
    split at e
    · rename_i vs ha
      split at e
      · rename_i hlen
        cases e
        refine hide fun Pz bkz => ?_
        obtain ⟨items, n, hl, hr⟩ := B.rep.at_ _ _ ha
        refine bkz ?_
        have hs : items.size = vs.length := by rw [← Array.length_toList]; exact hr.length.symm
        refine wpAny_truthy_list (items := items) ⟨_, hl, rfl, n, rfl⟩ (by rw [hs]; omega) ⟨H, ?_, B.rep.toks _, .toks _ _ _⟩
        have : (!items.isEmpty) = !vs.isEmpty := by
          congr 1
          cases vs with
          | nil => simp at hs; simp [hs]
          | cons a l => cases hi : items.isEmpty
                        · rfl
                        · simp at hi; rw [hi] at hs; simp at hs
        rw [this]; exact h
      · cases e
    · cases e
  | _ => cases e
theorem awB_Compare {l r : Expr} {op : CmpOp} {P : Bool → AH → Prop} (hb : behindInMarks op r = false)
    (h : awE c q d A env l m H (fun x H₁ => awE c q d A env r m H₁ (fun y H₂ => awO c q d A env.frame (fun vs => compareOp op (vs.getD 0 .none) (vs.getD 1 .none)) [x, y] H₂ (fun z H₃ => ∃ b, truthV H₃ z = some b ∧ P b H₃) X) X) X) : awB c q d A env (.Compare l [op] [r] pos) m H P X := by
  intro s F
  refine wpAny_isTrue_Compare1 (wpAny_mono (awE_two h F) (fun v s₁ h₁ => wpAny_mono h₁ (fun u s₂ h₂ => wpAny_mono h₂ (fun z s₃ h₃ => ?_) fun _ _ e => e) fun _ _ e => e) fun _ _ e => e) hb
  refine hide fun Pz bkz => ?_
  obtain ⟨x, H', ⟨b, hb, hp⟩, hv, R, S⟩ := h₃
  refine bkz ?_
  exact wpAny_mono (truth_ok (E := OutX c env.frame H s X) (F.toBRep.step R S) hv hb hp) (fun _ _ o => OutB.from S o) fun _ _ e => e
theorem awB_value {e : Expr} {P : Bool → AH → Prop} (hw : ∀ whole, isTrue e env whole = (do let v ← whole; standAt e.pos; holding [v] (truthy v)))
    (h : awE c q d A env e m H (fun z H₃ => ∃ b, truthV H₃ z = some b ∧ P b H₃) X) : awB c q d A env e m H P X := by
  intro s F
  refine wpAny_isTrue_value (wpAny_mono (h s F) (fun z s₃ h₃ => ?_) fun _ _ e => e) (hw _)
  obtain ⟨x, H', ⟨b, hb, hp⟩, hv, R, S⟩ := h₃
  exact wpAny_mono (truth_ok (E := OutX c env.frame H s X) (F.toBRep.step R S) hv hb hp) (fun _ _ o => OutB.from S o) fun _ _ e => e
theorem awB_Not {e : Expr} {P : Bool → AH → Prop} (h : awB c q d A env e m H (fun b H' => P (!b) H') X) : awB c q d A env (.UnaryOp .Not e pos) m H P X := by
  intro s F
  exact wpAny_isTrue_Not (wpAny_mono (h s F) (fun _ _ ⟨H₁, a, r, z⟩ => ⟨H₁, a, r, z⟩) fun _ _ o => o)
def awAll (c : Cx) (q : Md) (d : Nat) (A : Around) (env : Env) (op : BoolOp) (es : List Expr) (m : Map) (H : AH) (P : Bool → AH → Prop) (X : Exc → AH → Prop) : Prop :=
  ∀ s, FRep c q d A env m H s → wpAny c.M A (allTrue op es env) (OutB c H s P) (OutX c env.frame H s X) s
theorem awAll_And_nil {P : Bool → AH → Prop} (h : P true H) : awAll c q d A env .And [] m H P X := fun _ F => wpAny_allTrue_And_nil ⟨H, h, F.rep, .refl _ _⟩
theorem awAll_Or_nil {P : Bool → AH → Prop} (h : P false H) : awAll c q d A env .Or [] m H P X := fun _ F => wpAny_allTrue_Or_nil ⟨H, h, F.rep, .refl _ _⟩
theorem awAll_And_cons {e : Expr} {es : List Expr} {P : Bool → AH → Prop} (h : awB c q d A env e m H (fun b H₁ => if b then awAll c q d A env .And es m H₁ P X else P false H₁) X) : awAll c q d A env .And (e :: es) m H P X := by
  intro s F
  refine wpAny_allTrue_And_cons (wpAny_mono (h s F) (fun z s₁ ⟨H₁, hp, R, S⟩ => ?_) fun _ _ o => o)
  cases z
  · exact ⟨H₁, hp, R, S⟩
  · exact wpAny_mono (hp s₁ (F.step R S)) (fun _ _ => OutB.from S) fun _ _ => OutX.from S
theorem awAll_Or_cons {e : Expr} {es : List Expr} {P : Bool → AH → Prop} (h : awB c q d A env e m H (fun b H₁ => if b then P true H₁ else awAll c q d A env .Or es m H₁ P X) X) : awAll c q d A env .Or (e :: es) m H P X := by
  intro s F
  refine wpAny_allTrue_Or_cons (wpAny_mono (h s F) (fun z s₁ ⟨H₁, hp, R, S⟩ => ?_) fun _ _ o => o)
  cases z
  · exact wpAny_mono (hp s₁ (F.step R S)) (fun _ _ => OutB.from S) fun _ _ => OutX.from S
  · exact ⟨H₁, hp, R, S⟩
theorem awB_BoolOp {op : BoolOp} {es : List Expr} {P : Bool → AH → Prop} (h : awAll c q d A env op es m H P X) : awB c q d A env (.BoolOp op es pos) m H P X := fun s F => wpAny_isTrue_BoolOp (h s F)
theorem awE_IfExp {t a b : Expr} (h : awB c q d A env t m H (fun z H₁ => if z then awE c q d A env a m H₁ P X else awE c q d A env b m H₁ P X) X) : awE c q d A env (.IfExp t a b pos) m H P X := by
  intro s F
  refine wpAny_IfExp (wpAny_mono (h s F) (fun z s₁ ⟨H₁, hp, R, S⟩ => ?_) fun _ _ o => o)
  cases z
  · exact awT.from S (hp s₁ (F.step R S))
  · exact awT.from S (hp s₁ (F.step R S))
def awBool (c : Cx) (q : Md) (d : Nat) (A : Around) (env : Env) (op : BoolOp) (es : List Expr) (m : Map) (H : AH) (P : V → AH → Prop) (X : Exc → AH → Prop) : Prop :=
  ∀ s pos, FRep c q d A env m H s → awT c A env.frame (boolOp pos op (evalEach es env)) H P X s
theorem awBool_one {op : BoolOp} {e : Expr} (h : awE c q d A env e m H P X) : awBool c q d A env op [e] m H P X := fun s pos F => h s F
theorem awBool_cons {op : BoolOp} {e e' : Expr} {es : List Expr} (h : awE c q d A env e m H (fun x H₁ => ∃ b, truthV H₁ x = some b ∧ if (match op, b with | .And, false => true | .Or, true => true | _, _ => false) then P x H₁ else awBool c q d A env op (e' :: es) m H₁ P X) X) : awBool c q d A env op (e :: e' :: es) m H P X := by
  intro s pos F
  show wpAny c.M A (do let v ← eval e env; standAt pos; let t ← holding [v] (truthy v); match op, t with | .And, false | .Or, true => pure v | _, _ => boolOp pos op (evalEach (e' :: es) env)) _ _ s
  refine wpAny_bind (awT_then h F (fun x H₁ s₁ v ⟨b, hb, hp⟩ F₁ hv S => wpAny_bind (wpAny_standAt (wpAny_bind (wpAny_holding (wpAny_mono (truth_ok (E := OutX c env.frame H s X) (P := fun b' H' => b' = b ∧ H' = H₁) F₁.toBRep hv hb ⟨rfl, rfl⟩) (fun t s₂ ⟨H₂, ⟨e1, e2⟩, R, S₂⟩ => ?_) fun _ _ e => e))))) fun _ _ o => o)
  subst e1 e2
  have hv₂ := hv.mono (F₁.rep.tk S₂)
  cases op <;> cases t
  · exact wpAny_pure ⟨x, H₂, hp, hv₂, R, S.trans S₂⟩
  · exact awT.from (S.trans S₂) (hp s₂ pos (F₁.step R S₂))
  · exact awT.from (S.trans S₂) (hp s₂ pos (F₁.step R S₂))
  · exact wpAny_pure ⟨x, H₂, hp, hv₂, R, S.trans S₂⟩
theorem awE_BoolOp {op : BoolOp} {es : List Expr} (h : awBool c q d A env op es m H P X) : awE c q d A env (.BoolOp op es pos) m H P X := fun s F => h s pos F

inductive OutL (c : Cx) (H : AH) (s : Shared) (P : List V → AH → Prop) (vs : List Value) (s' : Shared) : Prop
  | mk (xs : List V) (H' : AH) (a : P xs H') (b : VRs s'.heap xs vs) (r : Rep c H' s') (z : Step H s H' s')
def awL (c : Cx) (q : Md) (d : Nat) (A : Around) (env : Env) (es : List Expr) (m : Map) (H : AH) (P : List V → AH → Prop) (X : Exc → AH → Prop) : Prop :=
  ∀ s pos, FRep c q d A env m H s → wpAny c.M A (spliced (backTo pos (starEach es env))) (OutL c H s P) (OutX c env.frame H s X) s
theorem awL_nil {P : List V → AH → Prop} (h : P [] H) : awL c q d A env [] m H P X := fun s _ F => wpAny_pure ⟨[], H, h, rfl, F.rep, .refl _ _⟩
theorem awL_cons {e : Expr} {es : List Expr} {P : List V → AH → Prop} (hs : ∀ e' p, e ≠ .Starred e' p) (h : awE c q d A env e m H (fun x H₁ => awL c q d A env es m H₁ (fun xs H₂ => P (x :: xs) H₂) X) X) : awL c q d A env (e :: es) m H P X := by
  intro s pos F
  have he : starEach (e :: es) env = (false, eval e env) :: starEach es env := by
    cases e <;> first | rfl | exact absurd rfl (hs _ _)
  rw [he]
  show wpAny c.M A (do let v ← eval e env; let here ← pure [v]; return here ++ (← holding here (spliced (backTo pos (starEach es env))))) _ _ s
  refine wpAny_bind (awT_then h F (fun x H₁ s₁ v hp F₁ hv S => wpAny_bind (wpAny_pure (wpAny_bind (wpAny_holding (wpAny_mono (hp s₁ pos F₁) (fun vs s₂ ⟨xs, H₂, hq, hvs, R, S₂⟩ => ?_) fun _ _ => OutX.from S))))) fun _ _ o => o)
  exact wpAny_pure ⟨x :: xs, H₂, hq, ⟨v, vs, rfl, hv.mono (F₁.rep.tk S₂), hvs⟩, R, S.trans S₂⟩
theorem awE_List {es : List Expr} (h : awL c q d A env es m H (fun xs H₁ => xs.length ≤ 1000 ∧ ∀ a, H₁ a = none → P (.ref a) (upd H₁ a (.list xs))) X) : awE c q d A env (.List es pos) m H P X := by
  intro s F
  refine wpAny_List (wpAny_mono (h s pos F) (fun vs s₁ ⟨xs, H₁, ⟨hl, hp⟩, hv, R, S⟩ => ⟨?_, ?_⟩) fun _ _ o => o)
  · rw [← hv.length]; exact Nat.le_trans hl (by decide)
  · exact ⟨.ref s₁.heap.objs.size, _, hp _ (R.free (Nat.le_refl _)), rfl, R.push _ s₁.toks _ ⟨vs.toArray, 0, Heap.get?_push_size _ rfl, hv.mono (TK.of_keeps fun _ _ e => Heap.get?_push_of_some _ e)⟩, S.trans (Step.push _ _ _ _ _)⟩
theorem awE_Tuple {es : List Expr} {n : Nat} (h : awL c q d A env es m H (fun xs H₁ => xs.length ≤ 1000 ∧ P (.tup xs) H₁) X) : awE c q d A env (.Tuple es n pos) m H P X := by
  intro s F
  refine wpAny_Tuple (wpAny_mono (h s pos F) (fun vs s₁ ⟨xs, H₁, ⟨hl, hp⟩, hv, R, S⟩ => ⟨?_, ?_⟩) fun _ _ o => o)
  · rw [← hv.length]; exact Nat.le_trans hl (by decide)
  · exact ⟨.tup xs, H₁, hp, ⟨_, vs.toArray, rfl, ⟨_, Heap.get?_push_size _ rfl, rfl, _, rfl⟩, hv.mono (TK.of_keeps fun _ _ e => Heap.get?_push_of_some _ e)⟩, R.push0 _ s₁.toks, S.trans (Step.push0 _ _ _ _)⟩
theorem awE_Dict0 (G : Gd K p loose mg mb c.g) (h : ∀ a, H a = none → P (.ref a) (upd H a (.dict [] 0))) : awE c q d A env (.Dict [] [] pos) m H P X := by
  intro s F
  refine wpAny_Dict_empty ⟨.ref s.heap.objs.size, _, h _ (F.rep.free (Nat.le_refl _)), rfl, F.rep.push _ s.toks _ ⟨[], ?_, rfl, rfl, G.notSm F.rep.keep⟩, Step.push _ _ _ _ _⟩
  exact ⟨_, #[], Heap.get?_push_size _ rfl, ⟨rfl, rfl, rfl⟩, rfl, (fun e he => by simp at he), .nil, List.nodup_nil⟩
end
inductive Fl where
  | next | brk | cont | ret (v : V)
def FlR (h : Heap) : Fl → Flow → Prop
  | .next, f => f = .next
  | .brk, f => f = .brk
  | .cont, f => f = .cont
  | .ret x, f => ∃ v, f = .ret v ∧ VR h x v
structure StepF (env : Env) (H : AH) (s : Shared) (H' : AH) (s' : Shared) : Prop where
  kept : ∀ b o, s.heap.get? b = some o → H b = none → b ≠ env.locals → (∀ k ∈ env.cells, b ≠ k.2) → ∃ o', s'.heap.get? b = some o' ∧ Kp o o'
  new : ∀ b o, H' b = some o → H b = none → s.heap.get? b = none
  alive : ∀ b o, s.heap.get? b = some o → ∃ o', s'.heap.get? b = some o'
theorem Step.toF {env : Env} {H H' : AH} {s s' : Shared} (x : Step H s H' s') : StepF env H s H' s' := ⟨fun b o e n _ _ => x.kept b o e n, x.new, x.alive⟩
theorem StepF.refl (env : Env) (H : AH) (s : Shared) : StepF env H s H s := (Step.refl H s).toF
theorem StepF.free {env : Env} {H H' : AH} {s s' : Shared} (x : StepF env H s H' s') {b : Addr} {ob : Obj} (hb : H b = none) (hlt : s.heap.get? b = some ob) : H' b = none := by
  cases e : H' b with
  | none => rfl
  | some o => rw [x.new b o e hb] at hlt; cases hlt
theorem StepF.old {env : Env} {H H' : AH} {s s' : Shared} (x : StepF env H s H' s') {b : Addr} (h : s'.heap.get? b = none) : s.heap.get? b = none := by
  cases e : s.heap.get? b with
  | none => rfl
  | some o => obtain ⟨o', e'⟩ := x.alive b o e; rw [h] at e'; cases e'
theorem StepF.trans {env : Env} {H₁ H₂ H₃ : AH} {s₁ s₂ s₃ : Shared} (x : StepF env H₁ s₁ H₂ s₂) (y : StepF env H₂ s₂ H₃ s₃) : StepF env H₁ s₁ H₃ s₃ := by
  refine ⟨fun b o e n h1 h2 => ?_, fun b o e n => ?_, fun b o e => ?_⟩
  · obtain ⟨o', e', k⟩ := x.kept b o e n h1 h2
    obtain ⟨o'', e'', k'⟩ := y.kept b o' e' (x.free n e) h1 h2
    exact ⟨o'', e'', k.trans k'⟩
  · cases e2 : H₂ b with
    | none => exact x.old (y.new b o e e2)
    | some o2 => exact x.new b o2 e2 n
  · obtain ⟨o', e'⟩ := x.alive b o e
    exact y.alive b o' e'
theorem FrameAt.tk {c : Cx} {env : Env} {m : Map} {H H' : AH} {s s' : Shared} (F : FrameAt c env m H s.heap) (R : Rep c H s) (x : StepF env H s H' s') : TK s.heap s'.heap := by
  intro a o e hc hd
  obtain ⟨o', e', k⟩ := x.kept a o e (R.imm e hc) (fun q => by
    obtain ⟨m₀, ⟨oL, es, ep, hL, hLd, _⟩, _⟩ := F.loc
    subst q; rw [e] at hL; cases hL; rw [hLd] at hd; cases hd) (fun k hk q => by
    refine hide fun Pz bkz => ?_
    obtain ⟨_, ⟨v₀, ok, hL, hLd⟩, _⟩ := F.cfree k hk
    refine bkz ?_
    subst q; rw [e] at hL; cases hL; rw [hLd] at hd; cases hd)
  rw [k.eq (immData_nd hd)] at e'
  exact e'

structure SRep (c : Cx) (q : Md) (d : Nat) (A : Around) (env : Env) (m : Map) (H : AH) (s : Shared) : Prop extends FRep c q d A env m H s where
  fl : env.frame = some env.locals
  top : ∃ outer, A.frames = some (env :: outer) ∧ ∀ e ∈ outer, ∀ L, e.frame = some L → L ≠ env.locals ∧ ∀ k ∈ env.cells, L ≠ k.2
theorem SRep.stepF {c : Cx} {q : Md} {d : Nat} {A : Around} {env : Env} {m m' : Map} {H H' : AH} {s s' : Shared} (S : SRep c q d A env m H s) (R : Rep c H' s') (F : FrameAt c env m' H' s'.heap) (x : StepF env H s H' s') : SRep c q d A env m' H' s' := by
  obtain ⟨l, hl, hf, hd⟩ := S.ok.stack
  obtain ⟨outer, ho, hlt⟩ := S.top
  obtain rfl : l = env :: outer := Option.some.inj (hl.symm.trans ho)
  have key := frames_step (c := c) (H' := H') (h' := s'.heap) (fun e he L hL o h1 h2 => x.kept L o h1 h2 (hlt e he L hL).1 (hlt e he L hL).2) (fun b o hb hlt => x.free hb hlt) hf.2.2 fun e he => hd e (.tail _ he)
  obtain ⟨m₀, ⟨oL, es, ep, hL, hLd, hr⟩, _⟩ := F.loc
  refine ⟨⟨⟨R, S.ok.depth, S.ok.units, S.ok.quiet, fun hq => ?_, env :: outer, ho, ⟨hf.1, ⟨env.locals, oL, S.fl, ?_, hL, fun vs z => by rw [hLd] at z; cases z⟩, key.1⟩, fun e he L hL' => ?_⟩, F⟩, S.fl, ⟨outer, ho, hlt⟩⟩
  · refine hide fun Pz bkz => ?_
    obtain ⟨a, ob, vs, h1, h2, h3, h4, h5⟩ := S.ok.hnd hq
    obtain ⟨m₁, ⟨o₁, es₁, ep₁, hL₁, hLd₁, _⟩, _⟩ := S.fr.loc
    refine bkz ?_
    obtain ⟨o', e', k⟩ := x.kept a ob h3 h2 (fun z => by rw [z, hL₁] at h3; cases h3; rw [h4] at hLd₁; cases hLd₁) (fun k hk z => by
      obtain ⟨_, ⟨v₀, ok, ek, dk⟩, _⟩ := S.fr.cfree k hk
      rw [z, ek] at h3; cases h3; rw [h4] at dk; cases dk)
    exact ⟨a, o', vs, h1, x.free h2 h3, e', k.data.1.trans h4, h5⟩
  · exact F.low
  · rcases List.mem_cons.mp he with rfl | he
    · rw [S.fl] at hL'; cases hL'
      exact ⟨F.free, oL, es, ep, hL, hLd⟩
    · exact key.2 e he L hL'
theorem SRep.step {c : Cx} {q : Md} {d : Nat} {A : Around} {env : Env} {m : Map} {H H' : AH} {s s' : Shared} (S : SRep c q d A env m H s) (R : Rep c H' s') (x : Step H s H' s') : SRep c q d A env m H' s' :=
  S.stepF R (S.fr.step S.rep x) x.toF

inductive OutS (c : Cx) (env : Env) (H : AH) (s : Shared) (P : Fl → Map → AH → Prop) (f : Flow) (s' : Shared) : Prop
  | mk (g : Fl) (m' : Map) (H' : AH) (a : P g m' H') (b : FlR s'.heap g f) (r : Rep c H' s') (F : FrameAt c env m' H' s'.heap) (z : StepF env H s H' s')
inductive OutSX (c : Cx) (env : Env) (H : AH) (s : Shared) (X : Exc → Map → AH → Prop) (ex : Value) (s' : Shared) : Prop
  | mk (k : Exc) (m' : Map) (H' : AH) (a : X k m' H') (b : ExcR env.frame s.heap H' s'.heap k ex) (r : Rep c H' s') (F : FrameAt c env m' H' s'.heap) (z : StepF env H s H' s')
theorem OutS.from {c : Cx} {env : Env} {H H₁ : AH} {s s₁ : Shared} {P : Fl → Map → AH → Prop} (x : StepF env H s H₁ s₁) {v : Flow} {s' : Shared} (o : OutS c env H₁ s₁ P v s') : OutS c env H s P v s' := by
  obtain ⟨y, m', H', a, b, r, f, z⟩ := o
  exact ⟨y, m', H', a, b, r, f, x.trans z⟩
theorem OutSX.from {c : Cx} {env : Env} {H H₁ : AH} {s s₁ : Shared} {X : Exc → Map → AH → Prop} (x : StepF env H s H₁ s₁) {v : Value} {s' : Shared} (o : OutSX c env H₁ s₁ X v s') : OutSX c env H s X v s' := by
  obtain ⟨y, m', H', a, b, r, f, z⟩ := o
  exact ⟨y, m', H', a, b.from fun _ h => x.old h, r, f, x.trans z⟩
section
variable {c : Cx} {q : Md} {d : Nat} {A : Around} {env : Env} {m : Map} {H : AH} {P : Fl → Map → AH → Prop} {X : Exc → Map → AH → Prop} {pos : Pos}
theorem OutX.toS {s : Shared} (F : FRep c q d A env m H s) {v : Value} {s' : Shared} (o : OutX c env.frame H s (fun k H' => X k m H') v s') : OutSX c env H s X v s' := by
  obtain ⟨k, H', a, b, r, z⟩ := o
  exact ⟨k, m, H', a, b, r, F.fr.step F.rep z, z.toF⟩
def awS (c : Cx) (q : Md) (d : Nat) (A : Around) (env : Env) (st : Stmt) (m : Map) (H : AH) (P : Fl → Map → AH → Prop) (X : Exc → Map → AH → Prop) : Prop :=
  ∀ s, SRep c q d A env m H s → wpAny c.M A (exec st env) (OutS c env H s P) (OutSX c env H s X) s
def awSs (c : Cx) (q : Md) (d : Nat) (A : Around) (env : Env) (st : List Stmt) (m : Map) (H : AH) (P : Fl → Map → AH → Prop) (X : Exc → Map → AH → Prop) : Prop :=
  ∀ s, SRep c q d A env m H s → wpAny c.M A (execs st env) (OutS c env H s P) (OutSX c env H s X) s
theorem awSs_nil (h : P .next m H) : awSs c q d A env [] m H P X := fun s S => wpAny_execs_nil ⟨.next, m, H, h, rfl, S.rep, S.fr, .refl _ _ _⟩
theorem awSs_cons {st : Stmt} {rest : List Stmt} (h : awS c q d A env st m H (fun f m' H' => match f with | .next => awSs c q d A env rest m' H' P X | f => P f m' H') X) : awSs c q d A env (st :: rest) m H P X := by
  intro s S
  refine wpAny_execs_cons (wpAny_mono (h s S) (fun f s₁ ⟨g, m', H', hp, hf, R, F, x⟩ => ?_) fun _ _ o => o)
  cases g with
  | next => cases hf; exact wpAny_mono (hp s₁ (S.stepF R F x)) (fun _ _ => OutS.from x) fun _ _ => OutSX.from x
  | brk => cases hf; exact ⟨.brk, m', H', hp, rfl, R, F, x⟩
  | cont => cases hf; exact ⟨.cont, m', H', hp, rfl, R, F, x⟩
  | ret v => obtain ⟨u, rfl, hv⟩ := hf; exact ⟨.ret v, m', H', hp, ⟨u, rfl, hv⟩, R, F, x⟩

theorem nodup_snd {α β : Type} : ∀ {l : List (α × β)} {a b : α} {k : β}, (l.map (·.2)).Nodup → (a, k) ∈ l → (b, k) ∈ l → a = b
  | p :: r, a, b, k, h, ha, hb => by
    rw [List.map_cons, List.nodup_cons] at h
    rcases List.mem_cons.mp ha with ha | ha <;> rcases List.mem_cons.mp hb with hb | hb
    · rw [← ha] at hb; cases hb; rfl
    · exact absurd (List.mem_map_of_mem (f := (·.2)) hb) (by rw [← ha] at h; exact h.1)
    · exact absurd (List.mem_map_of_mem (f := (·.2)) ha) (by rw [← hb] at h; exact h.1)
    · exact nodup_snd h.2 ha hb
def set (m : Map) (y : Str) (x : V) : Map := fun z => if z = y then some x else m z
def Storable (env : Env) (y : Str) : Prop := env.kindOf y = some .local ∨ env.kindOf y = some .cell ∧ (env.cells.lookup y).isSome = true
theorem store_ok {y : Str} {x : V} {v : Value} {s : Shared} {E : Value → Shared → Prop} (R : Rep c H s) (F : FrameAt c env m H s.heap) (hv : VR s.heap x v) (hy : Storable env y) :
    wpAny c.M A (storeName env y v) (fun _ s' => Rep c H s' ∧ FrameAt c env (set m y x) H s'.heap ∧ StepF env H s H s' ∧ ∀ b o, s.heap.get? b = some o → (env.kindOf y = some .local → b ≠ env.locals) → (env.kindOf y ≠ some .local → env.cells.lookup y ≠ some b) → s'.heap.get? b = some o) E s := by
  refine hide fun Pz bkz => ?_
  obtain ⟨m₀, hn, hm⟩ := F.loc
  obtain ⟨oL, es, ep, hL, hLd, hr⟩ := id hn
  refine bkz ?_
  rcases hy with hy | ⟨hy, hc⟩
  · refine wpAny_storeName_local hy hn (fun h' hn' hs => ?_) (by rw [F.kind]; rfl)
    have ne : ∀ b o, H b = some o → b ≠ env.locals := fun b o e q => by rw [q, F.free] at e; cases e
    have tk : TK s.heap h' := by
      intro a o e hc hd
      exact (hs.2 a fun q => by subst q; rw [e] at hL; cases hL; rw [hLd] at hd; cases hd).trans e
    have nec : ∀ k ∈ env.cells, k.2 ≠ env.locals := fun k hk q => by
      obtain ⟨_, ⟨v₀, o, e, hd⟩, _⟩ := F.cfree k hk
      rw [q, hL] at e; cases e; rw [hd] at hLd; cases hLd
    refine ⟨⟨fun b o e => (hs.2 b fun q => ?_).trans (R.keep b o e), R.gens, R.os, fun a o e => (R.at_ a o e).mono tk (hs.2 a (ne a o e)), R.new⟩,
      ⟨F.kind, F.glob, F.bltn, ⟨_, hn', fun z w hz hk => ?_⟩, fun z w hz hk => ?_, F.free, F.low, fun k hk => ?_, F.nd⟩, ⟨fun b o e _ h1 _ => ⟨o, (hs.2 b h1).trans e, .refl _⟩, (fun b o e n => by rw [n] at e; cases e), fun b o e => ?_⟩, fun b o e h1 _ => (hs.2 b (h1 hy)).trans e⟩
    · subst q; rw [F.low] at e; cases e
    · unfold set at hz
      by_cases hzy : z = y
      · subst hzy; rw [if_pos rfl] at hz; cases hz
        exact ⟨v, if_pos rfl, hv.mono tk⟩
      · rw [if_neg hzy] at hz
        obtain ⟨u, a, b⟩ := hm z w hz hk
        exact ⟨u, (if_neg hzy).trans a, b.mono tk⟩
    · unfold set at hz
      by_cases hzy : z = y
      · subst hzy; exact absurd hy hk
      · rw [if_neg hzy] at hz
        refine hide fun Pz bkz => ?_
        obtain ⟨hk', k, u, a, ⟨o, e, hd⟩, b⟩ := F.cel z w hz hk
        refine bkz ?_
        exact ⟨hk', k, u, a, ⟨o, (hs.2 k (nec _ (mem_of_lookup a))).trans e, hd⟩, b.mono tk⟩
    · obtain ⟨a, ⟨v₀, o, e, hd⟩, b⟩ := F.cfree k hk
      exact ⟨a, ⟨v₀, o, (hs.2 _ (nec k hk)).trans e, hd⟩, b⟩
    · by_cases hb : b = env.locals
      · obtain ⟨o', _, _, e', _⟩ := hn'
        exact ⟨o', by rw [hb]; exact e'⟩
      · exact ⟨o, (hs.2 b hb).trans e⟩
  · refine hide fun Pz bkz => ?_
    obtain ⟨k₀, hk₀⟩ := Option.isSome_iff_exists.mp hc
    have hmem := mem_of_lookup hk₀
    obtain ⟨hH, ⟨v₀, hcell⟩, hlow⟩ := F.cfree _ hmem
    obtain ⟨oc, ec, hdc⟩ := id hcell
    refine bkz ?_
    refine wpAny_storeName_cell F.kind hy hk₀ hcell fun h' hc' hs => ?_
    have ne : ∀ b o, H b = some o → b ≠ k₀ := fun b o e q => by rw [q, hH] at e; cases e
    have tk : TK s.heap h' := by
      intro a o e hc hd
      exact (hs.2 a fun q => by subst q; rw [e] at ec; cases ec; rw [hdc] at hd; cases hd).trans e
    have nl : env.locals ≠ k₀ := fun q => by rw [q, ec] at hL; cases hL; rw [hdc] at hLd; cases hLd
    have uniq : ∀ z k, env.cells.lookup z = some k → k = k₀ → z = y := fun z k hz hk => by
      subst hk
      exact nodup_snd F.nd (mem_of_lookup hz) hmem
    refine ⟨⟨fun b o e => (hs.2 b fun q => ?_).trans (R.keep b o e), R.gens, R.os, fun a o e => (R.at_ a o e).mono tk (hs.2 a (ne a o e)), R.new⟩,
      ⟨F.kind, F.glob, F.bltn, ⟨m₀, ⟨oL, es, ep, (hs.2 _ nl).trans hL, hLd, hr⟩, fun z w hz hk => ?_⟩, fun z w hz hk => ?_, F.free, F.low, fun k hk => ?_, F.nd⟩, ⟨fun b o e _ _ h2 => ⟨o, (hs.2 b (h2 _ hmem)).trans e, .refl _⟩, (fun b o e n => by rw [n] at e; cases e), fun b o e => ?_⟩, fun b o e _ h2 => (hs.2 b fun z => h2 (by rw [hy]; decide) (by rw [z]; exact hk₀)).trans e⟩
    · subst q; rw [hlow] at e; cases e
    · unfold set at hz
      by_cases hzy : z = y
      · subst hzy; rw [hy] at hk; cases hk
      · rw [if_neg hzy] at hz
        obtain ⟨u, a, b⟩ := hm z w hz hk
        exact ⟨u, a, b.mono tk⟩
    · unfold set at hz
      by_cases hzy : z = y
      · subst hzy; rw [if_pos rfl] at hz; cases hz
        exact ⟨.inl hy, k₀, v, hk₀, hc', hv.mono tk⟩
      · rw [if_neg hzy] at hz
        refine hide fun Pz bkz => ?_
        obtain ⟨hk', k, u, a, ⟨o, e, hd⟩, b⟩ := F.cel z w hz hk
        refine bkz ?_
        exact ⟨hk', k, u, a, ⟨o, (hs.2 k fun q => hzy (uniq z k a q)).trans e, hd⟩, b.mono tk⟩
    · refine hide fun Pz bkz => ?_
      obtain ⟨a, ⟨v₁, o, e, hd⟩, b⟩ := F.cfree k hk
      refine bkz ?_
      by_cases hkk : k.2 = k₀
      · rw [hkk]; exact ⟨hH, ⟨_, hc'⟩, hlow⟩
      · exact ⟨a, ⟨v₁, o, (hs.2 _ hkk).trans e, hd⟩, b⟩
    · by_cases hb : b = k₀
      · obtain ⟨o', e', _⟩ := hc'
        exact ⟨o', by rw [hb]; exact e'⟩
      · exact ⟨o, (hs.2 b hb).trans e⟩

theorem awS_Assign {y : Str} {p₁ : Pos} {e : Expr} (hy : Storable env y) (hsw : swapsWith e (some (.Name y p₁)) pos.line env = pure false) (h : awE c q d A env e m H (fun x H₁ => P .next (set m y x) H₁) fun k H' => X k m H') : awS c q d A env (.Assign [.Name y p₁] e pos) m H P X := by
  intro s S
  refine wpAny_Assign_Name (awT_then h S.toFRep (fun x H₁ s₁ v hp F₁ hv x₁ => ?_) fun _ _ o => o.toS S.toFRep) hsw
  exact wpAny_mono (store_ok F₁.rep F₁.fr hv hy) (fun _ s₂ ⟨R, F, x₂, _⟩ => ⟨.next, _, H₁, hp, rfl, R, F, x₁.toF.trans x₂⟩) fun _ _ o => o
theorem awS_If {t : Expr} {a b : List Stmt} (h : awB c q d A env t m H (fun z H₁ => if z then awSs c q d A env a m H₁ P X else awSs c q d A env b m H₁ P X) fun k H' => X k m H') : awS c q d A env (.If t a b pos) m H P X := by
  intro s S
  refine wpAny_If (wpAny_mono (h s S.toFRep) (fun z s₁ ⟨H₁, hp, R, x⟩ => ?_) fun _ _ o => o.toS S.toFRep)
  cases z
  · exact wpAny_mono (hp s₁ (S.step R x)) (fun _ _ => OutS.from x.toF) fun _ _ => OutSX.from x.toF
  · exact wpAny_mono (hp s₁ (S.step R x)) (fun _ _ => OutS.from x.toF) fun _ _ => OutSX.from x.toF
theorem awS_Return {e : Expr} (h : awE c q d A env e m H (fun x H₁ => P (.ret x) m H₁) fun k H' => X k m H') : awS c q d A env (.Return (some e) pos) m H P X := by
  intro s S
  exact wpAny_Return_some (awT_then h S.toFRep (fun x H₁ s₁ v hp F₁ hv x₁ => ⟨.ret x, m, H₁, hp, ⟨v, rfl, hv⟩, F₁.rep, F₁.fr, x₁.toF⟩) fun _ _ o => o.toS S.toFRep)
theorem awS_Break (h : P .brk m H) : awS c q d A env (.Break pos) m H P X := fun s S => wpAny_Break ⟨.brk, m, H, h, rfl, S.rep, S.fr, .refl _ _ _⟩
theorem awS_Continue (h : P .cont m H) : awS c q d A env (.Continue pos) m H P X := fun s S => wpAny_Continue ⟨.cont, m, H, h, rfl, S.rep, S.fr, .refl _ _ _⟩
theorem awS_Expr {e : Expr} (hi : interactive env = false) (hs : swapsWith e none pos.line env = pure false) (h : awE c q d A env e m H (fun x H₁ => P .next m H₁) fun k H' => X k m H') : awS c q d A env (.Expr e pos) m H P X := by
  intro s S
  exact wpAny_Expr_any (awT_then h S.toFRep (fun x H₁ s₁ v hp F₁ hv x₁ => ⟨.next, m, H₁, hp, rfl, F₁.rep, F₁.fr, x₁.toF⟩) fun _ _ o => o.toS S.toFRep) hi hs
end
structure Nudged (S fr : List Addr) (h h' : Heap) : Prop where
  keep : ∀ b o, h.get? b = some o → b ∉ S → b ∉ fr → h'.get? b = some o
  slot : ∀ b o, h.get? b = some o → b ∉ S → ∃ sl, h'.get? b = some { o with slots := sl }
  alive : ∀ b o, h.get? b = some o → ∃ o', h'.get? b = some o'
theorem Nudged.trans {S fr : List Addr} {a b c : Heap} (x : Nudged S fr a b) (y : Nudged S fr b c) : Nudged S fr a c :=
  ⟨fun k o e h1 h2 => y.keep k o (x.keep k o e h1 h2) h1 h2, fun k o e h1 => let ⟨_, e1⟩ := x.slot k o e h1; let ⟨sl, e2⟩ := y.slot k _ e1 h1; ⟨sl, e2⟩, fun b o e => let ⟨_, e1⟩ := x.alive b o e; y.alive b _ e1⟩
theorem Nudged.push {S fr : List Addr} (h : Heap) (o : Obj) : Nudged S fr h (h.push o) :=
  ⟨fun _ _ e _ _ => Heap.get?_push_of_some _ e, fun _ o' e _ => ⟨o'.slots, Heap.get?_push_of_some _ e⟩, fun _ o' e => ⟨o', Heap.get?_push_of_some _ e⟩⟩
theorem Nudged.update {S fr : List Addr} (h : Heap) {a : Addr} (f : Obj → Obj) (ha : a ∈ S) (hfr : ∀ o, h.get? a = some o → (f o).isFreed = false) : Nudged S fr h (h.update a f) :=
  ⟨fun b o e h1 _ => (Heap.get?_update_ne _ _ _ _ fun q => h1 (by rw [q]; exact ha)).trans e, fun b o e h1 => ⟨o.slots, (Heap.get?_update_ne _ _ _ _ fun q => h1 (by rw [q]; exact ha)).trans e⟩, fun b o e => if q : b = a then (by subst q; exact ⟨_, Heap.get?_update_self _ e (hfr o e)⟩) else ⟨o, (Heap.get?_update_ne _ _ _ _ q).trans e⟩⟩
theorem Nudged.slots {S fr : List Addr} {h h' : Heap} (x : Heap.SlotsOnly fr h h') : Nudged S fr h h' :=
  ⟨fun b o e _ h2 => (x.2.1 b h2).trans e, fun b o e _ => x.2.2 b o e, fun b o e => let ⟨_, q⟩ := x.2.2 b o e; ⟨_, q⟩⟩
section
variable {c : Cx} {S fr : List Addr} {H : AH}
structure Nudgeable (c : Cx) (S fr : List Addr) (H : AH) (h : Heap) : Prop where
  S0 : ∀ b ∈ S, H b = none ∧ c.g.get? b = none ∧ ∀ o, h.get? b = some o → immCls o.cls = false ∧ ∃ vs, o.data = .fields vs
  f0 : ∀ b ∈ fr, H b = none ∧ c.g.get? b = none ∧ ∃ o es n, h.get? b = some o ∧ o.data = .dict es n
theorem Nudged.tk {h h' : Heap} (x : Nudged S fr h h') (y : Nudgeable c S fr H h) : TK h h' := by
  intro a o e hc hd
  refine x.keep a o e (fun q => ?_) fun q => ?_
  · rw [((y.S0 a q).2.2 o e).1] at hc; cases hc
  · obtain ⟨_, _, o', es, n', e', hd'⟩ := y.f0 a q
    rw [e] at e'; cases e'; rw [hd'] at hd; cases hd
theorem Rep.nudge {s : Shared} {h' : Heap} (R : Rep c H s) (x : Nudged S fr s.heap h') (y : Nudgeable c S fr H s.heap) : Rep c H { s with heap := h' } :=
  ⟨fun b o e => x.keep b o (R.keep b o e) (fun q => by rw [(y.S0 b q).2.1] at e; cases e) (fun q => by rw [(y.f0 b q).2.1] at e; cases e), R.gens, R.os,
   fun a o e => by
    obtain ⟨ob, eo, _⟩ := R.there e
    have := x.keep a ob eo (fun q => by rw [(y.S0 a q).1] at e; cases e) fun q => by rw [(y.f0 a q).1] at e; cases e
    exact (R.at_ a o e).mono (x.tk y) (this.trans eo.symm), R.new⟩
theorem FrameAt.nudge {env : Env} {m : Map} {h h' : Heap} (F : FrameAt c env m H h) (x : Nudged S fr h h') (y : Nudgeable c S fr H h) : FrameAt c env m H h' := by
  have tk := x.tk y
  obtain ⟨m₀, ⟨oL, es, ep, hL, hLd, hr⟩, hm⟩ := F.loc
  have notS : ∀ b o, h.get? b = some o → (∀ vs, o.data ≠ .fields vs) → b ∉ S := fun b o e hn q => by
    obtain ⟨_, vs, hv⟩ := (y.S0 b q).2.2 o e
    exact hn vs hv
  obtain ⟨sl, hL'⟩ := x.slot _ _ hL (notS _ _ hL fun vs q => by rw [hLd] at q; cases q)
  have cellK : ∀ k v, h.IsCell k v → h'.IsCell k v := by
    rintro k v ⟨o, e, hd⟩
    obtain ⟨sl, e'⟩ := x.slot _ _ e (notS _ _ e fun vs q => by rw [hd] at q; cases q)
    exact ⟨_, e', hd⟩
  refine ⟨F.kind, F.glob, F.bltn, ⟨m₀, ⟨_, es, ep, hL', hLd, hr⟩, fun z w hz hk => ?_⟩, fun z w hz hk => ?_, F.free, F.low, fun k hk => ?_, F.nd⟩
  · obtain ⟨u, a, b⟩ := hm z w hz hk
    exact ⟨u, a, b.mono tk⟩
  · obtain ⟨hk', k, u, a, b, d⟩ := F.cel z w hz hk
    exact ⟨hk', k, u, a, cellK _ _ b, d.mono tk⟩
  · obtain ⟨a, ⟨v₀, b⟩, d⟩ := F.cfree k hk
    exact ⟨a, ⟨v₀, cellK _ _ b⟩, d⟩
theorem StepF.nudge {env : Env} {H₀ : AH} {s s₁ : Shared} {h' : Heap} (x : StepF env H₀ s H s₁) (z : Nudged S fr s₁.heap h') (y : Nudgeable c S fr H s₁.heap) (hS : ∀ b ∈ S, s.heap.get? b = none) : StepF env H₀ s H { s₁ with heap := h' } := by
  refine ⟨fun b o e n h1 h2 => ?_, x.new, fun b o e => let ⟨_, e1⟩ := x.alive b o e; z.alive b _ e1⟩
  obtain ⟨o', e', k⟩ := x.kept b o e n h1 h2
  have bS : b ∉ S := fun q => by rw [hS b q] at e; cases e
  by_cases hf : b ∈ fr
  · obtain ⟨sl, e2⟩ := z.slot b o' e' bS
    obtain ⟨_, _, o2, es, n2, e3, hd⟩ := y.f0 b hf
    rw [e'] at e3; cases e3
    exact ⟨_, e2, k.trans (.inr ⟨⟨es, n2, hd⟩, sl, rfl⟩)⟩
  · exact ⟨o', z.keep b o' e' bS hf, k⟩
end

inductive ExcF (fl : Addr) (h₀ : Heap) (H : AH) (h : Heap) (k : Exc) (ex : Value) : Prop
  | mk (e : Addr) (ob : Obj) (vs : Array Value) (T : Addr) (oT : Obj) (ts : Array Value) (a : ex = .ref e) (b : h₀.get? e = none) (c : H e = none) (d : h.get? e = some ob) (f : ob.cls = k.cls ∧ immCls k.cls = false ∧ (k.plain = true → vs[2]? = some .none)) (g : ob.data = .fields vs) (i : vs[1]? = some (.ref T)) (j : T ≠ e) (l : h₀.get? T = none) (n : H T = none) (o : h.get? T = some oT) (p : immCls oT.cls = false ∧ oT.data = .fields ts) (q : ts[3]? = some (rawInt fl))
theorem ExcF.toR {fl : Nat} {h₀ : Heap} {H : AH} {h : Heap} {k : Exc} {ex : Value} (x : ExcF fl h₀ H h k ex) : ExcR (some fl) h₀ H h k ex := by
  obtain ⟨e, ob, vs, T, oT, ts, a, b, d, f, g, i, j, l, m, o, p, q, r⟩ := x
  exact ⟨e, ob, vs, _, a, b, d, f, g, i, j, .inr ⟨T, oT, ts, rfl, l, m, o, p, q, .inr ⟨_, rfl, r⟩⟩⟩
inductive OutF (c : Cx) (env : Env) (H : AH) (s : Shared) (X : Exc → Map → AH → Prop) (ex : Value) (s' : Shared) : Prop
  | mk (k : Exc) (m' : Map) (H' : AH) (a : X k m' H') (b : ExcF env.locals s.heap H' s'.heap k ex) (r : Rep c H' s') (F : FrameAt c env m' H' s'.heap) (z : StepF env H s H' s')
theorem OutF.toX {c : Cx} {env : Env} {H : AH} {s : Shared} {X : Exc → Map → AH → Prop} {ex : Value} {s' : Shared} (hf : env.frame = some env.locals) (o : OutF c env H s X ex s') : OutSX c env H s X ex s' := by
  obtain ⟨k, m, H', a, b, r, F, z⟩ := o
  exact ⟨k, m, H', a, hf ▸ b.toR, r, F, z⟩
section
variable {c : Cx} {q : Md} {d : Nat} {A : Around} {env : Env} {m : Map} {H : AH} {X : Exc → Map → AH → Prop}
theorem note_ok {s s' : Shared} {ex : Value} {E : Value → Shared → Prop} (S : SRep c q d A env m H s) (o : OutSX c env H s X ex s') : wpAny c.M A (noteFrame ex env) (fun _ s'' => OutF c env H s X ex s'') E s' := by
  obtain ⟨k, m', H', hx, ⟨e, ob, vs, tb, rfl, hen, hHe, he, ⟨hcls, hic⟩, hd, h1, htb⟩, R, F, x⟩ := o
  have S' := S.stepF R F x
  obtain ⟨l, hl, hf, hdict⟩ := S'.ok.stack
  obtain ⟨outer, ho, hlt⟩ := S'.top
  obtain rfl : l = env :: outer := Option.some.inj (hl.symm.trans ho)
  have hge : ∀ b, s.heap.get? b = none → c.g.get? b = none := fun b hb => S.rep.gnone hb
  have f0 : ∀ b ∈ (env :: outer).filterMap (·.frame), H' b = none ∧ c.g.get? b = none ∧ ∃ o es n, s'.heap.get? b = some o ∧ o.data = .dict es n := fun b hb => by
    obtain ⟨e', he', hfr⟩ := List.mem_filterMap.mp hb
    exact ⟨(hdict e' he' b hfr).1, (hf.mem hb).1, (hdict e' he' b hfr).2⟩
  have sz1 : 1 < vs.size := (Array.getElem?_eq_some_iff.mp h1).1
  have entry : ∀ (head : Value) (h₀ : Heap) (Q : Unit → Shared → Prop) (hadNext : Bool), h₀.FunFrames c.g (env :: outer) → h₀.get? e = some ob → (e ∉ (env :: outer).filterMap (·.frame)) →
      (∀ h₃ T oT ts, (∀ S', e ∈ S' → Nudged S' ((env :: outer).filterMap (·.frame)) h₀ h₃) → h₀.get? T = none → h₃.get? e = some (ob.mapFields (·.setIfInBounds 1 (.ref T))) → h₃.get? T = some oT → (immCls oT.cls = false ∧ oT.data = .fields ts) → ts[3]? = some (rawInt env.locals) → Q () { s' with heap := h₃ }) →
      wpAny c.M A (do let a ← frameOf env; let pl ← entryPlaceOf env.locals hadNext; let b ← EntryCells.newEntry head a .none (rawInt env.locals) .none pl; setField (.ref e) 1 b) Q E { s' with heap := h₀ } := by
    intro head h₀ Q hadNext hfun he₀ hene hq
    refine wpAny_bind (wpAny_frameOf_fun (s := { s' with heap := h₀ }) ho hfun S'.fl fun h₁ hs₁ => ?_)
    refine wpAny_bind (wpAny_entryPlaceOf fun pl hpl => ?_)
    unfold EntryCells.newEntry newFields
    refine wpAny_bind (wpAny_newObj_type ?_ (hpl.sizeOk5 _ _ _ _ _))
    have he₁ : h₁.get? e = some ob := (hs₁.2.1 e hene).trans he₀
    have he₂ := Heap.get?_push_of_some (h := h₁) { cls := .type "traceback", dict := none, data := .fields ([head, .ref env.locals, .none, rawInt env.locals, .none] ++ (if pl.isEmpty then List.replicate 6 Value.none else pl)).toArray } he₁
    refine wpAny_setField he₂ hd sz1 ?_
    have hTe : h₁.objs.size ≠ e := Nat.ne_of_gt (Heap.lt_size he₁)
    have hd₃ := Obj.data_mapFields hd (·.setIfInBounds 1 (Value.ref h₁.objs.size))
    have he₃ := Heap.get?_update_self (Obj.mapFields (·.setIfInBounds 1 (Value.ref h₁.objs.size))) he₂ (Obj.isFreed_of_fields hd₃)
    have hT₃ := (Heap.get?_update_other (h₁.push { cls := .type "traceback", dict := none, data := .fields ([head, .ref env.locals, .none, rawInt env.locals, .none] ++ (if pl.isEmpty then List.replicate 6 Value.none else pl)).toArray })
      (Obj.mapFields (·.setIfInBounds 1 (Value.ref h₁.objs.size))) (Ne.symm hTe)).trans (Heap.get?_push_size h₁ rfl)
    exact hq _ h₁.objs.size _ _ (fun S' hS' => (Nudged.slots hs₁).trans ((Nudged.push _ _).trans (Nudged.update _ _ hS' fun o ho => by rw [he₂] at ho; cases ho; exact Obj.isFreed_of_fields hd₃))) (Heap.get?_none_of_le (Nat.le_of_eq hs₁.1.symm)) he₃ hT₃ ⟨rfl, rfl⟩ (by simp)
  have hene : e ∉ (env :: outer).filterMap (·.frame) := fun hm => by
    obtain ⟨_, _, o, es, n, ho, hd'⟩ := f0 e hm
    rw [he] at ho; cases ho; rw [hd] at hd'; cases hd'
  unfold noteFrame
  simp only [S'.fl]
  refine wpAny_bind (wpAny_field he hd h1 ?_)
  rcases htb with rfl | ⟨T, oT, ts, rfl, hTe, hTn, hHT, hT, ⟨hTc, hdT⟩, h3⟩
  · rw [if_neg (by decide)]
    refine entry .none s'.heap _ _ hf he hene fun h₃ T oT ts hN hTn he₃ hT₃ hdT h3 => ?_
    have y : Nudgeable c [e] ((env :: outer).filterMap (·.frame)) H' s'.heap := ⟨fun b hb => by rw [List.mem_singleton.mp hb]; exact ⟨hHe, hge e hen, fun o ho => by rw [he] at ho; cases ho; exact ⟨by rw [hcls]; exact hic.1, vs, hd⟩⟩, f0⟩
    have z := hN [e] (List.mem_singleton.mpr rfl)
    refine ⟨k, m', H', hx, ⟨e, _, vs.setIfInBounds 1 (.ref T), T, oT, ts, rfl, hen, hHe, he₃, ⟨(Obj.cls_mapFields _ _).trans hcls, hic.1, fun hp => by rw [Array.getElem?_setIfInBounds_ne (by decide)]; exact hic.2 hp⟩, Obj.data_mapFields hd _, by simp [sz1], (fun q => by subst q; rw [he] at hTn; cases hTn), x.old hTn, R.fresh hTn, hT₃, hdT, h3⟩, R.nudge z y, F.nudge z y, x.nudge z y fun b hb => by rw [List.mem_singleton.mp hb]; exact hen⟩
  · rw [if_pos (show (Value.ref T != Value.none) = true from by simp)]
    rcases h3 with h3 | ⟨L, hL, h3⟩
    · refine wpAny_bind (wpAny_field hT hdT h3 ?_)
      rw [if_neg (show ¬ ((Value.none == rawInt env.locals) = true) from by simp [rawInt])]
      refine wpAny_bind (wpAny_setField hT hdT (Array.getElem?_eq_some_iff.mp h3).1 ?_)
      have y : Nudgeable c [e, T] ((env :: outer).filterMap (·.frame)) H' s'.heap := ⟨fun b hb => by
        rcases List.mem_cons.mp hb with rfl | hb
        · exact ⟨hHe, hge _ hen, fun o ho => by rw [he] at ho; cases ho; exact ⟨by rw [hcls]; exact hic.1, vs, hd⟩⟩
        · rw [List.mem_singleton.mp hb]; exact ⟨hHT, hge _ hTn, fun o ho => by rw [hT] at ho; cases ho; exact ⟨hTc, ts, hdT⟩⟩, f0⟩
      have z0 : Nudged [e, T] ((env :: outer).filterMap (·.frame)) s'.heap (s'.heap.update T (Obj.mapFields (·.setIfInBounds 3 Value.none))) := Nudged.update _ _ (by simp) fun o ho => by rw [hT] at ho; cases ho; exact Obj.isFreed_of_fields (Obj.data_mapFields hdT _)
      have hf' : (s'.heap.update T (Obj.mapFields (·.setIfInBounds 3 Value.none))).FunFrames c.g (env :: outer) := hf.of_keeps fun b o ho hnf => ⟨o, (Heap.get?_update_ne _ _ _ _ fun q => by subst q; rw [hT] at ho; cases ho; exact hnf ts hdT).trans ho, rfl⟩
      refine entry (.ref T) _ _ _ hf' ((Heap.get?_update_ne _ _ _ _ hTe.symm).trans he) hene fun h₃ T' oT' ts' hN hTn' he₃ hT₃ hdT' h3' => ?_
      have z := z0.trans (hN [e, T] (by simp))
      have hTn' : s'.heap.get? T' = none := by
        cases e1 : s'.heap.get? T' with
        | none => rfl
        | some o1 => obtain ⟨o2, e2⟩ := z0.alive _ _ e1; rw [hTn'] at e2; cases e2
      refine ⟨k, m', H', hx, ⟨e, _, vs.setIfInBounds 1 (.ref T'), T', oT', ts', rfl, hen, hHe, he₃, ⟨(Obj.cls_mapFields _ _).trans hcls, hic.1, fun hp => by rw [Array.getElem?_setIfInBounds_ne (by decide)]; exact hic.2 hp⟩, Obj.data_mapFields hd _, by simp [sz1], (fun q => by subst q; rw [he] at hTn'; cases hTn'), x.old hTn', R.fresh hTn', hT₃, hdT', h3'⟩, R.nudge z y, F.nudge z y, x.nudge z y fun b hb => ?_⟩
      rcases List.mem_cons.mp hb with rfl | hb
      · exact hen
      · rw [List.mem_singleton.mp hb]; exact hTn
    · refine wpAny_bind (wpAny_field hT hdT h3 ?_)
      rw [S.fl] at hL; cases hL
      rw [if_pos (show (rawInt env.locals == rawInt env.locals) = true from beq_self_eq_true _)]
      exact wpAny_pure ⟨k, m', H', hx, ⟨e, ob, vs, T, oT, ts, rfl, hen, hHe, he, ⟨hcls, hic⟩, hd, h1, hTe, hTn, hHT, hT, ⟨hTc, hdT⟩, h3⟩, R, F, x⟩
theorem back_ok {s s' : Shared} {ex : Value} (S : SRep c q d A env m H s) (o : OutF c env H s X ex s') : cameBackBy c.M A env (OutSX c env H s X) ex s' := by
  obtain ⟨k, m', H', hx, ⟨e, ob, vs, T, oT, ts, rfl, hen, hHe, he, ⟨hcls, hic⟩, hd, h1, hTe, hTn, hHT, hT, ⟨hTc, hdT⟩, h3⟩, R, F, x⟩ := o
  unfold cameBackBy
  refine wpAny_bind (wpAny_field he hd h1 ?_)
  dsimp only
  rw [if_neg (show ¬ ((Value.ref T == Value.none) = true) from by simp)]
  unfold setFlight
  refine wpAny_bind (wpAny_field he hd h1 ?_)
  rw [if_pos (show (Value.ref T != Value.none) = true from by simp)]
  refine wpAny_setField hT hdT (Array.getElem?_eq_some_iff.mp h3).1 ?_
  have sz3 := (Array.getElem?_eq_some_iff.mp h3).1
  have hge : ∀ b, s.heap.get? b = none → c.g.get? b = none := fun b hb => S.rep.gnone hb
  have y : Nudgeable c [T] [] H' s'.heap := ⟨fun b hb => by rw [List.mem_singleton.mp hb]; exact ⟨hHT, hge _ hTn, fun o ho => by rw [hT] at ho; cases ho; exact ⟨hTc, ts, hdT⟩⟩, fun b hb => nomatch hb⟩
  have z : Nudged [T] [] s'.heap (s'.heap.update T (Obj.mapFields (·.setIfInBounds 3 (env.frame.elim .none fun f => rawInt f)))) := Nudged.update _ _ (List.mem_singleton.mpr rfl) fun o ho => by rw [hT] at ho; cases ho; exact Obj.isFreed_of_fields (Obj.data_mapFields hdT _)
  refine OutF.toX S.fl ⟨k, m', H', hx, ⟨e, ob, vs, T, _, _, rfl, hen, hHe, (Heap.get?_update_ne _ _ _ _ hTe.symm).trans he, ⟨hcls, hic⟩, hd, h1, hTe, hTn, hHT, Heap.get?_update_self _ hT (Obj.isFreed_of_fields (Obj.data_mapFields hdT _)), ⟨(congrArg immCls (Obj.cls_mapFields _ _)).trans hTc, Obj.data_mapFields hdT _⟩, ?_⟩, R.nudge z y, F.nudge z y, x.nudge z y fun b hb => by rw [List.mem_singleton.mp hb]; exact hTn⟩
  rw [S.fl]; simp [sz3]
theorem noted_back {s s' : Shared} {ex : Value} (S : SRep c q d A env m H s) (o : OutSX c env H s X ex s') : notedBy c.M A env (cameBackBy c.M A env (OutSX c env H s X)) ex s' :=
  wpAny_mono (note_ok (E := cameBackBy c.M A env (OutSX c env H s X)) S o) (fun _ _ o' => back_ok S o') fun _ _ e => e
variable {P : Fl → Map → AH → Prop} {pos : Pos}
theorem awS_While {test : Expr} {body orelse : List Stmt} (J : Nat → Map → AH → Prop) (n : Nat) (hj : J n m H)
    (turn : ∀ n m H, J n m H → awB c q d A env test m H (fun b H₁ => if b then awSs c q d A env body m H₁ (fun f m' H' => match f with
        | .next | .cont => ∃ k, k < n ∧ J k m' H'
        | .brk => P .next m' H'
        | .ret v => P (.ret v) m' H') X
      else awSs c q d A env orelse m H₁ P X) fun k H' => X k m H') : awS c q d A env (.While test body orelse pos) m H P X := by
  intro s S
  refine wpAny_While (codeAny_whileLoop (fun k s' => ∃ m' H', J k m' H' ∧ Rep c H' s' ∧ FrameAt c env m' H' s'.heap ∧ StepF env H s H' s') ?_ n ⟨m, H, hj, S.rep, S.fr, .refl _ _ _⟩)
  rintro k s₁ ⟨m₁, H₁, hj₁, R₁, F₁, x₁⟩
  have S₁ := S.stepF R₁ F₁ x₁
  have noted : ∀ {e s'}, OutSX c env H s X e s' → notedBy c.M A env (fun e s' => cameBackBy c.M A env (OutSX c env H s X) e s') e s' := fun o => noted_back S o
  refine wpAny_mono (turn k m₁ H₁ hj₁ s₁ S₁.toFRep) (fun b s₂ ⟨H₂, hp, R₂, x₂⟩ => ?_) fun e s' o => noted ((o.toS S₁.toFRep).from x₁)
  have S₂ := S₁.step R₂ x₂
  have x₁₂ := x₁.trans x₂.toF
  cases b with
  | true =>
    simp only [if_true] at hp ⊢
    refine wpAny_mono (hp s₂ S₂) (fun f s₃ ⟨g, m₃, H₃, hq, hf, R₃, F₃, x₃⟩ => ?_) fun e s' o => noted (o.from x₁₂)
    have x := x₁₂.trans x₃
    cases g with
    | next => cases hf; obtain ⟨k', hk', hj'⟩ := hq; exact ⟨k', hk', m₃, H₃, hj', R₃, F₃, x⟩
    | cont => cases hf; obtain ⟨k', hk', hj'⟩ := hq; exact ⟨k', hk', m₃, H₃, hj', R₃, F₃, x⟩
    | brk => cases hf; exact ⟨.next, m₃, H₃, hq, rfl, R₃, F₃, x⟩
    | ret v => obtain ⟨u, rfl, hv⟩ := hf; exact ⟨.ret v, m₃, H₃, hq, ⟨u, rfl, hv⟩, R₃, F₃, x⟩
  | false =>
    simp only [Bool.false_eq_true, if_false] at hp ⊢
    exact wpAny_mono (hp s₂ S₂) (fun f s₃ o => o.from x₁₂) fun e s' o => noted (o.from x₁₂)
end

inductive IK where
  | list (l : Addr)
  | fixed (xs : List V)
  | keys (d : Addr) (n ep : Nat)
  | vals (d : Addr) (n ep : Nat)
def IK.items (H : AH) : IK → Option (List V)
  | .list l => match H l with | some (.list vs) => some vs | _ => none
  | .fixed xs => some xs
  | .keys d n ep => match H d with | some (.dict kvs ep') => if ep' = ep ∧ kvs.length = n then some (kvs.map fun p => .str p.1) else none | _ => none
  | .vals d n ep => match H d with | some (.dict kvs ep') => if ep' = ep ∧ kvs.length = n then some (kvs.map (·.2)) else none | _ => none
def ItR (h : Heap) (I : Addr) (i : Nat) : IK → Prop
  | .list l => h.IsListIter I l i
  | .keys d n ep => h.IsKeyIter I d i n ep
  | .vals d n ep => h.IsValIter I d i n ep
  | .fixed xs => (∃ t ws, h.IsTupleIter I t i ∧ h.IsTuple t ws ∧ VRs h xs ws.toList) ∨ (∃ x t, h.IsStrIter I "str_ascii_iterator" x t i ∧ xs = x.cps.toList.map fun k => .str ⟨#[k]⟩) ∨
      (∃ a n : Nat, IsRangeIter h I ((a : Int) + i) ((n : Int) - i) 1 ∧ xs = (List.range n).map fun (k : Nat) => V.int ((a : Int) + k))
theorem ItR.keeps {h h' : Heap} {I : Addr} {i : Nat} (k : ∀ o, h.get? I = some o → (∃ vs, o.data = .fields vs) → h'.get? I = some o) (tk : TK h h') : ∀ {ik : IK}, ItR h I i ik → ItR h' I i ik
  | .list l, ⟨o, e, a, b⟩ => ⟨o, k o e ⟨_, b⟩, a, b⟩
  | .keys d n ep, ⟨o, e, a, b⟩ => ⟨o, k o e ⟨_, b⟩, a, b⟩
  | .vals d n ep, ⟨o, e, a, b⟩ => ⟨o, k o e ⟨_, b⟩, a, b⟩
  | .fixed xs, x => by
    rcases x with ⟨t, ws, ⟨o, e, a, b⟩, y, z⟩ | ⟨x, t, ⟨o, e, a, b⟩, y⟩ | ⟨a, n, e, y⟩
    · exact .inl ⟨t, ws, ⟨o, k o e ⟨_, b⟩, a, b⟩, tk.tup y, z.mono tk⟩
    · exact .inr (.inl ⟨x, t, ⟨o, k o e ⟨_, b⟩, a, b⟩, y⟩)
    · exact .inr (.inr ⟨a, n, k _ e ⟨_, rfl⟩, y⟩)
section
variable {c : Cx} {q : Md} {d : Nat} {A : Around} {env : Env} {m : Map} {H : AH}
structure Only (I : Addr) (h h' : Heap) : Prop where
  keep : ∀ b o, b ≠ I → h.get? b = some o → h'.get? b = some o
theorem Only.rep {I : Addr} {s : Shared} {h' : Heap} {t : Nat} (x : Only I s.heap h') (R : Rep c H s) (hI : H I = none) (hg : c.g.get? I = none) (hf : ∀ o, s.heap.get? I = some o → immCls o.cls = false) : Rep c H { s with heap := h', toks := t } := by
  have tk : TK s.heap h' := fun a o e hc hd => x.keep a o (fun q => by subst q; rw [hf o e] at hc; cases hc) e
  refine ⟨fun b o e => x.keep b o (fun q => by subst q; rw [hg] at e; cases e) (R.keep b o e), R.gens, R.os, fun a o e => ?_, R.new⟩
  obtain ⟨ob, eo, _⟩ := R.there e
  exact (R.at_ a o e).mono tk ((x.keep a ob (fun q => by subst q; rw [hI] at e; cases e) eo).trans eo.symm)
theorem Only.tk {I : Addr} {h h' : Heap} (x : Only I h h') (hf : ∀ o, h.get? I = some o → immCls o.cls = false) : TK h h' :=
  fun a o e hc hd => x.keep a o (fun q => by subst q; rw [hf o e] at hc; cases hc) e
theorem ItR.rec {h : Heap} {I : Addr} {i : Nat} : ∀ {ik : IK}, ItR h I i ik → ∀ o, h.get? I = some o → immCls o.cls = false
  | .list l, ⟨o, e, a, b⟩, o', e' => by rw [e] at e'; cases e'; rw [a]; rfl
  | .keys d n ep, ⟨o, e, a, b⟩, o', e' => by rw [e] at e'; cases e'; rw [a]; rfl
  | .vals d n ep, ⟨o, e, a, b⟩, o', e' => by rw [e] at e'; cases e'; rw [a]; rfl
  | .fixed xs, x, o', e' => by
    rcases x with ⟨t, ws, ⟨o, e, a, b⟩, y, z⟩ | ⟨x, t, ⟨o, e, a, b⟩, y⟩ | ⟨a, n, e, y⟩
    · rw [e] at e'; cases e'; rw [a]; rfl
    · rw [e] at e'; cases e'; rw [a]; rfl
    · rw [show h.get? I = _ from e] at e'; cases e'; rfl
theorem ItR.there {h : Heap} {I : Addr} {i : Nat} : ∀ {ik : IK}, ItR h I i ik → ∃ o vs, h.get? I = some o ∧ o.data = .fields vs
  | .list l, ⟨o, e, a, b⟩ => ⟨o, _, e, b⟩
  | .keys d n ep, ⟨o, e, a, b⟩ => ⟨o, _, e, b⟩
  | .vals d n ep, ⟨o, e, a, b⟩ => ⟨o, _, e, b⟩
  | .fixed xs, x => by
    rcases x with ⟨t, ws, ⟨o, e, a, b⟩, y, z⟩ | ⟨x, t, ⟨o, e, a, b⟩, y⟩ | ⟨a, n, e, y⟩
    · exact ⟨o, _, e, b⟩
    · exact ⟨o, _, e, b⟩
    · exact ⟨_, _, e, rfl⟩
inductive NextItem (c : Cx) (H : AH) (I : Addr) (i : Nat) (ik : IK) (s : Shared) (x : V) (r : Option Value) (s' : Shared) : Prop
  | mk (v : Value) (h' : Heap) (t : Nat) (e : r = some v) (f : s' = { s with heap := h', toks := t }) (a : VR h' x v) (b : ItR h' I (i + 1) ik) (o : Only I s.heap h')
inductive NextEnd (I : Addr) (s : Shared) (r : Option Value) (s' : Shared) : Prop
  | mk (h' : Heap) (t : Nat) (e : r = none) (f : s' = { s with heap := h', toks := t }) (o : Only I s.heap h')
theorem next_item {I : Addr} {i : Nat} {ik : IK} {xs : List V} {x : V} {s : Shared} {E : Value → Shared → Prop} (R : Rep c H s) (it : ItR s.heap I i ik) (hI : H I = none) (hs : ik.items H = some xs) (hx : xs[i]? = some x) :
    wpAny c.M A (pyNext (.ref I)) (NextItem c H I i ik s x) E s := by
  have rc := it.rec
  cases ik with
  | list l =>
    simp only [IK.items] at hs
    split at hs
    · rename_i vs hl
      cases hs
      obtain ⟨items, n, e, hv⟩ := R.at_ _ _ hl
      obtain ⟨v, hv1, hv2⟩ := hv.get hx
      refine wpAny_pyNext_list_item it ⟨_, e, rfl, n, rfl⟩ (by rw [← Array.getElem?_toList]; exact hv1) fun h' hi hsb => ?_
      have o : Only I s.heap h' := ⟨fun b o hb e => (hsb.2 b hb).trans e⟩
      exact ⟨v, h', s.toks, rfl, rfl, hv2.mono (o.tk rc), hi, o⟩
    · cases hs
  | keys d n ep =>
    simp only [IK.items] at hs
    split at hs
    · rename_i kvs ep' hl
      split at hs
      · rename_i hh
        obtain ⟨rfl, rfl⟩ := hh
        cases hs
        obtain ⟨ys, hD, hk, hv, _⟩ := R.at_ _ _ hl
        have hlen : ys.length = kvs.length := by simpa using congrArg List.length hk
        rw [List.getElem?_map] at hx
        obtain ⟨p, hp, rfl⟩ := Option.map_eq_some_iff.mp hx
        have hy : (ys.map (·.1))[i]? = some p.1 := by rw [hk, List.getElem?_map, hp]; rfl
        rw [List.getElem?_map] at hy
        obtain ⟨⟨k, w⟩, hy, rfl⟩ := Option.map_eq_some_iff.mp hy
        have it' : s.heap.IsKeyIter I d i ys.length ep' := by rw [hlen]; exact it
        refine wpAny_pyNext_dict_item it' hD hy fun key h' hkey hi hsb => ?_
        have o : Only I s.heap h' := ⟨fun b o hb e => (hsb.2 b hb).trans e⟩
        rw [hlen] at hi
        exact ⟨key, h', s.toks, rfl, rfl, (Value.isStrOf_shape hkey : ∃ t, key = .str _ t), hi, o⟩
      · cases hs
    · cases hs
  | vals d n ep =>
    simp only [IK.items] at hs
    split at hs
    · rename_i kvs ep' hl
      split at hs
      · rename_i hh
        obtain ⟨rfl, rfl⟩ := hh
        cases hs
        obtain ⟨ys, hD, hk, hv, _⟩ := R.at_ _ _ hl
        have hlen : ys.length = kvs.length := by simpa using congrArg List.length hk
        obtain ⟨v, hv1, hv2⟩ := hv.get hx
        rw [List.getElem?_map] at hv1
        obtain ⟨⟨k, w⟩, hy, rfl⟩ := Option.map_eq_some_iff.mp hv1
        have it' : s.heap.IsValIter I d i ys.length ep' := by rw [hlen]; exact it
        refine wpAny_pyNext_values_item it' hD hy fun h' hi hsb => ?_
        have o : Only I s.heap h' := ⟨fun b o hb e => (hsb.2 b hb).trans e⟩
        rw [hlen] at hi
        exact ⟨w, h', s.toks, rfl, rfl, hv2.mono (o.tk rc), hi, o⟩
      · cases hs
    · cases hs
  | fixed ys =>
    cases hs
    rcases it with ⟨t, ws, hi, ht, hv⟩ | ⟨y, t, hi, rfl⟩ | ⟨a, n, hi, rfl⟩
    · obtain ⟨v, hv1, hv2⟩ := hv.get hx
      refine wpAny_pyNext_tuple_item hi ht (by rw [← Array.getElem?_toList]; exact hv1) fun h' hi' hsb => ?_
      have o : Only I s.heap h' := ⟨fun b o hb e => (hsb.2 b hb).trans e⟩
      exact ⟨v, h', s.toks, rfl, rfl, hv2.mono (o.tk rc), .inl ⟨t, ws, hi', (o.tk rc).tup ht, hv.mono (o.tk rc)⟩, o⟩
    · rw [List.getElem?_map] at hx
      obtain ⟨k, hk, rfl⟩ := Option.map_eq_some_iff.mp hx
      refine wpAny_pyNext_ascii_item hi (by rw [← Array.getElem?_toList]; exact hk) fun h' hi' hsb => ?_
      have o : Only I s.heap h' := ⟨fun b o hb e => (hsb.2 b hb).trans e⟩
      exact ⟨_, h', s.toks + 1, rfl, rfl, ⟨_, rfl⟩, .inr (.inl ⟨y, t, hi', rfl⟩), o⟩
    · rw [List.getElem?_map] at hx
      obtain ⟨k, hk, rfl⟩ := Option.map_eq_some_iff.mp hx
      obtain ⟨hlt, rfl⟩ : i < n ∧ i = k := by
        have h1 := List.getElem?_eq_some_iff.mp hk
        obtain ⟨h2, h3⟩ := h1
        simp at h2 h3
        exact ⟨h2, h3⟩
      refine wpAny_pyNext_range_item hi (by omega) fun h' hi' hsb => ?_
      have o : Only I s.heap h' := ⟨fun b o hb e => (hsb.2 b hb).trans e⟩
      refine ⟨_, h', s.toks + 1, rfl, rfl, ⟨_, rfl⟩, .inr (.inr ⟨a, n, ?_, rfl⟩), o⟩
      have e1 : ((a : Int) + (i : Int) + 1) = (a : Int) + ((i + 1 : Nat) : Int) := by push_cast; omega
      have e2 : ((n : Int) - (i : Int) - 1) = (n : Int) - ((i + 1 : Nat) : Int) := by push_cast; omega
      rw [← e1, ← e2]; exact hi'
theorem next_end {I : Addr} {i : Nat} {ik : IK} {xs : List V} {s : Shared} {E : Value → Shared → Prop} (hh : A.handled = none) (R : Rep c H s) (it : ItR s.heap I i ik) (hI : H I = none) (hs : ik.items H = some xs) (hx : xs.length ≤ i) :
    wpAny c.M A (pyNext (.ref I)) (NextEnd I s) E s := by
  cases ik with
  | list l =>
    simp only [IK.items] at hs
    split at hs
    · rename_i vs hl
      cases hs
      obtain ⟨items, n, e, hv⟩ := R.at_ _ _ hl
      refine wpAny_pyNext_list_end hh it ⟨_, e, rfl, n, rfl⟩ (Array.getElem?_eq_none (by rw [← Array.length_toList, ← hv.length]; exact hx)) fun h' hsb => ?_
      exact ⟨h', s.toks, rfl, rfl, ⟨fun b o hb e => hsb b o hb e⟩⟩
    · cases hs
  | keys d n ep =>
    simp only [IK.items] at hs
    split at hs
    · rename_i kvs ep' hl
      split at hs
      · rename_i hh'
        obtain ⟨rfl, rfl⟩ := hh'
        cases hs
        obtain ⟨ys, hD, hk, hv, _⟩ := R.at_ _ _ hl
        have hlen : ys.length = kvs.length := by simpa using congrArg List.length hk
        have it' : s.heap.IsKeyIter I d i ys.length ep' := by rw [hlen]; exact it
        refine wpAny_pyNext_dict_end hh it' hD (List.getElem?_eq_none (by rw [hlen]; simpa using hx)) fun h' hsb => ?_
        exact ⟨h', s.toks, rfl, rfl, ⟨fun b o hb e => hsb b o hb e⟩⟩
      · cases hs
    · cases hs
  | vals d n ep =>
    simp only [IK.items] at hs
    split at hs
    · rename_i kvs ep' hl
      split at hs
      · rename_i hh'
        obtain ⟨rfl, rfl⟩ := hh'
        cases hs
        obtain ⟨ys, hD, hk, hv, _⟩ := R.at_ _ _ hl
        have hlen : ys.length = kvs.length := by simpa using congrArg List.length hk
        have it' : s.heap.IsValIter I d i ys.length ep' := by rw [hlen]; exact it
        refine wpAny_pyNext_values_end hh it' hD (List.getElem?_eq_none (by rw [hlen]; simpa using hx)) fun h' hsb => ?_
        exact ⟨h', s.toks, rfl, rfl, ⟨fun b o hb e => hsb b o hb e⟩⟩
      · cases hs
    · cases hs
  | fixed ys =>
    cases hs
    rcases it with ⟨t, ws, hi, ht, hv⟩ | ⟨y, t, hi, rfl⟩ | ⟨a, n, hi, rfl⟩
    · refine wpAny_pyNext_tuple_end hh hi ht (Array.getElem?_eq_none (by rw [← Array.length_toList, ← hv.length]; exact hx)) fun h' hsb => ?_
      exact ⟨h', s.toks, rfl, rfl, ⟨fun b o hb e => hsb b o hb e⟩⟩
    · refine wpAny_pyNext_ascii_end hh hi (Array.getElem?_eq_none (by simpa using hx)) fun h' hsb => ?_
      exact ⟨h', s.toks, rfl, rfl, ⟨fun b o hb e => hsb b o hb e⟩⟩
    · refine wpAny_pyNext_range_end hh hi (by simp at hx; omega) fun h' hsb => ?_
      exact ⟨h', s.toks, rfl, rfl, ⟨fun b o hb e => hsb b o hb e⟩⟩
theorem FrameAt.onlyT {I : Addr} {h h' : Heap} (F : FrameAt c env m H h) (o : Only I h h') (tk : TK h h') (nL : I ≠ env.locals) (nC : ∀ k ∈ env.cells, I ≠ k.2) : FrameAt c env m H h' := by
  obtain ⟨m₀, ⟨oL, es, ep, hL, hLd, hr⟩, hm⟩ := F.loc
  refine ⟨F.kind, F.glob, F.bltn, ⟨m₀, ⟨oL, es, ep, o.keep _ _ nL.symm hL, hLd, hr⟩, fun z w hz hk => ?_⟩, fun z w hz hk => ?_, F.free, F.low, fun k hk => ?_, F.nd⟩
  · obtain ⟨u, a, b⟩ := hm z w hz hk
    exact ⟨u, a, b.mono tk⟩
  · obtain ⟨hk', k, u, a, ⟨ok, ek, dk⟩, b⟩ := F.cel z w hz hk
    exact ⟨hk', k, u, a, ⟨ok, o.keep _ _ (nC _ (mem_of_lookup a)).symm ek, dk⟩, b.mono tk⟩
  · obtain ⟨a, ⟨v₀, ok, ek, dk⟩, b⟩ := F.cfree k hk
    exact ⟨a, ⟨v₀, ok, o.keep _ _ (nC k hk).symm ek, dk⟩, b⟩
theorem FrameAt.only {I : Addr} {h h' : Heap} (F : FrameAt c env m H h) (o : Only I h h') (hf : ∀ o, h.get? I = some o → immCls o.cls = false) (nL : I ≠ env.locals) (nC : ∀ k ∈ env.cells, I ≠ k.2) : FrameAt c env m H h' := F.onlyT o (o.tk hf) nL nC
theorem StepF.only {I : Addr} {H₃ : AH} {s s₃ : Shared} {h' : Heap} {t : Nat} (x : StepF env H s H₃ s₃) (o : Only I s₃.heap h') (hI : s.heap.get? I = none) (hH : H I = none → True) : StepF env H s H₃ { s₃ with heap := h', toks := t } := by
  have ne : ∀ b ob, s.heap.get? b = some ob → b ≠ I := fun b ob e q => by subst q; rw [hI] at e; cases e
  refine ⟨fun b ob e n h1 h2 => ?_, x.new, fun b ob e => ?_⟩
  · obtain ⟨o', e', k⟩ := x.kept b ob e n h1 h2
    exact ⟨o', o.keep b o' (ne b ob e) e', k⟩
  · obtain ⟨o', e'⟩ := x.alive b ob e
    exact ⟨o', o.keep b o' (ne b ob e) e'⟩
end
def signs (x : Str) : List V := x.cps.toList.map fun k => .str ⟨#[k]⟩
def upTo (n : Nat) : List V := (List.range n).map fun (k : Nat) => .int k
def iterK (H : AH) : V → Option IK
  | .ref a => match H a with
    | some (.list _) => some (.list a)
    | some (.dict kvs ep) => some (.keys a kvs.length ep)
    | _ => none
  | .str x => if x.cps.all (· < 128) then some (.fixed (signs x)) else none
  | .tup vs => some (.fixed vs)
  | .rng n => some (.fixed (upTo n))
  | .vals d => match H d with
    | some (.dict kvs ep) => some (.vals d kvs.length ep)
    | _ => none
  | _ => none
section
variable {c : Cx} {q : Md} {d : Nat} {A : Around} {env : Env} {m : Map} {H : AH} {P : Fl → Map → AH → Prop} {X : Exc → Map → AH → Prop} {pos : Pos}
inductive IterMade (ik : IK) (s : Shared) (it : Value) (s' : Shared) : Prop
  | mk (I : Addr) (h' : Heap) (e : it = .ref I) (f : s' = { s with heap := h' }) (a : ItR h' I 0 ik) (k : ∀ b o, s.heap.get? b = some o → h'.get? b = some o) (n : s.heap.get? I = none)
theorem rangeSize_nat (n : Nat) : Builtin.Range.rangeSize 0 n 1 = n := by
  unfold Builtin.Range.rangeSize
  first | (simp; done) | (simp; omega) | (split <;> simp <;> omega)
theorem small_nat {n : Nat} (h : n < 1000000) : Builtin.Range.small 0 n 1 = true := by
  unfold Builtin.Range.small
  rw [rangeSize_nat]
  have f : ∀ k : Int, 0 ≤ k → k < 2000000 → Builtin.Range.rangeFitsLong k = true := fun k h0 h1 => by
    unfold Builtin.Range.rangeFitsLong
    rw [Bool.and_eq_true, decide_eq_true_eq, decide_eq_true_eq]
    constructor <;> omega
  rw [f 0 (by decide) (by decide), f n (by omega) (by omega), f 1 (by decide) (by decide), if_pos (by decide), f (n + (1 - 1)) (by omega) (by omega), Bool.or_true]
  rfl
theorem iter_ok {x : V} {v : Value} {ik : IK} {s : Shared} {E : Value → Shared → Prop} (R : Rep c H s) (hv : VR s.heap x v) (hi : iterK H x = some ik) : wpAny c.M A (pyIter v) (IterMade ik s) E s := by
  have fin : ∀ (o : Obj), (∀ h', h'.get? s.heap.objs.size = some o → (∀ b o, s.heap.get? b = some o → h'.get? b = some o) → ItR h' s.heap.objs.size 0 ik) → o.isFreed = false → IterMade ik s (.ref s.heap.objs.size) { s with heap := s.heap.push o } := fun o h hf =>
    ⟨_, _, rfl, rfl, h _ (Heap.get?_push_size _ hf) (fun b o e => Heap.get?_push_of_some _ e), fun b o e => Heap.get?_push_of_some _ e, get?_size _⟩
  cases x with
  | ref a =>
    cases hv
    simp only [iterK] at hi
    split at hi
    · rename_i vs ha
      cases hi
      refine hide fun Pz bkz => ?_
      obtain ⟨items, n, e, _⟩ := R.at_ _ _ ha
      refine bkz ?_
      exact wpAny_pyIter_list (items := items) ⟨_, e, rfl, n, rfl⟩ (fin _ (fun h' e' _ => ⟨_, e', rfl, rfl⟩) rfl)
    · rename_i kvs ep ha
      cases hi
      obtain ⟨ys, hD, hk, _, hs⟩ := R.at_ _ _ ha
      have hlen : ys.length = kvs.length := by simpa using congrArg List.length hk
      exact wpAny_pyIter_dict hs hD (fin _ (fun h' e' _ => ⟨_, e', rfl, by rw [hlen]; rfl⟩) rfl)
    · cases hi
  | str y =>
    obtain ⟨t, rfl⟩ := hv
    simp only [iterK] at hi
    split at hi
    · rename_i ha
      cases hi
      exact wpAny_pyIter_ascii ha (fin _ (fun h' e' _ => .inr (.inl ⟨y, t, ⟨_, e', rfl, rfl⟩, rfl⟩)) rfl)
    · cases hi
  | tup vs =>
    obtain ⟨a, ws, rfl, ht, hr⟩ := hv
    cases hi
    refine wpAny_pyIter_tuple ht (fin _ (fun h' e' k => .inl ⟨a, ws, ⟨_, e', rfl, rfl⟩, (TK.of_keeps k).tup ht, hr.mono (TK.of_keeps k)⟩) rfl)
  | rng n =>
    obtain ⟨a, t, u, w, rfl, hr, hn⟩ := hv
    cases hi
    refine wpAny_pyIter_range hr (small_nat hn) (fin _ (fun h' e' k => .inr (.inr ⟨0, n, ?_, by simp [upTo]⟩)) rfl)
    rw [rangeSize_nat] at e'
    simpa using e'
  | vals dd =>
    obtain ⟨a, rfl, hr⟩ := hv
    simp only [iterK] at hi
    split at hi
    · rename_i kvs ep ha
      cases hi
      obtain ⟨ys, hD, hk, _, hs⟩ := R.at_ _ _ ha
      have hlen : ys.length = kvs.length := by simpa using congrArg List.length hk
      exact wpAny_pyIter_values hr hD (fin _ (fun h' e' _ => ⟨_, e', rfl, by rw [hlen]; rfl⟩) rfl)
    · cases hi
  | _ => cases hi
theorem letGo_ok {I : Addr} {i : Nat} {ik : IK} {target : Expr} {v : Value} {s : Shared} {Q : Unit → Shared → Prop} {E : Value → Shared → Prop} (it : ItR s.heap I i ik) (h : Q () s) : wpAny c.M A (letOwnedTupleGo target (.ref I) v) Q E s := by
  have key : ∃ o n vs, s.heap.get? I = some o ∧ o.cls = .type n ∧ o.data = .fields vs ∧ ["enumerate", "zip", "dict_itemiterator", "dict_reverseitemiterator", "odict_iterator", "itertools.zip_longest", "itertools.pairwise"].contains n = false := by
    cases ik with
    | list l => obtain ⟨o, e, a, b⟩ := it; exact ⟨o, _, _, e, a, b, by decide⟩
    | keys d n ep => obtain ⟨o, e, a, b⟩ := it; exact ⟨o, _, _, e, a, b, by decide⟩
    | vals d n ep => obtain ⟨o, e, a, b⟩ := it; exact ⟨o, _, _, e, a, b, by decide⟩
    | fixed xs =>
      rcases it with ⟨t, ws, ⟨o, e, a, b⟩, y, z⟩ | ⟨x, t, ⟨o, e, a, b⟩, y⟩ | ⟨a, n, e, y⟩
      · exact ⟨o, _, _, e, a, b, by decide⟩
      · exact ⟨o, _, _, e, a, b, by decide⟩
      · exact ⟨_, _, _, e, rfl, rfl, by decide⟩
  obtain ⟨o, n, vs, e, hc, hd, hn⟩ := key
  have body : ∀ a, wpAny c.M A (do
      let o ← load I
      match o.cls, o.data with
        | Value.type n, Data.fields vs =>
          if (["enumerate", "zip", "dict_itemiterator", "dict_reverseitemiterator", "odict_iterator", "itertools.zip_longest", "itertools.pairwise"].contains n && vs[0]? == some (rawInt (a : Addr))) = true then do
            rule "for.unpacks-the-owned-tuple"
            updateField I 0 Value.none
          else pure ()
        | x, x_1 => pure ()) Q E s := fun a => by
    refine wpAny_bind (wpAny_load e ?_)
    rw [hc, hd]
    dsimp only
    rw [hn]
    exact wpAny_pure h
  unfold letOwnedTupleGo
  split
  · cases v <;> first | exact body _ | exact wpAny_pure h
  · cases v <;> first | exact body _ | exact wpAny_pure h
  · exact wpAny_pure h

def nameE : Expr → Option Str
  | .Name y _ => some y
  | _ => none
def twoE : List Expr → Option (Str × Str)
  | [a, b] => (nameE a).bind fun x => (nameE b).map fun y => (x, y)
  | _ => none
def pairE : Expr → Option (Str × Str)
  | .Tuple es _ _ => twoE es
  | _ => none
def tgtNames (t : Expr) : List Str := ((nameE t).map fun y => [y]).getD (((pairE t).map fun p => [p.1, p.2]).getD [])
def twoV : V → Option (V × V)
  | .tup [x, y] => some (x, y)
  | _ => none
def asgV (t : Expr) (x : V) (m : Map) : Option Map := match tgtNames t with
  | [y] => some (set m y x)
  | [a, b] => (twoV x).map fun p => set (set m a p.1) b p.2
  | _ => none
def tgtOk (env : Env) (t : Expr) : Prop := match tgtNames t with
  | [y] => Storable env y
  | [a, b] => Storable env a ∧ Storable env b
  | _ => False
theorem nameE_inv {t : Expr} {y : Str} (h : nameE t = some y) : ∃ p, t = .Name y p := by
  cases t <;> cases h
  exact ⟨_, rfl⟩
theorem pairE_inv {t : Expr} {p : Str × Str} (h : pairE t = some p) : ∃ pa pb k pos, t = .Tuple [.Name p.1 pa, .Name p.2 pb] k pos := by
  obtain ⟨es, k, pos, rfl⟩ : ∃ es k pos, t = .Tuple es k pos := by
    cases t <;> first | exact ⟨_, _, _, rfl⟩ | cases h
  replace h : twoE es = some p := h
  match es, h with
  | [a, b], h =>
    obtain ⟨x, h1, h3⟩ := Option.bind_eq_some_iff.mp h
    obtain ⟨y, h2, h4⟩ := Option.map_eq_some_iff.mp h3
    obtain ⟨pa, rfl⟩ := nameE_inv h1
    obtain ⟨pb, rfl⟩ := nameE_inv h2
    subst h4
    exact ⟨pa, pb, k, pos, rfl⟩
theorem tgt_one {t : Expr} {y : Str} (h : tgtNames t = [y]) : ∃ p, t = .Name y p := by
  unfold tgtNames at h
  cases e : nameE t with
  | some z => rw [e] at h; cases h; exact nameE_inv e
  | none => rw [e] at h; cases e2 : pairE t with
    | some z => rw [e2] at h; cases h
    | none => rw [e2] at h; cases h
theorem tgt_two {t : Expr} {a b : Str} (h : tgtNames t = [a, b]) : ∃ pa pb k pos, t = .Tuple [.Name a pa, .Name b pb] k pos := by
  unfold tgtNames at h
  cases e : nameE t with
  | some z => rw [e] at h; cases h
  | none => rw [e] at h; cases e2 : pairE t with
    | some z => rw [e2] at h; cases h; exact pairE_inv e2
    | none => rw [e2] at h; cases h
theorem twoV_inv {x : V} {p : V × V} (h : twoV x = some p) : x = .tup [p.1, p.2] := by
  obtain ⟨vs, rfl⟩ : ∃ vs, x = .tup vs := by
    cases x <;> first | exact ⟨_, rfl⟩ | cases h
  match vs, h with
  | [a, b], h => cases h; rfl
theorem tgt_cases {env : Env} {t : Expr} {x : V} {m m' : Map} (h : tgtOk env t) (e : asgV t x m = some m') : (∃ y p, t = .Name y p ∧ Storable env y ∧ m' = set m y x) ∨ ∃ a pa b pb k pos x₁ x₂, t = .Tuple [.Name a pa, .Name b pb] k pos ∧ x = .tup [x₁, x₂] ∧ Storable env a ∧ Storable env b ∧ m' = set (set m a x₁) b x₂ := by
  unfold tgtOk at h
  unfold asgV at e
  generalize hn : tgtNames t = ns at h e
  match ns, hn, h, e with
  | [y], hn, h, e => cases e; obtain ⟨p, rfl⟩ := tgt_one hn; exact .inl ⟨y, p, rfl, h, rfl⟩
  | [a, b], hn, h, e =>
    refine hide fun Pz bkz => ?_
    obtain ⟨pa, pb, k, pos, rfl⟩ := tgt_two hn
    obtain ⟨p, h1, h2⟩ := Option.map_eq_some_iff.mp e
    refine bkz ?_
    exact .inr ⟨a, pa, b, pb, k, pos, p.1, p.2, rfl, twoV_inv h1, h.1, h.2, h2.symm⟩
def lives (env : Env) (y : Str) (b : Addr) : Prop := (env.kindOf y = some .local ∧ b = env.locals) ∨ (env.kindOf y ≠ some .local ∧ env.cells.lookup y = some b)
def Stored (c : Cx) (env : Env) (t : Expr) (H : AH) (s : Shared) (m' : Map) (s' : Shared) : Prop := Rep c H s' ∧ FrameAt c env m' H s'.heap ∧ StepF env H s H s' ∧ ∀ b o, s.heap.get? b = some o → (∀ y ∈ tgtNames t, ¬ lives env y b) → s'.heap.get? b = some o
theorem asg_ok {t : Expr} {x : V} {v : Value} {m' : Map} {s : Shared} {E : Value → Shared → Prop} (hh : A.handled = none) (R : Rep c H s) (F : FrameAt c env m H s.heap) (hv : VR s.heap x v) (ht : tgtOk env t) (e : asgV t x m = some m') :
    wpAny c.M A (assign t env v) (fun _ s' => Stored c env t H s m' s') E s := by
  rcases tgt_cases ht e with ⟨y, p, rfl, ht, rfl⟩ | ⟨a, pa, b, pb, k, pos, x₁, x₂, rfl, rfl, ha, hb, rfl⟩
  · exact wpAny_assign_Name (wpAny_mono (store_ok R F hv ht) (fun _ s' ⟨a, b, d, k⟩ => ⟨a, b, d, fun b' o e h => k b' o e (fun h1 h2 => h _ (List.mem_singleton.mpr rfl) (.inl ⟨h1, h2⟩)) fun h1 h2 => h _ (List.mem_singleton.mpr rfl) (.inr ⟨h1, h2⟩)⟩) fun _ _ h => h)
  · refine hide fun Pz bkz => ?_
    obtain ⟨T, ws, rfl, hT, hr⟩ := hv
    obtain ⟨w₁, ws', hw, hv1, w₂, ws'', rfl, hv2, hnil⟩ := hr
    refine bkz ?_
    cases hnil
    have hws : ws = #[w₁, w₂] := by
      apply Array.toList_inj.mp; rw [hw]
    subst hws
    refine wpAny_assign_Tuple hh hT (by simp [assignEach]) (by simp [assignEach]) fun h₁ k₁ => ?_
    have kk : ∀ b o, s.heap.get? b = some o → h₁.get? b = some o := fun b o e => k₁ b o (Nat.ne_of_lt (Heap.lt_size e)) e
    have R₁ : Rep c H { s with heap := h₁ } := R.silent kk rfl rfl
    have st₁ : Step H s H { s with heap := h₁ } := .silent kk
    have F₁ := F.step R st₁
    show wpAny _ A (assignInOrder [fun v => assign (.Name a pa) env v, fun v => assign (.Name b pb) env v] [w₁, w₂]) _ E _
    unfold assignInOrder
    refine wpAny_bind (wpAny_holding (wpAny_assign_Name (wpAny_mono (store_ok R₁ F₁ (hv1.mono (TK.of_keeps kk)) ha) (fun _ s₂ ⟨R₂, F₂, x₂, k₂⟩ => ?_) fun _ _ h => h)))
    unfold assignInOrder
    refine wpAny_bind (wpAny_holding (wpAny_assign_Name (wpAny_mono (store_ok R₂ F₂ (hv2.mono ((TK.of_keeps kk).trans (F₁.tk R₁ x₂))) hb) (fun _ s₃ ⟨R₃, F₃, x₃, k₃⟩ => ?_) fun _ _ h => h)))
    unfold assignInOrder
    exact wpAny_pure ⟨R₃, F₃, (st₁.toF.trans x₂).trans x₃, fun b' o e h => k₃ b' o (k₂ b' o (kk b' o e) (fun h1 h2 => h a (show a ∈ [a, b] from List.mem_cons_self ..) (.inl ⟨h1, h2⟩)) fun h1 h2 => h a (show a ∈ [a, b] from List.mem_cons_self ..) (.inr ⟨h1, h2⟩)) (fun h1 h2 => h b (show b ∈ [a, b] from List.mem_cons_of_mem _ (List.mem_singleton.mpr rfl)) (.inl ⟨h1, h2⟩)) fun h1 h2 => h b (show b ∈ [a, b] from List.mem_cons_of_mem _ (List.mem_singleton.mpr rfl)) (.inr ⟨h1, h2⟩)⟩

def forP (st : AH → Prop) (turn : V → Map → AH → (Fl → Map → AH → Prop) → Prop) (P : Fl → Map → AH → Prop) : List V → Map → AH → Prop
  | [], m, H => st H ∧ P .next m H
  | x :: r, m, H => st H ∧ turn x m H fun f m' H' => match f with
    | .next | .cont => forP st turn P r m' H'
    | .brk => P .next m' H'
    | .ret v => P (.ret v) m' H'
inductive ForJ (c : Cx) (env : Env) (turn : V → Map → AH → (Fl → Map → AH → Prop) → Prop) (P : Fl → Map → AH → Prop) (ik : IK) (xs : List V) (I : Addr) (H : AH) (s : Shared) (k : Nat) (s' : Shared) : Prop
  | mk (m' : Map) (H' : AH) (i : Nat) (rest : List V) (e : k = rest.length + 1) (f : xs.drop i = rest) (l : i ≤ xs.length) (t : forP (fun H => ik.items H = some xs) turn P rest m' H') (a : ItR s'.heap I i ik) (r : Rep c H' s') (F : FrameAt c env m' H' s'.heap) (z : StepF env H s H' s') (n : H' I = none)
theorem awS_For {target iter : Expr} {body : List Stmt} (hh : q = .quiet) (hs : ∀ x, foldedSetIterable iter env x = pure x) (ht : tgtOk env target)
    (h : awE c q d A env iter m H (fun x H₁ => ∃ ik xs, iterK H₁ x = some ik ∧ forP (fun H => ik.items H = some xs) (fun x m H K => ∃ m₁, asgV target x m = some m₁ ∧ awSs c q d A env body m₁ H K X) P xs m H₁) fun k H' => X k m H') :
    awS c q d A env (.For target iter body [] pos) m H P X := by
  intro s S
  have hq : A.handled = none := S.ok.quiet hh
  refine wpAny_For (awT_then h S.toFRep (fun x H₁ s₁ v ⟨ik, xs, hik, hfor⟩ F₁ hv x₁ => ?_) fun _ _ o => o.toS S.toFRep) hs
  refine wpAny_mono (iter_ok (E := OutSX c env H s X) F₁.rep hv hik) (fun it s₂ ⟨I, h₂, e1, e2, it₀, k₂, hI⟩ => ?_) fun _ _ e => e
  subst e1 e2
  have R₂ : Rep c H₁ { s₁ with heap := h₂ } := F₁.rep.silent k₂ rfl rfl
  have y₂ : Step H₁ s₁ H₁ { s₁ with heap := h₂ } := .silent k₂
  have S₁ := S.step F₁.rep x₁
  have S₂ := S₁.step R₂ y₂
  have HI : H₁ I = none := F₁.rep.fresh hI
  have gI : c.g.get? I = none := F₁.rep.gnone hI
  refine hide fun Pz bkz => ?_
  obtain ⟨mL, ⟨oL, _, _, hL, _⟩, _⟩ := id F₁.fr.loc
  refine bkz ?_
  have nL : I ≠ env.locals := fun e => by rw [e, hL] at hI; cases hI
  have nC : ∀ k ∈ env.cells, I ≠ k.2 := fun k hk e => by
    obtain ⟨_, ⟨v₀, o, e', _⟩, _⟩ := F₁.fr.cfree k hk
    rw [e, e'] at hI; cases hI
  have noted : ∀ {e s'}, OutSX c env H s X e s' → notedBy c.M A env (fun e s' => cameBackBy c.M A env (OutSX c env H s X) e s') e s' := fun o => noted_back S o
  refine codeAny_forLoop_any (ForJ c env (fun x m H K => ∃ m₁, asgV target x m = some m₁ ∧ awSs c q d A env body m₁ H K X) P ik xs I H s) ?_ (xs.length + 1)
    ⟨m, H₁, 0, xs, rfl, rfl, Nat.zero_le _, hfor, it₀, R₂, S₂.fr, x₁.toF.trans y₂.toF, HI⟩
  rintro k s₃ ⟨m₃, H₃, i, rest, rfl, hdrop, hle, hfor, it₃, R₃, F₃, x₃, HI₃⟩
  have S₃ := S.stepF R₃ F₃ x₃
  cases rest with
  | nil =>
    obtain ⟨hst, hp⟩ := hfor
    refine wpAny_mono (next_end (E := OutSX c env H s X) hq R₃ it₃ HI₃ hst (List.drop_eq_nil_iff.mp hdrop)) (fun r s₄ ⟨h₄, t₄, e1, e2, o₄⟩ => ?_) fun _ _ o => noted o
    subst e1 e2
    have R₄ : Rep c H₃ { s₃ with heap := h₄, toks := t₄ } := o₄.rep R₃ HI₃ gI it₃.rec
    have x₄ : StepF env H s H₃ { s₃ with heap := h₄, toks := t₄ } := x₃.only o₄ (x₁.old hI) fun _ => trivial
    have F₄ : FrameAt c env m₃ H₃ h₄ := F₃.only o₄ it₃.rec nL nC
    exact wpAny_execs_nil ⟨.next, m₃, H₃, hp, rfl, R₄, F₄, x₄⟩
  | cons x rest =>
    refine hide fun Pz bkz => ?_
    obtain ⟨hst, m₁, hm₁, hbody⟩ := hfor
    refine bkz ?_
    have hx : xs[i]? = some x := by
      have := congrArg (·[0]?) hdrop
      simpa using this
    refine wpAny_mono (next_item (E := OutSX c env H s X) R₃ it₃ HI₃ hst hx) (fun r s₄ ⟨v₄, h₄, t₄, e1, e2, hv₄, it₄, o₄⟩ => ?_) fun _ _ o => noted o
    subst e1 e2
    have R₄ : Rep c H₃ { s₃ with heap := h₄, toks := t₄ } := o₄.rep R₃ HI₃ gI it₃.rec
    have x₄ : StepF env H s H₃ { s₃ with heap := h₄, toks := t₄ } := x₃.only o₄ (x₁.old hI) fun _ => trivial
    have F₄ : FrameAt c env m₃ H₃ h₄ := F₃.only o₄ it₃.rec nL nC
    refine letGo_ok (s := { s₃ with heap := h₄, toks := t₄ }) it₄ ?_
    refine wpAny_mono (asg_ok (E := fun _ _ => False) hq R₄ F₄ hv₄ ht hm₁) (fun _ s₅ ⟨R₅, F₅, x₅, _⟩ => ?_) fun _ _ e => e.elim
    have x₅' := x₄.trans x₅
    have S₅ := S.stepF R₅ F₅ x₅'
    refine hide fun Pz bkz => ?_
    obtain ⟨oI, vI, eI, dI⟩ := it₄.there
    refine bkz ?_
    have keepI : ∀ {H' s'}, StepF env H₃ { s₃ with heap := h₄, toks := t₄ } H' s' → H' I = none ∧ ItR s'.heap I (i + 1) ik := fun {H' s'} y => by
      refine ⟨y.free HI₃ eI, it₄.keeps (fun o e ⟨vs, hd⟩ => ?_) (F₄.tk R₄ y)⟩
      obtain ⟨o', e', k'⟩ := y.kept I o e HI₃ nL nC
      rw [k'.eq fun es n z => by rw [hd] at z; cases z] at e'
      exact e'
    refine wpAny_mono (hbody s₅ S₅) (fun f s₆ ⟨g, m₆, H₆, hp, hf, R₆, F₆, x₆⟩ => ?_) fun _ _ o => noted (o.from x₅')
    obtain ⟨HI₆, it₆⟩ := keepI (x₅.trans x₆)
    have x₆' := x₅'.trans x₆
    have hd' : xs.drop (i + 1) = rest := by
      rw [← List.drop_drop, hdrop]; rfl
    have hlt : i < xs.length := (List.getElem?_eq_some_iff.mp hx).1
    cases g with
    | next => cases hf; exact ⟨rest.length + 1, by simp, m₆, H₆, i + 1, rest, rfl, hd', hlt, hp, it₆, R₆, F₆, x₆', HI₆⟩
    | cont => cases hf; exact ⟨rest.length + 1, by simp, m₆, H₆, i + 1, rest, rfl, hd', hlt, hp, it₆, R₆, F₆, x₆', HI₆⟩
    | brk => cases hf; exact ⟨.next, m₆, H₆, hp, rfl, R₆, F₆, x₆'⟩
    | ret w => obtain ⟨u, rfl, hu⟩ := hf; exact ⟨.ret w, m₆, H₆, hp, ⟨u, rfl, hu⟩, R₆, F₆, x₆'⟩
end
def KwR (h : Heap) (kw : List (Str × V)) (kvs : List (Str × Value)) : Prop := kw.map (·.1) = kvs.map (·.1) ∧ VRs h (kw.map (·.2)) (kvs.map (·.2))
def OutR (c : Cx) (H : AH) (s : Shared) (P : V → AH → Prop) (X : Exc → AH → Prop) (r : Result) (s' : Shared) : Prop := match r with
  | .ok (.ret v) => OutE c H s P v s'
  | .ok _ => False
  | .error e => OutX c none H s X e s'
def callP (c : Cx) (d : Nat) (f : Value) (args : List V) (kw : List (Str × V)) (H : AH) (P : V → AH → Prop) (X : Exc → AH → Prop) : Prop :=
  ∀ A s vs kvs, BRep c .quiet d A H s → VRs s.heap args vs → KwR s.heap kw kvs → codeAny c.M A (.call f ⟨vs, kvs⟩) (OutR c H s P X) s
section
variable {c : Cx} {q : Md} {d : Nat} {A : Around} {env : Env} {m : Map} {H : AH} {K : Frag} {p : Program} {loose : List Str} {mg mb : Str → Option Value}
  {name qual : Str} {params : Arguments} {body : List Stmt} {scope : Scope} {dV kV doc pm cdv ct oc : Value} {an od : Option Addr} {osl : Array (Option Value)} {f : Addr}
def mapOf (binds : List (Str × V)) : Map := fun y => binds.lookup y
theorem bindL_other {kindOf : Str → Option NameKind} : ∀ {bs : List (Str × Value)} {m₀ : Str → Option Value} {x : Str}, x ∉ bs.map (·.1) → bindL kindOf bs m₀ x = m₀ x
  | [], _, _, _ => rfl
  | (n, v) :: r, m₀, x, h => by
    simp only [List.map_cons, List.mem_cons, not_or] at h
    unfold bindL
    rw [bindL_other h.2]
    split
    · exact if_neg h.1
    · rfl
theorem bindL_mem {kindOf : Str → Option NameKind} : ∀ {bs : List (Str × Value)} {m₀ : Str → Option Value} {x : Str} {v : Value}, (bs.map (·.1)).Nodup → (x, v) ∈ bs → kindOf x = some .local → bindL kindOf bs m₀ x = some v
  | (n, w) :: r, m₀, x, v, hn, hm, hk => by
    simp only [List.map_cons, List.nodup_cons] at hn
    unfold bindL
    rcases List.mem_cons.mp hm with e | hm
    · cases e
      rw [bindL_other hn.1, if_pos hk]
      exact if_pos rfl
    · exact bindL_mem hn.2 hm hk
theorem bindC_other {kindOf : Str → Option NameKind} : ∀ {bs : List (Str × Value)} {m₀ : Str → Option Value} {x : Str}, x ∉ bs.map (·.1) → bindC kindOf bs m₀ x = m₀ x
  | [], _, _, _ => rfl
  | (n, v) :: r, m₀, x, h => by
    simp only [List.map_cons, List.mem_cons, not_or] at h
    unfold bindC
    rw [bindC_other h.2]
    split
    · rfl
    · exact if_neg h.1
theorem bindC_mem {kindOf : Str → Option NameKind} : ∀ {bs : List (Str × Value)} {m₀ : Str → Option Value} {x : Str} {v : Value}, (bs.map (·.1)).Nodup → (x, v) ∈ bs → kindOf x ≠ some .local → bindC kindOf bs m₀ x = some v
  | (n, w) :: r, m₀, x, v, hn, hm, hk => by
    simp only [List.map_cons, List.nodup_cons] at hn
    unfold bindC
    rcases List.mem_cons.mp hm with e | hm
    · cases e
      rw [bindC_other hn.1, if_neg hk]
      exact if_pos rfl
    · exact bindC_mem hn.2 hm hk
theorem binds_rel {h : Heap} : ∀ {binds : List (Str × V)} {bs : List (Str × Value)} {x : Str} {u : V}, bs.map (·.1) = binds.map (·.1) → VRs h (binds.map (·.2)) (bs.map (·.2)) → (x, u) ∈ binds → ∃ v, (x, v) ∈ bs ∧ VR h u v
  | (n, w) :: r, [], x, u, h1, _, _ => by simp at h1
  | (n, w) :: r, (n', w') :: r', x, u, h1, h2, hm => by
    simp only [List.map_cons, List.cons.injEq] at h1
    obtain ⟨y, ys, he, a, b⟩ := h2
    simp only [List.map_cons, List.cons.injEq] at he
    obtain ⟨rfl, rfl⟩ := he
    rcases List.mem_cons.mp hm with e | hm
    · cases e
      exact ⟨w', by rw [← h1.1]; exact List.mem_cons_self .., a⟩
    · obtain ⟨v, a', b'⟩ := binds_rel h1.2 b hm
      exact ⟨v, List.mem_cons_of_mem _ a', b'⟩
theorem lookup_of_mem_nodup' {β : Type} : ∀ {l : List (Str × β)} {x : Str} {k : β}, (l.map (·.1)).Nodup → (x, k) ∈ l → l.lookup x = some k
  | (y, b) :: r, x, k, hn, hm => by
    simp only [List.map_cons, List.nodup_cons] at hn
    rw [List.lookup_cons]
    rcases List.mem_cons.mp hm with e | hm
    · cases e; simp
    · have : x ≠ y := fun q => hn.1 (by rw [← q]; exact List.mem_map_of_mem (f := (·.1)) hm)
      rw [beq_eq_false_iff_ne.mpr this]
      exact lookup_of_mem_nodup' hn.2 hm
theorem leave_ok {s s' : Shared} {ex : Value} {X : Exc → Map → AH → Prop} {E : Value → Shared → Prop} (S : SRep c q d A env m H s) (o : OutSX c env H s X ex s') : wpAny c.M A (leaving env ex) (fun _ s'' => ∃ k m' H', X k m' H' ∧ ExcR none s.heap H' s''.heap k ex ∧ Rep c H' s'' ∧ StepF env H s H' s'') E s' := by
  unfold leaving
  refine wpAny_bind (wpAny_mono (note_ok (E := E) S o) (fun _ s₂ o₂ => ?_) fun _ _ e => e)
  obtain ⟨k, m', H', hx, ⟨e, ob, vs, T, oT, ts, rfl, hen, hHe, he, ⟨hcls, hic⟩, hd, h1, hTe, hTn, hHT, hT, ⟨hTc, hdT⟩, h3⟩, R, F, x⟩ := o₂
  have sz3 := (Array.getElem?_eq_some_iff.mp h3).1
  refine wpAny_setFlight_none he hd h1 hT hdT sz3 ?_
  have y : Nudgeable c [T] [] H' s₂.heap := ⟨fun b hb => by rw [List.mem_singleton.mp hb]; exact ⟨hHT, S.rep.gnone hTn, fun o ho => by rw [hT] at ho; cases ho; exact ⟨hTc, ts, hdT⟩⟩, fun b hb => nomatch hb⟩
  have z : Nudged [T] [] s₂.heap (s₂.heap.update T (Obj.mapFields (·.setIfInBounds 3 Value.none))) := Nudged.update _ _ (List.mem_singleton.mpr rfl) fun o ho => by rw [hT] at ho; cases ho; exact Obj.isFreed_of_fields (Obj.data_mapFields hdT _)
  refine ⟨k, m', H', hx, ⟨e, ob, vs, _, rfl, hen, hHe, (Heap.get?_update_ne _ _ _ _ hTe.symm).trans he, ⟨hcls, hic⟩, hd, h1, .inr ⟨T, _, _, rfl, hTe, hTn, hHT, Heap.get?_update_self _ hT (Obj.isFreed_of_fields (Obj.data_mapFields hdT _)), ⟨(congrArg immCls (Obj.cls_mapFields _ _)).trans hTc, Obj.data_mapFields hdT _⟩, .inl (by simp [sz3])⟩⟩, R.nudge z y, x.nudge z y fun b hb => by rw [List.mem_singleton.mp hb]; exact hTn⟩
theorem entered_srep {scope : Scope} {f L : Addr} {qual : Str} {cdv : Value} {binds : List (Str × V)} {bs : List (Str × Value)} {s s₁ : Shared} (B : BRep c .quiet (d + 1) A H s) (hL : s.heap.objs.size ≤ L)
    (x : InCallC s L (bindL (envOfC qual scope L f cdv).kindOf bs fun _ => none) (cellsFrom (L + 1) scope.names []) (bindC (envOfC qual scope L f cdv).kindOf bs fun _ => none) s₁)
    (hb1 : bs.map (·.1) = binds.map (·.1)) (hb2 : VRs s.heap (binds.map (·.2)) (bs.map (·.2)))
    (hkind : (binds.all fun y => scope.names.lookup y.1 == some .local || scope.names.lookup y.1 == some .cell) = true) (hnd : ((cellsFrom 0 scope.names []).map (·.1)).Nodup) (hbd : (binds.map (·.1)).Nodup) (hkd : scope.kind = .function) :
    SRep c .quiet d (A.deeper (envOfC qual scope L f cdv)) (envOfC qual scope L f cdv) (mapOf binds) H s₁ ∧ (∀ b o, s.heap.get? b = some o → s₁.heap.get? b = some o) := by
  obtain ⟨h₁, tk, rfl, kk⟩ := x.done
  have hbd' : (bs.map (·.1)).Nodup := by rw [hb1]; exact hbd
  have R₁ : Rep c H { s with heap := h₁, toks := tk } := B.rep.silent kk rfl rfl
  have st : Step H s H { s with heap := h₁, toks := tk } := .silent kk
  have tkk : TK s.heap h₁ := TK.of_keeps kk
  have big : ∀ b, s.heap.objs.size ≤ b → s.heap.get? b = none := fun b hb => Heap.get?_none_of_le hb
  have gL := big L hL
  have cbig : ∀ n k, (n, k) ∈ cellsFrom (L + 1) scope.names [] → s.heap.get? k = none := fun n k hk => big k (Nat.le_trans hL (Nat.le_of_lt (x.above n k hk)))
  have ndn : ((cellsFrom (L + 1) scope.names []).map (·.1)).Nodup := by rw [cellsFrom_names scope.names (L + 1) 0 [] [] rfl]; exact hnd
  have F : FrameAt c (envOfC qual scope L f cdv) (mapOf binds) H h₁ := by
    refine ⟨hkd, rfl, rfl, ⟨_, x.toInCall.ns, fun y v hy hk => ?_⟩, fun y v hy hk => ?_, B.rep.fresh gL, B.rep.gnone gL, fun k hk => ?_, ?_⟩
    · obtain ⟨u, hu, hv⟩ := binds_rel hb1 hb2 (mem_of_lookup hy)
      exact ⟨u, bindL_mem hbd' hu hk, hv.mono tkk⟩
    · obtain ⟨u, hu, hv⟩ := binds_rel hb1 hb2 (mem_of_lookup hy)
      have hkc : scope.names.lookup y = some .cell := by
        have := List.all_eq_true.mp hkind _ (mem_of_lookup hy)
        rcases Bool.or_eq_true_iff.mp this with z | z
        · exact absurd (beq_iff_eq.mp z) hk
        · exact beq_iff_eq.mp z
      obtain ⟨k, hk'⟩ := Option.isSome_iff_exists.mp (cellsFrom_some scope.names (L + 1) [] (.inl hkc))
      have hcell := x.cell y k hk'
      rw [bindC_mem hbd' hu hk] at hcell
      exact ⟨.inl hkc, k, u, hk', hcell, hv.mono tkk⟩
    · exact ⟨B.rep.fresh (cbig k.1 k.2 hk), ⟨_, x.cell k.1 k.2 (lookup_of_mem_nodup' ndn hk)⟩, B.rep.gnone (cbig k.1 k.2 hk)⟩
    · exact List.pairwise_map.mpr x.apart
  obtain ⟨l, hl, hf, hdict⟩ := B.ok.stack
  obtain ⟨hf', hdict'⟩ := frames_step (fun _ _ b _ o ho hH => st.kept b o ho hH) (fun b o hb hlt => st.free hb hlt) hf hdict
  obtain ⟨m₀, ⟨oL, es, ep, hoL, hLd, hr⟩, hm⟩ := F.loc
  refine ⟨⟨⟨⟨R₁, ?_, ?_, ?_, (fun hq => by cases hq), envOfC qual scope L f cdv :: l, ?_, ⟨?_, ⟨L, oL, rfl, B.rep.gnone gL, hoL, fun vs z => by rw [hLd] at z; cases z⟩, hf'⟩, fun e he L' hL' => ?_⟩, F⟩, rfl, ⟨l, ?_, fun e he L' hL' => ?_⟩⟩, kk⟩
  · have := B.ok.depth; show A.depth + 1 + 5 * d ≤ 900; omega
  · have := B.ok.units; show A.units + 3 + 50 * d ≤ 9000; omega
  · exact B.ok.quiet
  · exact Around.frames_deeper hl
  · show scope.kind ≠ .module; rw [hkd]; decide
  · rcases List.mem_cons.mp he with rfl | he
    · cases hL'; exact ⟨F.free, oL, es, ep, hoL, hLd⟩
    · exact hdict' e he L' hL'
  · exact Around.frames_deeper hl
  · obtain ⟨_, o, _, _, ho, _⟩ := hdict e he L' hL'
    refine ⟨fun z => ?_, fun k hk z => ?_⟩
    · have z' : L' = L := z
      rw [z', gL] at ho; cases ho
    · rw [z, cbig k.1 k.2 hk] at ho; cases ho
theorem enter (binds : List (Str × V)) (G : Gd K p loose mg mb c.g)
    (ho : K.lookup f = some ⟨oc, od, .func (fnOf name qual params body scope dV kV doc pm an cdv ct), osl⟩) (hcd : codeIn K cdv qual = true)
    {args : List V} {kw : List (Str × V)} {P : V → AH → Prop} {X : Exc → AH → Prop}
    (hb : ∀ s vs kvs, K.In s.heap → VRs s.heap args vs → KwR s.heap kw kvs → ∃ bs, BindsTo s (fnOf name qual params body scope dV kV doc pm an cdv ct) ⟨vs, kvs⟩ bs ∧ bs.map (·.1) = binds.map (·.1) ∧ VRs s.heap (binds.map (·.2)) (bs.map (·.2)))
    (hkind : (binds.all fun y => scope.names.lookup y.1 == some .local || scope.names.lookup y.1 == some .cell) = true) (hnd : ((cellsFrom 0 scope.names []).map (·.1)).Nodup) (hbd : (binds.map (·.1)).Nodup)
    (h : ∀ A L, awSs c .quiet d A (envOfC qual scope L f cdv) body (mapOf binds) H (fun fl m' H' => P (match fl with | .ret v => v | _ => .none) H') fun k _ H' => X k H')
    (hco : scope.isCoroutine = false := by rfl) (hgen : scope.isGenerator = false := by rfl) (hkd : scope.kind = .function := by rfl) : callP c (d + 1) (.ref f) args kw H P X := by
  intro A s vs kvs B hv hkw
  have X' := G.X.keeps B.rep.keep
  have T' := G.T.keeps B.rep.keep
  obtain ⟨bs, hbs, hb1, hb2⟩ := hb s vs kvs X' hv hkw
  have hroom : A.depth < recursionLimit := by
    have := B.ok.depth
    show A.depth < 1000
    omega
  refine codeAny_call_function hroom (X' _ _ ho) rfl hco hgen rfl (codeRec_of X' hcd) (hbs _ _ _ _ ?_)
  have hkind' : (bs.all fun y => scope.names.lookup y.1 == some .local || scope.names.lookup y.1 == some .cell) = true := by
    rw [List.all_eq_true] at hkind ⊢
    intro y hy
    have : y.1 ∈ binds.map (·.1) := by rw [← hb1]; exact List.mem_map_of_mem (f := (·.1)) hy
    obtain ⟨z, hz, e⟩ := List.mem_map.mp this
    rw [← e]; exact hkind z hz
  refine wpAny_newFunctionEnv_cells hkd (kindsX hkind' _) fun env' he s' x => ?_
  subst he
  refine ⟨T'.nolimit.keeps x.toInCall.keep, codeAny_func ?_⟩
  obtain ⟨S, kk⟩ := entered_srep (f := f) (cdv := cdv) (qual := qual) (d := d) B (Nat.le_refl _) x hb1 hb2 hkind hnd hbd hkd
  have toStep : ∀ {H' s''}, StepF (envOfC qual scope s.heap.objs.size f cdv) H s' H' s'' → Step H s H' s'' := fun {H' s''} y => by
    have ne : ∀ b o, s.heap.get? b = some o → b ≠ s.heap.objs.size ∧ ∀ k ∈ cellsFrom (s.heap.objs.size + 1) scope.names [], b ≠ k.2 := fun b o e =>
      ⟨Nat.ne_of_lt (Heap.lt_size e), fun k hk => Nat.ne_of_lt (Nat.lt_trans (Heap.lt_size e) (x.above k.1 k.2 hk))⟩
    refine ⟨fun b o e n => y.kept b o (kk b o e) n (ne b o e).1 (ne b o e).2, fun b o e n => ?_, fun b o e => y.alive b o (kk b o e)⟩
    have z := y.new b o e n
    cases e2 : s.heap.get? b with
    | none => rfl
    | some o2 => rw [kk b o2 e2] at z; cases z
  refine wpAny_mono (h _ _ s' S) (fun fl s'' ⟨g, m', H', hp, hf, R, F, y⟩ => ?_) fun e s'' o => ?_
  · cases g with
    | ret v => obtain ⟨u, rfl, hu⟩ := hf; exact ⟨v, H', hp, hu, R, toStep y⟩
    | next => cases hf; exact ⟨.none, H', hp, rfl, R, toStep y⟩
    | brk => cases hf; exact ⟨.none, H', hp, rfl, R, toStep y⟩
    | cont => cases hf; exact ⟨.none, H', hp, rfl, R, toStep y⟩
  · refine wpAny_mono (leave_ok (E := fun _ _ => False) S o) (fun _ s₃ ⟨k, m', H', hx, hex, R, y⟩ => ?_) fun _ _ z => z.elim
    refine ⟨k, H', hx, hex.from fun b hb => ?_, R, toStep y⟩
    cases e2 : s.heap.get? b with
    | none => rfl
    | some o2 => rw [kk b o2 e2] at hb; cases hb
end
def V.val? : V → Option Value
  | .ref a => some (.ref a)
  | .imm v => some v
  | _ => Option.none
theorem VR.val {h : Heap} {x : V} {u v : Value} (hx : x.val? = some u) (hv : VR h x v) : v = u := by
  cases x <;> cases hx <;> exact hv
inductive OutA (c : Cx) (H : AH) (s : Shared) (P : List V → List (Str × V) → AH → Prop) (a : Args) (s' : Shared) : Prop
  | mk (xs : List V) (kw : List (Str × V)) (H' : AH) (p : P xs kw H') (v : VRs s'.heap xs a.pos) (k : KwR s'.heap kw a.kw) (r : Rep c H' s') (z : Step H s H' s')
def awArgs (c : Cx) (q : Md) (d : Nat) (A : Around) (env : Env) (args : List Expr) (kws : List Keyword) (m : Map) (H : AH) (P : List V → List (Str × V) → AH → Prop) (X : Exc → AH → Prop) : Prop :=
  ∀ s pos f, FRep c q d A env m H s → wpAny c.M A (evalArgs f true (backTo pos (starEach args env)) (backToKw pos (keywordEach kws env))) (OutA c H s P) (OutX c env.frame H s X) s
section
variable {c : Cx} {q : Md} {d : Nat} {A : Around} {env : Env} {m : Map} {H : AH} {X : Exc → AH → Prop} {pos : Pos} {K : Frag} {p : Program} {loose : List Str} {mg mb : Str → Option Value}
def starV (H : AH) : V → Option (List V)
  | .tup vs => some vs
  | .ref a => match H a with
    | some (.list vs) => some vs
    | _ => none
  | _ => none
theorem star_ok {x : V} {v : Value} {xs : List V} {s : Shared} {E : Value → Shared → Prop} {Q : List Value → Shared → Prop} (R : Rep c H s) (hv : VR s.heap x v) (hx : starV H x = some xs) (hl : xs.length ≤ 1000)
    (h : ∀ vs h', (∀ b o, s.heap.get? b = some o → h'.get? b = some o) → VRs s.heap xs vs → Q vs { s with heap := h' }) : StarOf c.M A E v Q s := by
  have key : ∃ a o T items n, v = .ref a ∧ s.heap.get? a = some o ∧ o.cls = .type T ∧ (T = "list" ∨ T = "tuple") ∧ o.data = .seq items n ∧ VRs s.heap xs items.toList := by
    cases x with
    | tup vs =>
      cases hx
      obtain ⟨a, ws, rfl, ⟨o, e, hc, n, hd⟩, hr⟩ := hv
      exact ⟨a, o, _, ws, n, rfl, e, hc, .inr rfl, hd, hr⟩
    | ref a =>
      cases hv
      simp only [starV] at hx
      split at hx
      · rename_i vs ha
        cases hx
        obtain ⟨items, n, e, hr⟩ := R.at_ _ _ ha
        exact ⟨a, _, _, items, n, rfl, e, rfl, .inl rfl, rfl, hr⟩
      · cases hx
    | _ => cases hx
  obtain ⟨a, o, T, items, n, rfl, e, hc, hT, hd, hr⟩ := key
  have hsz : items.size ≤ sizeLine := by rw [← Array.length_toList, ← hr.length]; exact Nat.le_trans hl (by decide)
  have z : wpAny c.M A (collect (.ref a)) Q E s := wpAny_collect_seq a hT e hc hd (fun h' hk => h _ h' hk hr) hsz
  have hT' : s.TypeIs (.ref a) T := ⟨o, e, hc⟩
  unfold StarOf notIterableAtAll
  rcases hT with rfl | rfl
  · exact wpAny_bind (wpAny_specialOf hT' PySem.F.slot_list_iter.lookup (wpAny_pure ⟨rfl, z⟩))
  · exact wpAny_bind (wpAny_specialOf hT' PySem.F.slot_tuple_iter.lookup (wpAny_pure ⟨rfl, z⟩))
theorem awL_star {e : Expr} {es : List Expr} {pp : Pos} {P : List V → AH → Prop} (h : awE c q d A env e m H (fun x H₁ => ∃ xs, starV H₁ x = some xs ∧ xs.length ≤ 1000 ∧ awL c q d A env es m H₁ (fun ys H₂ => P (xs ++ ys) H₂) X) X) : awL c q d A env (.Starred e pp :: es) m H P X := by
  intro s pos F
  refine items_star (awT_then h F (fun x H₁ s₁ v ⟨xs, hx, hl, hp⟩ F₁ hv S => star_ok F₁.rep hv hx hl fun vs h' kk hr => ?_) fun _ _ o => o)
  have R₂ : Rep c H₁ { s₁ with heap := h' } := F₁.rep.silent kk rfl rfl
  have S₂ : Step H₁ s₁ H₁ { s₁ with heap := h' } := .silent kk
  have F₂ := F₁.step R₂ S₂
  refine wpAny_mono (hp _ pos F₂) (fun us s₃ ⟨ys, H₃, hq, hus, R₃, S₃⟩ => ⟨xs ++ ys, H₃, hq, (hr.mono ((F₁.rep.tk S₂).trans (R₂.tk S₃))).append hus, R₃, (S.trans S₂).trans S₃⟩) fun _ _ => OutX.from (S.trans S₂)
theorem kwR_nil {h : Heap} : KwR h [] [] := ⟨rfl, rfl⟩
theorem awArgs_nil {P : List V → List (Str × V) → AH → Prop} (h : P [] [] H) : awArgs c q d A env [] [] m H P X := fun s pos f F => evalArgs_nil3 ⟨[], [], H, h, rfl, kwR_nil, F.rep, .refl _ _⟩
theorem awArgs_plain {e : Expr} {es : List Expr} {P : List V → List (Str × V) → AH → Prop} (hs : ∀ e' p, e ≠ .Starred e' p) (h : awL c q d A env (e :: es) m H (fun xs H₁ => P xs [] H₁) X) : awArgs c q d A env (e :: es) [] m H P X := by
  intro s pos f F
  have he : starEach (e :: es) env = (false, eval e env) :: starEach es env := by
    cases e <;> first | rfl | exact absurd rfl (hs _ _)
  have z := h s pos F
  rw [he] at z ⊢
  exact evalArgs_plain (wpAny_mono z (fun vs s' ⟨xs, H', hp, hv, R, S⟩ => ⟨xs, [], H', hp, hv, kwR_nil, R, S⟩) fun _ _ o => o)
theorem awArgs_lone {e : Expr} {pp : Pos} {P : List V → List (Str × V) → AH → Prop} (h : awE c q d A env e m H (fun x H₁ => ∃ xs, starV H₁ x = some xs ∧ xs.length ≤ 1000 ∧ P xs [] H₁) X) : awArgs c q d A env [.Starred e pp] [] m H P X := by
  intro s pos f F
  refine ks_lone (awT_then h F (fun x H₁ s₁ v ⟨xs, hx, hl, hp⟩ F₁ hv S => star_ok F₁.rep hv hx hl fun vs h' kk hr => ?_) fun _ _ o => o)
  exact ⟨xs, [], H₁, hp, hr.mono (TK.of_keeps kk), kwR_nil, F₁.rep.silent kk rfl rfl, S.trans (.silent kk)⟩
theorem awArgs_kw {e ek : Expr} {es : List Expr} {n : Str} {kp : Pos} {P : List V → List (Str × V) → AH → Prop} (hs : ∀ e' p, e ≠ .Starred e' p)
    (h : awL c q d A env (e :: es) m H (fun xs H₁ => awE c q d A env ek m H₁ (fun y H₂ => P xs [(n, y)] H₂) X) X) : awArgs c q d A env (e :: es) [⟨some n, ek, kp⟩] m H P X := by
  intro s pos f F
  have he : starEach (e :: es) env = (false, eval e env) :: starEach es env := by
    cases e <;> first | rfl | exact absurd rfl (hs _ _)
  refine evalArgs_kw2 rfl (wpAny_mono (h s pos F) (fun vs s₁ ⟨xs, H₁, hp, hv, R, S⟩ => kwAll_cons ?_) fun _ _ o => o) he
  exact awT_then hp (F.step R S) (fun y H₂ s₂ u hq F₂ hu S₂ => kwAll_nil ⟨xs, [(n, y)], H₂, hq, hv.mono (R.tk S₂), ⟨rfl, u, [], rfl, hu, rfl⟩, F₂.rep, S.trans S₂⟩) fun _ _ => OutX.from S

def KeepOk (c : Cx) (f : Value) : Prop := ∀ h, (∀ b o, c.g.get? b = some o → h.get? b = some o) → ∃ k, (k = Keeper.frame ∨ k = Keeper.machine ∨ k = Keeper.boundFrame) ∧ Looks c.M h (keeperOf f) k
theorem keepOk_K {f : Value} (G : Gd K p loose mg mb c.g) (hk : keepIn K f = true) : KeepOk c f := fun h k => keeps_K hk h (G.X.keeps k)
theorem keepOk_builtin (id : String) : KeepOk c (.builtin id) := fun h k => ⟨.machine, .inr (.inl rfl), Looks.of_pure rfl⟩
theorem keepOk_type (n : String) : KeepOk c (.type n) := fun h k => ⟨.machine, .inr (.inl rfl), Looks.of_pure rfl⟩
def awCall (c : Cx) (q : Md) (d : Nat) (A : Around) (fl : Option Addr) (f : Value) (xs : List V) (kw : List (Str × V)) (H : AH) (P : V → AH → Prop) (X : Exc → AH → Prop) : Prop :=
  ∀ s vs kvs, BRep c q d A H s → VRs s.heap xs vs → KwR s.heap kw kvs → awT c A fl (call f vs kvs) H P X s
theorem ExcR.anyFl {fl : Option Addr} {h₀ : Heap} {H : AH} {h : Heap} {k : Exc} {ex : Value} (x : ExcR none h₀ H h k ex) : ExcR fl h₀ H h k ex := by
  obtain ⟨e, ob, vs, tb, a, b, c, d, f, g, i, j⟩ := x
  refine ⟨e, ob, vs, tb, a, b, c, d, f, g, i, j.imp id ?_⟩
  rintro ⟨T, oT, ts, a, b, c, d, f, g, r⟩
  refine ⟨T, oT, ts, a, b, c, d, f, g, r.imp id ?_⟩
  rintro ⟨L, z, _⟩; cases z
theorem awCall_of {fl : Option Addr} {f : Value} {xs : List V} {kw : List (Str × V)} {P : V → AH → Prop} (h : callP c d f xs kw H P X) : awCall c .quiet d A fl f xs kw H P X := fun s vs kvs B hv hk =>
  wpAny_call (codeAny_mono (h A s vs kvs B hv hk) fun r s' o => by
    cases r with
    | ok f => cases f <;> exact o
    | error e =>
      obtain ⟨k, H', a, b, r, z⟩ := o
      exact ⟨k, H', a, b.anyFl, r, z⟩)
theorem callWith_ok {f : Value} {first : List Value} {fs : List V} {args : List Expr} {kws : List Keyword} {P : V → AH → Prop} {s : Shared} (hk : KeepOk c f) (F : FRep c q d A env m H s) (hf : VRs s.heap fs first)
    (hst : (backToKw pos (keywordEach kws env)).any (·.1.isNone) = false) (hst2 : (backTo pos (starEach args env)).any (·.1) = true → kws = [])
    (h : awArgs c q d A env args kws m H (fun xs kw H₁ => awCall c q d A env.frame f (fs ++ xs) kw H₁ P X) X) : awT c A env.frame (callWith pos f first (backTo pos (starEach args env)) (backToKw pos (keywordEach kws env))) H P X s := by
  have key : wpAny c.M A (evalArgs f true (backTo pos (starEach args env)) (backToKw pos (keywordEach kws env))) (fun a s₁ => (∀ b o, c.g.get? b = some o → s₁.heap.get? b = some o) ∧ wpAny c.M A (call f (first ++ a.pos) a.kw) (OutE c H s P) (OutX c env.frame H s X) s₁) (OutX c env.frame H s X) s :=
    wpAny_mono (h s pos f F) (fun a s₁ ⟨xs, kw, H₁, hp, hv, hkw, R, S⟩ => ⟨R.keep, awT.from S (hp s₁ _ _ (F.toBRep.step R S) ((hf.mono (F.rep.tk S)).append hv) hkw)⟩) fun _ _ o => o
  cases hs : (backTo pos (starEach args env)).any (·.1) with
  | false => exact callWith_of (by rw [hs, hst]; rfl) hk key
  | true =>
    obtain rfl := hst2 hs
    exact ks_call hs hk key
theorem awE_Call {fe : Expr} {args : List Expr} {kws : List Keyword} {P : V → AH → Prop} (hfe : ∀ o n ap, fe ≠ .Attribute o n ap) (hst : ∀ pos, (backToKw pos (keywordEach kws env)).any (·.1.isNone) = false) (hst2 : ∀ pos, (backTo pos (starEach args env)).any (·.1) = true → kws = [])
    (h : awE c q d A env fe m H (fun x H₁ => ∃ f, x.val? = some f ∧ KeepOk c f ∧ awArgs c q d A env args kws m H₁ (fun xs kw H₂ => awCall c q d A env.frame f xs kw H₂ P X) X) X) : awE c q d A env (.Call fe args kws pos) m H P X := by
  intro s F
  have he : eval (.Call fe args kws pos) env = (do callWith pos (← eval fe env) [] (backTo pos (starEach args env)) (backToKw pos (keywordEach kws env))) := by
    cases fe <;> first | rfl | exact absurd rfl (hfe _ _ _)
  show wpAny _ _ (eval (.Call fe args kws pos) env) _ _ _
  rw [he]
  refine wpAny_bind (awT_then h F (fun x H₁ s₁ v ⟨f, hx, hk, hp⟩ F₁ hv S => ?_) fun _ _ o => o)
  obtain rfl := hv.val hx
  exact awT.from S (callWith_ok (fs := []) hk F₁ rfl (hst pos) (hst2 pos) (by simpa using hp))
theorem awCall_1 {fl : Option Addr} {f : Value} {x : V} {xs : List V} {kw : List (Str × V)} {P : V → AH → Prop} (h : awCall c q d A fl f (x :: xs) kw H P X) : awCall c q d A fl f ([x] ++ xs) kw H P X := h
inductive OutM (c : Cx) (H : AH) (s : Shared) (P : Value → List V → Prop) (fr : Value × List Value) (s' : Shared) : Prop
  | mk (fs : List V) (p : P fr.1 fs) (v : VRs s'.heap fs fr.2) (r : Rep c H s') (z : Step H s H s')
def awM (c : Cx) (q : Md) (d : Nat) (A : Around) (few : Bool) (x : V) (name : Str) (H : AH) (P : Value → List V → Prop) : Prop :=
  ∀ (E : Value → Shared → Prop) (o : Expr) (env : Env) s v, BRep c q d A H s → VR s.heap x v → wpAny c.M A (calleeOf few o env v name) (OutM c H s P) E s
theorem awE_Meth {few : Bool} {o : Expr} {name : Str} {apos : Pos} {args : List Expr} {kws : List Keyword} {P : V → AH → Prop} (hfew : methodCallForm (args.length + kws.length) (backTo pos (starEach args env)) (backToKw pos (keywordEach kws env)) = few) (hab : attributeBase o name env (eval o env) = eval o env) (hpos : (apos.endLine == pos.line) = true) (hst : ∀ pos, (backToKw pos (keywordEach kws env)).any (·.1.isNone) = false) (hst2 : ∀ pos, (backTo pos (starEach args env)).any (·.1) = true → kws = [])
    (h : awE c q d A env o m H (fun x H₁ => awM c q d A few x name H₁ fun f fs => KeepOk c f ∧ awArgs c q d A env args kws m H₁ (fun xs kw H₂ => awCall c q d A env.frame f (fs ++ xs) kw H₂ P X) X) X) : awE c q d A env (.Call (.Attribute o name apos) args kws pos) m H P X := by
  intro s F
  subst hfew
  show wpAny c.M A (do
    let ov ← attributeBase o name env (eval o env)
    standAt apos.atName
    methodCall o name apos pos env ov (args.length + kws.length) (backTo pos (starEach args env)) (backToKw pos (keywordEach kws env))) _ _ s
  rw [hab]
  refine wpAny_bind (awT_then h F (fun x H₁ s₁ v hp F₁ hv S => wpAny_bind (wpAny_standAt ?_)) fun _ _ o => o)
  unfold methodCall
  refine wpAny_bind (wpAny_holding (wpAny_mono (hp (OutX c env.frame H s X) o env s₁ v F₁.toBRep hv) (fun fr s₂ ⟨fs, ⟨hk, ha⟩, hf, R₂, S₂⟩ => ?_) fun _ _ e => e))
  have hmp : ∀ few, methodCallPos few o env apos pos = pure pos := fun few => by unfold methodCallPos; rw [hpos]; simp
  rw [hmp]
  refine wpAny_bind (wpAny_pure ?_)
  exact awT.from (S.trans S₂) (callWith_ok hk (F₁.step R₂ S₂) hf (hst pos) (hst2 pos) ha)
end
section
variable {c : Cx} {q : Md} {d : Nat} {A : Around} {env : Env} {m : Map} {H : AH} {P : V → AH → Prop} {X : Exc → AH → Prop} {pos : Pos} {fl : Option Addr} {K : Frag} {p : Program} {loose : List Str} {mg mb : Str → Option Value}
def typeV (H : AH) : V → Option String
  | .str _ => some "str"
  | .int _ => some "int"
  | .tup _ => some "tuple"
  | .ref a => match H a with
    | some (.list _) => some "list"
    | some (.dict _ _) => some "dict"
    | some (.set _) => some "set"
    | _ => none
  | _ => none
theorem typeV_ok {x : V} {v : Value} {T : String} {s : Shared} (R : Rep c H s) (hv : VR s.heap x v) (h : typeV H x = some T) : s.TypeIs v T := by
  cases x with
  | str y => cases h; obtain ⟨t, rfl⟩ := hv; exact typeIs_str _ _ _
  | int i => cases h; obtain ⟨t, rfl⟩ := hv; exact (rfl : typeOf (Value.int i t) = _)
  | tup vs => cases h; obtain ⟨a, ws, rfl, ⟨o, e, hc, _⟩, _⟩ := hv; exact ⟨o, e, hc⟩
  | ref a =>
    cases hv
    simp only [typeV] at h
    split at h <;> first | (rename_i ha; cases h) | cases h
    · obtain ⟨items, n, e, _⟩ := R.at_ _ _ ha; exact ⟨_, e, rfl⟩
    · obtain ⟨ys, ⟨o, es, e, hx, _⟩, _⟩ := R.at_ _ _ ha; exact ⟨o, e, hx.1⟩
    · obtain ⟨S, ⟨o, es, ep, t, e, hx, _⟩, _⟩ := R.at_ _ _ ha; exact ⟨o, e, hx.1⟩
  | _ => cases h
theorem typeV_nodict {x : V} {v : Value} {T : String} {s : Shared} (R : Rep c H s) (hv : VR s.heap x v) (h : typeV H x = some T) (hT : T ≠ "tuple") : ∀ a, v = .ref a → ∃ o, s.heap.get? a = some o ∧ o.dict = none := by
  intro b hb
  subst hb
  cases x with
  | str y => obtain ⟨t, hh⟩ := hv; cases hh
  | int i => obtain ⟨t, hh⟩ := hv; cases hh
  | tup vs => cases h; exact absurd rfl hT
  | ref a =>
    cases hv
    simp only [typeV] at h
    split at h <;> first | (rename_i ha; cases h) | cases h
    · obtain ⟨items, n, e, _⟩ := R.at_ _ _ ha; exact ⟨_, e, rfl⟩
    · obtain ⟨ys, ⟨o, es, e, hx, _⟩, _⟩ := R.at_ _ _ ha; exact ⟨o, e, hx.2.1⟩
    · obtain ⟨S, ⟨o, es, ep, t, e, hx, _⟩, _⟩ := R.at_ _ _ ha; exact ⟨o, e, hx.2.1⟩
  | _ => cases h
theorem awM_bi {x : V} {name : Str} {T id : String} {P : Value → List V → Prop} (hT : typeV H x = some T) (hne : T ≠ "tuple") (hp : PlainAttrs T) (hs : Slot T name id) (ht : typeOf (.builtin id) = pure (.type "method_descriptor")) (h : P (.builtin id) [x]) : awM c q d A true x name H P := by
  intro E o env s v B hv
  show wpAny c.M A (getMethod v name _) _ E s
  exact getMethod_builtin (typeV_ok B.rep hv hT) hp hs ht (typeV_nodict B.rep hv hT hne) ⟨[x], h, ⟨v, [], rfl, hv, rfl⟩, B.rep, .refl _ _⟩
theorem instAt_of {a C dd : Addr} {fs : List (Str × V)} {s : Shared} (R : Rep c H s) (h1 : H a = some (.inst C dd)) (h2 : H dd = some (.ns fs)) : ∃ es n, InstAt s.heap a (instObj C dd) C (some (dictOf es n)) ∧ Paired (fun f e => (∃ t, e.key = Value.str f.1 t) ∧ VR s.heap f.2 e.val) fs es := by
  obtain ⟨es, n, e, hp⟩ := R.at_ _ _ h2
  exact ⟨es, n, ⟨R.at_ _ _ h1, rfl, rfl, e⟩, hp⟩
theorem getL_of {h : Heap} {name : Str} : ∀ {fs : List (Str × V)} {es : List DictEntry}, Paired (fun f e => (∃ t, e.key = Value.str f.1 t) ∧ VR h f.2 e.val) fs es → match fs.lookup name with | some x => ∃ v, getL name es = some (some v) ∧ VR h x v | none => getL name es = some none
  | _, _, .nil => rfl
  | (n, x) :: fs, e :: es, .cons ⟨⟨t, hk⟩, hv⟩ r => by
    have ih := getL_of (name := name) r
    rw [List.lookup_cons]
    by_cases hn : name = n
    · subst hn
      simp only [beq_self_eq_true]
      exact ⟨e.val, by simp [getL, List.find?, hk, Value.isStr], hv⟩
    · have hb : (name == n) = false := beq_eq_false_iff_ne.mpr hn
      rw [hb]
      have hk' : e.key.isStr name = false := by rw [hk]; exact beq_eq_false_iff_ne.mpr fun z => hn z.symm
      have hr : e.refKey = false := by unfold DictEntry.refKey; rw [hk]
      have : getL name (e :: es) = getL name es := by
        unfold getL
        rw [List.find?_cons, hk', List.any_cons, hr, Bool.false_or]
      rw [this]
      exact ih
theorem awM_inst {a C dd f : Addr} {fs : List (Str × V)} {name : Str} {P : Value → List V → Prop} (G : Gd K p loose mg mb c.g) (h1 : H a = some (.inst C dd)) (h2 : H dd = some (.ns fs)) (hg : plainGet K C name = true)
    (hf : findIn K (.ref C) name = some (some (.ref f))) (ht : isFn K (.ref f) = true) (hl : fs.lookup name = none) (h : P (.ref f) [.ref a]) : awM c q d A true (.ref a) name H P := by
  intro E o env s v B hv
  cases hv
  obtain ⟨es, n, I, hp⟩ := instAt_of B.rep h1 h2
  have hg' := getL_of (name := name) hp
  rw [hl] at hg'
  show wpAny c.M A (getMethod (.ref a) name _) _ E s
  refine method_fn (G.X.keeps B.rep.keep) I (plainGet_of hg).1 (plainGet_of hg).2 hf (beq_iff_eq.mp ht) ?_ ⟨[.ref a], h, ⟨_, [], rfl, rfl, rfl⟩, B.rep, .refl _ _⟩
  show (lookIn name (dictOf es n)).map _ = _
  rw [lookIn_dict, hg']; rfl
theorem getAttr_inst {a C dd : Addr} {fs : List (Str × V)} {name : Str} {x : V} {attr : Option Value} {expr : Bool} (G : Gd K p loose mg mb c.g) (h1 : H a = some (.inst C dd)) (h2 : H dd = some (.ns fs)) (hg : plainGet K C name = true) (hh : hasDictIn K C = true)
    (ha : findIn K (.ref C) name = some attr) (hn : noGet K attr = true) (hl : fs.lookup name = some x) (hx : ∀ i, x ≠ .imm (.builtin i)) (h : P x H) : awO c q d A fl (fun vs => getAttr (vs.getD 0 .none) name expr) [.ref a] H P X := by
  intro s vs B hv
  obtain ⟨v, _, rfl, hv, rfl⟩ := hv
  cases hv
  obtain ⟨es, n, I, hp⟩ := instAt_of B.rep h1 h2
  have hg' := getL_of (name := name) hp
  rw [hl] at hg'
  obtain ⟨v, hv1, hv2⟩ := hg'
  refine get_value (G.X.keeps B.rep.keep) I (plainGet_of hg).1 (findObj_own hh ha hn hv1) ?_ (.tok B.rep hv2 h)
  cases v <;> try rfl
  rename_i i
  cases x with
  | imm u => cases hv2; exact absurd rfl (hx i)
  | none => cases hv2
  | bool b => cases hv2
  | ref a => cases hv2
  | int i => obtain ⟨t, z⟩ := hv2; cases z
  | str i => obtain ⟨t, z⟩ := hv2; cases z
  | tup i => obtain ⟨t, ws, z, _⟩ := hv2; cases z
  | rng i => obtain ⟨_, _, _, _, z, _⟩ := hv2; cases z
  | vals i => obtain ⟨t, z, _⟩ := hv2; cases z
theorem awE_Attr {o : Expr} {name : Str} (he : eval (.Attribute o name pos) env = (do let o' ← eval o env; standAt pos.atName; let r ← holding [o'] (getAttr o' name true); letTemporaryGo o o' r; pure r))
    (h : awE c q d A env o m H (fun x H₁ => awO c q d A env.frame (fun vs => getAttr (vs.getD 0 .none) name true) [x] H₁ P X) X) : awE c q d A env (.Attribute o name pos) m H P X := by
  intro s F
  exact Attribute_any_ (awT_then h F (fun x H₁ s₁ v hp F₁ hv S => awT.from S (hp s₁ [v] F₁.toBRep ⟨v, [], rfl, hv, rfl⟩)) fun _ _ o => o) he
theorem call_lower {x : Str} (hx : x.length ≤ 1000) (h : P (.str (Txt.lower x)) H) : awCall c q d A fl (.builtin "str.lower") [.str x] [] H P X := by
  intro s vs kvs B hv hk
  obtain ⟨v, _, rfl, ⟨t, rfl⟩, rfl⟩ := hv
  obtain ⟨hk, _⟩ := hk
  cases kvs with
  | nil => exact SCL.lower (Nat.le_trans hx (by decide)) fun _ => .tok (x := .str _) B.rep ⟨_, rfl⟩ h
  | cons _ _ => cases hk
theorem call_upper {x : Str} (hx : x.length ≤ 1000) (h : P (.str (Txt.upper x)) H) : awCall c q d A fl (.builtin "str.upper") [.str x] [] H P X := by
  intro s vs kvs B hv hk
  obtain ⟨v, _, rfl, ⟨t, rfl⟩, rfl⟩ := hv
  obtain ⟨hk, _⟩ := hk
  cases kvs with
  | nil => exact SCL.upper (Nat.le_trans hx (by decide)) fun _ => .tok (x := .str _) B.rep ⟨_, rfl⟩ h
  | cons _ _ => cases hk
theorem kvs_nil {h : Heap} {kvs : List (Str × Value)} (hk : KwR h [] kvs) : kvs = [] := by
  obtain ⟨hk, _⟩ := hk
  cases kvs with
  | nil => rfl
  | cons _ _ => cases hk
theorem call_append {a : Addr} {x : V} {vs : List V} (ha : H a = some (.list vs)) (hl : vs.length ≤ 100000) (h : P .none (upd H a (.list (vs ++ [x])))) : awCall c q d A fl (.builtin "list.append") [.ref a, x] [] H P X := by
  intro s ws kvs B hv hk
  obtain rfl := kvs_nil hk
  obtain ⟨u, _, rfl, hu, v, _, rfl, hv, rfl⟩ := hv
  cases hu
  obtain ⟨items, n, e, hr⟩ := B.rep.at_ _ _ ha
  refine append_at (hsz := by rw [← Array.length_toList, ← hr.length]; exact Nat.le_trans hl (by decide)) e fun h' hs hD => ?_
  have kk : ∀ b o, b ≠ a → s.heap.get? b = some o → h'.get? b = some o := fun b o hb e => (hs.2 b hb).trans e
  have tk : TK s.heap h' := fun b o e1 hc hd => kk b o (fun z => by subst z; rw [e] at e1; cases e1; cases hc) e1
  have or : OR c h' a (.list (vs ++ [x])) := ⟨items.push v, n + 1, hD, by rw [Array.toList_push]; exact (hr.mono tk).append ⟨v, [], rfl, hv.mono tk, rfl⟩⟩
  exact ⟨.none, _, h, rfl, B.rep.put (t := s.toks) ha kk or, .put ha kk or⟩
def noneV : V → Option Bool
  | .none => some true
  | .bool _ => some false
  | .int _ => some false
  | .str _ => some false
  | .ref _ => some false
  | .tup _ => some false
  | _ => none
theorem is_none {x : V} {b : Bool} (hx : noneV x = some b) (h : P (.bool b) H) : awO c q d A fl (fun vs => compareOp .Is (vs.getD 0 .none) (vs.getD 1 .none)) [x, .none] H P X := by
  intro s vs B hv
  obtain ⟨v, _, rfl, hv, u, _, rfl, hu, rfl⟩ := hv
  cases hu
  have key : PySem.plainIs v .none = true ∧ (v == Value.none) = b := by
    cases x with
    | none => cases hv; cases hx; exact ⟨rfl, rfl⟩
    | bool y => cases hv; cases hx; exact ⟨rfl, rfl⟩
    | int y => obtain ⟨t, rfl⟩ := hv; cases hx; exact ⟨rfl, rfl⟩
    | str y => obtain ⟨t, rfl⟩ := hv; cases hx; exact ⟨rfl, rfl⟩
    | ref y => cases hv; cases hx; exact ⟨rfl, rfl⟩
    | tup y => obtain ⟨t, ws, rfl, _⟩ := hv; cases hx; exact ⟨rfl, rfl⟩
    | _ => cases hx
  exact wpAny_is_plain key.1 (by show OutE c H s P (Value.bool (v == Value.none)) s; rw [key.2]; exact .here (x := .bool b) B.rep rfl h)
theorem isnot_none {x : V} {b : Bool} (hx : noneV x = some b) (h : P (.bool (!b)) H) : awO c q d A fl (fun vs => compareOp .IsNot (vs.getD 0 .none) (vs.getD 1 .none)) [x, .none] H P X := by
  intro s vs B hv
  obtain ⟨v, _, rfl, hv, u, _, rfl, hu, rfl⟩ := hv
  cases hu
  have key : PySem.plainIs v .none = true ∧ (v == Value.none) = b := by
    cases x with
    | none => cases hv; cases hx; exact ⟨rfl, rfl⟩
    | bool y => cases hv; cases hx; exact ⟨rfl, rfl⟩
    | int y => obtain ⟨t, rfl⟩ := hv; cases hx; exact ⟨rfl, rfl⟩
    | str y => obtain ⟨t, rfl⟩ := hv; cases hx; exact ⟨rfl, rfl⟩
    | ref y => cases hv; cases hx; exact ⟨rfl, rfl⟩
    | tup y => obtain ⟨t, ws, rfl, _⟩ := hv; cases hx; exact ⟨rfl, rfl⟩
    | _ => cases hx
  exact wpAny_isNot_plain key.1 (by show OutE c H s P (Value.bool (!(v == Value.none))) s; rw [key.2]; exact .here (x := .bool (!b)) B.rep rfl h)
theorem cmp_eq_str {x y : Str} (h : P (.bool (x == y)) H) : awO c q d A fl (fun vs => compareOp .Eq (vs.getD 0 .none) (vs.getD 1 .none)) [.str x, .str y] H P X := by
  intro s vs B hv
  obtain ⟨v, _, rfl, ⟨t, rfl⟩, u, _, rfl, ⟨t', rfl⟩, rfl⟩ := hv
  exact eq_str (.here (x := .bool _) B.rep rfl h)
theorem cmp_eq_int {x y : Int} (h : P (.bool (x == y)) H) : awO c q d A fl (fun vs => compareOp .Eq (vs.getD 0 .none) (vs.getD 1 .none)) [.int x, .int y] H P X := by
  intro s vs B hv
  obtain ⟨v, _, rfl, ⟨t, rfl⟩, u, _, rfl, ⟨t', rfl⟩, rfl⟩ := hv
  exact eq_int (.here (x := .bool _) B.rep rfl h)
theorem mod_ints {x y : Int} (hy : y ≠ 0) (h : P (.int (x.fmod y)) H) : awO c q d A fl (fun vs => binaryOp .Mod (vs.getD 0 .none) (vs.getD 1 .none)) [.int x, .int y] H P X := by
  intro s vs B hv
  obtain ⟨v, _, rfl, ⟨t, rfl⟩, u, _, rfl, ⟨t', rfl⟩, rfl⟩ := hv
  exact mod_int' hy (.tok (x := .int _) B.rep ⟨_, rfl⟩ h)
end
abbrev noX : Exc → AH → Prop := fun _ _ => False
theorem noX_elim {c : Cx} {fl : Option Addr} {H : AH} {s : Shared} {v : Value} {s' : Shared} {Pr : Prop} (o : OutX c fl H s noX v s') : Pr := by
  obtain ⟨_, _, f, _⟩ := o
  exact f.elim
def compItems (st : AH → Prop) (turn : V → Map → AH → List V → (Map → AH → List V → Prop) → Prop) : List V → Map → AH → List V → (Map → AH → List V → Prop) → Prop
  | [], m, H, acc, K => st H ∧ K m H acc
  | x :: r, m, H, acc, K => st H ∧ turn x m H acc fun m' H' acc' => compItems st turn r m' H' acc' K
def awTests (c : Cx) (q : Md) (d : Nat) (A : Around) (env : Env) (ifs : List Expr) (m : Map) (H : AH) (P : Bool → AH → Prop) : Prop := match ifs with
  | [] => P true H
  | [t] => awB c q d A env t m H P noX
  | _ => False
def compTurnP (c : Cx) (q : Md) (d : Nat) (A : Around) (env : Env) (elt : Expr) : List Comprehension → V → Map → AH → List V → (Map → AH → List V → Prop) → Prop
  | [], _, _, _, _, _ => False
  | g :: gs, x, m, H, acc, K => ∃ m₁, asgV g.target x m = some m₁ ∧ awTests c q d A env g.ifs m₁ H fun ok H₁ => if ok then (match gs with
      | [] => acc.length ≤ 100000 ∧ awE c q d A env elt m₁ H₁ (fun y H₂ => K m₁ H₂ (acc ++ [y])) noX
      | g' :: _ => awE c q d A env g'.iter m₁ H₁ (fun v H₂ => ∃ ik xs, iterK H₂ v = some ik ∧ compItems (fun H => ik.items H = some xs) (compTurnP c q d A env elt gs) xs m₁ H₂ acc K) noX) else K m₁ H₁ acc
abbrev lst (ys : List Value) : Obj := { cls := .type "list", data := .seq ys.toArray ys.length }
theorem lst_snoc (ys : List Value) (y : Value) : ({ cls := .type "list", data := .seq (ys.toArray.push y) (ys.length + 1) } : Obj) = lst (ys ++ [y]) := by
  simp [lst, List.push_toArray]
structure CI (c : Cx) (env : Env) (D : Addr) (H₀ : AH) (s₀ : Shared) (m : Map) (H : AH) (acc : List V) (s : Shared) : Prop where
  rep : Rep c H s
  fr : FrameAt c env m H s.heap
  step : Step H₀ s₀ H s
  free : H D = none
  list : ∃ its, s.heap.get? D = some (lst its) ∧ VRs s.heap acc its
section
variable {c : Cx} {q : Md} {d : Nat} {A : Around} {env : Env} {H₀ : AH} {s₀ : Shared} {D : Addr}
theorem CI.frep {m : Map} {H : AH} {acc : List V} {s : Shared} (x : CI c env D H₀ s₀ m H acc s) (O : Ok c q d A H₀ s₀.heap) : FRep c q d A env m H s := ⟨⟨x.rep, O.step x.step⟩, x.fr⟩
theorem CI.on {m : Map} {H H' : AH} {acc : List V} {s s' : Shared} (x : CI c env D H₀ s₀ m H acc s) (R : Rep c H' s') (y : Step H s H' s') : CI c env D H₀ s₀ m H' acc s' := by
  obtain ⟨its, hl, hv⟩ := x.list
  obtain ⟨o', e', k⟩ := y.kept _ _ hl x.free
  rw [k.eq fun es n z => by cases z] at e'
  exact ⟨R, x.fr.step x.rep y, x.step.trans y, y.free x.free hl, its, e', hv.mono (x.rep.tk y)⟩
theorem ItR.on {ik : IK} {I : Addr} {i : Nat} {H H' : AH} {s s' : Shared} (it : ItR s.heap I i ik) (hI : H I = none) (R : Rep c H s) (y : Step H s H' s') : ItR s'.heap I i ik ∧ H' I = none := by
  obtain ⟨o, vs, e, hd⟩ := it.there
  refine ⟨it.keeps (fun o' e' ⟨vs', hd'⟩ => ?_) (R.tk y), y.free hI e⟩
  obtain ⟨o'', e'', k⟩ := y.kept _ _ e' hI
  rw [k.eq fun es n z => by rw [hd'] at z; cases z] at e''
  exact e''
theorem self_iter {ik : IK} {I : Addr} {i : Nat} {s : Shared} {Q E : Value → Shared → Prop} (it : ItR s.heap I i ik) (h : Q (.ref I) s) : wpAny c.M A (pyIter (.ref I)) Q E s := by
  cases ik with
  | list l => exact wpAny_pyIter_listiter it h
  | keys d n ep => exact wpAny_pyIter_keyiter it h
  | vals d n ep => exact wpAny_pyIter_valiter it h
  | fixed xs =>
    rcases it with ⟨t, ws, hi, _⟩ | ⟨x, t, hi, _⟩ | ⟨a, n, hi, _⟩
    · exact wpAny_pyIter_tupleiter hi h
    · exact wpAny_pyIter_striter_ascii hi h
    · exact wpAny_pyIter_rangeiter hi h
end
structure KJ (I : Addr) (s : Shared) (H : AH) (s' : Shared) (H' : AH) : Prop where
  k : ∀ J o vs, s.heap.get? J = some o → o.data = .fields vs → H J = none → J ≠ I → s'.heap.get? J = some o ∧ H' J = none
  tk : TK s.heap s'.heap
theorem KJ.refl (I : Addr) (s : Shared) (H : AH) : KJ I s H s H := ⟨fun J o vs e _ h _ => ⟨e, h⟩, TK.refl _⟩
theorem KJ.trans {I : Addr} {s₁ s₂ s₃ : Shared} {H₁ H₂ H₃ : AH} (x : KJ I s₁ H₁ s₂ H₂) (y : KJ I s₂ H₂ s₃ H₃) : KJ I s₁ H₁ s₃ H₃ := ⟨fun J o vs e hd h hn =>
  let ⟨e', h'⟩ := x.k J o vs e hd h hn
  y.k J o vs e' hd h' hn, x.tk.trans y.tk⟩
theorem KJ.of_step {c : Cx} {I : Addr} {s s' : Shared} {H H' : AH} (R : Rep c H s) (x : Step H s H' s') : KJ I s H s' H' := ⟨fun J o vs e hd h _ => by
  obtain ⟨o', e', k⟩ := x.kept J o e h
  rw [k.eq fun es n z => by rw [hd] at z; cases z] at e'
  exact ⟨e', x.free h e⟩, R.tk x⟩
theorem Step.only {I : Addr} {H H₃ : AH} {s s₃ : Shared} {h' : Heap} {t : Nat} (x : Step H s H₃ s₃) (o : Only I s₃.heap h') (hI : s.heap.get? I = none) : Step H s H₃ { s₃ with heap := h', toks := t } := by
  have ne : ∀ b ob, s.heap.get? b = some ob → b ≠ I := fun b ob e q => by subst q; rw [hI] at e; cases e
  refine ⟨fun b ob e n => ?_, x.new, fun b ob e => ?_⟩
  · obtain ⟨o', e', k⟩ := x.kept b ob e n
    exact ⟨o', o.keep b o' (ne b ob e) e', k⟩
  · obtain ⟨o', e'⟩ := x.alive b ob e
    exact ⟨o', o.keep b o' (ne b ob e) e'⟩
section
variable {c : Cx} {q : Md} {d : Nat} {A : Around} {env : Env} {H₀ : AH} {s₀ : Shared} {D : Addr} {elt : Expr} {gens : List Comprehension} {scope : Scope} {pos : Pos}
theorem compStart_ok {depth : Nat} {g : Comprehension} {it acc : Value} {s : Shared} {R : Result → Shared → Prop} (hg : gens[depth]? = some g) (ha : g.is_async = 0) (h0 : codeAny c.M A (.compLoop (.ListComp elt gens scope pos) depth it acc env) R s)
    (hs : ∀ (Q E : Value → Shared → Prop), Q it s → wpAny c.M A (pyIter it) Q E s) : codeAny c.M A (.compStart (.ListComp elt gens scope pos) depth it acc env) R s := by
  refine codeAny_of_tree ?_
  show wpAny _ A ((compStart (.ListComp elt gens scope pos) depth it acc env).onRaise (fun x => do noteFrame x env; standAt theWindowsPlace)) _ _ s
  refine wpAny_notedAt ?_
  unfold compStart
  have hc : (clausesOf (.ListComp elt gens scope pos))[depth]? = some g := hg
  rw [hc]
  simp only [Option.elim, ha, bne_self_eq_false, Bool.false_eq_true, if_false]
  refine wpAny_bind (wpAny_askSetting (wpAny_ite ?_))
  split
  · exact wpAny_pure ⟨rfl, h0⟩
  · exact wpAny_bind (wpAny_rule (wpAny_bind (wpAny_standAt (wpAny_bind (hs _ _ (wpAny_pure ⟨rfl, h0⟩))))))
inductive CompJ (c : Cx) (env : Env) (D : Addr) (H₀ : AH) (s₀ : Shared) (turn : V → Map → AH → List V → (Map → AH → List V → Prop) → Prop) (K : Map → AH → List V → Prop) (ik : IK) (xs : List V) (I : Addr) (s : Shared) (H : AH) (n : Nat) (s' : Shared) : Prop
  | mk (m' : Map) (H' : AH) (acc' : List V) (i : Nat) (rest : List V) (e : n = rest.length + 1) (f : xs.drop i = rest) (l : i ≤ xs.length) (t : compItems (fun H => ik.items H = some xs) turn rest m' H' acc' K) (a : CI c env D H₀ s₀ m' H' acc' s') (b : ItR s'.heap I i ik) (o : H' I = none) (k : KJ I s H s' H')
inductive CompE (c : Cx) (env : Env) (D : Addr) (H₀ : AH) (s₀ : Shared) (K : Map → AH → List V → Prop) (I : Addr) (s : Shared) (H : AH) (r : Result) (s' : Shared) : Prop
  | mk (e : r = .ok .next) (m' : Map) (H' : AH) (acc' : List V) (k : K m' H' acc') (a : CI c env D H₀ s₀ m' H' acc' s') (b : KJ I s H s' H')
theorem comp_level (hq : A.handled = none) (R₀ : Rep c H₀ s₀) (O : Ok c q d A H₀ s₀.heap) (hown : ∀ g ∈ gens, tgtOk env g.target ∧ g.is_async = 0 ∧ (∀ x, foldedSetIterable g.iter env x = pure x) ∧ ∀ y ∈ tgtNames g.target, ∀ b, lives env y b → s₀.heap.get? b = none) (hD₀ : s₀.heap.get? D = none) :
    ∀ (gs : List Comprehension) (depth : Nat), gens.drop depth = gs → gs ≠ [] → ∀ (ik : IK) (xs : List V) (I : Addr) (m : Map) (H : AH) (acc : List V) (s : Shared) (K : Map → AH → List V → Prop),
      CI c env D H₀ s₀ m H acc s → s₀.heap.get? I = none → ItR s.heap I 0 ik → H I = none → compItems (fun H => ik.items H = some xs) (compTurnP c q d A env elt gs) xs m H acc K →
      codeAny c.M A (.compLoop (.ListComp elt gens scope pos) depth (.ref I) (.ref D) env) (CompE c env D H₀ s₀ K I s H) s := by
    intro gs
    induction gs with | nil => exact fun _ _ h => absurd rfl h | cons g gs ih => ?_
    intro depth hgs _ ik xs I m H acc s K ci hI₀ it hI hitems
    have hg : gens[depth]? = some g := by
      have := congrArg (·[0]?) hgs
      simpa using this
    have hgs' : gens.drop (depth + 1) = gs := by rw [← List.drop_drop, hgs]; rfl
    have hgm : g ∈ gens := List.mem_of_getElem? hg
    obtain ⟨htgt, hasync, hfold, hlives⟩ := hown g hgm
    have gI : c.g.get? I = none := R₀.gnone hI₀
    refine codeAny_loop rfl (CompJ c env D H₀ s₀ (compTurnP c q d A env elt (g :: gs)) K ik xs I s H) ?_ (xs.length + 1)
      ⟨m, H, acc, 0, xs, rfl, rfl, Nat.zero_le _, hitems, ci, it, hI, KJ.refl _ _ _⟩
    intro n s₁ hh
    refine hide fun Pz bk => ?_
    obtain ⟨m₁, H₁, acc₁, i, rest, en, hdrop, hle, hitems₁, ci₁, it₁, hI₁, hJ₁⟩ := hh
    obtain ⟨oI, vI, eI, dI⟩ := it₁.there
    obtain ⟨its₁, hl₁, hv₁⟩ := ci₁.list
    obtain ⟨mL, ⟨oL, esL, epL, hL, dL, _⟩, _⟩ := id ci₁.fr.loc
    have nL : I ≠ env.locals := fun e => by rw [e, hL] at eI; cases eI; rw [dL] at dI; cases dI
    have nC : ∀ k ∈ env.cells, I ≠ k.2 := fun k hk e => by
      obtain ⟨_, ⟨v₀, o, e', dk⟩, _⟩ := ci₁.fr.cfree k hk
      rw [e, e'] at eI; cases eI; rw [dk] at dI; cases dI
    have nD : D ≠ I := fun e => by rw [e, eI] at hl₁; cases hl₁; cases dI
    have only : ∀ {h' t}, Only I s₁.heap h' → CI c env D H₀ s₀ m₁ H₁ acc₁ { s₁ with heap := h', toks := t } ∧ KJ I s H { s₁ with heap := h', toks := t } H₁ := fun {h' t} o =>
      ⟨⟨o.rep ci₁.rep hI₁ gI it₁.rec, ci₁.fr.only o it₁.rec nL nC, ci₁.step.only o hI₀, ci₁.free, its₁, o.keep _ _ nD hl₁, hv₁.mono (o.tk it₁.rec)⟩,
        hJ₁.trans ⟨fun J o' vs e _ h hn => ⟨o.keep J o' hn e, h⟩, o.tk it₁.rec⟩⟩
    refine bk ?_
    clear bk Pz
    subst en
    show wpAny _ A ((compTurn (.ListComp elt gens scope pos) depth (.ref I) (.ref D) env).onRaise (fun x => do noteFrame x env; theTreesLotGoes x)) _ _ s₁
    refine wpAny_noted ?_
    unfold compTurn
    dsimp only
    rw [hg]
    dsimp only
    rw [hasync]
    simp only [bne_self_eq_false, Bool.false_eq_true, if_false]
    refine wpAny_bind (wpAny_standAt ?_)
    cases rest with
    | nil =>
      obtain ⟨hst, hk⟩ := hitems₁
      refine wpAny_bind (wpAny_mono (next_end (E := fun _ _ => False) hq ci₁.rep it₁ hI₁ hst (List.drop_eq_nil_iff.mp hdrop)) (fun r s₂ ⟨h₂, t₂, e1, e2, o₂⟩ => ?_) fun _ _ e => e.elim)
      subst e1 e2
      obtain ⟨ci₂, hJ₂⟩ := only (t := t₂) o₂
      exact wpAny_pure ⟨rfl, m₁, H₁, acc₁, hk, ci₂, hJ₂⟩
    | cons x rest =>
      obtain ⟨hst, m₂, hm₂, htest⟩ := hitems₁
      have hx : xs[i]? = some x := by
        have := congrArg (·[0]?) hdrop
        simpa using this
      have hlt : i < xs.length := (List.getElem?_eq_some_iff.mp hx).1
      have hd' : xs.drop (i + 1) = rest := by rw [← List.drop_drop, hdrop]; rfl
      refine wpAny_bind (wpAny_mono (next_item (E := fun _ _ => False) ci₁.rep it₁ hI₁ hst hx) (fun r s₂ ⟨v₂, h₂, t₂, e1, e2, hv₂, it₂, o₂⟩ => ?_) fun _ _ e => e.elim)
      subst e1 e2
      obtain ⟨ci₂, hJ₂⟩ := only (t := t₂) o₂
      obtain ⟨oI₂, vI₂, eI₂, dI₂⟩ := it₂.there
      obtain ⟨its₂, hl₂, hv₂'⟩ := ci₂.list
      dsimp only at hl₂ hv₂' eI₂
      refine wpAny_bind (letGo_ok (s := { s₁ with heap := h₂, toks := t₂ }) it₂ ?_)
      refine wpAny_bind (wpAny_mono (asg_ok (E := fun _ _ => False) hq ci₂.rep ci₂.fr hv₂ htgt hm₂) (fun _ s₃ ⟨R₃, F₃, x₃, k₃⟩ => ?_) fun _ _ e => e.elim)
      have nlive : ∀ b o, h₂.get? b = some o → (∀ es n, o.data ≠ .dict es n) → (∀ v, o.data ≠ .cell v) → ∀ y ∈ tgtNames g.target, ¬ lives env y b := by
        intro b o e h1 h2 y hy hl
        rcases hl with ⟨_, rfl⟩ | ⟨_, hl⟩
        · obtain ⟨mL', ⟨oL', es', ep', hL', dL', _⟩, _⟩ := id ci₂.fr.loc
          dsimp only at hL'
          rw [e] at hL'; cases hL'; exact h1 _ _ dL'
        · obtain ⟨_, ⟨v₀, o', e', dk⟩, _⟩ := ci₂.fr.cfree _ (mem_of_lookup hl)
          dsimp only at e'
          rw [e] at e'; cases e'; exact h2 _ dk
      have st₃ : Step H₀ s₀ H₁ s₃ := by
        refine ⟨fun b o e n => ?_, ci₂.step.new, fun b o e => ?_⟩
        · obtain ⟨o', e', k⟩ := ci₂.step.kept b o e n
          exact ⟨o', k₃ b o' e' (fun y hy hl => by rw [hlives y hy b hl] at e; cases e), k⟩
        · obtain ⟨o', e'⟩ := ci₂.step.alive b o e
          exact ⟨o', k₃ b o' e' fun y hy hl => by rw [hlives y hy b hl] at e; cases e⟩
      have ci₃ : CI c env D H₀ s₀ m₂ H₁ acc₁ s₃ := ⟨R₃, F₃, st₃, ci₂.free, its₂, k₃ _ _ hl₂ (nlive _ _ hl₂ (fun es n z => by cases z) fun v z => by cases z), hv₂'.mono (ci₂.fr.tk ci₂.rep x₃)⟩
      have it₃ : ItR s₃.heap I (i + 1) ik := it₂.keeps (fun o e ⟨vs, hd⟩ => k₃ _ _ e (nlive _ _ e (fun es n z => by rw [hd] at z; cases z) fun v z => by rw [hd] at z; cases z)) (ci₂.fr.tk ci₂.rep x₃)
      have hJ₃ : KJ I s H s₃ H₁ := hJ₂.trans ⟨fun J o vs e hd h _ => ⟨k₃ _ _ e (nlive _ _ e (fun es n z => by rw [hd] at z; cases z) fun v z => by rw [hd] at z; cases z), h⟩, ci₂.fr.tk ci₂.rep x₃⟩
      have again_ok : ∀ {m₅ H₅ acc₅ s₅}, CI c env D H₀ s₀ m₅ H₅ acc₅ s₅ → ItR s₅.heap I (i + 1) ik → H₅ I = none → KJ I s H s₅ H₅ → compItems (fun H => ik.items H = some xs) (compTurnP c q d A env elt (g :: gs)) rest m₅ H₅ acc₅ K →
          ∃ n, n < (x :: rest).length + 1 ∧ CompJ c env D H₀ s₀ (compTurnP c q d A env elt (g :: gs)) K ik xs I s H n s₅ :=
        fun ci₅ it₅ h₅ hJ₅ hk => ⟨rest.length + 1, by simp, _, _, _, i + 1, rest, rfl, hd', hlt, hk, ci₅, it₅, h₅, hJ₅⟩
      have tests : wpAny c.M A (forIn g.ifs true fun c r => if r = true then do let ok ← isTrue c env (eval c env); pure (ForInStep.yield ok) else pure (ForInStep.yield r))
          (fun ok s₄ => ∃ H₄, (if ok then (match (generalizing := false) gs with
            | [] => acc₁.length ≤ 100000 ∧ awE c q d A env elt m₂ H₄ (fun y H₂ => compItems (fun H => ik.items H = some xs) (compTurnP c q d A env elt (g :: gs)) rest m₂ H₂ (acc₁ ++ [y]) K) noX
            | g' :: _ => awE c q d A env g'.iter m₂ H₄ (fun v H₂ => ∃ ik' xs', iterK H₂ v = some ik' ∧ compItems (fun H => ik'.items H = some xs') (compTurnP c q d A env elt gs) xs' m₂ H₂ acc₁ fun m' H' acc' => compItems (fun H => ik.items H = some xs) (compTurnP c q d A env elt (g :: gs)) rest m' H' acc' K) noX)
            else compItems (fun H => ik.items H = some xs) (compTurnP c q d A env elt (g :: gs)) rest m₂ H₄ acc₁ K) ∧ CI c env D H₀ s₀ m₂ H₄ acc₁ s₄ ∧ ItR s₄.heap I (i + 1) ik ∧ H₄ I = none ∧ KJ I s H s₄ H₄) (fun _ _ => False) s₃ := by
        unfold awTests at htest
        split at htest
        · rename_i hifs
          rw [hifs, List.forIn_nil]
          exact wpAny_pure ⟨H₁, htest, ci₃, it₃, hI₁, hJ₃⟩
        · rename_i t hifs
          rw [hifs]
          refine wpAny_tests_one (wpAny_mono (htest s₃ (ci₃.frep O)) (fun b s₄ ⟨H₄, hp, R₄, x₄⟩ => ?_) fun _ _ o => noX_elim o)
          obtain ⟨it₄, hI₄⟩ := it₃.on hI₁ R₃ x₄
          exact ⟨H₄, hp, ci₃.on R₄ x₄, it₄, hI₄, hJ₃.trans (.of_step R₃ x₄)⟩
        · exact htest.elim
      refine wpAny_bind (wpAny_mono tests (fun ok s₄ ⟨H₄, hp, ci₄, it₄, hI₄, hJ₄⟩ => ?_) fun _ _ e => e.elim)
      cases ok with
      | false =>
        simp only [Bool.false_eq_true, if_false] at hp ⊢
        exact wpAny_pure ⟨rfl, again_ok ci₄ it₄ hI₄ hJ₄ hp⟩
      | true =>
        simp only [if_true] at hp ⊢
        cases gs with
        | nil =>
          have hn : gens[depth + 1]? = none := by
            have := congrArg (·[0]?) hgs'
            simpa using this
          rw [hn]
          obtain ⟨hacc, hp⟩ := hp
          dsimp only
          refine wpAny_bind (wpAny_bind (awT_then hp (ci₄.frep O) (fun y H₅ s₅ v₅ hk F₅ hv₅ x₅ => wpAny_bind ?_) fun _ _ o => noX_elim o))
          have ci₅ := ci₄.on F₅.rep x₅
          obtain ⟨it₅, hI₅⟩ := it₄.on hI₄ ci₄.rep x₅
          obtain ⟨its₅, hl₅, hvs₅⟩ := ci₅.list
          refine append_at (hsz := by rw [List.size_toArray, ← hvs₅.length]; exact Nat.le_trans hacc (by decide)) hl₅ fun h₆ hs₆ hD₆ => wpAny_pure ?_
          obtain ⟨oI₅, vI₅, eI₅, dI₅⟩ := it₅.there
          have o₆ : Only D s₅.heap h₆ := ⟨fun b o hb e => (hs₆.2 b hb).trans e⟩
          have hDi : ∀ o, s₅.heap.get? D = some o → immCls o.cls = false := fun o e => by rw [hl₅] at e; cases e; rfl
          obtain ⟨mL', ⟨oL', es', ep', hL', dL', _⟩, _⟩ := id ci₅.fr.loc
          have nDL : D ≠ env.locals := fun e => by rw [← e, hl₅] at hL'; cases hL'; cases dL'
          have nDC : ∀ k ∈ env.cells, D ≠ k.2 := fun k hk e => by
            obtain ⟨_, ⟨v₀, o, e', dk⟩, _⟩ := ci₅.fr.cfree k hk
            rw [← e, hl₅] at e'; cases e'; cases dk
          have ci₆ : CI c env D H₀ s₀ m₂ H₅ (acc₁ ++ [y]) { s₅ with heap := h₆ } := ⟨o₆.rep (t := s₅.toks) ci₅.rep ci₅.free (R₀.gnone hD₀) hDi, ci₅.fr.only o₆ hDi nDL nDC, ci₅.step.only (t := s₅.toks) o₆ hD₀, ci₅.free, its₅ ++ [v₅], by rw [hD₆, lst_snoc], (hvs₅.mono (o₆.tk hDi)).append ⟨v₅, [], rfl, hv₅.mono (o₆.tk hDi), rfl⟩⟩
          have neJ : ∀ J o vs, s₅.heap.get? J = some o → o.data = .fields vs → J ≠ D := fun J o vs e hd z => by rw [z, hl₅] at e; cases e; cases hd
          have it₆ : ItR h₆ I (i + 1) ik := it₅.keeps (fun o e ⟨vs, hd⟩ => o₆.keep _ _ (neJ _ _ _ e hd) e) (o₆.tk hDi)
          exact wpAny_pure ⟨rfl, again_ok ci₆ it₆ hI₅ ((hJ₄.trans (.of_step ci₄.rep x₅)).trans ⟨fun J o vs e hd h _ => ⟨o₆.keep _ _ (neJ _ _ _ e hd) e, h⟩, o₆.tk hDi⟩) hk⟩
        | cons g' gs' =>
          have hn : gens[depth + 1]? = some g' := by
            have := congrArg (·[0]?) hgs'
            simpa using this
          obtain ⟨_, hasync', hfold', _⟩ := hown g' (List.mem_of_getElem? hn)
          rw [hn]
          dsimp only
          rw [hasync']
          simp only [bne_self_eq_false, Bool.false_eq_true, if_false]
          refine wpAny_bind (awT_then hp (ci₄.frep O) (fun y H₅ s₅ v₅ ⟨ik', xs', hik, hk⟩ F₅ hv₅ x₅ => wpAny_bind (wpAny_standAt ?_)) fun _ _ o => noX_elim o)
          have ci₅ := ci₄.on F₅.rep x₅
          obtain ⟨it₅, hI₅⟩ := it₄.on hI₄ ci₄.rep x₅
          rw [hfold' v₅]
          refine wpAny_bind (wpAny_pure (wpAny_bind (wpAny_holding (wpAny_mono (iter_ok (E := fun _ _ => False) F₅.rep hv₅ hik) (fun it' s₆ ⟨I', h₆, e1, e2, it₆', kk, hI'⟩ => ?_) fun _ _ e => e.elim))))
          subst e1 e2
          have R₆ : Rep c H₅ { s₅ with heap := h₆ } := F₅.rep.silent kk rfl rfl
          have x₆ : Step H₅ s₅ H₅ { s₅ with heap := h₆ } := .silent kk
          have ci₆ := ci₅.on R₆ x₆
          obtain ⟨it₆, hI₆⟩ := it₅.on hI₅ ci₅.rep x₆
          have hI₀' : s₀.heap.get? I' = none := ci₅.step.old hI'
          have hne : I ≠ I' := fun z => by
            obtain ⟨o, vs, e, _⟩ := it₅.there
            rw [z, hI'] at e; cases e
          refine wpAny_bind (wpAny_runOwn (h := none) ?_)
          have key := ih (depth + 1) hgs' (by simp) ik' xs' I' m₂ H₅ acc₁ { s₅ with heap := h₆ } _ ci₆ hI₀' it₆' (F₅.rep.fresh hI') hk
          refine codeAny_mono (compStart_ok hn hasync' key fun Q E h => self_iter it₆' h) fun r s₇ ⟨hr, m₇, H₇, acc₇, hk₇, ci₇, hJ₇⟩ => ?_
          subst hr
          obtain ⟨o6, vs6, e6, d6⟩ := it₆.there
          obtain ⟨e7, hI₇⟩ := hJ₇.k I o6 vs6 e6 d6 hI₆ hne
          have it₇ : ItR s₇.heap I (i + 1) ik := it₆.keeps (fun o e ⟨vs, hd⟩ => (hJ₇.k I o vs e hd hI₆ hne).1) hJ₇.tk
          have hJ₅ := hJ₄.trans (.of_step ci₄.rep x₅)
          have hJ₆ := hJ₅.trans (.of_step ci₅.rep x₆)
          refine wpAny_pure ⟨rfl, again_ok ci₇ it₇ hI₇ ⟨fun J o vs e hd h hn => ?_, hJ₆.tk.trans hJ₇.tk⟩ hk₇⟩
          obtain ⟨e₅, _⟩ := hJ₅.k J o vs e hd h hn
          obtain ⟨e₆, h₆'⟩ := hJ₆.k J o vs e hd h hn
          exact hJ₇.k J o vs e₆ hd h₆' fun z => by rw [z, hI'] at e₅; cases e₅
end
def closV (cells : List (Str × Addr)) : List (Str × NameKind) → List (Str × Addr) → Option (List (Str × Addr))
  | [], acc => some acc
  | (n, k) :: r, acc => if k == .free then (match cells.lookup n with | some a => closV cells r ((n, a) :: acc) | none => none) else closV cells r acc
theorem closV_eq {env : Env} : ∀ {names : List (Str × NameKind)} {acc cl : List (Str × Addr)}, closV env.cells names acc = some cl →
    (forIn names acc fun (x : Str × NameKind) (r : List (Str × Addr)) => if (x.2 == .free) = true then do let a ← cellOf env x.1; pure (ForInStep.yield ((x.1, a) :: r)) else (pure (ForInStep.yield r) : Sem _)) = pure cl
  | [], acc, cl, h => by cases h; rw [List.forIn_nil]
  | (n, k) :: r, acc, cl, h => by
    unfold closV at h
    rw [List.forIn_cons]
    split at h
    · rename_i hk
      split at h
      · rename_i a ha
        have hc : cellOf env n = pure a := by unfold cellOf; rw [ha]
        simp only [hk, if_true, hc]
        exact closV_eq h
      · cases h
    · rename_i hk
      have hk' : (k == NameKind.free) = false := by simpa using hk
      simp only [hk', Bool.false_eq_true, if_false]
      exact closV_eq h
theorem closureFor_eq {scope : Scope} {env : Env} {cl : List (Str × Addr)} (h : closV env.cells scope.names [] = some cl) : closureFor scope env = pure cl := by
  unfold closureFor
  have := closV_eq h
  first
    | exact this
    | (simp only [] at this ⊢; exact this)
    | (show (forIn scope.names [] _ >>= _) = _; rw [this]; rfl)
theorem closV_mem {cells : List (Str × Addr)} : ∀ {names : List (Str × NameKind)} {acc cl : List (Str × Addr)}, closV cells names acc = some cl → ∀ p ∈ cl, p ∈ acc ∨ (cells.lookup p.1 = some p.2 ∧ (p.1, NameKind.free) ∈ names)
  | [], acc, cl, h, p, hp => by cases h; exact .inl hp
  | (n, k) :: r, acc, cl, h, p, hp => by
    unfold closV at h
    split at h
    · rename_i hk
      have hk : k = .free := beq_iff_eq.mp hk
      split at h
      · rename_i a ha
        rcases closV_mem h p hp with q | ⟨q1, q2⟩
        · rcases List.mem_cons.mp q with rfl | q
          · exact .inr ⟨ha, by rw [hk]; exact List.mem_cons_self ..⟩
          · exact .inl q
        · exact .inr ⟨q1, List.mem_cons_of_mem _ q2⟩
      · cases h
    · rcases closV_mem h p hp with q | ⟨q1, q2⟩
      · exact .inl q
      · exact .inr ⟨q1, List.mem_cons_of_mem _ q2⟩
theorem closV_nodup {cells : List (Str × Addr)} : ∀ {names : List (Str × NameKind)} {acc cl : List (Str × Addr)}, closV cells names acc = some cl → (names.map (·.1)).Nodup → (acc.map (·.1)).Nodup → (∀ p ∈ acc, p.1 ∉ names.map (·.1)) → (cl.map (·.1)).Nodup
  | [], acc, cl, h, _, h2, _ => by cases h; exact h2
  | (n, k) :: r, acc, cl, h, h1, h2, h3 => by
    unfold closV at h
    simp only [List.map_cons, List.nodup_cons] at h1
    split at h
    · split at h
      · refine closV_nodup h h1.2 ?_ fun p hp => ?_
        · simp only [List.map_cons, List.nodup_cons]
          refine ⟨fun z => ?_, h2⟩
          obtain ⟨p, hp, e⟩ := List.mem_map.mp z
          exact h3 p hp (by rw [e]; simp)
        · rcases List.mem_cons.mp hp with rfl | hp
          · exact h1.1
          · exact fun z => h3 p hp (by simp only [List.map_cons, List.mem_cons]; exact .inr z)
      · cases h
    · exact closV_nodup h h1.2 h2 fun p hp z => h3 p hp (by simp only [List.map_cons, List.mem_cons]; exact .inr z)
theorem newEnv_comp {M : Model} {A : Around} {E : Value → Shared → Prop} {s : Shared} {scope : Scope} {env : Env} {globals : Addr} {cl : List (Str × Addr)} {qual : Str} {Q : Env → Shared → Prop}
    (h : Q { scope, locals := s.heap.objs.size, globals, cells := cellsFrom (s.heap.objs.size + 1) scope.names cl, qual, func := none, code := env.code, frame := env.frame, builtins := env.builtins } { s with heap := pushCells (s.heap.push { cls := .type "dict", data := .dict #[] }) scope.names }) :
    wpAny M A (newFunctionEnv scope globals cl [] qual none .none (some env)) Q E s := by
  unfold newFunctionEnv
  refine wpAny_bind (wpAny_alloc ?_)
  refine wpAny_bind (wpAny_layCells _ (fun name kind cells => by rfl) scope.names cl _ _ ?_)
  rw [Heap.size_push]
  exact wpAny_pure h
theorem cellsFrom_append : ∀ (names : List (Str × NameKind)) (n : Nat) (acc : List (Str × Addr)), cellsFrom n names acc = cellsFrom n names [] ++ acc
  | [], _, _ => rfl
  | (name, kind) :: r, n, acc => by
    unfold cellsFrom
    split
    · rw [cellsFrom_append r (n + 1) ((name, n) :: acc), cellsFrom_append r (n + 1) [(name, n)]]; simp
    · exact cellsFrom_append r n acc
theorem cellsFrom_named : ∀ {names : List (Str × NameKind)} {n : Nat} {p : Str × Addr}, p ∈ cellsFrom n names [] → (p.1, NameKind.cell) ∈ names
  | [], _, _, h => by cases h
  | (name, kind) :: r, n, p, h => by
    unfold cellsFrom at h
    split at h
    · rename_i hk
      rw [cellsFrom_append] at h
      rcases List.mem_append.mp h with h | h
      · exact List.mem_cons_of_mem _ (cellsFrom_named h)
      · rw [List.mem_singleton.mp h, ← beq_iff_eq.mp hk]; exact List.mem_cons_self ..
    · exact List.mem_cons_of_mem _ (cellsFrom_named h)
theorem lookup_append {β : Type} {x : Str} : ∀ {l r : List (Str × β)}, (l ++ r).lookup x = (l.lookup x).or (r.lookup x)
  | [], r => by simp
  | (y, b) :: l, r => by
    rw [List.cons_append, List.lookup_cons, List.lookup_cons]
    cases x == y
    · exact lookup_append
    · rfl
theorem nodup_kind {names : List (Str × NameKind)} {x : Str} {k k' : NameKind} (hn : (names.map (·.1)).Nodup) (h : (x, k) ∈ names) (h' : (x, k') ∈ names) : k = k' := by
  have a := lookup_of_mem_nodup' hn h
  have b := lookup_of_mem_nodup' hn h'
  rw [a] at b; cases b; rfl
def compEnvM (scope : Scope) (cl : List (Str × Addr)) (C : Addr) (env : Env) : Env :=
  { scope := relabel scope env, locals := C, globals := env.globals, cells := cellsFrom (C + 1) scope.names cl, qual := env.qual, func := none, code := env.code, frame := env.frame, builtins := env.builtins }
def capM (cl : List (Str × Addr)) (m : Map) : Map := fun x => if (cl.lookup x).isSome then m x else none
def relK (env : Env) (n : Str) (k : NameKind) : NameKind := if (k == NameKind.free && env.scope.kind == .function && env.kindOf n == some .cell) then .cell else k
theorem lookup_mapK {f : Str → NameKind → NameKind} {x : Str} : ∀ {names : List (Str × NameKind)}, (names.map fun p => (p.1, f p.1 p.2)).lookup x = (names.lookup x).map (f x)
  | [] => rfl
  | (n, k) :: r => by
    rw [List.map_cons, List.lookup_cons, List.lookup_cons]
    by_cases hx : x = n
    · subst hx; simp
    · rw [beq_eq_false_iff_ne.mpr hx]; exact lookup_mapK
theorem relabel_lookup {scope : Scope} {env : Env} {x : Str} : (relabel scope env).names.lookup x = (scope.names.lookup x).map (relK env x) := by
  have e : (relabel scope env).names = scope.names.map fun p => (p.1, relK env p.1 p.2) := by
    unfold relabel relK
    refine List.map_congr_left fun p _ => ?_
    obtain ⟨n, k⟩ := p
    dsimp only
    split <;> rfl
  rw [e]; exact lookup_mapK
theorem relK_free (env : Env) (n : Str) : relK env n .free = .cell ∨ relK env n .free = .free := by
  unfold relK
  split
  · exact .inl rfl
  · exact .inr rfl
section
variable {c : Cx} {q : Md} {d : Nat} {A : Around} {env : Env} {m : Map} {H : AH} {P : V → AH → Prop} {X : Exc → AH → Prop} {pos : Pos} {elt : Expr} {g : Comprehension} {gs : List Comprehension} {scope : Scope} {cl : List (Str × Addr)}
structure CompOk (scope : Scope) (cl : List (Str × Addr)) (env : Env) (gens : List Comprehension) : Prop where
  clos : closV env.cells scope.names [] = some cl
  kind : scope.kind = .function
  nd : (scope.names.map (·.1)).Nodup
  loc : ((cl.map (·.1)).all fun n => env.kindOf n != some .local) = true
  gens : ∀ g ∈ gens, g.is_async = 0 ∧ (∀ C x, foldedSetIterable g.iter (compEnvM scope cl C env) x = pure x) ∧ (∀ C, tgtOk (compEnvM scope cl C env) g.target) ∧ ∀ y ∈ tgtNames g.target, scope.names.lookup y = some .local ∨ scope.names.lookup y = some .cell
theorem compFrame {s s₄ : Shared} {C : Addr} (K : CompOk scope cl env (g :: gs)) (F : FRep c q d A env m H s) (R : Rep c H s₄) (kk : ∀ b o, s.heap.get? b = some o → s₄.heap.get? b = some o)
    (hC : s.heap.get? C = none) (hns : s₄.heap.Ns C fun _ => none) (hcells : CellsOk s₄.heap (C + 1) (cellsFrom (C + 1) scope.names [])) (hnew : ∀ b, C + 1 ≤ b → s.heap.get? b = none) : FrameAt c (compEnvM scope cl C env) (capM cl m) H s₄.heap := by
  have mem := closV_mem K.clos
  have ndn := closV_nodup K.clos K.nd List.nodup_nil (fun _ h => nomatch h)
  have tk : TK s.heap s₄.heap := TK.of_keeps kk
  have inCl : ∀ p ∈ cl, env.cells.lookup p.1 = some p.2 ∧ (p.1, NameKind.free) ∈ scope.names := fun p hp => by
    rcases mem p hp with h | h
    · cases h
    · exact h
  have kindCl : ∀ p ∈ cl, (compEnvM scope cl C env).kindOf p.1 = some .cell ∨ (compEnvM scope cl C env).kindOf p.1 = some .free := fun p hp => by
    show (relabel scope env).names.lookup p.1 = _ ∨ (relabel scope env).names.lookup p.1 = _
    rw [relabel_lookup, lookup_of_mem_nodup' K.nd (inCl p hp).2]
    exact (relK_free env p.1).imp (fun h => congrArg some h) (fun h => congrArg some h)
  have oldCell : ∀ p ∈ cl, H p.2 = none ∧ (∃ v₀, s₄.heap.IsCell p.2 v₀) ∧ c.g.get? p.2 = none ∧ ∃ o, s.heap.get? p.2 = some o := fun p hp => by
    refine hide fun Pz bkz => ?_
    obtain ⟨a, ⟨v₀, o, e, hd⟩, b⟩ := F.fr.cfree (p.1, p.2) (mem_of_lookup (inCl p hp).1)
    refine bkz ?_
    exact ⟨a, ⟨v₀, o, kk _ _ e, hd⟩, b, o, e⟩
  have split : cellsFrom (C + 1) scope.names cl = cellsFrom (C + 1) scope.names [] ++ cl := cellsFrom_append _ _ _
  refine ⟨K.kind, F.fr.glob, F.fr.bltn, ⟨_, hns, fun x v hx hk => ?_⟩, fun x v hx hk => ?_, F.rep.fresh hC, F.rep.gnone hC, fun p hp => ?_, ?_⟩
  · unfold capM at hx
    split at hx
    · rename_i hs
      obtain ⟨k, hk'⟩ := Option.isSome_iff_exists.mp hs
      rcases kindCl _ (mem_of_lookup hk') with h | h <;> (rw [h] at hk; cases hk)
    · cases hx
  · unfold capM at hx
    split at hx
    · rename_i hs
      obtain ⟨k, hk'⟩ := Option.isSome_iff_exists.mp hs
      have hm := mem_of_lookup hk'
      have nl : env.kindOf x ≠ some .local := by
        have := List.all_eq_true.mp K.loc x (List.mem_map_of_mem (f := (·.1)) hm)
        simpa using this
      refine hide fun Pz bkz => ?_
      obtain ⟨_, k', u, e1, ⟨o, e2, hd⟩, hv⟩ := F.fr.cel x v hx nl
      refine bkz ?_
      have ek : k' = k := by
        have h1 := (inCl _ hm).1
        dsimp only at h1
        rw [e1] at h1; cases h1; rfl
      subst ek
      refine ⟨kindCl _ hm, k', u, ?_, ⟨o, kk _ _ e2, hd⟩, hv.mono tk⟩
      show (cellsFrom (C + 1) scope.names cl).lookup x = _
      rw [split, lookup_append]
      cases hl : (cellsFrom (C + 1) scope.names []).lookup x with
      | none => exact hk'
      | some k'' => exact absurd (nodup_kind K.nd (cellsFrom_named (mem_of_lookup hl)) (inCl _ hm).2) (by decide)
    · cases hx
  · have hp' : p ∈ cellsFrom (C + 1) scope.names [] ++ cl := by rw [← split]; exact hp
    rcases List.mem_append.mp hp' with h | h
    · obtain ⟨a, b⟩ := hcells.empty p.1 p.2 h
      exact ⟨F.rep.fresh (hnew _ b), ⟨_, a⟩, F.rep.gnone (hnew _ b)⟩
    · obtain ⟨a, b, e, _⟩ := oldCell p h
      exact ⟨a, b, e⟩
  · show ((cellsFrom (C + 1) scope.names cl).map (·.2)).Nodup
    rw [split, List.map_append, List.nodup_append]
    refine ⟨List.pairwise_map.mpr hcells.apart, ?_, fun a ha b hb e => ?_⟩
    · refine List.pairwise_map.mpr ?_
      have hp := List.pairwise_map.mp ndn
      refine hp.imp_of_mem fun {a b} ha hb hne e => hne ?_
      have h1 := mem_of_lookup (inCl a ha).1
      have h2 := mem_of_lookup (inCl b hb).1
      rw [e] at h1
      exact nodup_snd F.fr.nd h1 h2
    · obtain ⟨p, hp, rfl⟩ := List.mem_map.mp ha
      obtain ⟨p', hp', rfl⟩ := List.mem_map.mp hb
      obtain ⟨_, b⟩ := hcells.empty p.1 p.2 hp
      obtain ⟨_, _, _, o, eo⟩ := oldCell p' hp'
      have e' : p.2 = p'.2 := e
      rw [← e', hnew _ b] at eo; cases eo
theorem comp_start (hq : q = .quiet) (K : CompOk scope cl env (g :: gs)) {ik : IK} {xs : List V} {s : Shared} {x : V} {v : Value} {Q : Value → Shared → Prop} {E : Value → Shared → Prop} {use : Option (Value → Sem Unit)} {Kc : Map → AH → List V → Prop} (F : FRep c q d A env m H s) (hv : VR s.heap x v) (hik : iterK H x = some ik)
    (hc : ∀ C, compItems (fun H => ik.items H = some xs) (compTurnP c q d A (compEnvM scope cl C env) elt (g :: gs)) xs (capM cl m) H [] Kc)
    (fin : ∀ C D s' m' H' acc, Kc m' H' acc → CI c (compEnvM scope cl C env) D H s m' H' acc s' → s.heap.get? C = none → s.heap.get? D = none → compPost c.M A E use Q (.ref D) C (.ok .next) s') :
    wpAny c.M A (pyIter v) (fun it s₂ => wpAny c.M A (newList []) (fun acc s₃ => wpAny c.M A (newFunctionEnv scope env.globals cl [] env.qual none .none (some env)) (fun cenv s₄ =>
      codeAny c.M A (.compStart (.ListComp elt (g :: gs) scope pos) 0 it acc { cenv with scope := relabel scope env }) (compPost c.M A E use Q acc cenv.locals) s₄) E s₃) E s₂) E s := by
  refine wpAny_mono (iter_ok (E := E) F.rep hv hik) (fun it s₂ ⟨I, h₂, e1, e2, it₂, k₂, hI⟩ => ?_) fun _ _ e => e
  subst e1 e2
  refine wpAny_newList ?_ (by decide)
  generalize hh₃ : ({ s with heap := h₂ } : Shared).heap.push { cls := Value.type "list", data := Data.seq ([] : List Value).toArray } = h₃
  dsimp only at hh₃ ⊢
  have k₃ : ∀ b o, h₂.get? b = some o → h₃.get? b = some o := fun b o e => by rw [← hh₃]; exact Heap.get?_push_of_some _ e
  have hD₃ : h₃.get? h₂.objs.size = some (lst []) := by rw [← hh₃]; exact Heap.get?_push_size _ rfl
  refine newEnv_comp ?_
  dsimp only
  generalize hh₄ : pushCells (h₃.push { cls := .type "dict", data := .dict #[] }) scope.names = h₄
  have k₄ : ∀ b o, h₃.get? b = some o → h₄.get? b = some o := fun b o e => by rw [← hh₄]; exact pushCells_keeps _ _ _ _ (Heap.get?_push_of_some _ e)
  have kk : ∀ b o, s.heap.get? b = some o → h₄.get? b = some o := fun b o e => k₄ _ _ (k₃ _ _ (k₂ _ _ e))
  have hns : h₄.Ns h₃.objs.size fun _ => none := by rw [← hh₄]; exact (Heap.Ns.new h₃ (.type "dict")).keeps (pushCells_keeps _ _)
  have lt₂ : ∀ b, h₂.objs.size ≤ b → s.heap.get? b = none := fun b hb => by
    cases e : s.heap.get? b with
    | none => rfl
    | some o => exact absurd (Heap.lt_size (k₂ _ _ e)) (Nat.not_lt.mpr hb)
  have s₃ : h₃.objs.size = h₂.objs.size + 1 := by rw [← hh₃, Heap.size_push]
  have hC : s.heap.get? h₃.objs.size = none := lt₂ _ (by rw [s₃]; exact Nat.le_succ _)
  have hD : s.heap.get? h₂.objs.size = none := lt₂ _ (Nat.le_refl _)
  have hcells : CellsOk h₄ (h₃.objs.size + 1) (cellsFrom (h₃.objs.size + 1) scope.names []) := by
    have := cellsFrom_ok scope.names (h₃.push { cls := .type "dict", data := .dict #[] }) (h₃.objs.size + 1) [] ⟨fun _ _ hm => (nomatch hm), List.Pairwise.nil⟩ (by rw [Heap.size_push]; exact Nat.le_refl _)
    rw [Heap.size_push, hh₄] at this
    exact this
  have hnew : ∀ b, h₃.objs.size + 1 ≤ b → s.heap.get? b = none := fun b hb => lt₂ b (by rw [s₃] at hb; omega)
  have R₄ : Rep c H { s with heap := h₄ } := F.rep.silent kk rfl rfl
  have F₄ := compFrame (g := g) (gs := gs) (s₄ := { s with heap := h₄ }) K F R₄ kk hC hns hcells hnew
  have ci : CI c (compEnvM scope cl h₃.objs.size env) h₂.objs.size H s (capM cl m) H [] { s with heap := h₄ } := ⟨R₄, F₄, .silent kk, F.rep.fresh hD, [], k₄ _ _ hD₃, rfl⟩
  have it₄ : ItR h₄ I 0 ik := it₂.keeps (fun o e _ => k₄ _ _ (k₃ _ _ e)) (TK.of_keeps fun b o e => k₄ _ _ (k₃ _ _ e))
  have hown : ∀ g' ∈ g :: gs, tgtOk (compEnvM scope cl h₃.objs.size env) g'.target ∧ g'.is_async = 0 ∧ (∀ x, foldedSetIterable g'.iter (compEnvM scope cl h₃.objs.size env) x = pure x) ∧ ∀ y ∈ tgtNames g'.target, ∀ b, lives (compEnvM scope cl h₃.objs.size env) y b → s.heap.get? b = none := by
    intro g' hg'
    refine hide fun Pz bkz => ?_
    obtain ⟨a1, a2, a3, a4⟩ := K.gens g' hg'
    refine bkz ?_
    refine ⟨a3 _, a1, a2 _, fun y hy b hl => ?_⟩
    rcases hl with ⟨_, rfl⟩ | ⟨hk, hl⟩
    · exact hC
    · have hyc : scope.names.lookup y = some .cell := by
        rcases a4 y hy with h | h
        · exact absurd (by show (relabel scope env).names.lookup y = _; rw [relabel_lookup, h]; rfl) hk
        · exact h
      have hl : (cellsFrom (h₃.objs.size + 1) scope.names cl).lookup y = some b := hl
      rw [cellsFrom_append, lookup_append] at hl
      obtain ⟨k, hk'⟩ := Option.isSome_iff_exists.mp (cellsFrom_some scope.names (h₃.objs.size + 1) [] (.inl hyc))
      rw [hk'] at hl
      cases hl
      exact hnew _ (hcells.empty _ _ (mem_of_lookup hk')).2
  have key := comp_level (pos := pos) (scope := scope) (F.ok.quiet hq) F.rep F.ok hown hD (g :: gs) 0 rfl (by simp) ik xs I (capM cl m) H [] { s with heap := h₄ } Kc ci hI it₄ (F.rep.fresh hI) (hc _)
  refine codeAny_mono (compStart_ok (g := g) rfl (K.gens g (List.mem_cons_self ..)).1 key fun Q E h => self_iter it₄ h) fun r s' ⟨hr, m', H', acc, hk, ci', _⟩ => ?_
  subst hr
  exact fin h₃.objs.size h₂.objs.size s' m' H' acc hk ci' hC hD
theorem compNames {scope : Scope} (hnd : (scope.names.map (·.1)).Nodup) : ∀ z ∈ scope.names, z.2 = .local → scope.names.lookup z.1 = some .local := fun z hz h => by
  have := lookup_of_mem_nodup' (k := z.2) hnd hz
  rw [this, h]
theorem comp_done {s s' : Shared} {C D : Addr} {m' : Map} {H' : AH} {acc : List V} {env' : Env} {h' : Heap} (hL : env'.locals = C) (ci : CI c env' D H s m' H' acc s') (hC : s.heap.get? C = none) (hD : s.heap.get? D = none) (F : Rep c H s) (hs : Heap.SameBut C s'.heap h') :
    Rep c (upd H' D (.list acc)) { s' with heap := h' } ∧ Step H s (upd H' D (.list acc)) { s' with heap := h' } := by
  have o : Only C s'.heap h' := ⟨fun b o hb e => (hs.2 b hb).trans e⟩
  refine hide fun Pz bkz => ?_
  obtain ⟨mL, ⟨oL, es, ep, eL, dL, _⟩, _⟩ := ci.fr.loc
  refine bkz ?_
  rw [hL] at eL
  have hi : ∀ o, s'.heap.get? C = some o → immCls o.cls = true → immData o.data = true → False := fun o e _ hd => by rw [eL] at e; cases e; rw [dL] at hd; cases hd
  have tk : TK s'.heap h' := fun a ob e hc hd => o.keep a ob (fun z => by subst z; exact hi ob e hc hd) e
  have HC : H' C = none := by have := ci.fr.free; rw [hL] at this; exact this
  have gC : c.g.get? C = none := F.gnone hC
  have R : Rep c H' { s' with heap := h' } := by
    refine ⟨fun b ob e => o.keep b ob (fun q => by subst q; rw [gC] at e; cases e) (ci.rep.keep b ob e), ci.rep.gens, ci.rep.os, fun a ao e => ?_, ci.rep.new⟩
    obtain ⟨ob, eo, _⟩ := ci.rep.there e
    exact (ci.rep.at_ a ao e).mono tk ((o.keep a ob (fun q => by subst q; rw [HC] at e; cases e) eo).trans eo.symm)
  obtain ⟨its, hl, hv⟩ := ci.list
  have nCD : D ≠ C := fun z => by rw [z, eL] at hl; cases hl; cases dL
  exact ⟨R.add (F.gnone hD) ⟨its.toArray, its.length, o.keep _ _ nCD hl, hv.mono tk⟩, (ci.step.only (t := s'.toks) o hC).add fun _ => hD⟩
theorem awE_ListComp (hq : q = .quiet) (K : CompOk scope cl env (g :: gs)) (hs : ∀ x, foldedSetIterable g.iter env x = pure x)
    (h : awE c q d A env g.iter m H (fun x H₁ => ∃ ik xs, iterK H₁ x = some ik ∧ ∀ C, compItems (fun H => ik.items H = some xs) (compTurnP c q d A (compEnvM scope cl C env) elt (g :: gs)) xs (capM cl m) H₁ [] fun _ H' acc => ∀ a, H' a = none → P (.ref a) (upd H' a (.list acc))) X) : awE c q d A env (.ListComp elt (g :: gs) scope pos) m H P X := by
  intro s F
  have ha : firstAsync (g :: gs) = false := by
    refine hide fun Pz bkz => ?_
    obtain ⟨t, i, f, a⟩ := g
    refine bkz ?_
    have := (K.gens _ (List.mem_cons_self ..)).1
    dsimp only at this
    show (a != 0) = false
    rw [this]; rfl
  have he : eval (.ListComp elt (g :: gs) scope pos) env = comprehension (.ListComp elt (g :: gs) scope pos) scope env (firstIterPos (g :: gs) pos) (newList []) false (eval g.iter env) := by
    show comprehension (.ListComp elt (g :: gs) scope pos) scope env (firstIterPos (g :: gs) pos) (newList []) (firstAsync (g :: gs)) (firstIter (g :: gs) env) = _
    rw [ha]; cases g; rfl
  show wpAny _ _ (eval (.ListComp elt (g :: gs) scope pos) env) _ _ _
  rw [he]
  refine wpAny_comprehension_free (use := none) rfl hs (closureFor_eq K.clos) K.kind (compNames K.nd) (awT_then h F (fun x H₁ s₁ v ⟨ik, xs, hik, hc⟩ F₁ hv S => ?_) fun _ _ o => o)
  refine comp_start hq K F₁ hv hik hc fun C D s' m' H' acc hk ci hC hD => ?_
  obtain ⟨mL, hns, _⟩ := id ci.fr.loc
  refine ⟨mL, hns, fun h' hs' => ?_⟩
  obtain ⟨R, st⟩ := comp_done rfl ci hC hD F₁.rep hs'
  exact ⟨.ref D, _, hk D ci.free, rfl, R, S.trans st⟩
theorem awS_AssignComp {P : Fl → Map → AH → Prop} {X : Exc → Map → AH → Prop} {y : Str} {py spos : Pos} (hq : q = .quiet) (hy : Storable env y) (hsw : swapsWith (.ListComp elt (g :: gs) scope pos) (some (.Name y py)) spos.line env = pure true) (K : CompOk scope cl env (g :: gs)) (hs : ∀ x, foldedSetIterable g.iter env x = pure x)
    (h : awE c q d A env g.iter m H (fun x H₁ => ∃ ik xs, iterK H₁ x = some ik ∧ ∀ C, compItems (fun H => ik.items H = some xs) (compTurnP c q d A (compEnvM scope cl C env) elt (g :: gs)) xs (capM cl m) H₁ [] fun _ H' acc => ∀ a, H' a = none → P .next (set m y (.ref a)) (upd H' a (.list acc))) fun k H' => X k m H') :
    awS c q d A env (.Assign [.Name y py] (.ListComp elt (g :: gs) scope pos) spos) m H P X := by
  intro s S
  have ha : firstAsync (g :: gs) = false := by
    obtain ⟨t, i, f, a⟩ := g
    have := (K.gens _ (List.mem_cons_self ..)).1
    dsimp only at this
    show (a != 0) = false
    rw [this]; rfl
  show wpAny _ _ (exec (.Assign [.Name y py] (.ListComp elt (g :: gs) scope pos) spos) env) _ _ _
  rw [exec_Assign_Name_used _ _ _ _ hsw]
  refine wpAny_bind (wpAny_standAt (wpAny_bind ?_))
  have he : ∀ u, (comprehension (.ListComp elt (g :: gs) scope pos) scope env (firstIterPos (g :: gs) pos) (newList []) (firstAsync (g :: gs)) (firstIter (g :: gs) env) u) = comprehension (.ListComp elt (g :: gs) scope pos) scope env (firstIterPos (g :: gs) pos) (newList []) false (eval g.iter env) u := fun u => by
    rw [ha]; cases g; rfl
  show wpAny _ A (do let _ ← comprehension (.ListComp elt (g :: gs) scope pos) scope env (firstIterPos (g :: gs) pos) (newList []) (firstAsync (g :: gs)) (firstIter (g :: gs) env) (some (assign (.Name y py) env))) _ _ s
  rw [he]
  refine wpAny_bind (wpAny_mono (wpAny_comprehension_free (use := some (assign (.Name y py) env)) (Q := fun _ s' => OutS c env H s P .next s') rfl hs (closureFor_eq K.clos) K.kind (compNames K.nd) (awT_then h S.toFRep (fun x H₁ s₁ v ⟨ik, xs, hik, hc⟩ F₁ hv st => ?_) fun _ _ o => o.toS S.toFRep)) (fun _ s' hq => wpAny_pure (wpAny_pure hq)) fun _ _ e => e)
  refine comp_start hq K F₁ hv hik hc fun C D s' m' H' acc hk ci hC hD => ?_
  obtain ⟨its, hl, hvs⟩ := ci.list
  have F' := F₁.fr.step F₁.rep ci.step
  have R' : Rep c (upd H' D (.list acc)) s' := ci.rep.add (F₁.rep.gnone hD) ⟨its.toArray, its.length, hl, hvs⟩
  have add : ∀ {h}, FrameAt c env m H' h → (h.get? D = some (lst its)) → FrameAt c env m (upd H' D (.list acc)) h := fun {h} F e => by
    have ne : ∀ b, (∀ o, h.get? b = some o → (∃ es n, o.data = .dict es n) ∨ ∃ v, o.data = .cell v) → (∃ o, h.get? b = some o) → b ≠ D := fun b hb ⟨o, eo⟩ z => by
      subst z; rw [e] at eo; cases eo
      rcases hb _ e with ⟨_, _, z⟩ | ⟨_, z⟩ <;> cases z
    refine hide fun Pz bkz => ?_
    obtain ⟨m₀, ⟨oL, es, ep, hL, dL, hr⟩, hm⟩ := F.loc
    refine bkz ?_
    refine ⟨F.kind, F.glob, F.bltn, ⟨m₀, ⟨oL, es, ep, hL, dL, hr⟩, hm⟩, F.cel, (upd_ne _ _ (ne _ (fun o eo => by rw [hL] at eo; cases eo; exact .inl ⟨_, _, dL⟩) ⟨_, hL⟩)).trans F.free, F.low, fun k hk => ?_, F.nd⟩
    refine hide fun Pz bkz => ?_
    obtain ⟨a, ⟨v₀, o, eo, dk⟩, b⟩ := F.cfree k hk
    refine bkz ?_
    exact ⟨(upd_ne _ _ (ne _ (fun o' eo' => by rw [eo] at eo'; cases eo'; exact .inr ⟨_, dk⟩) ⟨_, eo⟩)).trans a, ⟨v₀, o, eo, dk⟩, b⟩
  have F'' := add F' hl
  show wpAny _ A (assign (.Name y py) env (.ref D)) _ _ s'
  refine wpAny_assign_Name (wpAny_mono (store_ok (x := .ref D) R' F'' rfl hy) (fun _ s₂ ⟨R₂, F₂, x₂, k₂⟩ => ?_) fun _ _ e => e)
  refine hide fun Pz bkz => ?_
  obtain ⟨mC, ⟨oC, esC, epC, eC, dC, rC⟩, _⟩ := ci.fr.loc
  have eC : s'.heap.get? C = some oC := eC
  obtain ⟨m₀, ⟨oL, es, ep, hL, dL, hr⟩, _⟩ := id F₁.fr.loc
  refine bkz ?_
  have nCL : C ≠ env.locals := fun z => by rw [z, hL] at hC; cases hC
  have nCC : ∀ k ∈ env.cells, C ≠ k.2 := fun k hk z => by
    obtain ⟨_, ⟨v₀, o, eo, _⟩, _⟩ := F₁.fr.cfree k hk
    rw [z, eo] at hC; cases hC
  have e₂ : s₂.heap.get? C = some oC := k₂ _ _ eC (fun _ => nCL) fun _ hl' => nCC _ (mem_of_lookup hl') rfl
  refine ⟨mC, ⟨oC, esC, epC, e₂, dC, rC⟩, fun h' hs' => ?_⟩
  have o : Only C s₂.heap h' := ⟨fun b o hb e => (hs'.2 b hb).trans e⟩
  have tk : TK s₂.heap h' := fun a ob e hc hd => o.keep a ob (fun z => by subst z; rw [e₂] at e; cases e; rw [dC] at hd; cases hd) e
  have nCD : C ≠ D := fun z => by rw [← z, eC] at hl; cases hl; cases dC
  have HC : upd H' D (.list acc) C = none := (upd_ne _ _ nCD).trans ci.fr.free
  have gC : c.g.get? C = none := F₁.rep.gnone hC
  have R₃ : Rep c (upd H' D (.list acc)) { s₂ with heap := h' } := by
    refine ⟨fun b ob e => o.keep b ob (fun q => by subst q; rw [gC] at e; cases e) (R₂.keep b ob e), R₂.gens, R₂.os, fun a ao e => ?_, R₂.new⟩
    obtain ⟨ob, eo, _⟩ := R₂.there e
    exact (R₂.at_ a ao e).mono tk ((o.keep a ob (fun q => by subst q; rw [HC] at e; cases e) eo).trans eo.symm)
  have st' : Step H s (upd H' D (.list acc)) s' := (st.trans ci.step).add fun _ => st.old hD
  exact ⟨.next, _, _, hk D ci.free, rfl, R₃, F₂.onlyT o tk nCL nCC, (st'.toF.trans x₂).only (t := s₂.toks) o (st.old hC) fun _ => trivial⟩
end
def kRun {α : Type} (K : Frag) (S : Setting) (t₀ : Nat) : Nat → Nat → Sem α → Option (α × Nat)
  | 0, _, _ => none
  | n + 1, i, t => match t with
    | .pure a => some (a, i)
    | .rule _ k => kRun K S t₀ n i (k ())
    | .at _ k => kRun K S t₀ n i (k ())
    | .point _ k => kRun K S t₀ n i (k ())
    | .ask k => kRun K S t₀ n i (k S)
    | .fresh k => kRun K S t₀ n (i + 1) (k (t₀ + i))
    | .load a _ k => match K.lookup a with
      | some o => kRun K S t₀ n i (k o)
      | none => none
    | _ => none
theorem kRun_sound {α : Type} {prog : Program} {w : World} {A : Around} {E : Value → Shared → Prop} {K : Frag} {Q : α → Shared → Prop} {h : Heap} {g : Array GenState} {d : Drawn} {os : OsState} {t₀ : Nat} (X : K.In h) {r : α} {i' : Nat} :
    ∀ (n i : Nat) (t : Sem α), kRun K ⟨prog, w.params⟩ t₀ n i t = some (r, i') → Q r ⟨h, g, d, t₀ + i', os⟩ → wpAny (model prog w) A t Q E ⟨h, g, d, t₀ + i, os⟩
  | 0, _, _, e, _ => by cases e
  | n + 1, i, t, e, q => by
    unfold kRun at e
    cases t <;> dsimp only at e <;> try cases e
    case pure => exact wpAny_pure q
    case rule k => exact fun Γ p hΓ => kRun_sound X n i _ e q Γ p hΓ
    case «at» pos k => exact fun Γ p hΓ => kRun_sound X n i _ e q Γ pos hΓ
    case point k => exact fun Γ p hΓ => kRun_sound X n i _ e q Γ p hΓ
    case ask k => exact fun Γ p hΓ => kRun_sound X n i _ e q Γ p hΓ
    case fresh k => exact fun Γ p hΓ => kRun_sound X n (i + 1) _ e q Γ p hΓ
    case load a part k =>
      cases ho : K.lookup a with
      | none => rw [ho] at e; cases e
      | some o =>
        rw [ho] at e
        have z := kRun_sound (A := A) (E := E) X n i _ e q
        exact wpAny_bind (m := loadPart a part) (f := k) (wpAny_loadPart (X _ _ ho) z)
theorem plainAttrs_re : PlainAttrs "re.Pattern" := ⟨⟨"object.__getattribute__", by rw [typeLookup_type, builtinLookup_eq_fast]; kernel_rfl, by decide +kernel⟩, by rw [typeLookup_type, builtinLookup_eq_fast]; kernel_rfl⟩
theorem slot_re_search : Slot "re.Pattern" "search" "re.Pattern.search" :=
  .of (owner := "re.Pattern") (n := "search") (by rw [typeLookup_type, builtinLookup_eq_fast]; kernel_rfl) (by decide +kernel) (by decide +kernel) (by decide +kernel)
    (by first | exact .inl (by decide +kernel) | exact .inr (by decide +kernel)) (by rw [isSubtype_type]; kernel_rfl)
theorem type_re_search : typeOf (.builtin "re.Pattern.search") = pure (.type "method_descriptor") := by show builtinType _ = _; rw [builtinType_eq_fast]; kernel_rfl
theorem entry_re_search : entryFor table "re.Pattern.search" = some Builtin.«re.Pattern.search» := entryFor_of_tree (by kernel_rfl)
theorem args_re_search_2 (a b : Value) : argsOk "re.Pattern.search" ⟨[a, b], []⟩ := by
  unfold argsOk; kernel_rfl

theorem getMethod_search {M : Model} {A : Around} {E : Value → Shared → Prop} {s : Shared} {a : Addr} {o : Obj} {pl : Sem Bool} {Q : Value × List Value → Shared → Prop} (ho : s.heap.get? a = some o) (hc : o.cls = .type "re.Pattern") (hd : o.dict = none)
    (h : Q (.builtin "re.Pattern.search", [.ref a]) s) : wpAny M A (getMethod (.ref a) (Str.ofString "search") pl) Q E s :=
  getMethod_builtin (T := "re.Pattern") ⟨o, ho, hc⟩ plainAttrs_re slot_re_search type_re_search (fun b e => by cases e; exact ⟨o, ho, hd⟩) h
theorem call_search {prog : Program} {w : World} {A : Around} {E : Value → Shared → Prop} {K : Frag} {Q : Value → Shared → Prop} {s : Shared} {a : Addr} {o : Obj} {v : Value} {n : Nat} (X : K.In s.heap) (ho : K.lookup a = some o) (hc : o.cls = .type "re.Pattern")
    (e : kRun K ⟨prog, w.params⟩ s.toks n 0 (Builtin.«re.Pattern.search» ⟨[.ref a, v], []⟩) = some (.done (.ret .none), 0)) (h : Q .none s) :
    wpAny (model prog w) A (call (.builtin "re.Pattern.search") [.ref a, v]) Q E s :=
  wpAny_call_entry slot_re_search ⟨o, X _ _ ho, hc⟩ entry_re_search (kRun_sound (t₀ := s.toks) X n 0 _ e ⟨_, rfl, h⟩) (args_re_search_2 _ _)

def Clean (K : Frag) (a : Addr) (x : Str) : Prop := ∀ (S : Setting) (t₀ tk : Nat), kRun K S t₀ 200 0 (Builtin.«re.Pattern.search» ⟨[.ref a, .str x tk], []⟩) = some (.done (.ret .none), 0)
section
variable {c : Cx} {q : Md} {d : Nat} {A : Around} {env : Env} {m : Map} {H : AH} {P : V → AH → Prop} {X : Exc → AH → Prop} {pos : Pos} {fl : Option Addr} {K : Frag} {p : Program} {loose : List Str} {mg mb : Str → Option Value}
theorem awM_search {a : Addr} {o : Obj} {P : Value → List V → Prop} (G : Gd K p loose mg mb c.g) (ho : K.lookup a = some o) (hc : o.cls = .type "re.Pattern") (hd : o.dict = none) (h : P (.builtin "re.Pattern.search") [.ref a]) : awM c q d A true (.ref a) (Str.ofString "search") H P := by
  intro E oe env s v B hv
  cases hv
  show wpAny c.M A (getMethod (.ref a) _ _) _ E s
  exact getMethod_search (B.rep.keep _ _ (G.X _ _ ho)) hc hd ⟨[.ref a], h, ⟨_, [], rfl, rfl, rfl⟩, B.rep, .refl _ _⟩
theorem call_search_ok {a : Addr} {o : Obj} {x : Str} (G : Gd K p loose mg mb c.g) (ho : K.lookup a = some o) (hc : o.cls = .type "re.Pattern") (hx : Clean K a x) (h : P .none H) : awCall c q d A fl (.builtin "re.Pattern.search") [.ref a, .str x] [] H P X := by
  intro s ws kvs B hv hk
  obtain rfl := kvs_nil hk
  obtain ⟨u, _, rfl, hu, v, _, rfl, ⟨t, rfl⟩, rfl⟩ := hv
  cases hu
  exact call_search (K := K) (G.X.keeps B.rep.keep) ho hc (hx _ _ _) (.here (x := .none) B.rep rfl h)
end
section
variable {c : Cx} {q : Md} {d : Nat} {A : Around} {env : Env} {m : Map} {H : AH} {P : V → AH → Prop} {X : Exc → AH → Prop} {pos : Pos} {fl : Option Addr} {K : Frag} {p : Program} {loose : List Str} {mg mb : Str → Option Value}
theorem call_type {x : V} {T : String} (hT : typeV H x = some T) (h : P (.imm (.type T)) H) : awCall c q d A fl (.type "type") [x] [] H P X := by
  intro s ws kvs B hv hk
  obtain rfl := kvs_nil hk
  obtain ⟨v, _, rfl, hv, rfl⟩ := hv
  refine call_type_of (typeV_ok B.rep hv hT) ?_ (.here (x := .imm _) B.rep rfl h)
  have : T ≠ "builtin_function_or_method" := by
    cases x with
    | ref a =>
      simp only [typeV] at hT
      split at hT <;> cases hT <;> decide
    | str _ => cases hT; decide
    | int _ => cases hT; decide
    | tup _ => cases hT; decide
    | _ => cases hT
  exact beq_eq_false_iff_ne.mpr fun z => this (Value.type.inj z)
theorem is_type {a b : String} (h : P (.bool (a == b)) H) : awO c q d A fl (fun vs => compareOp .Is (vs.getD 0 .none) (vs.getD 1 .none)) [.imm (.type a), .imm (.type b)] H P X := by
  intro s vs B hv
  obtain ⟨v, _, rfl, hv, u, _, rfl, hu, rfl⟩ := hv
  cases hu; cases hv
  have e : ((Value.type a) == (Value.type b)) = (a == b) := by
    by_cases hab : a = b
    · subst hab; simp
    · rw [beq_eq_false_iff_ne.mpr hab]; exact beq_eq_false_iff_ne.mpr fun z => hab (Value.type.inj z)
  exact wpAny_is_plain rfl (by show OutE c H s P (Value.bool ((Value.type a) == (Value.type b))) s; rw [e]; exact .here (x := .bool _) B.rep rfl h)
theorem isnot_type {a b : String} (h : P (.bool (!(a == b))) H) : awO c q d A fl (fun vs => compareOp .IsNot (vs.getD 0 .none) (vs.getD 1 .none)) [.imm (.type a), .imm (.type b)] H P X := by
  intro s vs B hv
  obtain ⟨v, _, rfl, hv, u, _, rfl, hu, rfl⟩ := hv
  cases hu; cases hv
  have e : ((Value.type a) == (Value.type b)) = (a == b) := by
    by_cases hab : a = b
    · subst hab; simp
    · rw [beq_eq_false_iff_ne.mpr hab]; exact beq_eq_false_iff_ne.mpr fun z => hab (Value.type.inj z)
  exact wpAny_isNot_plain rfl (by show OutE c H s P (Value.bool (!((Value.type a) == (Value.type b)))) s; rw [e]; exact .here (x := .bool _) B.rep rfl h)
theorem awE_Sub {e i : Expr} (hns : ∀ a b p, i ≠ .Slice a b none p)
    (h : awE c q d A env e m H (fun x H₁ => awE c q d A env i m H₁ (fun y H₂ => ∃ T id, typeV H₂ x = some T ∧ typeLookup (.type T) (Str.ofString "__getitem__") = pure (some (.builtin id)) ∧ awO c q d A env.frame (fun vs => getItem (vs.getD 0 .none) (vs.getD 1 .none)) [x, y] H₂ P X) X) X) : awE c q d A env (.Subscript e i pos) m H P X := by
  intro s F
  refine Subscript_ (awT_then h F (fun x H₁ s₁ v hp F₁ hv S => awT_then hp F₁ (fun y H₂ s₂ u ⟨T, id, hT, hl, hq⟩ F₂ hu S₂ => ?_) fun _ _ => OutX.from S) fun _ _ o => o)
  have hv₂ := hv.mono (F₁.rep.tk S₂)
  have hsub : subscripted i false v u = operate [v, u] (getItem v u) := by
    cases i with
    | Slice a b st p =>
      cases st with
      | none => exact absurd rfl (hns a b p)
      | some _ => rfl
    | _ => rfl
  exact tail_any (typeV_ok F₂.rep hv₂ hT) hl (awT.from (S.trans S₂) (hq s₂ [v, u] F₂.toBRep ⟨v, [u], rfl, hv₂, u, [], rfl, hu, rfl⟩)) hsub
theorem get_list {a : Addr} {vs : List V} {i : Nat} {x : V} (ha : H a = some (.list vs)) (hx : vs[i]? = some x) (hi : i < 100000) (h : P x H) : awO c q d A fl (fun vs => getItem (vs.getD 0 .none) (vs.getD 1 .none)) [.ref a, .int i] H P X := by
  intro s ws B hv
  obtain ⟨v, _, rfl, hv, u, _, rfl, ⟨t, rfl⟩, rfl⟩ := hv
  cases hv
  obtain ⟨items, n, e, hr⟩ := B.rep.at_ _ _ ha
  obtain ⟨v, hv1, hv2⟩ := hr.get hx
  exact wpAny_getItem_list (items := items) ⟨_, e, rfl, n, rfl⟩ (by omega) (by omega) (by rw [Int.toNat_natCast, ← Array.getElem?_toList]; exact hv1) (.here B.rep hv2 h)
theorem get_tup {vs : List V} {i : Nat} {x : V} (hx : vs[i]? = some x) (hi : i < 100000) (h : P x H) : awO c q d A fl (fun vs => getItem (vs.getD 0 .none) (vs.getD 1 .none)) [.tup vs, .int i] H P X := by
  intro s ws B hv
  obtain ⟨v, _, rfl, ⟨a, ys, rfl, ht, hr⟩, u, _, rfl, ⟨t, rfl⟩, rfl⟩ := hv
  obtain ⟨v, hv1, hv2⟩ := hr.get hx
  have hlt : i < ys.size := by
    have := (List.getElem?_eq_some_iff.mp hv1).1
    rwa [Array.length_toList] at this
  refine PyProof.Rows.getItem_tuple (items := ys) (j := i) ht (by omega) (by omega) ?_ (by rw [← Array.getElem?_toList]; exact hv1) (.here B.rep hv2 h)
  unfold seqIndex?
  simp
  omega
theorem get_str {x : Str} {i : Nat} {k : Nat} (hx : x.cps[i]? = some k) (hi : i < 100000) (h : P (.str ⟨#[k]⟩) H) : awO c q d A fl (fun vs => getItem (vs.getD 0 .none) (vs.getD 1 .none)) [.str x, .int i] H P X := by
  intro s ws B hv
  obtain ⟨v, _, rfl, ⟨t₁, rfl⟩, u, _, rfl, ⟨t, rfl⟩, rfl⟩ := hv
  have hlt : i < x.length := (Array.getElem?_eq_some_iff.mp hx).1
  refine getItem_str (c := k) ?_ ?_ (.tok (x := .str _) B.rep ⟨_, rfl⟩ h)
  · rw [Bool.or_eq_false_iff, decide_eq_false_iff_not, decide_eq_false_iff_not]; omega
  · have : seqIndex? (i : Int) x.length = some i := by
      unfold seqIndex?
      simp
      omega
    rw [this]; exact hx
theorem valueAt_of {h : Heap} {k : Str} : ∀ {kvs : List (Str × V)} {ys : List (Str × Value)}, ys.map (·.1) = kvs.map (·.1) → VRs h (kvs.map (·.2)) (ys.map (·.2)) → match kvs.lookup k with | some x => ∃ v, valueAt ys k = some v ∧ VR h x v | none => valueAt ys k = none
  | [], [], _, _ => rfl
  | [], _ :: _, h, _ => by simp at h
  | _ :: _, [], h, _ => by simp at h
  | (n, x) :: kvs, (n', v) :: ys, h1, h2 => by
    simp only [List.map_cons, List.cons.injEq] at h1
    obtain ⟨rfl, h1⟩ := h1
    obtain ⟨y, ys', he, a, b⟩ := h2
    simp only [List.map_cons, List.cons.injEq] at he
    obtain ⟨rfl, rfl⟩ := he
    have ih := valueAt_of (k := k) h1 b
    rw [List.lookup_cons]
    by_cases hk : k = n'
    · subst hk
      simp only [beq_self_eq_true]
      exact ⟨v, by simp [valueAt], a⟩
    · rw [beq_eq_false_iff_ne.mpr hk]
      have : valueAt ((n', v) :: ys) k = valueAt ys k := by
        unfold valueAt
        rw [List.find?_cons, decide_eq_false (fun z => hk z.symm)]
      rw [this]; exact ih
theorem get_dict {a : Addr} {kvs : List (Str × V)} {ep : Nat} {k : Str} {x : V} (ha : H a = some (.dict kvs ep)) (hx : kvs.lookup k = some x) (h : P x H) : awO c q d A fl (fun vs => getItem (vs.getD 0 .none) (vs.getD 1 .none)) [.ref a, .str k] H P X := by
  intro s ws B hv
  obtain ⟨v, _, rfl, hv, u, _, rfl, ⟨t, rfl⟩, rfl⟩ := hv
  cases hv
  obtain ⟨ys, hD, hk, hr, _⟩ := B.rep.at_ _ _ ha
  have hv := valueAt_of (k := k) hk hr
  rw [hx] at hv
  obtain ⟨v, hv1, hv2⟩ := hv
  exact wpAny_getItem_of (knd := strKind c.prog c.w) (k := k) (by exact beq_self_eq_true _) hD.dictOf.mapOf hv1 (.tok B.rep hv2 h)
theorem call_len_l {a : Addr} {vs : List V} (ha : H a = some (.list vs)) (hl : vs.length ≤ 100000) (h : P (.int vs.length) H) : awCall c q d A fl (.builtin "len") [.ref a] [] H P X := by
  intro s ws kvs B hv hk
  obtain rfl := kvs_nil hk
  obtain ⟨v, _, rfl, hv, rfl⟩ := hv
  cases hv
  obtain ⟨items, n, e, hr⟩ := B.rep.at_ _ _ ha
  have hs : items.size = vs.length := by rw [← Array.length_toList]; exact hr.length.symm
  refine call_len_list (items := items) ⟨_, e, rfl, n, rfl⟩ (by rw [hs]; omega) (.tok (x := .int vs.length) B.rep ⟨_, by rw [hs]⟩ h)
theorem call_len_t {vs : List V} (hl : vs.length ≤ 100000) (h : P (.int vs.length) H) : awCall c q d A fl (.builtin "len") [.tup vs] [] H P X := by
  intro s ws kvs B hv hk
  obtain rfl := kvs_nil hk
  obtain ⟨v, _, rfl, ⟨a, ys, rfl, ht, hr⟩, rfl⟩ := hv
  have hs : ys.size = vs.length := by rw [← Array.length_toList]; exact hr.length.symm
  refine len_tuple (items := ys) ht (by rw [hs]; omega) (.tok (x := .int vs.length) B.rep ⟨_, by rw [hs]⟩ h)
theorem cmp_lt_int {x y : Int} (h : P (.bool (decide (x < y))) H) : awO c q d A fl (fun vs => compareOp .Lt (vs.getD 0 .none) (vs.getD 1 .none)) [.int x, .int y] H P X := by
  intro s vs B hv
  obtain ⟨v, _, rfl, ⟨t, rfl⟩, u, _, rfl, ⟨t', rfl⟩, rfl⟩ := hv
  exact wpAny_lt_int (.here (x := .bool _) B.rep rfl h)
theorem cmp_gt_int {x y : Int} (h : P (.bool (decide (y < x))) H) : awO c q d A fl (fun vs => compareOp .Gt (vs.getD 0 .none) (vs.getD 1 .none)) [.int x, .int y] H P X := by
  intro s vs B hv
  obtain ⟨v, _, rfl, ⟨t, rfl⟩, u, _, rfl, ⟨t', rfl⟩, rfl⟩ := hv
  exact gt_int (.here (x := .bool _) B.rep rfl h)
theorem cmp_ge_int {x y : Int} (h : P (.bool (decide (y ≤ x))) H) : awO c q d A fl (fun vs => compareOp .GtE (vs.getD 0 .none) (vs.getD 1 .none)) [.int x, .int y] H P X := by
  intro s vs B hv
  obtain ⟨v, _, rfl, ⟨t, rfl⟩, u, _, rfl, ⟨t', rfl⟩, rfl⟩ := hv
  exact ge_int (.here (x := .bool _) B.rep rfl h)
theorem cmp_ne_int {x y : Int} (h : P (.bool (!(x == y))) H) : awO c q d A fl (fun vs => compareOp .NotEq (vs.getD 0 .none) (vs.getD 1 .none)) [.int x, .int y] H P X := by
  intro s vs B hv
  obtain ⟨v, _, rfl, ⟨t, rfl⟩, u, _, rfl, ⟨t', rfl⟩, rfl⟩ := hv
  exact ne_int (.here (x := .bool _) B.rep rfl h)
end
theorem forP_ind {st : AH → Prop} {turn : V → Map → AH → (Fl → Map → AH → Prop) → Prop} {P : Fl → Map → AH → Prop} (J : List V → Map → AH → Prop)
    (nil : ∀ m H, J [] m H → st H ∧ P .next m H)
    (cons : ∀ x r m H, J (x :: r) m H → st H ∧ ∀ K : Fl → Map → AH → Prop, (∀ m' H', J r m' H' → K .next m' H') → (∀ m' H', J r m' H' → K .cont m' H') → (∀ m' H', P .next m' H' → K .brk m' H') → (∀ v m' H', P (.ret v) m' H' → K (.ret v) m' H') → turn x m H K) :
    ∀ {xs : List V} {m : Map} {H : AH}, J xs m H → forP st turn P xs m H
  | [], m, H, h => nil m H h
  | x :: r, m, H, h => by
    obtain ⟨a, b⟩ := cons x r m H h
    exact ⟨a, b _ (fun m' H' h' => forP_ind J nil cons h') (fun m' H' h' => forP_ind J nil cons h') (fun _ _ h' => h') fun _ _ _ h' => h'⟩
theorem compItems_fm {st : AH → Prop} {turn : V → Map → AH → List V → (Map → AH → List V → Prop) → Prop} {H : AH} (f : V → Option V) (J : Map → Prop) (hst : st H) :
    ∀ {xs : List V} {m : Map} {acc : List V} {K : Map → AH → List V → Prop}, acc.length + xs.length ≤ 100000 → J m → (∀ x ∈ xs, ∀ m acc (K : Map → AH → List V → Prop), acc.length ≤ 100000 → J m → (∀ m', J m' → K m' H (acc ++ (f x).toList)) → turn x m H acc K) →
      (∀ m', J m' → K m' H (acc ++ xs.filterMap f)) → compItems st turn xs m H acc K
  | [], m, acc, K, _, hj, _, hk => ⟨hst, by simpa using hk m hj⟩
  | x :: r, m, acc, K, hl, hj, ht, hk => by
    simp only [List.length_cons] at hl
    refine ⟨hst, ht x (List.mem_cons_self ..) m acc _ (by omega) hj fun m' hj' => compItems_fm f J hst ?_ hj' (fun y hy => ht y (List.mem_cons_of_mem _ hy)) fun m'' hj'' => ?_⟩
    · rw [List.length_append]
      cases f x <;> simp <;> omega
    · have := hk m'' hj''
      rw [List.filterMap_cons] at this
      cases hf : f x with
      | none => rw [hf] at this; simpa using this
      | some y => rw [hf] at this; simpa using this
theorem compTurn1 {c : Cx} {q : Md} {d : Nat} {A : Around} {env : Env} {elt target iter t : Expr} {x : V} {m m₁ : Map} {H : AH} {acc : List V} {K : Map → AH → List V → Prop} {k : Int} (hm : asgV target x m = some m₁)
    (h : awB c q d A env t m₁ H (fun ok H₁ => if ok then acc.length ≤ 100000 ∧ awE c q d A env elt m₁ H₁ (fun y H₂ => K m₁ H₂ (acc ++ [y])) noX else K m₁ H₁ acc) noX) : compTurnP c q d A env elt [⟨target, iter, [t], k⟩] x m H acc K := ⟨m₁, hm, h⟩
theorem compTurn0 {c : Cx} {q : Md} {d : Nat} {A : Around} {env : Env} {elt target iter : Expr} {x : V} {m m₁ : Map} {H : AH} {acc : List V} {K : Map → AH → List V → Prop} {k : Int} (hm : asgV target x m = some m₁)
    (h : acc.length ≤ 100000 ∧ awE c q d A env elt m₁ H (fun y H₂ => K m₁ H₂ (acc ++ [y])) noX) : compTurnP c q d A env elt [⟨target, iter, [], k⟩] x m H acc K := ⟨m₁, hm, h⟩
section
variable {c : Cx} {q : Md} {d : Nat} {A : Around} {env : Env} {m : Map} {H : AH} {P : V → AH → Prop} {X : Exc → AH → Prop} {pos : Pos} {fl : Option Addr} {K : Frag} {p : Program} {loose : List Str} {mg mb : Str → Option Value}
theorem OutL.imp {H : AH} {s : Shared} {P P' : List V → AH → Prop} (h : ∀ x H', P x H' → P' x H') {v : List Value} {s' : Shared} (o : OutL c H s P v s') : OutL c H s P' v s' := by
  obtain ⟨x, H', a, b, r, z⟩ := o
  exact ⟨x, H', h _ _ a, b, r, z⟩
def putD (kvs : List (Str × V)) (k : Str) (x : V) : List (Str × V) := if kvs.any (fun kv => kv.1 = k) then kvs.map (fun kv => if kv.1 = k then (kv.1, x) else kv) else kvs ++ [(k, x)]
theorem stored_rel {h : Heap} {k : Str} {x : V} {v : Value} (hx : VR h x v) : ∀ {kvs : List (Str × V)} {ys : List (Str × Value)}, ys.map (·.1) = kvs.map (·.1) → VRs h (kvs.map (·.2)) (ys.map (·.2)) →
    (stored ys k v).map (·.1) = (putD kvs k x).map (·.1) ∧ VRs h ((putD kvs k x).map (·.2)) ((stored ys k v).map (·.2)) := by
  have any_eq : ∀ {kvs : List (Str × V)} {ys : List (Str × Value)}, ys.map (·.1) = kvs.map (·.1) → ys.any (fun kv => kv.1 = k) = kvs.any (fun kv => kv.1 = k) := by
    intro kvs
    induction kvs with
    | nil => intro ys h; simp at h; subst h; rfl
    | cons a l ih =>
      intro ys h
      cases ys with
      | nil => simp at h
      | cons b l' =>
        simp only [List.map_cons, List.cons.injEq] at h
        simp only [List.any_cons, ih h.2, h.1]
  have map_rel : ∀ {kvs : List (Str × V)} {ys : List (Str × Value)}, ys.map (·.1) = kvs.map (·.1) → VRs h (kvs.map (·.2)) (ys.map (·.2)) →
      (ys.map (fun kv => if kv.1 = k then (kv.1, v) else kv)).map (·.1) = (kvs.map (fun kv => if kv.1 = k then (kv.1, x) else kv)).map (·.1) ∧ VRs h ((kvs.map (fun kv => if kv.1 = k then (kv.1, x) else kv)).map (·.2)) ((ys.map (fun kv => if kv.1 = k then (kv.1, v) else kv)).map (·.2)) := by
    intro kvs
    induction kvs with
    | nil => intro ys h _; simp at h; subst h; exact ⟨rfl, rfl⟩
    | cons a l ih =>
      intro ys h h2
      cases ys with
      | nil => simp at h
      | cons b l' =>
        simp only [List.map_cons, List.cons.injEq] at h
        obtain ⟨y, ys', he, e1, e2⟩ := h2
        simp only [List.map_cons, List.cons.injEq] at he
        obtain ⟨rfl, rfl⟩ := he
        obtain ⟨i1, i2⟩ := ih h.2 e2
        simp only [List.map_cons]
        by_cases hk : b.1 = k
        · rw [if_pos hk, if_pos (h.1 ▸ hk)]
          exact ⟨by rw [i1, h.1], v, _, rfl, hx, i2⟩
        · rw [if_neg hk, if_neg (h.1 ▸ hk)]
          exact ⟨by rw [i1, h.1], _, _, rfl, e1, i2⟩
  intro kvs ys h1 h2
  unfold stored putD
  rw [any_eq h1]
  split
  · exact map_rel h1 h2
  · refine ⟨by simp [h1], ?_⟩
    rw [List.map_append, List.map_append]
    exact h2.append ⟨v, [], rfl, hx, rfl⟩
theorem setItem_dict {a : Addr} {kvs : List (Str × V)} {ep : Nat} {k : Str} {x : V} {s : Shared} {v : Value} {t : Tok} {E : Value → Shared → Prop} (B : BRep c q d A H s) (ha : H a = some (.dict kvs ep)) (hl : kvs.length ≤ 1000) (hv : VR s.heap x v) :
    wpAny c.M A (setItem (.ref a) (.str k t) v) (fun _ s' => ∃ ep', Rep c (upd H a (.dict (putD kvs k x) ep')) s' ∧ Step H s (upd H a (.dict (putD kvs k x) ep')) s') E s := by
  obtain ⟨ys, hD, hk, hr, hsm⟩ := B.rep.at_ _ _ ha
  have hlen : ys.length = kvs.length := by simpa using congrArg List.length hk
  refine wpAny_setItem_pairs (knd := strKind c.prog c.w) (k := k) (by exact beq_self_eq_true _) hD.dictOf (fun h' hD' hs => ?_) (by rw [hlen]; exact Nat.le_trans hl (by decide))
  obtain ⟨ep', hD'⟩ := hD'.dictAt
  have kk : ∀ b o, b ≠ a → s.heap.get? b = some o → h'.get? b = some o := fun b o hb e => (hs.2 b hb).trans e
  obtain ⟨o, es, e, hx, _⟩ := id hD
  have tk : TK s.heap h' := fun b o' e1 hc hd => kk b o' (fun z => by subst z; rw [e] at e1; cases e1; rw [hx.1] at hc; cases hc) e1
  obtain ⟨r1, r2⟩ := stored_rel (k := k) hv hk hr
  have or : OR c h' a (.dict (putD kvs k x) ep') := ⟨_, hD', r1, r2.mono tk, hsm⟩
  exact ⟨ep', B.rep.put ha kk or, .put ha kk or⟩
def relOf (i : Expr) (iv v ov : Value) : List Value := match i with
  | .Slice _ _ none _ => [iv, v, ov]
  | _ => [v, ov, iv]
theorem assign_sub {e i : Expr} {p₁ : Pos} {v : Value} : assign (.Subscript e i p₁) env v = (do
    let ov ← holding [v] (eval e env)
    let iv ← holding [v, ov] (eval i env)
    standAt p₁
    holding [v, ov, iv] (setItem ov iv v)
    release (relOf i iv v ov) []) := rfl
theorem awS_SetItem {P : Fl → Map → AH → Prop} {X : Exc → Map → AH → Prop} {e i v : Expr} {p₁ : Pos} (hsw : swapsWithSole [.Subscript e i p₁] v pos.line env = pure false) (hsw2 : swappedStores [.Subscript e i p₁] v env = pure none) (hns : ∀ a b st p, i ≠ .Slice a b st p)
    (h : awE c q d A env v m H (fun x H₁ => awE c q d A env e m H₁ (fun y H₂ => awE c q d A env i m H₂ (fun z H₃ => ∃ a kvs ep k, y = .ref a ∧ z = .str k ∧ H₃ a = some (.dict kvs ep) ∧ kvs.length ≤ 1000 ∧ ∀ ep', P .next m (upd H₃ a (.dict (putD kvs k x) ep'))) fun k H' => X k m H') fun k H' => X k m H') fun k H' => X k m H') : awS c q d A env (.Assign [.Subscript e i p₁] v pos) m H P X := by
  intro s S
  refine wpAny_Assign_stores (awT_then h S.toFRep (fun x H₁ s₁ v₁ hp F₁ hv₁ st₁ => ?_) fun _ _ o => o.toS S.toFRep) hsw hsw2
  show wpAny c.M A (assign (.Subscript e i p₁) env v₁) _ _ s₁
  rw [assign_sub]
  refine wpAny_bind (wpAny_holding (awT_then hp F₁ (fun y H₂ s₂ v₂ hp₂ F₂ hv₂ st₂ => ?_) fun _ _ o => (OutX.from st₁ o).toS S.toFRep))
  refine wpAny_bind (wpAny_holding (awT_then hp₂ F₂ (fun z H₃ s₃ v₃ hp₃ F₃ hv₃ st₃ => ?_) fun _ _ o => (OutX.from (st₁.trans st₂) o).toS S.toFRep))
  obtain ⟨a, kvs, ep, k, rfl, rfl, ha, hl, hP⟩ := hp₃
  have st₁₂₃ := (st₁.trans st₂).trans st₃
  cases hv₂
  obtain ⟨t, rfl⟩ := hv₃
  have hv₁' := (hv₁.mono (F₁.rep.tk st₂)).mono (F₂.rep.tk st₃)
  refine wpAny_bind (wpAny_standAt (wpAny_bind (wpAny_holding (wpAny_mono (setItem_dict (E := OutSX c env H s X) F₃.toBRep ha hl hv₁') (fun _ s₄ ⟨ep', R₄, st₄⟩ => ?_) fun _ _ e => e))))
  have F₄ := F₃.step R₄ st₄
  have fin : OutS c env H s P .next s₄ := ⟨.next, m, _, hP ep', rfl, R₄, F₄.fr, (st₁₂₃.trans st₄).toF⟩
  exact wpAny_release fin
end
def isSetE : Expr → Bool
  | .Set .. => true
  | _ => false
def tgtShape (t : Expr) : Bool := match tgtNames t with
  | [_] => true
  | [_, _] => true
  | _ => false
def compCheck (scope : Scope) (gens : List Comprehension) : Bool := gens.all fun g => g.is_async == 0 && !isSetE g.iter && tgtShape g.target && (tgtNames g.target).all fun y => scope.names.lookup y == some .local || scope.names.lookup y == some .cell
theorem compOk_of {scope : Scope} {cl : List (Str × Addr)} {env : Env} {gens : List Comprehension} (h1 : closV env.cells scope.names [] = some cl) (h2 : scope.kind = .function) (h3 : (scope.names.map (·.1)).Nodup) (h4 : ((cl.map (·.1)).all fun n => env.kindOf n != some .local) = true) (h5 : compCheck scope gens = true) : CompOk scope cl env gens := by
  refine ⟨h1, h2, h3, h4, fun g hg => ?_⟩
  have := List.all_eq_true.mp h5 g hg
  simp only [Bool.and_eq_true, Bool.not_eq_true'] at this
  obtain ⟨⟨⟨a, b⟩, e⟩, f⟩ := this
  have names : ∀ y ∈ tgtNames g.target, scope.names.lookup y = some .local ∨ scope.names.lookup y = some .cell := fun y hy => by
    rcases Bool.or_eq_true_iff.mp (List.all_eq_true.mp f y hy) with z | z
    · exact .inl (beq_iff_eq.mp z)
    · exact .inr (beq_iff_eq.mp z)
  have stor : ∀ C, ∀ y ∈ tgtNames g.target, Storable (compEnvM scope cl C env) y := fun C y hy => by
    rcases names y hy with z | z
    · exact .inl (by show (relabel scope env).names.lookup y = _; rw [relabel_lookup, z]; rfl)
    · refine .inr ⟨by show (relabel scope env).names.lookup y = _; rw [relabel_lookup, z]; rfl, ?_⟩
      exact cellsFrom_some scope.names (C + 1) cl (.inl z)
  refine ⟨beq_iff_eq.mp a, fun C x => ?_, fun C => ?_, names⟩
  · revert b; cases g.iter <;> intro b <;> first | rfl | cases b
  · have st := stor C
    unfold tgtShape at e
    unfold tgtOk
    revert st e
    generalize tgtNames g.target = ns
    intro e st
    match ns, e, st with
    | [y], _, st => exact st _ (List.mem_singleton.mpr rfl)
    | [a, b], _, st => exact ⟨st _ (List.mem_cons_self ..), st _ (List.mem_cons_of_mem _ (List.mem_singleton.mpr rfl))⟩
theorem fm_eq {α : Type} {g : α → V} {f : V → Option V} {p : α → Bool} {h : α → V} : ∀ {ps : List α}, (∀ q ∈ ps, f (g q) = if p q then some (h q) else none) → (ps.map g).filterMap f = (ps.filter p).map h
  | [], _ => rfl
  | q :: r, e => by
    have ih := fm_eq (ps := r) fun q' h' => e q' (List.mem_cons_of_mem _ h')
    rw [List.map_cons, List.filterMap_cons, e q (List.mem_cons_self ..), List.filter_cons]
    cases p q
    · simpa using ih
    · simpa using ih
section
variable {c : Cx} {q : Md} {d : Nat} {A : Around} {m : Map} {H : AH} {P : V → AH → Prop} {X : Exc → AH → Prop} {fl : Option Addr}
abbrev SubG (c : Cx) (q : Md) (d : Nat) (A : Around) (fl : Option Addr) (x y : V) (H : AH) (P : V → AH → Prop) (X : Exc → AH → Prop) : Prop := ∃ T id, typeV H x = some T ∧ typeLookup (.type T) (Str.ofString "__getitem__") = pure (some (.builtin id)) ∧ awO c q d A fl (fun vs => getItem (vs.getD 0 .none) (vs.getD 1 .none)) [x, y] H P X
theorem sub_tup {vs : List V} {k : Int} {x : V} (h0 : 0 ≤ k) (h1 : k < 100000) (hx : vs[k.toNat]? = some x) (h : P x H) : SubG c q d A fl (.tup vs) (.int k) H P X :=
  ⟨"tuple", _, rfl, slot_tuple_getitem.lookup, by have := get_tup (c := c) (q := q) (d := d) (A := A) (fl := fl) (X := X) (i := k.toNat) hx (by omega) h; rwa [Int.toNat_of_nonneg h0] at this⟩
theorem sub_list {a : Addr} {vs : List V} {k : Int} {x : V} (ha : H a = some (.list vs)) (h0 : 0 ≤ k) (h1 : k < 100000) (hx : vs[k.toNat]? = some x) (h : P x H) : SubG c q d A fl (.ref a) (.int k) H P X :=
  ⟨"list", _, by simp [typeV, ha], slot_list_getitem.lookup, by have := get_list (c := c) (q := q) (d := d) (A := A) (fl := fl) (X := X) (i := k.toNat) ha hx (by omega) h; rwa [Int.toNat_of_nonneg h0] at this⟩
theorem sub_str {x : Str} {k : Int} {n : Nat} (h0 : 0 ≤ k) (h1 : k < 100000) (hx : x.cps[k.toNat]? = some n) (h : P (.str ⟨#[n]⟩) H) : SubG c q d A fl (.str x) (.int k) H P X :=
  ⟨"str", _, rfl, F.slot_str_getitem.lookup, by have := get_str (c := c) (q := q) (d := d) (A := A) (fl := fl) (X := X) (i := k.toNat) hx (by omega) h; rwa [Int.toNat_of_nonneg h0] at this⟩
theorem sub_dict {a : Addr} {kvs : List (Str × V)} {ep : Nat} {k : Str} {x : V} (ha : H a = some (.dict kvs ep)) (hx : kvs.lookup k = some x) (h : P x H) : SubG c q d A fl (.ref a) (.str k) H P X :=
  ⟨"dict", _, by simp [typeV, ha], F.slot_dict_getitem.lookup, get_dict ha hx h⟩
end
section
variable {prog : Program} {w : World} {A : Around} {R : Result → Shared → Prop} {s : Shared} {K : Frag} {x C dx : Addr} {name : Str} {tk : Tok} {v : Value} {es : List DictEntry} {n : Nat}
theorem store_own {ox : Obj} (X : K.In s.heap) (I : InstAt s.heap x ox C (some (dictOf es n))) (hd : ox.dict = some dx) (hp : plainOver K C = true) (ht : takerIn K C name = some none) (hh : hasDictIn K C = true) (hl : (getL name es).isSome = true)
    (hz : (putL name (PyData.keyHash w.params name) (.str name s.toks) v es).length ≤ 1000)
    (h : R (.ok (.ret .none)) { s with heap := s.heap.update dx (Obj.putName name (PyData.keyHash w.params name) (.str name s.toks) v), toks := s.toks + 1 }) :
    codeAny (model prog w) A (.call (.builtin "object.__setattr__") ⟨[.ref x, .str name tk, v], []⟩) R s := by
  refine osa_open X I hp ht fun b => ?_
  obtain ⟨cd, hc, hd'⟩ := any_some hh
  obtain ⟨hx, hcl, hn, hD⟩ := I
  obtain ⟨oc, odi, oda, osl⟩ := ox
  dsimp only at hcl hd hD
  subst hcl hd
  have D : s.heap.get? dx = some (dictOf es n) := hD
  have D' : (s.heap.update dx (Obj.putName name (PyData.keyHash w.params name) (.str name s.toks) v)).get? dx = some (dictOf (putL name (PyData.keyHash w.params name) (.str name s.toks) v es) (putN name es n)) := by
    have := Heap.get?_update_self (Obj.putName name (PyData.keyHash w.params name) (.str name s.toks) v) D (by rw [putName_dict]; rfl)
    rw [putName_dict] at this
    exact this
  refine wpAny_bind (wpAny_pure (wpAny_bind (wpAny_bind (wpAny_loadPart hx (wpAny_bind ((looks_clsIn X hc).here ?_))))))
  rw [hd']
  refine wpAny_pure (a := some dx) (wpAny_bind (wpAny_pure (wpAny_bind ?_)))
  unfold nsSet
  refine wpAny_bind (wpAny_bind (wpAny_askSetting (wpAny_pure (wpAny_bind (wpAny_mkText (wpAny_bind (wpAny_loadPart D ?_)))))))
  dsimp only
  have c : (!es.toArray.any (·.key.isStr name) && es.toArray.any (·.refKey)) = false := by
    rw [← Array.any_toList, ← Array.any_toList]
    unfold getL at hl
    split at hl
    · rename_i en he
      rw [List.any_eq_true.mpr ⟨en, List.mem_of_find?_eq_some he, List.find?_some he⟩]; rfl
    · split at hl
      · cases hl
      · rename_i z; rw [Bool.not_eq_true] at z; rw [z, Bool.and_false]
  rw [aRefKeyMayBeTheName_at, c]
  refine wpAny_updatePart D (wpAny_bind (wpAny_lookBehind D' (pastItsLine_dict (by rw [List.size_toArray, sizeLine_eq]; omega)) (wpAny_pure h)))
end
def putF (fs : List (Str × V)) (name : Str) (x : V) : List (Str × V) := match fs with
  | [] => [(name, x)]
  | f :: r => if f.1 == name then (f.1, x) :: r else f :: putF r name x
theorem putL_rel {h h' : Heap} {name : Str} {hsh : Int} {t : Tok} {x : V} {v : Value} (tk : TK h h') (hv : VR h' x v) : ∀ {fs : List (Str × V)} {es : List DictEntry}, Paired (fun f e => (∃ t, e.key = Value.str f.1 t) ∧ VR h f.2 e.val) fs es →
    Paired (fun f e => (∃ t, e.key = Value.str f.1 t) ∧ VR h' f.2 e.val) (putF fs name x) (putL name hsh (.str name t) v es)
  | _, _, .nil => .cons ⟨⟨_, rfl⟩, hv⟩ .nil
  | f :: fs, e :: es, .cons ⟨⟨t', hk⟩, he⟩ r => by
    have ih := putL_rel (name := name) (hsh := hsh) (t := t) (x := x) tk hv r
    unfold putF putL
    have e1 : e.key.isStr name = (f.1 == name) := by rw [hk]; rfl
    rw [e1]
    cases f.1 == name
    · simp only [Bool.false_eq_true, if_false]
      exact .cons ⟨⟨t', hk⟩, he.mono tk⟩ ih
    · simp only [if_true]
      exact .cons ⟨⟨t', hk⟩, hv⟩ (paired_mono (fun _ _ ⟨a, b⟩ => ⟨a, b.mono tk⟩) r)
theorem paired_len {α β : Type} {F : α → β → Prop} : ∀ {l₁ : List α} {l₂ : List β}, Paired F l₁ l₂ → l₁.length = l₂.length
  | _, _, .nil => rfl
  | _, _, .cons _ t => by simp [paired_len t]
section
variable {c : Cx} {q : Md} {d : Nat} {A : Around} {env : Env} {m : Map} {H : AH} {pos : Pos} {fl : Option Addr} {K : Frag} {p : Program} {loose : List Str} {mg mb : Str → Option Value}
def awSet (c : Cx) (q : Md) (d : Nat) (A : Around) (y : V) (name : Str) (x : V) (H : AH) (P : AH → Prop) : Prop :=
  ∀ (E : Value → Shared → Prop) s u v, BRep c q d A H s → VR s.heap y u → VR s.heap x v → wpAny c.M A (setAttr u name v) (fun _ s' => ∃ H', P H' ∧ Rep c H' s' ∧ Step H s H' s') E s
theorem set_inst {a C dd : Addr} {fs : List (Str × V)} {name : Str} {x : V} {P : AH → Prop} (G : Gd K p loose mg mb c.g) (h1 : H a = some (.inst C dd)) (h2 : H dd = some (.ns fs)) (hs : findIn K (.ref C) "__setattr__" = some (some (.builtin "object.__setattr__"))) (hp : plainOver K C = true) (ht : takerIn K C name = some none) (hh : hasDictIn K C = true)
    (hl : fs.length ≤ 500) (h : P (upd H dd (.ns (putF fs name x)))) : awSet c q d A (.ref a) name x H P := by
  intro E s u v B hu hv
  cases hu
  obtain ⟨es, n, I, hr⟩ := instAt_of B.rep h1 h2
  have X := G.X.keeps B.rep.keep
  have hes : fs.length = es.length := paired_len hr
  refine set_plain X I hs (store_own (s := { s with toks := s.toks + 1 }) X I rfl hp ht hh ?_ ?_ ?_)
  · have := getL_of (name := name) hr
    revert this
    cases fs.lookup name with
    | none => intro z; rw [z]; rfl
    | some y => rintro ⟨v, z, _⟩; rw [z]; rfl
  · have := putL_rel (name := name) (hsh := PyData.keyHash c.w.params name) (t := s.toks + 1) (TK.refl s.heap) hv hr
    rw [← paired_len this]
    have : ∀ fs : List (Str × V), (putF fs name x).length ≤ fs.length + 1 := by
      intro fs
      induction fs with
      | nil => simp [putF]
      | cons f r ih => unfold putF; split <;> simp; omega
    have := this fs
    omega
  · have D : s.heap.get? dd = some (dictOf es n) := I.dict
    generalize hh' : s.heap.update dd (Obj.putName name (PyData.keyHash c.w.params name) (.str name (s.toks + 1)) v) = h'
    have D' : h'.get? dd = some (dictOf (putL name (PyData.keyHash c.w.params name) (.str name (s.toks + 1)) v es) (putN name es n)) := by
      have := Heap.get?_update_self (Obj.putName name (PyData.keyHash c.w.params name) (.str name (s.toks + 1)) v) D (by rw [putName_dict]; rfl)
      rw [putName_dict, hh'] at this
      exact this
    have kk : ∀ b o, b ≠ dd → s.heap.get? b = some o → h'.get? b = some o := fun b o hb e => by rw [← hh']; exact (Heap.get?_update_ne _ _ _ _ hb).trans e
    have tk : TK s.heap h' := fun b o e hc hd => kk b o (fun z => by subst z; rw [D] at e; cases e; cases hc) e
    have or : OR c h' dd (.ns (putF fs name x)) := ⟨_, _, D', putL_rel tk (hv.mono tk) hr⟩
    dsimp only
    exact ⟨_, h, B.rep.put h2 kk or, .put h2 kk or⟩
theorem assign_attr {o : Expr} {name : Str} {p₁ : Pos} {v : Value} : assign (.Attribute o name p₁) env v = (do
    let ov ← holding [v] (eval o env)
    standAt p₁.atName
    holding [v, ov] (setAttr ov name v)
    release [v, ov] []) := rfl
theorem awS_SetAttr {P : Fl → Map → AH → Prop} {X : Exc → Map → AH → Prop} {o v : Expr} {name : Str} {p₁ : Pos} (hsw : swapsWithSole [.Attribute o name p₁] v pos.line env = pure false) (hsw2 : swappedStores [.Attribute o name p₁] v env = pure none)
    (h : awE c q d A env v m H (fun x H₁ => awE c q d A env o m H₁ (fun y H₂ => awSet c q d A y name x H₂ fun H₃ => P .next m H₃) fun k H' => X k m H') fun k H' => X k m H') : awS c q d A env (.Assign [.Attribute o name p₁] v pos) m H P X := by
  intro s S
  refine wpAny_Assign_stores (awT_then h S.toFRep (fun x H₁ s₁ v₁ hp F₁ hv₁ st₁ => ?_) fun _ _ o => o.toS S.toFRep) hsw hsw2
  show wpAny c.M A (assign (.Attribute o name p₁) env v₁) _ _ s₁
  rw [assign_attr]
  refine wpAny_bind (wpAny_holding (awT_then hp F₁ (fun y H₂ s₂ v₂ hp₂ F₂ hv₂ st₂ => ?_) fun _ _ o => (OutX.from st₁ o).toS S.toFRep))
  refine wpAny_bind (wpAny_standAt (wpAny_bind (wpAny_holding (wpAny_mono (hp₂ (OutSX c env H s X) s₂ v₂ v₁ F₂.toBRep hv₂ (hv₁.mono (F₁.rep.tk st₂))) (fun _ s₃ ⟨H₃, hP, R₃, st₃⟩ => ?_) fun _ _ e => e))))
  exact wpAny_release ⟨.next, m, H₃, hP, rfl, R₃, (F₂.step R₃ st₃).fr, ((st₁.trans st₂).trans st₃).toF⟩
theorem awS_AugName {P : Fl → Map → AH → Prop} {X : Exc → Map → AH → Prop} {y : Str} {p₁ : Pos} {op : Operator} {e : Expr} {x : V} (hm : m y = some x) (hy : Storable env y) (hd : (y == ("__classdict__" : Str)) = false)
    (h : awE c q d A env e m H (fun z H₁ => awO c q d A env.frame (fun vs => inplaceOp op (vs.getD 0 .none) (vs.getD 1 .none)) [x, z] H₁ (fun r H₂ => P .next (set m y r) H₂) fun k H' => X k m H') fun k H' => X k m H') : awS c q d A env (.AugAssign (.Name y p₁) op e pos) m H P X := by
  intro s S
  have load : wpAny c.M A (loadName env y) (fun v s₁ => s₁ = s ∧ VR s.heap x v) (OutSX c env H s X) s := by
    by_cases hk : env.kindOf y = some .local
    · obtain ⟨m₀, hn, hm'⟩ := S.fr.loc
      obtain ⟨u, hu, hv⟩ := hm' y x hm hk
      exact wpAny_loadName_local S.fr.kind hk hn hu ⟨rfl, hv⟩
    · obtain ⟨hk', k, u, hl, hcell, hv⟩ := S.fr.cel y x hm hk
      rcases hk' with hk' | hk'
      · exact wpAny_loadName_cell S.fr.kind hk' hl hcell ⟨rfl, hv⟩
      · exact wpAny_loadName_free S.fr.kind hk' hl hcell ⟨rfl, hv⟩ hd
  refine wpAny_AugAssign_Name (wpAny_mono load (fun v s₁ ⟨e1, hv⟩ => ?_) fun _ _ e => e)
  subst e1
  refine awT_then h S.toFRep (fun z H₁ s₂ u hp F₁ hu st => ?_) fun _ _ o => o.toS S.toFRep
  refine wpAny_mono (hp s₂ [v, u] F₁.toBRep ⟨v, [u], rfl, hv.mono (S.rep.tk st), u, [], rfl, hu, rfl⟩) (fun r s₃ ⟨x', H₂, hP, hr, R₂, st₂⟩ => ?_) fun _ _ o => (OutX.from st o).toS S.toFRep
  have F₂ := F₁.step R₂ st₂
  exact wpAny_mono (store_ok F₂.rep F₂.fr hr hy) (fun _ s₄ ⟨R, F, x₂, _⟩ => ⟨.next, _, H₂, hP, rfl, R, F, (st.trans st₂).toF.trans x₂⟩) fun _ _ e => e
theorem awS_AugAttr {P : Fl → Map → AH → Prop} {X : Exc → Map → AH → Prop} {o e : Expr} {name : Str} {p₁ : Pos} {op : Operator}
    (h : awE c q d A env o m H (fun y H₁ => awO c q d A env.frame (fun vs => getAttr (vs.getD 0 .none) name true) [y] H₁ (fun x H₂ => awE c q d A env e m H₂ (fun z H₃ => awO c q d A env.frame (fun vs => inplaceOp op (vs.getD 0 .none) (vs.getD 1 .none)) [x, z] H₃ (fun r H₄ => awSet c q d A y name r H₄ fun H₅ => P .next m H₅) fun k H' => X k m H') fun k H' => X k m H') fun k H' => X k m H') fun k H' => X k m H') : awS c q d A env (.AugAssign (.Attribute o name p₁) op e pos) m H P X := by
  intro s S
  refine wpAny_AugAssign_AttributeAny (awT_then h S.toFRep (fun y H₁ s₁ vy hp₁ F₁ hy st₁ => ?_) fun _ _ o => o.toS S.toFRep)
  refine wpAny_mono (hp₁ s₁ [vy] F₁.toBRep ⟨vy, [], rfl, hy, rfl⟩) (fun old s₂ ⟨x, H₂, hp₂, hx, R₂, st₂⟩ => ?_) fun _ _ o => (OutX.from st₁ o).toS S.toFRep
  have F₂ := F₁.step R₂ st₂
  have st₁₂ := st₁.trans st₂
  refine awT_then hp₂ F₂ (fun z H₃ s₃ vz hp₃ F₃ hz st₃ => ?_) fun _ _ o => (OutX.from st₁₂ o).toS S.toFRep
  have st₁₃ := st₁₂.trans st₃
  refine wpAny_mono (hp₃ s₃ [old, vz] F₃.toBRep ⟨old, [vz], rfl, hx.mono (F₂.rep.tk st₃), vz, [], rfl, hz, rfl⟩) (fun r s₄ ⟨x', H₄, hp₄, hr, R₄, st₄⟩ => ?_) fun _ _ o => (OutX.from st₁₃ o).toS S.toFRep
  have F₄ := F₃.step R₄ st₄
  have hy' := ((hy.mono (F₁.rep.tk st₂)).mono (F₂.rep.tk st₃)).mono (F₃.rep.tk st₄)
  refine wpAny_mono (hp₄ (OutSX c env H s X) s₄ vy r F₄.toBRep hy' hr) (fun _ s₅ ⟨H₅, hP, R₅, st₅⟩ => ?_) fun _ _ e => e
  exact ⟨.next, m, H₅, hP, rfl, R₅, (F₄.step R₅ st₅).fr, ((st₁₃.trans st₄).trans st₅).toF⟩
end
section
variable {c : Cx} {q : Md} {d : Nat} {A : Around} {env : Env} {m : Map} {H : AH} {P : V → AH → Prop} {X : Exc → AH → Prop} {pos : Pos} {fl : Option Addr} {K : Frag} {p : Program} {loose : List Str} {mg mb : Str → Option Value}
theorem iadd_ints {x y : Int} (h : P (.int (x + y)) H) : awO c q d A fl (fun vs => inplaceOp .Add (vs.getD 0 .none) (vs.getD 1 .none)) [.int x, .int y] H P X := by
  intro s vs B hv
  obtain ⟨v, _, rfl, ⟨t, rfl⟩, u, _, rfl, ⟨t', rfl⟩, rfl⟩ := hv
  exact iadd_int (.tok (x := .int _) B.rep ⟨_, rfl⟩ h)
theorem isub_ints {x y : Int} (h : P (.int (x - y)) H) : awO c q d A fl (fun vs => inplaceOp .Sub (vs.getD 0 .none) (vs.getD 1 .none)) [.int x, .int y] H P X := by
  intro s vs B hv
  obtain ⟨v, _, rfl, ⟨t, rfl⟩, u, _, rfl, ⟨t', rfl⟩, rfl⟩ := hv
  exact isub_int (.tok (x := .int _) B.rep ⟨_, rfl⟩ h)
theorem fdiv_ints {x y : Int} (hx : x.natAbs < 2 ^ 20) (hy : y.natAbs < 2 ^ 20) (h0 : y ≠ 0) (h : P (.int (x.fdiv y)) H) : awO c q d A fl (fun vs => binaryOp .FloorDiv (vs.getD 0 .none) (vs.getD 1 .none)) [.int x, .int y] H P X := by
  intro s vs B hv
  obtain ⟨v, _, rfl, ⟨t, rfl⟩, u, _, rfl, ⟨t', rfl⟩, rfl⟩ := hv
  exact floordiv_int h0 (.tok (x := .int _) B.rep ⟨_, rfl⟩ h) (.inl (PyProof.noPylong_small (by omega)))
theorem cmp_lt_str {x y : Str} (h : P (.bool (x.cps.toList < y.cps.toList)) H) : awO c q d A fl (fun vs => compareOp .Lt (vs.getD 0 .none) (vs.getD 1 .none)) [.str x, .str y] H P X := by
  intro s vs B hv
  obtain ⟨v, _, rfl, ⟨t, rfl⟩, u, _, rfl, ⟨t', rfl⟩, rfl⟩ := hv
  exact PyProof.Rows.lt_str (.here (x := .bool _) B.rep rfl h)
theorem cmp_gt_str {x y : Str} (h : P (.bool (y.cps.toList < x.cps.toList)) H) : awO c q d A fl (fun vs => compareOp .Gt (vs.getD 0 .none) (vs.getD 1 .none)) [.str x, .str y] H P X := by
  intro s vs B hv
  obtain ⟨v, _, rfl, ⟨t, rfl⟩, u, _, rfl, ⟨t', rfl⟩, rfl⟩ := hv
  exact PySem.P.gt_str (.here (x := .bool _) B.rep rfl h)
theorem list_turn {s : Shared} {a : Addr} {vs vs' : List V} {items : Array Value} {n : Nat} {f : Array Value → Array Value} {t : Nat} (R : Rep c H s) (ha : H a = some (.list vs)) (e : s.heap.get? a = some (listOf items n)) (hf : VRs s.heap vs' (f items).toList) :
    Rep c (upd H a (.list vs')) { s with heap := s.heap.update a (Obj.mapSeq f), toks := t } ∧ Step H s (upd H a (.list vs')) { s with heap := s.heap.update a (Obj.mapSeq f), toks := t } := by
  have kk : ∀ b o, b ≠ a → s.heap.get? b = some o → (s.heap.update a (Obj.mapSeq f)).get? b = some o := fun b o hb e => (Heap.get?_update_other _ _ (Ne.symm hb)).trans e
  have tk : TK s.heap (s.heap.update a (Obj.mapSeq f)) := fun b o e1 hc hd => kk b o (fun z => by subst z; rw [e] at e1; cases e1; cases hc) e1
  have hD := Heap.get?_update_self (Obj.mapSeq f) e rfl
  have or : OR c (s.heap.update a (Obj.mapSeq f)) a (.list vs') := ⟨f items, _, hD, hf.mono tk⟩
  exact ⟨R.put ha kk or, .put ha kk or⟩
theorem call_extend_l {a b : Addr} {vs us : List V} (ha : H a = some (.list vs)) (hb : H b = some (.list us)) (hl : vs.length + us.length ≤ 100000) (h : P .none (upd H a (.list (vs ++ us)))) : awCall c q d A fl (.builtin "list.extend") [.ref a, .ref b] [] H P X := by
  intro s ws kvs B hv hk
  obtain rfl := kvs_nil hk
  obtain ⟨u, _, rfl, hu, v, _, rfl, hv, rfl⟩ := hv
  cases hu; cases hv
  obtain ⟨items, n, e, hr⟩ := B.rep.at_ _ _ ha
  obtain ⟨items2, n2, e2, hr2⟩ := B.rep.at_ _ _ hb
  have hs1 : items.size = vs.length := by rw [← Array.length_toList]; exact hr.length.symm
  have hs2 : items2.size = us.length := by rw [← Array.length_toList]; exact hr2.length.symm
  have hs : items.size + items2.size ≤ 100000 := by omega
  have T := list_turn (f := fun x => x ++ items2) (t := s.toks) B.rep ha e (by rw [Array.toList_append]; exact hr.append hr2)
  refine call_meets PySem.F.slot_list_extend ⟨_, e, rfl⟩ PySem.F.entry_list_extend (PySem.F.args_list_extend_2 _ _) (PySem.AutoSeq1.list_extend_list_list_0 a items n b items2 n2 ?_ (Nat.le_trans (by omega) (by decide : 100000 ≤ sizeLine)) (Nat.le_trans (by omega) (by decide : 100000 ≤ sizeLine + 1))) ⟨e, e2, ?_⟩
  · rw [Bool.and_eq_true]
    rintro ⟨_, z⟩
    have := of_decide_eq_true z
    have h2 : 100000 ≤ sizeLine := by decide
    omega
  · exact ⟨.none, _, h, rfl, T.1, T.2⟩
theorem call_clear {a : Addr} {vs : List V} (ha : H a = some (.list vs)) (hl : vs.length ≤ 100000) (h : P .none (upd H a (.list []))) : awCall c q d A fl (.builtin "list.clear") [.ref a] [] H P X := by
  intro s ws kvs B hv hk
  obtain rfl := kvs_nil hk
  obtain ⟨u, _, rfl, hu, rfl⟩ := hv
  cases hu
  obtain ⟨items, n, e, hr⟩ := B.rep.at_ _ _ ha
  have hs1 : items.size = vs.length := by rw [← Array.length_toList]; exact hr.length.symm
  have T := list_turn (f := fun _ => #[]) (vs' := []) (t := s.toks) B.rep ha e rfl
  refine call_meets PySem.F.slot_list_clear ⟨_, e, rfl⟩ PySem.F.entry_list_clear (PySem.F.args_list_clear_1 _) (PySem.AutoSeq1.list_clear_list_0 a items n (Nat.le_trans (by omega) (by decide : 100000 ≤ sizeLine))) ⟨e, ?_⟩
  exact ⟨.none, _, h, rfl, T.1, T.2⟩
theorem call_pop {a : Addr} {vs : List V} {x : V} (ha : H a = some (.list (vs ++ [x]))) (hl : vs.length ≤ 100000 - 1) (h : P x (upd H a (.list vs))) : awCall c q d A fl (.builtin "list.pop") [.ref a] [] H P X := by
  intro s ws kvs B hv hk
  obtain rfl := kvs_nil hk
  obtain ⟨u, _, rfl, hu, rfl⟩ := hv
  cases hu
  obtain ⟨items, n, e, hr⟩ := B.rep.at_ _ _ ha
  have hr' := hr
  obtain ⟨us, ws, hi, hr1, hr2⟩ := hr.split
  obtain ⟨y, _, rfl, hy, rfl⟩ := hr2
  obtain ⟨il⟩ := items
  simp only at hi
  subst hi
  have hk : (us ++ [y]).toArray.size - 1 = us.length := by rw [List.size_toArray, List.length_append]; rfl
  have he : (us ++ [y]).toArray.eraseIdxIfInBounds ((us ++ [y]).toArray.size - 1) = us.toArray := by
    rw [hk]; apply Array.toList_inj.mp; simp [Array.eraseIdxIfInBounds, List.eraseIdx_append_of_length_le]
  have hy1 : (us ++ [y]).toArray[(us ++ [y]).toArray.size - 1]? = some y := by rw [hk]; simp
  have hz : (us ++ [y]).toArray.size ≤ sizeLine := by
    have := hr1.length
    rw [List.size_toArray, List.length_append]
    exact Nat.le_trans (by simp; omega) (by decide : 100000 ≤ sizeLine)
  have T := list_turn (f := fun xs => xs.eraseIdxIfInBounds ((us ++ [y]).toArray.size - 1)) (vs' := vs) (t := s.toks) B.rep ha e (by rw [he]; exact hr1)
  refine call_meets PySem.F.slot_list_pop ⟨_, e, rfl⟩ PySem.F.entry_list_pop (PySem.F.args_list_pop_1 _) (PySem.MeetsSeq.list_pop_last a _ n y hy1 hz) ⟨e, ?_⟩
  exact ⟨x, _, h, hy.mono (B.rep.tk T.2), T.1, T.2⟩
end
section
open PySem.SeqAt (EqAt RcAt RcNeAt)
def upto (f : Nat → Bool) (a b : Nat) : Bool := (List.range (min a b)).all f && a == b
theorem upto_true {f : Nat → Bool} {a : Nat} (h : ∀ j, j < a → f j = true) : upto f a a = true := by
  unfold upto
  rw [Nat.min_self, beq_self_eq_true, Bool.and_true]
  exact List.all_eq_true.mpr fun j hj => h j (List.mem_range.mp hj)
inductive EqG (H : AH) : Nat → V → V → Bool → Prop
  | str (n : Nat) (x y : Str) : EqG H n (.str x) (.str y) (x == y)
  | int (n : Nat) (x y : Int) : EqG H n (.int x) (.int y) (x == y)
  | bool (n : Nat) (x y : Bool) : EqG H n (.bool x) (.bool y) (x == y)
  | tup (n : Nat) (xs ys : List V) (f : Nat → Bool) (h : ∀ j x y, xs[j]? = some x → ys[j]? = some y → EqG H n x y (f j)) : EqG H (n + 1) (.tup xs) (.tup ys) (upto f xs.length ys.length)
  | list (n : Nat) (a a' : Addr) (xs ys : List V) (f : Nat → Bool) (ha : H a = some (.list xs)) (hb : H a' = some (.list ys)) (hs : a = a' → upto f xs.length ys.length = true) (h : ∀ j x y, xs[j]? = some x → ys[j]? = some y → EqG H n x y (f j)) : EqG H (n + 1) (.ref a) (.ref a') (upto f xs.length ys.length)
theorem tuple_one {h : Heap} {a : Addr} {ws ws' : Array Value} : h.IsTuple a ws → h.IsTuple a ws' → ws = ws'
  | ⟨o, e, _, n, d⟩, ⟨o', e', _, n', d'⟩ => by
    cases e.symm.trans e'
    cases d.symm.trans d'
    rfl
theorem VRs.size {h : Heap} {xs : List V} {ws : Array Value} (r : VRs h xs ws.toList) : ws.size = xs.length := Array.length_toList.symm.trans r.length.symm
theorem VRs.at {h : Heap} {xs : List V} {ws : Array Value} (r : VRs h xs ws.toList) {j : Nat} (hj : j < ws.size) : ∃ x, xs[j]? = some x ∧ VR h x ws[j] := r.get' (by simp [hj])
theorem eqG_same {H : AH} {h : Heap} {n : Nat} {x y : V} {b : Bool} (e : EqG H n x y b) : ∀ v, VR h x v → VR h y v → b = true := by
  induction e with
  | str n x y => rintro _ ⟨t, rfl⟩ ⟨t', z⟩; cases z; exact beq_self_eq_true _
  | int n x y => rintro _ ⟨t, rfl⟩ ⟨t', z⟩; cases z; exact beq_self_eq_true _
  | bool n x y => intro v hx hy; cases hx; cases hy; exact beq_self_eq_true _
  | list n a a' xs ys f ha hb hs _ _ => intro v hx hy; cases hx; cases hy; exact hs rfl
  | tup n xs ys f _ ih =>
    rintro _ ⟨a, ws, rfl, t, r⟩ ⟨a', ws', z, t', r'⟩
    cases z
    cases tuple_one t t'
    rw [← r.size, ← r'.size]
    refine upto_true fun j hj => ?_
    obtain ⟨x, e1, r1⟩ := r.at hj
    obtain ⟨y, e2, r2⟩ := r'.at hj
    exact ih j x y e1 e2 _ r1 r2
def seqV : V → Bool
  | .tup _ => true
  | .ref _ => true
  | _ => false
inductive EqRes (A : Around) (s : Shared) (x : V) (v u : Value) (b : Bool) : Prop
  | mk (e : EqAt A s v u b) (r : seqV x = true → RcAt A s v u b) (t : seqV x = true → RcNeAt A s v u (!b))
theorem eqG_els {A : Around} {s : Shared} {xs ys : List V} {ws ws' : Array Value} {f : Nat → Bool} (r : VRs s.heap xs ws.toList) (r' : VRs s.heap ys ws'.toList)
    (ih : ∀ j x y, xs[j]? = some x → ys[j]? = some y → ∀ v u, VR s.heap x v → VR s.heap y u → EqRes A s x v u (f j)) : ∀ j (h1 : j < ws.size) (h2 : j < ws'.size), EqAt A s ws[j] ws'[j] (f j) := by
  intro j h1 h2
  obtain ⟨x, e1, r1⟩ := r.at h1
  obtain ⟨y, e2, r2⟩ := r'.at h2
  exact (ih j x y e1 e2 _ _ r1 r2).1
theorem eqG_at {c : Cx} {H : AH} {s : Shared} (R : Rep c H s) {n : Nat} {x y : V} {b : Bool} (e : EqG H n x y b) : ∀ (A : Around), A.units + n < cLine → ∀ (v u : Value), VR s.heap x v → VR s.heap y u → EqRes A s x v u b := by
  have e0 := e
  revert e0
  induction e with
  | str n x y => rintro _ A hu _ _ ⟨t, rfl⟩ ⟨t', rfl⟩; exact ⟨(eqGives_str _ _ t t').at A s, fun z => Bool.noConfusion z, fun z => Bool.noConfusion z⟩
  | int n x y => rintro _ A hu _ _ ⟨t, rfl⟩ ⟨t', rfl⟩; exact ⟨(MeetsSeq.EqGives.int _ _ t t').at A s, fun z => Bool.noConfusion z, fun z => Bool.noConfusion z⟩
  | bool n x y => intro _ A hu v u hx hy; cases hx; cases hy; exact ⟨SeqAt.EqAt.bool_bool _ _, fun z => Bool.noConfusion z, fun z => Bool.noConfusion z⟩
  | tup n xs ys f h0 ih =>
    intro e0 A hu v u hx hy
    refine hide fun Pz bk => ?_
    obtain ⟨a, ws, ea, t, r⟩ := id hx
    obtain ⟨a', ws', ea', t', r'⟩ := id hy
    have he := eqG_els (A := A.in1) r r' fun j x y e1 e2 => ih j x y e1 e2 (h0 j x y e1 e2) A.in1 (by show A.units + 1 + n < cLine; omega)
    have k1 := RcAt.tuples (A := A) t t' (by omega) he
    have k2 := RcNeAt.tuples (A := A) t t' (by omega) he
    rw [r.size, r'.size, ← ea, ← ea'] at k1 k2
    refine bk ⟨?_, fun _ => k1, fun _ => k2⟩
    by_cases hne : v = u
    · rw [← hne] at hy ⊢
      rw [eqG_same e0 v hx hy]
      exact SeqAt.EqAt.same _
    · rw [ea, ea'] at hne k1 ⊢
      exact SeqAt.EqAt.of_refs (fun z => hne (congrArg Value.ref z)) k1
  | list n a a' xs ys f ha hb hs h0 ih =>
    intro e0 A hu v u hx hy
    refine hide fun Pz bk => ?_
    obtain ⟨ws, n1, e1, r⟩ := R.at_ _ _ ha
    obtain ⟨ws', n2, e2, r'⟩ := R.at_ _ _ hb
    have l1 : s.heap.IsList a ws := ⟨_, e1, rfl, n1, rfl⟩
    have l2 : s.heap.IsList a' ws' := ⟨_, e2, rfl, n2, rfl⟩
    have he := eqG_els (A := A.in1) r r' fun j x y e1 e2 => ih j x y e1 e2 (h0 j x y e1 e2) A.in1 (by show A.units + 1 + n < cLine; omega)
    have key : RcAt A s (.ref a) (.ref a') (upto f xs.length ys.length) ∧ RcNeAt A s (.ref a) (.ref a') (!upto f xs.length ys.length) := by
      rw [← r.size, ← r'.size]
      unfold upto
      by_cases hl : ws.size = ws'.size
      · rw [← hl, Nat.min_self, beq_self_eq_true, Bool.and_true]
        exact ⟨RcAt.lists l1 l2 hl (by omega) he, RcNeAt.lists l1 l2 hl (by omega) he⟩
      · rw [beq_eq_false_iff_ne.mpr hl, Bool.and_false]
        exact ⟨RcAt.lists_lengths l1 l2 (bne_iff_ne.mpr hl) (by omega), RcNeAt.lists_lengths l1 l2 (bne_iff_ne.mpr hl) (by omega)⟩
    cases hx; cases hy
    refine bk ⟨?_, fun _ => key.1, fun _ => key.2⟩
    by_cases hne : a = a'
    · rw [hs hne, hne]
      exact SeqAt.EqAt.same _
    · exact SeqAt.EqAt.of_refs hne key.1
section
variable {c : Cx} {q : Md} {d : Nat} {A : Around} {env : Env} {m : Map} {H : AH} {P : V → AH → Prop} {X : Exc → AH → Prop} {pos : Pos} {fl : Option Addr}
theorem units_ok {h : Heap} (O : Ok c q d A H h) {n : Nat} (hn : n ≤ 100) : A.units + n < cLine := by
  have := O.units
  have h2 : cLine = 9900 := rfl
  omega
theorem cmp_eqG {x y : V} {n : Nat} {b : Bool} (hq : seqV x = true) (hn : n ≤ 100) (he : EqG H n x y b) (h : P (.bool b) H) : awO c q d A fl (fun vs => compareOp .Eq (vs.getD 0 .none) (vs.getD 1 .none)) [x, y] H P X := by
  intro s vs B hv
  obtain ⟨v, _, rfl, hv, u, _, rfl, hu, rfl⟩ := hv
  exact (eqG_at B.rep he A (units_ok B.ok hn) _ _ hv hu).2 hq _ _ _ _ (.here (x := .bool _) B.rep rfl h)
theorem cmp_neG {x y : V} {n : Nat} {b : Bool} (hq : seqV x = true) (hn : n ≤ 100) (he : EqG H n x y b) (h : P (.bool (!b)) H) : awO c q d A fl (fun vs => compareOp .NotEq (vs.getD 0 .none) (vs.getD 1 .none)) [x, y] H P X := by
  intro s vs B hv
  obtain ⟨v, _, rfl, hv, u, _, rfl, hu, rfl⟩ := hv
  exact (eqG_at B.rep he A (units_ok B.ok hn) _ _ hv hu).3 hq _ _ _ _ (.here (x := .bool _) B.rep rfl h)
def isTxt (x : Str) : Value → Bool
  | .str y _ => y == x
  | _ => false
theorem txts_any {h : Heap} (x : Str) : ∀ {ys : List Str} {ws : List Value}, VRs h (ys.map V.str) ws → ws.any (isTxt x) = ys.contains x
  | [], _, e => by cases e; rfl
  | y :: ys, _, e => by
    obtain ⟨_, ws, rfl, ⟨t, rfl⟩, r⟩ := e
    rw [List.any_cons, txts_any x r, List.contains_cons]
    exact congrArg (· || ys.contains x) BEq.comm
theorem txts_at {s : Shared} {x : Str} {t : Tok} {A : Around} : ∀ {ys : List Str} {ws : List Value}, VRs s.heap (ys.map V.str) ws → ∀ w ∈ ws, EqAt A s w (.str x t) (isTxt x w)
  | [], _, e, w, hw => by cases e; cases hw
  | y :: ys, _, e, w, hw => by
    obtain ⟨_, ws, rfl, ⟨t', rfl⟩, r⟩ := e
    rcases List.mem_cons.mp hw with rfl | hw
    · exact (eqGives_str _ _ t' t).at A s
    · exact txts_at r w hw
theorem in_strs {a : Addr} {x : Str} {ys : List Str} (ha : H a = some (.list (ys.map V.str))) (h : P (.bool (ys.contains x)) H) : awO c q d A fl (fun vs => compareOp .In (vs.getD 0 .none) (vs.getD 1 .none)) [.str x, .ref a] H P X := by
  intro s vs B hv
  obtain ⟨v, _, rfl, ⟨t, rfl⟩, u, _, rfl, hu, rfl⟩ := hv
  cases hu
  obtain ⟨items, k, e, hr⟩ := B.rep.at_ _ _ ha
  refine SeqAt.in_listAt (isTxt x) ⟨_, e, rfl, k, rfl⟩ (fun y hy => txts_at hr y (Array.mem_toList_iff.mpr hy)) ?_
  rw [← Array.any_toList, txts_any x hr]
  exact .here (x := .bool _) B.rep rfl h
theorem notin_strs {a : Addr} {x : Str} {ys : List Str} (ha : H a = some (.list (ys.map V.str))) (h : P (.bool (!ys.contains x)) H) : awO c q d A fl (fun vs => compareOp .NotIn (vs.getD 0 .none) (vs.getD 1 .none)) [.str x, .ref a] H P X := by
  intro s vs B hv
  obtain ⟨v, _, rfl, ⟨t, rfl⟩, u, _, rfl, hu, rfl⟩ := hv
  cases hu
  obtain ⟨items, k, e, hr⟩ := B.rep.at_ _ _ ha
  refine SeqAt.notIn_listAt (isTxt x) ⟨_, e, rfl, k, rfl⟩ (fun y hy => txts_at hr y (Array.mem_toList_iff.mpr hy)) ?_
  rw [← Array.any_toList, txts_any x hr]
  exact .here (x := .bool _) B.rep rfl h
end
end
section
variable {c : Cx} {q : Md} {d : Nat} {A : Around} {env : Env} {m : Map} {H : AH} {P : V → AH → Prop} {X : Exc → AH → Prop} {pos : Pos} {fl : Option Addr} {K : Frag} {p : Program} {loose : List Str} {mg mb : Str → Option Value}
theorem size_le {n : Nat} (h : n ≤ 100000) : n ≤ sizeLine := Nat.le_trans h (by decide)
theorem OutE.newList {s : Shared} {items : Array Value} {vs : List V} {t : Nat} (R : Rep c H s) (hr : VRs s.heap vs items.toList) (h : ∀ a, H a = none → P (.ref a) (upd H a (.list vs))) : OutE c H s P (.ref s.heap.objs.size) { s with heap := s.heap.push { cls := .type "list", data := .seq items }, toks := t } := by
  have tk : TK s.heap (s.heap.push { cls := .type "list", data := .seq items }) := TK.of_keeps fun _ _ e => Heap.get?_push_of_some _ e
  exact ⟨.ref _, _, h _ (R.fresh (get?_size _)), rfl, R.push _ t (.list vs) ⟨items, 0, Heap.get?_push_size _ rfl, hr.mono tk⟩, .push ..⟩
theorem add_lists {a b : Addr} {vs us : List V} (ha : H a = some (.list vs)) (hb : H b = some (.list us)) (hl : vs.length + us.length ≤ 100000) (h : ∀ n, H n = none → P (.ref n) (upd H n (.list (vs ++ us)))) : awO c q d A fl (fun vs => binaryOp .Add (vs.getD 0 .none) (vs.getD 1 .none)) [.ref a, .ref b] H P X := by
  intro s ws B hv
  obtain ⟨v, _, rfl, hv, u, _, rfl, hu, rfl⟩ := hv
  cases hv; cases hu
  obtain ⟨items, n, e, hr⟩ := B.rep.at_ _ _ ha
  obtain ⟨items2, n2, e2, hr2⟩ := B.rep.at_ _ _ hb
  have hs1 : items.size = vs.length := by rw [← Array.length_toList]; exact hr.length.symm
  have hs2 : items2.size = us.length := by rw [← Array.length_toList]; exact hr2.length.symm
  refine concat_meets ⟨_, e, rfl⟩ ⟨_, e2, rfl⟩ noFill_list_add seq_list_add PySem.F.slot_list_add PySem.F.entry_list_add (PySem.F.args_list_add_2 _ _) (list_addW a b items items2 n n2 none none #[] #[] (by rw [hs1, hs2]; exact size_le hl)) ⟨e, e2, ?_⟩
  exact OutE.newList B.rep (by rw [Array.toList_append]; exact hr.append hr2) h
theorem call_tuple_l {a : Addr} {vs : List V} (ha : H a = some (.list vs)) (hl : vs.length ≤ 100000) (h : P (.tup vs) H) : awCall c q d A fl (.type "tuple") [.ref a] [] H P X := by
  intro s ws kvs B hv hk
  obtain rfl := kvs_nil hk
  obtain ⟨v, _, rfl, hv, rfl⟩ := hv
  cases hv
  obtain ⟨items, n, e, hr⟩ := B.rep.at_ _ _ ha
  have hs1 : items.size = vs.length := by rw [← Array.length_toList]; exact hr.length.symm
  refine call_tuple_list (items := items) ⟨_, e, rfl, n, rfl⟩ (fun h' hk => ?_) (by rw [hs1]; exact size_le hl)
  have k : ∀ b o, s.heap.get? b = some o → (h'.push { cls := .type "tuple", data := .seq items }).get? b = some o := fun b o e => Heap.get?_push_of_some _ (hk b o e)
  exact ⟨.tup vs, H, h, ⟨_, items, rfl, ⟨_, Heap.get?_push_size _ rfl, rfl, 0, rfl⟩, hr.mono (TK.of_keeps k)⟩, B.rep.silent k rfl rfl, .silent k⟩
theorem OutE.newAt {s : Shared} {items : Array Value} {vs : List V} {h' : Heap} {n t : Nat} (R : Rep c H s) (k : ∀ b o, s.heap.get? b = some o → h'.get? b = some o) (e : h'.get? s.heap.objs.size = some (listOf items n)) (hr : VRs s.heap vs items.toList) (h : ∀ a, H a = none → P (.ref a) (upd H a (.list vs))) : OutE c H s P (.ref s.heap.objs.size) { s with heap := h', toks := t } :=
  ⟨.ref _, _, h _ (R.fresh (get?_size _)), rfl, (R.silent (s' := { s with heap := h', toks := t }) k rfl rfl).add (R.gnone (get?_size _)) ⟨items, n, e, hr.mono (TK.of_keeps k)⟩, (Step.silent (s' := { s with heap := h', toks := t }) k).add fun _ => get?_size _⟩
theorem call_list_t {vs : List V} (hl : vs.length ≤ 100000) (h : ∀ n, H n = none → P (.ref n) (upd H n (.list vs))) : awCall c q d A fl (.type "list") [.tup vs] [] H P X := by
  intro s ws kvs B hv hk
  obtain rfl := kvs_nil hk
  obtain ⟨v, _, rfl, ⟨a, items, rfl, ⟨o, e, hc, n, hd⟩, hr⟩, rfl⟩ := hv
  have hs1 : items.size = vs.length := by rw [← Array.length_toList]; exact hr.length.symm
  exact call_list_seq a (.inr rfl) e hc hd (fun h' c' k e' => OutE.newAt B.rep k e' hr h) (by rw [hs1]; exact size_le hl)
def signsV (x : Str) : List V := x.cps.toList.map fun k => .str ⟨#[k]⟩
theorem signs_vrs {h : Heap} {x : Str} : ∀ {cs : List Nat} {i : Nat} {vs : List Value}, x.cps.toList.drop i = cs → vs.length = cs.length → (∀ j v, vs[j]? = some v → SignAt x (i + j) v) → VRs h (cs.map fun k => .str ⟨#[k]⟩) vs
  | [], _, [], _, _, _ => rfl
  | [], _, _ :: _, _, hl, _ => by cases hl
  | _ :: _, _, [], _, hl, _ => by cases hl
  | k :: cs, i, v :: vs, hc, hl, hv => by
    obtain ⟨k', u, hk, rfl⟩ := hv 0 v rfl
    have e : x.cps.toList[i]? = some k := by
      have := congrArg (fun l => l[0]?) hc
      simpa using this
    rw [Nat.add_zero, ← Array.getElem?_toList, e] at hk
    cases hk
    refine ⟨_, vs, rfl, ⟨u, rfl⟩, signs_vrs (x := x) (i := i + 1) ?_ (by simpa using hl) fun j w hw => ?_⟩
    · have := congrArg (fun l => l.drop 1) hc
      simpa [List.drop_drop, Nat.add_comm] using this
    · have := hv (j + 1) w (by simpa using hw)
      rwa [show i + (j + 1) = i + 1 + j by omega] at this
theorem call_list_s {x : Str} (hq : q = .quiet) (hl : x.length ≤ 100000) (h : ∀ n, H n = none → P (.ref n) (upd H n (.list (signsV x)))) : awCall c q d A fl (.type "list") [.str x] [] H P X := by
  intro s ws kvs B hv hk
  obtain rfl := kvs_nil hk
  obtain ⟨v, _, rfl, ⟨t, rfl⟩, rfl⟩ := hv
  refine call_list_str (B.ok.quiet hq) x t (fun h' tk acc c' k e hi => ?_) (size_le hl)
  refine OutE.newAt B.rep k e ?_ h
  refine signs_vrs (x := x) (i := 0) rfl ?_ fun j v hv => ?_
  · rw [Array.length_toList, Array.length_toList, hi.1]
  · rw [Nat.zero_add]; exact hi.2 j v (by rw [← Array.getElem?_toList]; exact hv)
theorem call_range {n : Nat} (hn : n < 1000000) (h : P (.rng n) H) : awCall c q d A fl (.type "range") [.int n] [] H P X := by
  intro s ws kvs B hv hk
  obtain rfl := kvs_nil hk
  obtain ⟨v, _, rfl, ⟨t, rfl⟩, rfl⟩ := hv
  refine call_range_1 ?_
  have k : ∀ b o, s.heap.get? b = some o → (s.heap.push { cls := .type "range", data := .fields #[.int 0 s.toks, .int n t, .int 1 (s.toks + 1)] }).get? b = some o := fun b o e => Heap.get?_push_of_some _ e
  exact ⟨.rng n, H, h, ⟨_, _, _, _, rfl, IsRange.new .., hn⟩, B.rep.silent k rfl rfl, .silent k⟩
theorem in_dict {a : Addr} {kvs : List (Str × V)} {ep : Nat} {k : Str} (ha : H a = some (.dict kvs ep)) (h : P (.bool (kvs.lookup k).isSome) H) : awO c q d A fl (fun vs => compareOp .In (vs.getD 0 .none) (vs.getD 1 .none)) [.str k, .ref a] H P X := by
  intro s ws B hv
  obtain ⟨u, _, rfl, ⟨t, rfl⟩, v, _, rfl, hv, rfl⟩ := hv
  cases hv
  obtain ⟨ys, hD, hk, hr, hs⟩ := B.rep.at_ _ _ ha
  have hv := valueAt_of (k := k) hk hr
  refine wpAny_in_of (knd := strKind c.prog c.w) (k := k) (by exact beq_self_eq_true _) hs hD.dictOf.mapOf ?_
  have e : (valueAt ys k).isSome = (kvs.lookup k).isSome := by
    cases hl : kvs.lookup k with
    | none => rw [hl] at hv; rw [hv]; rfl
    | some x => rw [hl] at hv; obtain ⟨v, h1, _⟩ := hv; rw [h1]; rfl
  rw [e]
  exact .tok (x := .bool _) B.rep rfl h
theorem call_dict_get {a : Addr} {kvs : List (Str × V)} {ep : Nat} {k : Str} (ha : H a = some (.dict kvs ep)) (h : P ((kvs.lookup k).getD .none) H) : awCall c q d A fl (.builtin "dict.get") [.ref a, .str k] [] H P X := by
  intro s ws kvs' B hv hk
  obtain rfl := kvs_nil hk
  obtain ⟨v, _, rfl, hv, u, _, rfl, ⟨t, rfl⟩, rfl⟩ := hv
  cases hv
  obtain ⟨ys, hD, hk, hr, hs⟩ := B.rep.at_ _ _ ha
  have hv := valueAt_of (k := k) hk hr
  refine call_meetsIn PySem.F.slot_dict_get hD.dictOf.typeIs PySem.F.entry_dict_get (PySem.F.args_dict_get_2 _ _) (meets_dict_get (strKind c.prog c.w) (k := k) a (by exact beq_self_eq_true _) hs) ⟨_, hD.dictOf.mapOf, ?_⟩
  cases hl : kvs.lookup k with
  | none => rw [hl] at hv h; rw [hv]; exact .tok (x := .none) B.rep rfl h
  | some x => rw [hl] at hv h; obtain ⟨v, h1, h2⟩ := hv; rw [h1]; exact .tok (x := x) B.rep h2 h
theorem call_values {a : Addr} {kvs : List (Str × V)} {ep : Nat} (ha : H a = some (.dict kvs ep)) (h : P (.vals a) H) : awCall c q d A fl (.builtin "dict.values") [.ref a] [] H P X := by
  intro s ws kvs' B hv hk
  obtain rfl := kvs_nil hk
  obtain ⟨v, _, rfl, hv, rfl⟩ := hv
  cases hv
  obtain ⟨ys, hD, hk, hr, hs⟩ := B.rep.at_ _ _ ha
  refine call_meetsIn PySem.F.slot_dict_values hD.dictOf.typeIs PySem.F.entry_dict_values (PySem.F.args_dict_values_1 _) (meets_dict_values (strKind c.prog c.w) a hs) ⟨⟨_, hD.dictOf⟩, ?_⟩
  have k : ∀ b o, s.heap.get? b = some o → (s.heap.push { cls := .type "dict_values", data := .fields #[.ref a] }).get? b = some o := fun b o e => Heap.get?_push_of_some _ e
  exact ⟨.vals a, H, h, ⟨_, rfl, _, Heap.get?_push_size _ rfl, rfl, rfl⟩, B.rep.silent k rfl rfl, .silent k⟩
theorem call_set0 (h : ∀ a, H a = none → P (.ref a) (upd H a (.set []))) : awCall c q d A fl (.type "set") [] [] H P X := by
  intro s ws kvs' B hv hk
  obtain rfl := kvs_nil hk
  cases hv
  refine call_set_0 fun led => ?_
  refine ⟨.ref _, _, h _ (B.rep.fresh (get?_size _)), rfl, B.rep.push _ s.toks (.set []) ?_, .push ..⟩
  exact ⟨fun _ => false, (setObjOf_fresh led).setOf (Heap.get?_push_size _ rfl) (by decide), fun x => by simp, .nil⟩
theorem call_set_add_ {a : Addr} {xs : List Str} {k : Str} (ha : H a = some (.set xs)) (hl : xs.length < 1000) (h : P .none (upd H a (.set (if k ∈ xs then xs else xs ++ [k])))) : awCall c q d A fl (.builtin "set.add") [.ref a, .str k] [] H P X := by
  intro s ws kvs' B hv hk
  obtain rfl := kvs_nil hk
  obtain ⟨v, _, rfl, hv, u, _, rfl, ⟨t, rfl⟩, rfl⟩ := hv
  cases hv
  obtain ⟨S, hS, hm, hnd⟩ := B.rep.at_ _ _ ha
  refine call_set_add (knd := strKind c.prog c.w) (k := k) (by exact beq_self_eq_true _) rfl hS (by have : scanBound = 4096 := rfl; omega) fun h' hs hS' => ?_
  have kk : ∀ b o, b ≠ a → s.heap.get? b = some o → h'.get? b = some o := fun b o hb e => (hs.2 b hb).trans e
  have or : OR c h' a (.set (if k ∈ xs then xs else xs ++ [k])) := by
    refine ⟨fun k' => S k' || decide (k' = k), ?_, ?_, ?_⟩
    · by_cases hk : k ∈ xs
      · rw [if_pos ((hm k).mpr hk)] at hS'; rw [if_pos hk]; exact hS'
      · have hn : S k = false := by cases hz : S k with | false => rfl | true => exact absurd ((hm k).mp hz) hk
        rw [hn] at hS'; rw [if_neg hk, List.length_append]; exact hS'
    · intro x
      rw [Bool.or_eq_true, decide_eq_true_iff, hm]
      by_cases hk : k ∈ xs
      · rw [if_pos hk]
        exact ⟨fun z => z.elim id fun z => z ▸ hk, .inl⟩
      · rw [if_neg hk, List.mem_append, List.mem_singleton]
    · by_cases hk : k ∈ xs
      · rw [if_pos hk]; exact hnd
      · rw [if_neg hk, List.nodup_append]
        exact ⟨hnd, by simp, fun x hx y hy => by rw [List.mem_singleton] at hy; subst hy; exact fun z => hk (z ▸ hx)⟩
  exact ⟨.none, _, h, rfl, B.rep.put (t := s.toks + 1) ha kk or, .put ha kk or⟩
theorem in_set {a : Addr} {xs : List Str} {k : Str} (ha : H a = some (.set xs)) (h : P (.bool (xs.contains k)) H) : awO c q d A fl (fun vs => compareOp .In (vs.getD 0 .none) (vs.getD 1 .none)) [.str k, .ref a] H P X := by
  intro s ws B hv
  obtain ⟨u, _, rfl, ⟨t, rfl⟩, v, _, rfl, hv, rfl⟩ := hv
  cases hv
  obtain ⟨S, hS, hm, hnd⟩ := B.rep.at_ _ _ ha
  have e : S k = xs.contains k := by rw [Bool.eq_iff_iff, hm, List.contains_iff_mem]
  refine wpAny_inSet_of (knd := strKind c.prog c.w) (k := k) (by exact beq_self_eq_true _) rfl hS ?_
  rw [e]
  exact .tok (x := .bool _) B.rep rfl h
theorem call_join {a : Addr} {x : Str} {ys : List Str} (ha : H a = some (.list (ys.map V.str))) (hok : JoinOk x ys = true) (h : P (.str (Txt.join x ys)) H) : awCall c q d A fl (.builtin "str.join") [.str x, .ref a] [] H P X := by
  intro s ws kvs' B hv hk
  obtain rfl := kvs_nil hk
  obtain ⟨u, _, rfl, ⟨t, rfl⟩, v, _, rfl, hv, rfl⟩ := hv
  cases hv
  obtain ⟨items, n, e, hr⟩ := B.rep.at_ _ _ ha
  have key : ∀ {ys : List Str} {vs : List Value}, VRs s.heap (ys.map V.str) vs → ∃ l : List (Str × Tok), vs = strValues l ∧ l.map (·.1) = ys := by
    intro ys
    induction ys with
    | nil => intro vs h; cases h; exact ⟨[], rfl, rfl⟩
    | cons y ys ih =>
      intro vs h
      obtain ⟨v, vs, rfl, ⟨t, rfl⟩, hr⟩ := h
      obtain ⟨l, h1, h2⟩ := ih hr
      exact ⟨(y, t) :: l, by rw [h1]; rfl, by simp [h2]⟩
  obtain ⟨l, h1, h2⟩ := key hr
  refine SC.join (l := l) (texts := ys) ⟨_, e, rfl, n, by rw [← h1, Array.toArray_toList]⟩ h2 hok fun t' k => .tok (x := .str _) B.rep ⟨_, rfl⟩ h
end
section
variable {prog : Program} {w : World} {A : Around} {E : Value → Shared → Prop} {s : Shared} {env : Env}
theorem Slice_any {value : Expr} {lower upper : Option Expr} {p pos : Pos} {T id : String} {Q : Value → Shared → Prop}
    (hl : typeLookup (.type T) "__getitem__" = pure (some (.builtin id)))
    (h : wpAny (model prog w) A (eval value env) (fun o s₁ => wpAny (model prog w) A (eval (.Slice lower upper none p) env) (fun i s₂ => s₂.TypeIs o T ∧ wpAny (model prog w) A (getItem o i) Q E s₂) E s₁) E s) :
    wpAny (model prog w) A (eval (.Subscript value (.Slice lower upper none p) pos) env) Q E s := by
  rw [eval_Subscript]
  refine wpAny_bind (wpAny_mono h (fun o s₁ h₁ => wpAny_bind (wpAny_holding (wpAny_mono h₁ (fun i s₂ h₂ => wpAny_bind (wpAny_standAt ?_)) fun _ _ x => x)))
    fun _ _ x => x)
  have fin : wpAny (model prog w) A (operate [i, o] (getItem o i)) (fun r s₃ => wpAny (model prog w) A (letTemporaryGo value o r >>= fun _ => pure r) Q E s₃) E s₂ :=
    wpAny_operating (wpAny_mono h₂.2 (fun r s₃ h₃ => wpAny_bind (wpAny_letTemporaryGo (wpAny_pure h₃))) fun _ _ x => x)
  first
    | (refine wpAny_bind ?_
       rw [getitemInPython_of_ne h₂.1.not_modules]
       refine wpAny_bind (wpAny_specialOf h₂.1 hl ?_)
       first
         | exact wpAny_pure (wpAny_bind fin)
         | exact wpAny_bind (wpAny_pure (wpAny_bind fin))
         | exact wpAny_bind fin)
    | (refine wpAny_bind (wpAny_specialOf h₂.1 hl ?_)
       first
         | exact wpAny_bind (wpAny_pure (wpAny_bind fin))
         | exact wpAny_bind fin)
end
theorem VRs.take {h : Heap} : ∀ {xs : List V} {vs : List Value} (n : Nat), VRs h xs vs → VRs h (xs.take n) (vs.take n)
  | _, _, 0, _ => by simp [VRs]
  | [], _, n + 1, e => by cases e; rfl
  | x :: xs, _, n + 1, e => by obtain ⟨y, ys, rfl, a, b⟩ := e; exact ⟨y, _, rfl, a, b.take n⟩
theorem VRs.drop {h : Heap} : ∀ {xs : List V} {vs : List Value} (n : Nat), VRs h xs vs → VRs h (xs.drop n) (vs.drop n)
  | _, _, 0, e => e
  | [], _, n + 1, e => by cases e; rfl
  | x :: xs, _, n + 1, e => by obtain ⟨y, ys, rfl, a, b⟩ := e; exact b.drop n
inductive PartV : V → Option Nat → Prop
  | none : PartV .none none
  | int (n : Nat) : PartV (.int n) (some n)
theorem PartV.part {h : Heap} {x : V} {lo : Option Nat} {v : Value} (hp : PartV x lo) (hv : VR h x v) : IsPart v (lo.map fun n => (n : Int)) := by
  cases hp with
  | none => cases hv; exact .none
  | int n => obtain ⟨t, rfl⟩ := hv; exact .int _ _
def sliceV {α : Type} (l : List α) (lo hi : Option Nat) : List α := (match hi with | none => l | some b => l.take b).drop (lo.getD 0)
theorem slice_eq (items : Array Value) (lo hi : Option Nat) : (slicePick items (lo.map fun n => (n : Int)) (hi.map fun n => (n : Int)) none).toList = sliceV items.toList lo hi := by
  rw [slicePick_plain]
  obtain ⟨l⟩ := items
  have hl : ∀ a b : Nat, (l.drop (min a l.length)).take (min b l.length - min a l.length) = (l.take b).drop a := by
    intro a b
    rw [List.drop_take]
    rcases Nat.le_total a l.length with h | h
    · rw [Nat.min_eq_left h]
      rcases Nat.le_total b l.length with h' | h'
      · rw [Nat.min_eq_left h']
      · rw [Nat.min_eq_right h', List.take_of_length_le (by simp), List.take_of_length_le (by simp; omega)]
    · rw [Nat.min_eq_right h, List.drop_of_length_le (Nat.le_refl _), List.drop_of_length_le h]; simp
  cases lo with
  | none =>
    cases hi with
    | none => show ((l.drop 0).take (l.length - 0)) = l.drop 0; simp
    | some b => show ((l.drop 0).take (clipAt l.length (b : Int) - 0)) = (l.take b).drop 0; rw [clipAt_nat]; have := hl 0 b; rwa [Nat.zero_min] at this
  | some a =>
    cases hi with
    | none => show ((l.drop (clipAt l.length (a : Int))).take (l.length - clipAt l.length (a : Int))) = l.drop a; rw [clipAt_nat]; have := hl a l.length; rwa [Nat.min_self, List.take_length] at this
    | some b => show ((l.drop (clipAt l.length (a : Int))).take (clipAt l.length (b : Int) - clipAt l.length (a : Int))) = (l.take b).drop a; rw [clipAt_nat, clipAt_nat]; exact hl a b
section
variable {c : Cx} {q : Md} {d : Nat} {A : Around} {env : Env} {m : Map} {H : AH} {P : V → AH → Prop} {X : Exc → AH → Prop} {pos : Pos} {fl : Option Addr} {K : Frag} {p : Program} {loose : List Str} {mg mb : Str → Option Value}
def awPart (c : Cx) (q : Md) (d : Nat) (A : Around) (env : Env) (o : Option Expr) (m : Map) (H : AH) (P : V → AH → Prop) (X : Exc → AH → Prop) : Prop :=
  match o with
  | none => P .none H
  | some e => awE c q d A env e m H P X
theorem awPart.ok {o : Option Expr} (h : awPart c q d A env o m H P X) {s : Shared} (F : FRep c q d A env m H s) : awT c A env.frame (evalPart o env) H P X s := by
  cases o with
  | none => exact wpAny_pure ⟨.none, H, h, rfl, F.rep, .refl _ _⟩
  | some e => exact h s F
theorem awE_SliceL {value : Expr} {lower upper : Option Expr} {pp : Pos}
    (h : awE c q d A env value m H (fun x H₁ => awPart c q d A env lower m H₁ (fun y H₂ => awPart c q d A env upper m H₂ (fun z H₃ => ∃ a vs lo hi, x = .ref a ∧ H₃ a = some (.list vs) ∧ vs.length ≤ 100000 ∧ PartV y lo ∧ PartV z hi ∧
      ∀ n, H₃ n = none → P (.ref n) (upd H₃ n (.list (sliceV vs lo hi)))) X) X) X) : awE c q d A env (.Subscript value (.Slice lower upper none pp) pos) m H P X := by
  intro s F
  refine Slice_any (T := "list") list_getitem_lookup (awT_then h F (fun x H₁ s₁ v hp F₁ hv S => ?_) fun _ _ o => o)
  refine wpAny_Slice (wpAny_mono (hp.ok F₁) (fun vl s₂ hvl => ?_) fun _ _ o => o.from S)
  obtain ⟨y, H₂, hp₂, hy, R₂, S₂⟩ := hvl
  have F₂ := F₁.step R₂ S₂
  refine wpAny_mono (hp₂.ok F₂) (fun vu s₃ hvu => ?_) fun _ _ o => o.from (S.trans S₂)
  obtain ⟨z, H₃, ⟨a, vs, lo, hi, rfl, ha, hl, hlo, hhi, hp₃⟩, hz, R₃, S₃⟩ := hvu
  cases hv
  obtain ⟨items, n, e, hr⟩ := R₃.at_ _ _ ha
  have hs1 : items.size = vs.length := by rw [← Array.length_toList]; exact hr.length.symm
  have hL : s₃.heap.IsList a items := ⟨_, e, rfl, n, rfl⟩
  have hy' := hy.mono (R₂.tk S₃)
  rw [evalPart_none]
  refine wpAny_pure ⟨(hL.push _).typeIs, wpAny_getItem_list_slice (hL.push _) (Heap.IsSliceOf.new ..) (hlo.part hy') (hhi.part hz) .none (by simp) ?_ (by rw [hs1]; exact size_le hl)⟩
  have R₄ := R₃.push0 { cls := .type "slice", data := .fields #[vl, vu, .none] } s₃.toks
  have S₄ := Step.push0 H₃ s₃ { cls := .type "slice", data := .fields #[vl, vu, .none] } s₃.toks
  have tk₄ := R₃.tk S₄
  refine OutE.from (S.trans (S₂.trans (S₃.trans S₄))) ?_
  exact OutE.newList (s := { s₃ with heap := s₃.heap.push { cls := .type "slice", data := .fields #[vl, vu, .none] }, toks := s₃.toks }) (t := s₃.toks) R₄ (by rw [slice_eq]; unfold sliceV; cases hi <;> first | exact (hr.mono tk₄).drop _ | exact ((hr.mono tk₄).take _).drop _) hp₃
theorem meets_bool_list (l : Addr) (items : Array Value) (hfit : (items.size : Int) < 2 ^ 63) : Meets (Builtin.«bool.__new__» ⟨[.type "bool", .ref l], []⟩) (fun _ R s => s.heap.IsList l items ∧ R (.ok (.ret (.bool (!items.isEmpty)))) { s with toks := s.toks + 1 + 1 }) :=
  Meets.of_wp fun prog w A R s hs => by
    obtain ⟨hp, g, d, tk, os⟩ := s
    obtain ⟨hl, hs⟩ := hs
    have f1 := PySem.F.conv_sub_bool
    repeat (any_goals (first | assumption | (with_reducible refine wpAny_truthy_list hl hfit ?_) | wp_step))
    all_goals first | exact ⟨_, rfl, hs⟩ | exact hs | skip
theorem call_bool_l {a : Addr} {vs : List V} (ha : H a = some (.list vs)) (hl : vs.length ≤ 100000) (h : P (.bool (!vs.isEmpty)) H) : awCall c q d A fl (.type "bool") [.ref a] [] H P X := by
  intro s ws kvs B hv hk
  obtain rfl := kvs_nil hk
  obtain ⟨v, _, rfl, hv, rfl⟩ := hv
  cases hv
  obtain ⟨items, n, e, hr⟩ := B.rep.at_ _ _ ha
  have hs1 : items.size = vs.length := by rw [← Array.length_toList]; exact hr.length.symm
  refine call_bool_1 (meets_bool_list a items (by omega)) ⟨⟨_, e, rfl, n, rfl⟩, ?_⟩
  have : (!items.isEmpty) = !vs.isEmpty := by
    congr 1
    rw [Bool.eq_iff_iff, List.isEmpty_iff, Array.isEmpty_iff, ← List.length_eq_zero_iff, ← Array.size_eq_zero_iff, hs1]
  rw [this]
  exact ⟨rfl, .tok (x := .bool _) B.rep rfl h⟩
theorem get_last {a : Addr} {vs : List V} {x : V} (ha : H a = some (.list (vs ++ [x]))) (hl : vs.length < 100000) (h : P x H) : awO c q d A fl (fun vs => getItem (vs.getD 0 .none) (vs.getD 1 .none)) [.ref a, .int (-1)] H P X := by
  intro s ws B hv
  obtain ⟨v, _, rfl, hv, u, _, rfl, ⟨t, rfl⟩, rfl⟩ := hv
  cases hv
  obtain ⟨items, n, e, hr⟩ := B.rep.at_ _ _ ha
  have hs1 : items.size = vs.length + 1 := by rw [← Array.length_toList, ← hr.length]; simp
  obtain ⟨v, hv1, hv2⟩ := hr.get (i := vs.length) (x := x) (by simp)
  refine wpAny_getItem_list_neg (items := items) ⟨_, e, rfl, n, rfl⟩ (by decide) (by omega) (by decide) ?_ (.here B.rep hv2 h)
  rw [show ((-1 : Int) + items.size).toNat = vs.length by omega, ← Array.getElem?_toList]
  exact hv1
end
section
variable {c : Cx} {q : Md} {d : Nat} {A : Around} {env : Env} {m : Map} {H : AH} {pos : Pos} {fl : Option Addr} {K : Frag} {p : Program} {loose : List Str} {mg mb : Str → Option Value} {P : Fl → Map → AH → Prop} {X : Exc → Map → AH → Prop}
theorem awS_IfWalrus {y : Str} {e : Expr} {a b : List Stmt} {p₁ p₂ p₃ p₄ : Pos} {kn : Nat} (hy : Storable env y)
    (h : awE c q d A env e m H (fun x H₁ => ∃ z, noneV x = some z ∧ if z then awSs c q d A env a (set m y x) H₁ P X else awSs c q d A env b (set m y x) H₁ P X) fun k H' => X k m H') :
    awS c q d A env (.If (.Compare (.NamedExpr (.Name y p₁) e p₂) [.Is] [.Constant .none kn p₃] p₄) a b pos) m H P X := by
  intro s S
  refine wpAny_If (wpAny_isTrue_Compare1 (wpAny_NamedExpr (awT_then h S.toFRep (fun x H₁ s₁ v hp F₁ hv x₁ => ?_) fun _ _ o => o.toS S.toFRep)) rfl)
  obtain ⟨z, hz, hp⟩ := hp
  refine wpAny_assign_Name (wpAny_mono (store_ok F₁.rep F₁.fr hv hy) (fun _ s₂ ⟨R₂, F₂, x₂, hkeep⟩ => ?_) fun _ _ o => o)
  have S₂ := S.stepF R₂ F₂ (x₁.toF.trans x₂)
  have hv₂ : VR s₂.heap x v := hv.mono (F₁.fr.tk F₁.rep x₂)
  have hc := awE_Const (c := c) (q := q) (d := d) (A := A) (env := env) (m := set m y x) (H := H₁) (pos := p₃) (P := fun z H' => z = .none ∧ H' = H₁) (X := fun _ _ => False) (k := .none) (n := kn) (v := .none) rfl ⟨rfl, rfl⟩
  refine wpAny_mono (hc s₂ S₂.toFRep) (fun u s₃ ho => ?_) fun _ _ ⟨_, _, f, _, _, _⟩ => f.elim
  obtain ⟨z₃, H₃, ⟨rfl, rfl⟩, hu, R₃, x₃⟩ := ho
  have S₃ := S₂.step R₃ x₃
  have hn := is_none (c := c) (q := q) (d := d) (A := A) (H := H₃) (fl := env.frame) (P := fun w H' => w = .bool z ∧ H' = H₃) (X := fun _ _ => False) hz ⟨rfl, rfl⟩
  refine wpAny_mono (hn s₃ [v, u] S₃.toBRep ⟨v, [u], rfl, hv₂.mono (R₂.tk x₃), u, [], rfl, hu, rfl⟩) (fun w s₄ ho => ?_) fun _ _ ⟨_, _, f, _, _, _⟩ => f.elim
  obtain ⟨z₄, H₄, ⟨rfl, rfl⟩, hw, R₄, x₄⟩ := ho
  cases hw
  have S₄ := S₃.step R₄ x₄
  have x := (x₁.toF.trans x₂).trans (x₃.toF.trans x₄.toF)
  refine wpAny_truthy_bool ?_
  cases z
  · exact wpAny_mono (hp s₄ S₄) (fun _ _ => OutS.from x) fun _ _ => OutSX.from x
  · exact wpAny_mono (hp s₄ S₄) (fun _ _ => OutS.from x) fun _ _ => OutSX.from x
theorem awS_Assign2 {y₁ y₂ : Str} {p₁ p₂ : Pos} {e : Expr} (h1 : Storable env y₁) (h2 : Storable env y₂) (he : (assignEach [.Name y₁ p₁, .Name y₂ p₂] env).map (·.2) = [assign (.Name y₁ p₁) env, assign (.Name y₂ p₂) env]) (hw : swappedStores [.Name y₁ p₁, .Name y₂ p₂] e env = pure none)
    (h : awE c q d A env e m H (fun x H₁ => P .next (set (set m y₁ x) y₂ x) H₁) fun k H' => X k m H') : awS c q d A env (.Assign [.Name y₁ p₁, .Name y₂ p₂] e pos) m H P X := by
  intro s S
  refine wpAny_Assign_two (awT_then h S.toFRep (fun x H₁ s₁ v hp F₁ hv x₁ => ?_) fun _ _ o => o.toS S.toFRep) he hw
  refine wpAny_assign_Name (wpAny_mono (store_ok F₁.rep F₁.fr hv h1) (fun _ s₂ ⟨R₂, F₂, x₂, _⟩ => ?_) fun _ _ o => o)
  refine wpAny_assign_Name (wpAny_mono (store_ok R₂ F₂ (hv.mono (F₁.fr.tk F₁.rep x₂)) h2) (fun _ s₃ ⟨R₃, F₃, x₃, _⟩ => ?_) fun _ _ o => o)
  exact ⟨.next, _, H₁, hp, rfl, R₃, F₃, (x₁.toF.trans x₂).trans x₃⟩
theorem awS_AssignSubName {y : Str} {o i e : Expr} {p₁ p₂ : Pos} (hy : Storable env y) (he : (assignEach [.Subscript o i p₁, .Name y p₂] env).map (·.2) = [assign (.Subscript o i p₁) env, assign (.Name y p₂) env]) (hw : swappedStores [.Subscript o i p₁, .Name y p₂] e env = pure none)
    (h : awE c q d A env e m H (fun x H₁ => awE c q d A env o m H₁ (fun z H₂ => awE c q d A env i m H₂ (fun u H₃ => ∃ a kvs ep k, z = .ref a ∧ u = .str k ∧ H₃ a = some (.dict kvs ep) ∧ kvs.length ≤ 1000 ∧ ∀ ep', P .next (set m y x) (upd H₃ a (.dict (putD kvs k x) ep'))) fun k H' => X k m H') fun k H' => X k m H') fun k H' => X k m H') :
    awS c q d A env (.Assign [.Subscript o i p₁, .Name y p₂] e pos) m H P X := by
  intro s S
  refine wpAny_Assign_two (awT_then h S.toFRep (fun x H₁ s₁ v₁ hp F₁ hv₁ st₁ => ?_) fun _ _ o => o.toS S.toFRep) he hw
  rw [assign_sub]
  refine wpAny_bind (wpAny_holding (awT_then hp F₁ (fun y' H₂ s₂ v₂ hp₂ F₂ hv₂ st₂ => ?_) fun _ _ o => (OutX.from st₁ o).toS S.toFRep))
  refine wpAny_bind (wpAny_holding (awT_then hp₂ F₂ (fun z H₃ s₃ v₃ hp₃ F₃ hv₃ st₃ => ?_) fun _ _ o => (OutX.from (st₁.trans st₂) o).toS S.toFRep))
  obtain ⟨a, kvs, ep, k, rfl, rfl, ha, hl, hP⟩ := hp₃
  have st₁₂₃ := (st₁.trans st₂).trans st₃
  cases hv₂
  obtain ⟨t, rfl⟩ := hv₃
  have hv₁' := (hv₁.mono (F₁.rep.tk st₂)).mono (F₂.rep.tk st₃)
  refine wpAny_bind (wpAny_standAt (wpAny_bind (wpAny_holding (wpAny_mono (setItem_dict (E := OutSX c env H s X) F₃.toBRep ha hl hv₁') (fun _ s₄ ⟨ep', R₄, st₄⟩ => ?_) fun _ _ e => e))))
  have F₄ := F₃.step R₄ st₄
  have fin : wpAny c.M A (assign (.Name y p₂) env v₁) (fun _ s' => OutS c env H s P .next s') (OutSX c env H s X) s₄ :=
    wpAny_assign_Name (wpAny_mono (store_ok R₄ F₄.fr (hv₁'.mono (F₃.rep.tk st₄)) hy) (fun _ s₅ ⟨R₅, F₅, x₅, _⟩ => ⟨.next, _, _, hP ep', rfl, R₅, F₅, ((st₁₂₃.trans st₄).toF).trans x₅⟩) fun _ _ o => o)
  exact wpAny_release fin
theorem keys_without {h : Heap} {k : Str} : ∀ {kvs : List (Str × V)} {ys : List (Str × Value)}, ys.map (·.1) = kvs.map (·.1) → VRs h (kvs.map (·.2)) (ys.map (·.2)) →
    (without ys k).map (·.1) = (kvs.filter fun kv => decide (kv.1 ≠ k)).map (·.1) ∧ VRs h ((kvs.filter fun kv => decide (kv.1 ≠ k)).map (·.2)) ((without ys k).map (·.2))
  | [], [], _, _ => ⟨rfl, rfl⟩
  | [], _ :: _, h, _ => by simp at h
  | _ :: _, [], h, _ => by simp at h
  | (n, x) :: kvs, (n', v) :: ys, h1, h2 => by
    simp only [List.map_cons, List.cons.injEq] at h1
    obtain ⟨rfl, h1⟩ := h1
    obtain ⟨y, ys', he, a, b⟩ := h2
    simp only [List.map_cons, List.cons.injEq] at he
    obtain ⟨rfl, rfl⟩ := he
    obtain ⟨i1, i2⟩ := keys_without (k := k) h1 b
    unfold without at i1 i2 ⊢
    by_cases hk : n' = k
    · rw [List.filter_cons_of_neg (by simpa using hk), List.filter_cons_of_neg (by simpa using hk)]
      exact ⟨i1, i2⟩
    · rw [List.filter_cons_of_pos (by simpa using hk), List.filter_cons_of_pos (by simpa using hk)]
      exact ⟨by rw [List.map_cons, List.map_cons, i1], _, _, rfl, a, i2⟩
theorem awS_DelItem {o i : Expr} {p₁ : Pos}
    (h : awE c q d A env o m H (fun z H₂ => awE c q d A env i m H₂ (fun u H₃ => ∃ a kvs ep k, z = .ref a ∧ u = .str k ∧ H₃ a = some (.dict kvs ep) ∧ kvs.length ≤ 1000 ∧ (kvs.lookup k).isSome = true ∧ ∀ ep', P .next m (upd H₃ a (.dict (kvs.filter fun kv => decide (kv.1 ≠ k)) ep'))) fun k H' => X k m H') fun k H' => X k m H') :
    awS c q d A env (.Delete [.Subscript o i p₁] pos) m H P X := by
  intro s S
  refine wpAny_Delete (wpAny_deleteEach_cons (delete_Subscript (awT_then h S.toFRep (fun y' H₂ s₂ v₂ hp₂ F₂ hv₂ st₂ => ?_) fun _ _ o => o.toS S.toFRep)))
  refine awT_then hp₂ F₂ (fun z H₃ s₃ v₃ hp₃ F₃ hv₃ st₃ => ?_) fun _ _ o => (OutX.from st₂ o).toS S.toFRep
  obtain ⟨a, kvs, ep, k, rfl, rfl, ha, hl, hin, hP⟩ := hp₃
  cases hv₂
  obtain ⟨t, rfl⟩ := hv₃
  obtain ⟨ys, hD, hk, hr, hsm⟩ := F₃.rep.at_ _ _ ha
  have hlen : ys.length = kvs.length := by simpa using congrArg List.length hk
  have hv := valueAt_of (k := k) hk hr
  obtain ⟨x, hx⟩ := Option.isSome_iff_exists.mp hin
  rw [hx] at hv
  obtain ⟨v, hv1, _⟩ := hv
  refine wpAny_delItem_slot hD.dictOf.typeIs (by decide) PySem.F.slot_dict_delitem
    (call_meetsIn PySem.F.slot_dict_delitem hD.dictOf.typeIs PySem.F.entry_dict_delitem (PySem.F.args_dict_delitem_2 _ _) (meets_dict_delitem_pairs (strKind c.prog c.w) (k := k) a (by exact beq_self_eq_true _)) ⟨ys, hD.dictOf, (by rw [hlen]; exact Nat.le_trans hl (by decide)), by rw [hv1]; rfl, fun h' hmm hs => ?_⟩)
  obtain ⟨ep', hD'⟩ := hmm.dictAt
  have kk : ∀ b o, b ≠ a → s₃.heap.get? b = some o → h'.get? b = some o := fun b o hb e => (hs.2 b hb).trans e
  obtain ⟨o, es, e, hx', _⟩ := id hD
  have tk : TK s₃.heap h' := fun b o' e1 hc hd => kk b o' (fun z => by subst z; rw [e] at e1; cases e1; rw [hx'.1] at hc; cases hc) e1
  obtain ⟨r1, r2⟩ := keys_without (k := k) hk hr
  have or : OR c h' a (.dict (kvs.filter fun kv => decide (kv.1 ≠ k)) ep') := ⟨_, hD', r1, r2.mono tk, hsm⟩
  have R₄ := F₃.rep.put (t := s₃.toks + 1) ha kk or
  have st₄ := Step.put (s := s₃) (t := s₃.toks + 1) ha kk or
  exact wpAny_deleteEach_nil ⟨.next, m, _, hP ep', rfl, R₄, (F₃.step R₄ st₄).fr, ((st₂.trans st₃).trans st₄).toF⟩
end
section
open PySem
section
theorem entry_unchain : entryFor table "proto.unchain" = some Builtin.«proto.unchain» := entryFor_of_fast (by kernel_rfl)
section
variable {α : Type} {prog : Program} {w : World} {A : Around} {E : Value → Shared → Prop} {s : Shared} {a : Addr} {ob : Obj} {vs : Array Value}
theorem raiseNew_held {e : Addr} {oe : Obj} {ve : Array Value} {Q : α → Shared → Prop} (hh : A.handled = some (.ref a)) (ho : s.heap.get? a = some ob) (hd : ob.data = .fields vs) (h2 : vs[2]? = some .none) (hne : a ≠ e) (he : s.heap.get? e = some oe) (hde : oe.data = .fields ve) (hsz : 2 < ve.size)
    (h : E (.ref e) { s with heap := s.heap.update e (Obj.mapFields (·.setIfInBounds 2 (.ref a))) }) : wpAny (model prog w) A (raiseNew (.ref e) : Sem α) Q E s := by
  unfold raiseNew
  refine wpAny_bind (wpAny_handled ?_)
  rw [hh]
  dsimp only
  rw [if_pos (show (Value.ref a != Value.ref e) = true from by rw [bne_iff_ne]; intro z; exact hne (Value.ref.inj z))]
  have hu : wpAny (model prog w) A (updateField e 2 (.ref a)) (fun _ s' => wpAny (model prog w) A (throw (.ref e) : Sem α) Q E s') E s := by
    unfold updateField
    refine wpAny_bind (wpAny_load he ?_)
    rw [hde]
    dsimp only
    rw [if_pos hsz]
    exact wpAny_update he (wpAny_throw h)
  have hr : wpAny (model prog w) A (holding [.ref e] (runValue (.builtin "proto.unchain" ⟨[.ref e, .ref a, .ref a, .bool false], []⟩))) (fun _ s' => s' = s) E s := by
    refine wpAny_holding (wpAny_runValue (codeAny_builtin entry_unchain ?_))
    unfold Builtin.«proto.unchain»
    refine wpAny_bind (wpAny_field ho hd h2 ?_)
    rw [if_pos (show (Value.none == Value.none) = true from rfl)]
    exact wpAny_pure rfl
  first
    | exact wpAny_bind (wpAny_bind (wpAny_mono hr (fun _ s' z => by subst z; exact hu) fun _ _ z => z))
    | exact wpAny_bind (wpAny_mono hr (fun _ s' z => by subst z; exact wpAny_bind hu) fun _ _ z => z)
theorem raiseWords_held {cls msg : String} {Q : α → Shared → Prop} (hp : PlainExc cls) (hh : A.handled = some (.ref a)) (ho : s.heap.get? a = some ob) (hd : ob.data = .fields vs) (h2 : vs[2]? = some .none)
    (h : ∀ h' tk e, Heap.NewExcOf s.heap h' e cls → E (.ref e) { s with heap := h', toks := tk }) :
    wpAny (model prog w) A (raiseErrorWords cls msg : Sem α) Q E s := by
  unfold raiseErrorWords
  refine wpAny_bind (wpAny_mkText (wpAny_bind ?_))
  unfold newExc newTuple
  refine wpAny_bind (wpAny_newObj_type ?_)
  refine wpAny_bind (m := firstArgMember _ _) (wpAny_of_eq (a := Value.none) (by simp only [firstArgMember, hp.first]; rfl) ?_)
  rw [hp.own]
  refine wpAny_newObj_type ?_
  have hlt := Heap.lt_size ho
  refine raiseNew_held hh (Heap.get?_push_of_some _ (Heap.get?_push_of_some _ ho)) hd h2 (Nat.ne_of_lt (by rw [Heap.size_push]; exact Nat.lt_succ_of_lt hlt)) (Heap.get?_push_size _ rfl) rfl (by simp) ?_
  refine h _ _ _ ⟨fun b o hb => ?_, Heap.get?_none_of_le (by simp), _, _, Heap.get?_update_self _ (Heap.get?_push_size _ rfl) rfl, rfl, rfl, by simp⟩
  have hlb := Heap.lt_size hb
  rw [Heap.get?_update_other _ _ (Nat.ne_of_gt (by rw [Heap.size_push]; exact Nat.lt_succ_of_lt hlb))]
  exact Heap.get?_push_of_some _ (Heap.get?_push_of_some _ hb)
theorem getItem_out_held {l : Addr} {items : Array Value} {k : Int} {t : Tok} {Q : Value → Shared → Prop} (hh : A.handled = some (.ref a)) (hoa : s.heap.get? a = some ob) (hda : ob.data = .fields vs) (h2 : vs[2]? = some .none) (hl : s.heap.IsList l items)
    (h0 : 0 ≤ k) (hout : (items.size : Int) ≤ k) (hhi : k < 2 ^ 63)
    (hE : ∀ h' tk e, Heap.NewExcOf s.heap h' e "IndexError" → E (.ref e) { s with heap := h', toks := tk }) :
    wpAny (model prog w) A (getItem (.ref l) (.int k t)) Q E s := by
  obtain ⟨o, ho, hc, ne, hd⟩ := id hl
  have hfit : Builtin.List.listFitsIndex k = true := fitsIndex_both (by omega) hhi
  unfold getItem
  try with_reducible refine wpAny_holding ?_
  first | refine wpAny_bind (wpAny_pure ?_) | skip
  refine wpAny_bind (wpAny_sequenceKey hl.typeIs (by decide) ?_)
  refine wpAny_bind (wpAny_callSpecial?_slot (name := Str.ofString "__getitem__") hl.typeIs slot_list_getitem
    (wpAny_call_entry slot_list_getitem hl.typeIs entry_list_getitem ?_ (args_list_getitem _ _)))
  show wpAny _ _ (Builtin.List.listSubscript? (.int k t) >>= _) _ _ s
  refine wpAny_bind (wpAny_listSubscript_int hfit ?_)
  clear hfit hhi
  cases k with
  | negSucc j => exact absurd h0 (by have := Int.negSucc_lt_zero j; omega)
  | ofNat j =>
    have hx : items[j]? = none := Array.getElem?_eq_none (by have : (items.size : Int) ≤ (j : Int) := hout; omega)
    show wpAny _ _ ((seqItemAt l j >>= fun r => pure (r.map (j, ·))) >>= _) _ _ s
    refine wpAny_bind (wpAny_bind (wpAny_seqItemAt ho hd (wpAny_pure ?_)))
    rw [hx]
    have hh' : A.in1.handled = some (.ref a) := hh
    first
      | exact wpAny_bind (wpAny_rule (raiseWords_held plainExc_IndexError hh' hoa hda h2 hE))
      | exact wpAny_bind (wpAny_rule (wpAny_bind (raiseWords_held plainExc_IndexError hh' hoa hda h2 hE)))
      | exact wpAny_bind (wpAny_bind (wpAny_rule (raiseWords_held plainExc_IndexError hh' hoa hda h2 hE)))
      | exact wpAny_rule (raiseWords_held plainExc_IndexError hh' hoa hda h2 hE)
end
end
section
section
variable {c : Cx} {q : Md} {d : Nat} {A : Around} {env : Env} {m : Map} {H : AH} {P : V → AH → Prop} {X : Exc → AH → Prop} {pos : Pos} {fl : Option Addr} {K : Frag} {p : Program} {loose : List Str} {mg mb : Str → Option Value}
theorem OutX.newExc {s : Shared} {h' : Heap} {tk : Nat} {e : Addr} {cls : String} (R : Rep c H s) (hx : Heap.NewExc s.heap h' e cls) (hi : immCls (.type cls) = false) (h : X (.b cls) H) : OutX c fl H s X (.ref e) { s with heap := h', toks := tk } := by
  obtain ⟨ob, t, e1, e2, e3⟩ := hx.there
  exact ⟨.b cls, H, h, ⟨e, ob, _, .none, rfl, hx.new, R.fresh hx.new, e1, ⟨e2, hi, fun _ => rfl⟩, e3, rfl, .inl rfl⟩, R.silent (s' := { s with heap := h', toks := tk }) hx.keeps rfl rfl, .silent hx.keeps⟩
theorem OutX.newExcOf {s : Shared} {h' : Heap} {tk : Nat} {e : Addr} {cls : String} (R : Rep c H s) (hx : Heap.NewExcOf s.heap h' e cls) (hi : immCls (.type cls) = false) (h : X (.ch cls) H) : OutX c fl H s X (.ref e) { s with heap := h', toks := tk } := by
  obtain ⟨ob, vs, e1, e2, e3, e4⟩ := hx.there
  exact ⟨.ch cls, H, h, ⟨e, ob, vs, .none, rfl, hx.new, R.fresh hx.new, e1, ⟨e2, hi, (fun z => by cases z)⟩, e3, e4, .inl rfl⟩, R.silent (s' := { s with heap := h', toks := tk }) hx.keeps rfl rfl, .silent hx.keeps⟩
theorem get_out {a : Addr} {vs : List V} {i : Nat} (hq : q ≠ .loose) (ha : H a = some (.list vs)) (hi : vs.length ≤ i) (hi' : i < 100000) (h : X (match q with | .quiet => .b "IndexError" | _ => .ch "IndexError") H) : awO c q d A fl (fun vs => getItem (vs.getD 0 .none) (vs.getD 1 .none)) [.ref a, .int i] H P X := by
  intro s ws B hv
  obtain ⟨v, _, rfl, hv, u, _, rfl, ⟨t, rfl⟩, rfl⟩ := hv
  cases hv
  obtain ⟨items, n, e, hr⟩ := B.rep.at_ _ _ ha
  have hs1 : items.size = vs.length := by rw [← Array.length_toList]; exact hr.length.symm
  cases q with
  | loose => exact absurd rfl hq
  | quiet => exact wpAny_getItem_list_out (B.ok.quiet rfl) (items := items) ⟨_, e, rfl, n, rfl⟩ (.inr (by omega)) (by omega) (by omega) fun h' tk ex hx => OutX.newExc B.rep hx rfl h
  | held =>
    obtain ⟨b, ob, ve, h1, h2, h3, h4, h5⟩ := B.ok.hnd rfl
    exact getItem_out_held h1 h3 h4 h5 (items := items) ⟨_, e, rfl, n, rfl⟩ (by omega) (by omega) (by omega) fun h' tk ex hx => OutX.newExcOf B.rep hx rfl h
end
end
end
inductive ExcN (h₀ : Heap) (H : AH) (h : Heap) (k : Exc) (e : Addr) : Prop
  | mk (ob : Obj) (vs : Array Value) (T : Addr) (oT : Obj) (ts : Array Value) (b : h₀.get? e = none) (c : H e = none) (d : h.get? e = some ob) (f : ob.cls = k.cls ∧ immCls k.cls = false ∧ (k.plain = true → vs[2]? = some .none)) (g : ob.data = .fields vs) (i : vs[1]? = some (.ref T)) (j : T ≠ e) (l : h₀.get? T = none) (n : H T = none) (o : h.get? T = some oT) (p : immCls oT.cls = false ∧ oT.data = .fields ts) (q : 3 < ts.size)
inductive OutN (c : Cx) (env : Env) (H : AH) (s : Shared) (X : Exc → Map → AH → Prop) (e : Addr) (s' : Shared) : Prop
  | mk (k : Exc) (m' : Map) (H' : AH) (a : X k m' H') (b : ExcN s.heap H' s'.heap k e) (r : Rep c H' s') (F : FrameAt c env m' H' s'.heap) (z : StepF env H s H' s')
section
variable {c : Cx} {q : Md} {d : Nat} {A A' : Around} {env : Env} {m : Map} {H : AH} {X : Exc → Map → AH → Prop}
theorem SRep.mark {s : Shared} {md : Md} {e : Addr} (S : SRep c q d A env m H s) (h1 : md ≠ .quiet) (h2 : md = .held → H e = none ∧ ∃ ob vs, s.heap.get? e = some ob ∧ ob.data = .fields vs ∧ vs[2]? = some .none) : SRep c md d (A.mark (some (.ref e))) env m H s := by
  refine hide fun Pz bkz => ?_
  obtain ⟨⟨⟨R, O⟩, F⟩, f, t⟩ := S
  refine bkz ?_
  refine ⟨⟨⟨R, ⟨O.depth, O.units, fun z => absurd z h1, fun z => ?_, O.stack⟩⟩, F⟩, f, t⟩
  refine hide fun Pz bkz => ?_
  obtain ⟨a, ob, vs, b, c', d'⟩ := h2 z
  refine bkz ?_
  exact ⟨e, ob, vs, rfl, a, b, c', d'⟩
theorem ExcN.keep {h₀ : Heap} {m₁ : Map} {H₁ H₂ : AH} {s₁ s₂ : Shared} {k : Exc} {e : Addr} (x : ExcN h₀ H₁ s₁.heap k e) (F : FrameAt c env m₁ H₁ s₁.heap) (y : StepF env H₁ s₁ H₂ s₂) : ExcN h₀ H₂ s₂.heap k e := by
  refine hide fun Pz bkz => ?_
  obtain ⟨ob, vs, T, oT, ts, a1, a2, a3, ⟨a4, a5, a5'⟩, a6, a7, a8, a9, b1, b2, ⟨b3, b4⟩, b5⟩ := x
  obtain ⟨m₀, ⟨oL, es, ep, hL, hLd, _⟩, _⟩ := F.loc
  refine bkz ?_
  have nl : ∀ {b o vs}, s₁.heap.get? b = some o → o.data = .fields vs → b ≠ env.locals ∧ ∀ k ∈ env.cells, b ≠ k.2 := fun {b o vs} e1 e2 =>
    ⟨(fun z => by rw [z, hL] at e1; cases e1; rw [e2] at hLd; cases hLd), (fun k hk z => by
      obtain ⟨_, ⟨v₀, ok, ek, dk⟩, _⟩ := F.cfree k hk
      rw [z, ek] at e1; cases e1; rw [e2] at dk; cases dk)⟩
  obtain ⟨o1, e1, k1⟩ := y.kept e ob a3 a2 (nl a3 a6).1 (nl a3 a6).2
  obtain ⟨o2, e2, k2⟩ := y.kept T oT b2 b1 (nl b2 b4).1 (nl b2 b4).2
  exact ⟨o1, vs, T, o2, ts, a1, y.free a2 a3, e1, ⟨k1.data.2.1.trans a4, a5, a5'⟩, k1.data.1.trans a6, a7, a8, a9, y.free b1 b2, e2, ⟨by rw [k2.data.2.1]; exact b3, k2.data.1.trans b4⟩, b5⟩
theorem flight_set {h₀ : Heap} {m₁ : Map} {H₁ : AH} {s₁ : Shared} {k : Exc} {e : Addr} {fv : Option Addr} {E : Value → Shared → Prop} (hg : ∀ b, h₀.get? b = none → c.g.get? b = none) (x : ExcN h₀ H₁ s₁.heap k e) (R : Rep c H₁ s₁) (F : FrameAt c env m₁ H₁ s₁.heap) :
    wpAny c.M A (setFlight (.ref e) fv) (fun _ s₂ => ExcN h₀ H₁ s₂.heap k e ∧ Rep c H₁ s₂ ∧ FrameAt c env m₁ H₁ s₂.heap ∧ (∀ H₀ s₀, s₀.heap = h₀ → StepF env H₀ s₀ H₁ s₁ → StepF env H₀ s₀ H₁ s₂) ∧ (∀ L, fv = some L → ExcR (some L) h₀ H₁ s₂.heap k (.ref e)) ∧ TK s₁.heap s₂.heap) E s₁ := by
  refine hide fun Pz bkz => ?_
  obtain ⟨ob, vs, T, oT, ts, a1, a2, a3, ⟨a4, a5, a5'⟩, a6, a7, a8, a9, b1, b2, ⟨b3, b4⟩, b5⟩ := x
  refine bkz ?_
  unfold setFlight
  refine wpAny_bind (wpAny_field a3 a6 a7 ?_)
  rw [if_pos (show (Value.ref T != Value.none) = true from by simp)]
  refine wpAny_setField b2 b4 b5 ?_
  have y : Nudgeable c [T] [] H₁ s₁.heap := ⟨fun b hb => by rw [List.mem_singleton.mp hb]; exact ⟨b1, hg _ a9, fun o ho => by rw [b2] at ho; cases ho; exact ⟨b3, ts, b4⟩⟩, fun b hb => nomatch hb⟩
  have z : Nudged [T] [] s₁.heap (s₁.heap.update T (Obj.mapFields (·.setIfInBounds 3 (fv.elim .none fun f => rawInt f)))) := Nudged.update _ _ (List.mem_singleton.mpr rfl) fun o ho => by rw [b2] at ho; cases ho; exact Obj.isFreed_of_fields (Obj.data_mapFields b4 _)
  have e3 := (Heap.get?_update_other s₁.heap (Obj.mapFields (·.setIfInBounds 3 (fv.elim .none fun f => rawInt f))) a8).trans a3
  have e4 := Heap.get?_update_self (Obj.mapFields (·.setIfInBounds 3 (fv.elim .none fun f => rawInt f))) b2 (Obj.isFreed_of_fields (Obj.data_mapFields b4 _))
  refine ⟨⟨ob, vs, T, _, _, a1, a2, e3, ⟨a4, a5, a5'⟩, a6, a7, a8, a9, b1, e4, ⟨(congrArg immCls (Obj.cls_mapFields _ _)).trans b3, Obj.data_mapFields b4 _⟩, by simpa using b5⟩, R.nudge z y, F.nudge z y, fun H₀ s₀ hs w => w.nudge z y fun b hb => by rw [List.mem_singleton.mp hb, hs]; exact a9, fun L hL => ?_, z.tk y⟩
  subst hL
  refine ⟨e, ob, vs, _, rfl, a1, a2, e3, ⟨a4, a5, a5'⟩, a6, a7, .inr ⟨T, _, _, rfl, a8, a9, b1, e4, ⟨(congrArg immCls (Obj.cls_mapFields _ _)).trans b3, Obj.data_mapFields b4 _⟩, .inr ⟨L, rfl, ?_⟩⟩⟩
  simp [b5]
theorem OutF.toN {s s' : Shared} {ex : Value} {E : Value → Shared → Prop} (S : SRep c q d A env m H s) (o : OutF c env H s X ex s') : ∃ e, ex = .ref e ∧ wpAny c.M A' (setFlight ex none) (fun _ s'' => OutN c env H s X e s'') E s' := by
  obtain ⟨k, m', H', hx, ⟨e, ob, vs, T, oT, ts, rfl, hen, hHe, he, hcls, hd, h1, hTe, hTn, hHT, hT, ⟨hTc, hdT⟩, h3⟩, R, F, x⟩ := o
  refine ⟨e, rfl, ?_⟩
  have n : ExcN s.heap H' s'.heap k e := ⟨ob, vs, T, oT, ts, hen, hHe, he, hcls, hd, h1, hTe, hTn, hHT, hT, ⟨hTc, hdT⟩, (Array.getElem?_eq_some_iff.mp h3).1⟩
  exact wpAny_mono (flight_set (fun b hb => S.rep.gnone hb) n R F) (fun _ s₂ ⟨n₂, R₂, F₂, w, _⟩ => ⟨k, m', H', hx, n₂, R₂, F₂, w H s rfl x⟩) fun _ _ z => z
variable {P : Fl → Map → AH → Prop} {pos hpos : Pos}
theorem noted_back' {s s' : Shared} {ex : Value} {e : Addr} (S : SRep c q d A env m H s) (o : OutSX c env H s X ex s') : notedBy c.M (A.mark (some (.ref e))) env (cameBackBy c.M A env (OutSX c env H s X)) ex s' :=
  wpAny_mono (note_ok (E := cameBackBy c.M A env (OutSX c env H s X)) (S.mark (md := .loose) (e := e) (fun z => nomatch z) (fun z => nomatch z)) o) (fun _ _ o' => back_ok S o') fun _ _ e => e
theorem awS_TryE {body orelse suite : List Stmt} {b₀ : Stmt} {t : Expr} {T : String}
    (hexc : isSubtype (.type T) (.type "BaseException") = pure true) (hnt : isSubtype (.type ((Manifest.find? T).elim "type" fun x => x.metatype)) (.type "tuple") = pure false) (hsub : isSubtype (.type T) (.type T) = pure true)
    (ht : ∀ A' m' H', awE c .loose d A' env t m' H' (fun x H₁ => x = .imm (.type T) ∧ H₁ = H') fun _ _ => False)
    (h : awSs c q d A env body m H (fun f m' H' => match f with | .next => awSs c q d A env orelse m' H' P X | f => P f m' H') fun k m' H' => k.cls = .type T ∧ ∀ e, awSs c .loose d (A.mark (some (.ref e))) env (b₀ :: suite) m' H' P X) :
    awS c q d A env (.Try body [.ExceptHandler (some t) none (b₀ :: suite) hpos] orelse [] pos) m H P X := by
  intro s S
  refine wpAny_Try_except (wpAny_mono (h s S) (fun f s₁ ⟨g, m', H', hp, hf, R, F, x⟩ => ?_) fun ex s₁ o => ?_)
  · cases g with
    | next => cases hf; exact wpAny_mono (hp s₁ (S.stepF R F x)) (fun _ _ => OutS.from x) fun _ _ => OutSX.from x
    | brk => cases hf; exact ⟨.brk, m', H', hp, rfl, R, F, x⟩
    | cont => cases hf; exact ⟨.cont, m', H', hp, rfl, R, F, x⟩
    | ret v => obtain ⟨u, rfl, hv⟩ := hf; exact ⟨.ret v, m', H', hp, ⟨u, rfl, hv⟩, R, F, x⟩
  · refine wpAny_mono (note_ok (E := OutSX c env H s X) S o) (fun _ s₂ o₂ => ?_) fun _ _ e => e
    obtain ⟨e, rfl, hw⟩ := o₂.toN (A' := A) (E := OutSX c env H s X) S
    refine wpAny_mono hw (fun _ s₃ ⟨k, m', H', ⟨hk, hx⟩, n, R, F, x⟩ => ?_) fun _ _ e => e
    have S₃ := S.stepF R F x
    have M₃ := S₃.mark (md := .loose) (e := e) (fun z => nomatch z) (fun z => nomatch z)
    refine wpAny_handleBy_builtin (b := true) hexc hnt hsub (wpAny_mono (ht _ m' H' s₃ M₃.toFRep) (fun cv s₄ o₄ => ?_) fun _ _ ⟨_, _, f, _, _, _⟩ => f.elim)
    refine hide fun Pz bkz => ?_
    obtain ⟨x₄, H₄, ⟨rfl, rfl⟩, hv, R₄, st₄⟩ := o₄
    refine bkz ?_
    have n₄ := n.keep F st₄.toF
    have F₄ := F.step R st₄
    refine ⟨hv, ?_, ?_⟩
    · obtain ⟨ob, _, _, _, _, _, _, e3, ⟨e4, _⟩, _⟩ := n₄
      exact ⟨ob, e3, e4.trans hk⟩
    · rw [if_pos rfl]
      refine wpAny_mono (flight_set (A := A.mark (some (.ref e))) (E := fun _ _ => False) (fun b hb => S.rep.gnone hb) n₄ R₄ F₄) (fun _ s₅ ⟨n₅, R₅, F₅, w, _⟩ => ?_) fun _ _ z => z.elim
      have x₅ := w H s rfl (x.trans st₄.toF)
      have M₅ := (S.stepF R₅ F₅ x₅).mark (md := .loose) (e := e) (fun z => nomatch z) (fun z => nomatch z)
      exact wpAny_mono (hx e s₅ M₅) (fun _ _ o => OutS.from x₅ o) fun ex s' o => noted_back' S (OutSX.from x₅ o)
theorem awS_TryF {body fs : List Stmt} {f₀ : Stmt}
    (h : awSs c q d A env body m H (fun f m' H' => awSs c q d A env (f₀ :: fs) m' H' (fun g m'' H'' => match g with | .next => P f m'' H'' | g => P g m'' H'') X)
      fun k m' H' => k.plain = true ∧ ∀ e, awSs c .held d (A.mark (some (.ref e))) env (f₀ :: fs) m' H' (fun g m'' H'' => match g with | .next => X k m'' H'' | g => P g m'' H'') X) :
    awS c q d A env (.Try body [] [] (f₀ :: fs) pos) m H P X := by
  intro s S
  have plain : ∀ {g m' H' f s₁}, FlR s₁.heap g f → Rep c H' s₁ → FrameAt c env m' H' s₁.heap → StepF env H s H' s₁ → awSs c q d A env (f₀ :: fs) m' H' (fun g' m'' H'' => match g' with | .next => P g m'' H'' | g' => P g' m'' H'') X →
      wpAny c.M A (execs (f₀ :: fs) env) (fun g s' => match g with | .next => OutS c env H s P f s' | g => OutS c env H s P g s') (notedBy c.M A env (cameBackBy c.M A env (OutSX c env H s X))) s₁ := by
    intro g m' H' f s₁ hf R F x hp
    refine wpAny_mono (hp s₁ (S.stepF R F x)) (fun f' s₂ ⟨g', m'', H'', hp', hf', R', F', x'⟩ => ?_) fun ex s' o => noted_back S (OutSX.from x o)
    cases g' with
    | next =>
      cases hf'
      refine ⟨g, m'', H'', hp', ?_, R', F', x.trans x'⟩
      cases g with
      | ret v => obtain ⟨u, rfl, hv⟩ := hf; exact ⟨u, rfl, hv.mono (F.tk R x')⟩
      | next => exact hf
      | brk => exact hf
      | cont => exact hf
    | brk => cases hf'; exact ⟨.brk, m'', H'', hp', rfl, R', F', x.trans x'⟩
    | cont => cases hf'; exact ⟨.cont, m'', H'', hp', rfl, R', F', x.trans x'⟩
    | ret v => obtain ⟨u, rfl, hv⟩ := hf'; exact ⟨.ret v, m'', H'', hp', ⟨u, rfl, hv⟩, R', F', x.trans x'⟩
  refine wpAny_Try_finally (wpAny_mono (h s S) (fun f s₁ ⟨g, m', H', hp, hf, R, F, x⟩ => ?_) fun ex s₁ o => ?_)
  · cases g with
    | next => cases hf; exact wpAny_execs_nil (plain (g := .next) rfl R F x hp)
    | brk => cases hf; exact plain (g := .brk) rfl R F x hp
    | cont => cases hf; exact plain (g := .cont) rfl R F x hp
    | ret v => obtain ⟨u, rfl, hv⟩ := hf; exact plain (g := .ret v) ⟨u, rfl, hv⟩ R F x hp
  · refine wpAny_mono (note_ok (E := FinallyRaised c.prog c.w A (OutSX c env H s X) env (f₀ :: fs) (OutS c env H s P)) S o) (fun _ s₂ o₂ => ?_) fun _ _ e => e
    have o₃ := OutF.toX S.fl o₂
    refine ⟨?_, wpAny_mono (note_ok (E := OutSX c env H s X) S o₃) (fun _ s₂' o₂' => ?_) fun _ _ e => e⟩
    · obtain ⟨_, _, _, _, ⟨e, _, _, _, _, _, rfl, _⟩, _⟩ := o₂
      exact ref_ne_byPass e
    obtain ⟨e, rfl, hw⟩ := o₂'.toN (A' := A) (E := OutSX c env H s X) S
    refine wpAny_mono hw (fun _ s₃ ⟨k, m', H', ⟨hk, hx⟩, n, R, F, x⟩ => ?_) fun _ _ e => e
    have S₃ := S.stepF R F x
    have M₃ := S₃.mark (md := .held) (e := e) (fun z => nomatch z) (fun _ => by
      obtain ⟨ob, vs, _, _, _, _, a2, a3, ⟨_, _, a5⟩, a6, _⟩ := n
      exact ⟨a2, ob, vs, a3, a6, a5 hk⟩)
    refine wpAny_mono (hx e s₃ M₃) (fun f' s₄ ⟨g', m'', H'', hp', hf', R', F', x'⟩ => ?_) fun ex s' o => noted_back' S (OutSX.from x o)
    have n₄ := n.keep F x'
    cases g' with
    | next =>
      cases hf'
      show wpAny c.M A (PySem.passOn "try.finally" (.ref e) env) _ _ s₄
      unfold PySem.passOn
      obtain ⟨ob, vs, T, oT, ts, a1, a2, a3, a4, a6, a7, _⟩ := id n₄
      refine wpAny_bind (wpAny_field a3 a6 a7 ?_)
      rw [if_neg (show ¬ ((Value.ref T == Value.none) = true) from by simp)]
      refine wpAny_bind (wpAny_mono (flight_set (A := A) (E := fun _ _ => False) (fun b hb => S.rep.gnone hb) n₄ R' F') (fun _ s₅ ⟨n₅, R₅, F₅, w, hr, tk₅⟩ => ?_) fun _ _ z => z.elim)
      exact wpAny_throw ⟨k, m'', H'', hp', by rw [S.fl]; exact hr _ S.fl, R₅, F₅, w H s rfl (x.trans x')⟩
    | brk => cases hf'; exact wpAny_mono (flight_set (A := A) (E := fun _ _ => False) (fun b hb => S.rep.gnone hb) n₄ R' F') (fun _ s₅ ⟨n₅, R₅, F₅, w, hr, tk₅⟩ => ⟨.brk, m'', H'', hp', rfl, R₅, F₅, w H s rfl (x.trans x')⟩) fun _ _ z => z.elim
    | cont => cases hf'; exact wpAny_mono (flight_set (A := A) (E := fun _ _ => False) (fun b hb => S.rep.gnone hb) n₄ R' F') (fun _ s₅ ⟨n₅, R₅, F₅, w, hr, tk₅⟩ => ⟨.cont, m'', H'', hp', rfl, R₅, F₅, w H s rfl (x.trans x')⟩) fun _ _ z => z.elim
    | ret v => obtain ⟨u, rfl, hv⟩ := hf'; exact wpAny_mono (flight_set (A := A) (E := fun _ _ => False) (fun b hb => S.rep.gnone hb) n₄ R' F') (fun _ s₅ ⟨n₅, R₅, F₅, w, hr, tk₅⟩ => ⟨.ret v, m'', H'', hp', ⟨u, rfl, hv.mono tk₅⟩, R₅, F₅, w H s rfl (x.trans x')⟩) fun _ _ z => z.elim
end
section
variable {c : Cx} {q : Md} {d : Nat} {A : Around} {env : Env} {m : Map} {H : AH} {K : Frag} {p : Program} {loose : List Str} {mg mb : Str → Option Value}
  {name qual : Str} {params : Arguments} {body : List Stmt} {scope : Scope} {dV kV doc pm cdv ct oc : Value} {an od : Option Addr} {osl : Array (Option Value)} {f : Addr}
theorem enterS (G : Gd K p loose mg mb c.g)
    (ho : K.lookup f = some ⟨oc, od, .func (fnOf name qual params body scope dV kV doc pm an cdv ct), osl⟩) (hcd : codeIn K cdv qual = true)
    {args : List V} {kw : List (Str × V)} {P : V → AH → Prop} {X : Exc → AH → Prop}
    (hnd : ((cellsFrom 0 scope.names []).map (·.1)).Nodup)
    (hb : ∀ s vs kvs, Rep c H s → K.In s.heap → VRs s.heap args vs → KwR s.heap kw kvs → ∃ (binds : List (Str × V)) (H₂ : AH) (bs : List (Str × Value)) (s₂ : Shared),
      (∀ (M : Model) (A : Around) (E : Value → Shared → Prop) (Q : List (Str × Value) → Shared → Prop), Q bs s₂ → wpAny M A (bindArgs (fnOf name qual params body scope dV kV doc pm an cdv ct) ⟨vs, kvs⟩) Q E s) ∧
      bs.map (·.1) = binds.map (·.1) ∧ VRs s₂.heap (binds.map (·.2)) (bs.map (·.2)) ∧ Rep c H₂ s₂ ∧ Step H s H₂ s₂ ∧
      (binds.all fun y => scope.names.lookup y.1 == some .local || scope.names.lookup y.1 == some .cell) = true ∧ (binds.map (·.1)).Nodup ∧
      ∀ A L, awSs c .quiet d A (envOfC qual scope L f cdv) body (mapOf binds) H₂ (fun fl m' H' => P (match fl with | .ret v => v | _ => .none) H') fun k _ H' => X k H')
    (hco : scope.isCoroutine = false := by rfl) (hgen : scope.isGenerator = false := by rfl) (hkd : scope.kind = .function := by rfl) : callP c (d + 1) (.ref f) args kw H P X := by
  intro A s₀ vs kvs B₀ hv hkw
  have X₀ := G.X.keeps B₀.rep.keep
  obtain ⟨binds, H₂, bs, s, hbs, hb1, hb2, R, st₀, hkind, hbd, h⟩ := hb s₀ vs kvs B₀.rep X₀ hv hkw
  have B := B₀.step R st₀
  have X' := G.X.keeps B.rep.keep
  have T' := G.T.keeps B.rep.keep
  have hroom : A.depth < recursionLimit := by
    have := B.ok.depth
    show A.depth < 1000
    omega
  refine codeAny_call_function hroom (X₀ _ _ ho) rfl hco hgen rfl (codeRec_of X₀ hcd) (hbs _ _ _ _ ?_)
  have hkind' : (bs.all fun y => scope.names.lookup y.1 == some .local || scope.names.lookup y.1 == some .cell) = true := by
    rw [List.all_eq_true] at hkind ⊢
    intro y hy
    have : y.1 ∈ binds.map (·.1) := by rw [← hb1]; exact List.mem_map_of_mem (f := (·.1)) hy
    obtain ⟨z, hz, e⟩ := List.mem_map.mp this
    rw [← e]; exact hkind z hz
  refine wpAny_newFunctionEnv_cells hkd (kindsX hkind' _) fun env' he s' x => ?_
  subst he
  refine ⟨T'.nolimit.keeps x.toInCall.keep, codeAny_func ?_⟩
  obtain ⟨S, kk⟩ := entered_srep (f := f) (cdv := cdv) (qual := qual) (d := d) B (Nat.le_refl _) x hb1 hb2 hkind hnd hbd hkd
  have toStep : ∀ {H' s''}, StepF (envOfC qual scope s.heap.objs.size f cdv) H₂ s' H' s'' → Step H s₀ H' s'' := fun {H' s''} y => by
    have ne : ∀ b o, s.heap.get? b = some o → b ≠ s.heap.objs.size ∧ ∀ k ∈ cellsFrom (s.heap.objs.size + 1) scope.names [], b ≠ k.2 := fun b o e =>
      ⟨Nat.ne_of_lt (Heap.lt_size e), fun k hk => Nat.ne_of_lt (Nat.lt_trans (Heap.lt_size e) (x.above k.1 k.2 hk))⟩
    refine st₀.trans ⟨fun b o e n => y.kept b o (kk b o e) n (ne b o e).1 (ne b o e).2, fun b o e n => ?_, fun b o e => y.alive b o (kk b o e)⟩
    have z := y.new b o e n
    cases e2 : s.heap.get? b with
    | none => rfl
    | some o2 => rw [kk b o2 e2] at z; cases z
  refine wpAny_mono (h _ _ s' S) (fun fl s'' ⟨g, m', H', hp, hf, R, F, y⟩ => ?_) fun e s'' o => ?_
  · cases g with
    | ret v => obtain ⟨u, rfl, hu⟩ := hf; exact ⟨v, H', hp, hu, R, toStep y⟩
    | next => cases hf; exact ⟨.none, H', hp, rfl, R, toStep y⟩
    | brk => cases hf; exact ⟨.none, H', hp, rfl, R, toStep y⟩
    | cont => cases hf; exact ⟨.none, H', hp, rfl, R, toStep y⟩
  · refine wpAny_mono (leave_ok (E := fun _ _ => False) S o) (fun _ s₃ ⟨k, m', H', hx, hex, R, y⟩ => ?_) fun _ _ z => z.elim
    refine ⟨k, H', hx, hex.from fun b hb => st₀.old ?_, R, toStep y⟩
    cases e2 : s.heap.get? b with
    | none => rfl
    | some o2 => rw [kk b o2 e2] at hb; cases hb
end
section
open PySem.Builtin PySem.Builtin.ObjectAttr PySem.Builtin.Getset_descriptor
section
variable {prog : Program} {w : World} {A : Around} {R : Result → Shared → Prop} {s : Shared} {K : Frag} {x C : Addr}
theorem slot_store {ox : Obj} {od : Option Obj} {v : Value} {p i : Nat} (X : K.In s.heap) (I : InstAt s.heap x ox C od) (hp : slotIn K p C = some i) (hi : i < 1000)
    (h : R (.ok (.ret .none)) { s with heap := s.heap.update x fun o => { o with slots := (o.slots ++ Array.replicate (i + 1 - o.slots.size) none).setIfInBounds i (some v) } }) :
    codeAny (model prog w) A (.call (.builtin "member_descriptor.__set__") ⟨[.ref p, .ref x, v], []⟩) R s := by
  obtain ⟨n, tn, owner, behind, tb, d, sl, cd, ho, hc, hm, hb, rfl⟩ := slot_of X hp
  obtain ⟨hh, g, dr, t, os⟩ := s
  have L0 := I.type (M := model prog w)
  have L1 := looks_mroIn (M := model prog w) X hm
  have L2 : Looks (model prog w) hh (Slots.slotNamesOf (.ref C)) cd.slotNames := (looks_clsIn X hc).andThen .now
  have hx := I.at_
  dsimp only at ho hx L0 L1
  have f0 := looks_field (M := model prog w) ho 0 (v := .str n tn) rfl
  have f1 := looks_field (M := model prog w) ho 1 (v := owner) rfl
  have f3 := looks_field (M := model prog w) ho 3 (v := .builtin "proto.slot#set") rfl
  have f4 := looks_field (M := model prog w) ho 4 (v := .int behind tb) rfl
  refine codeAny_call_builtin KF.slot_mset.plain KF.entry_mset (KF.slot_mset.check _ _ _ _ _ _ _ _ ⟨_, ho, rfl⟩ (KF.args_mset _ _ _) ?_)
  unfold Builtin.«member_descriptor.__set__» descrSet descrStoreThrough descrCheckInstance descrNameAndClass isInstance
  have f5 : Looks (model prog w) hh (descrItself (.ref p)) [.ref p] := ((Looks.ld (part := none) ho).andThen .now).andThen (Looks.of_pure (by kernel_rfl))
  repeat lk
  refine ⟨Code.quiet_builtin _ (by decide +kernel), codeAny_builtin KF.entry_slotset ?_⟩
  unfold Builtin.«proto.slot#set» Slots.target
  repeat lk
  rw [if_neg hb]
  refine wpAny_pure (wpAny_bind ?_)
  unfold setSlotAt
  dsimp only
  rw [if_neg (by rw [sizeLine_eq]; omega)]
  exact wpAny_updatePart hx (wpAny_pure h)
end
theorem paired_get {α β : Type} {F : α → β → Prop} : ∀ {l₁ : List α} {l₂ : List β} {i : Nat} {a : α}, Paired F l₁ l₂ → l₁[i]? = some a → ∃ b, l₂[i]? = some b ∧ F a b
  | _, _, i, a, .nil, h => by simp at h
  | _, _, 0, a, .cons hd t, h => by simp at h; subst h; exact ⟨_, rfl, hd⟩
  | _, _, i + 1, a, .cons hd t, h => by simpa using paired_get t (by simpa using h)
theorem paired_append {α β : Type} {F : α → β → Prop} : ∀ {l₁ l₁' : List α} {l₂ l₂' : List β}, Paired F l₁ l₂ → Paired F l₁' l₂' → Paired F (l₁ ++ l₁') (l₂ ++ l₂')
  | _, _, _, _, .nil, h => h
  | _, _, _, _, .cons hd t, h => .cons hd (paired_append t h)
theorem paired_set {α β : Type} {F : α → β → Prop} {a : α} {b : β} (h : F a b) : ∀ {l₁ : List α} {l₂ : List β} (i : Nat), Paired F l₁ l₂ → Paired F (l₁.set i a) (l₂.set i b)
  | _, _, _, .nil => .nil
  | _, _, 0, .cons hd t => .cons h t
  | _, _, i + 1, .cons hd t => .cons hd (paired_set h i t)
theorem paired_rep {α β : Type} {F : α → β → Prop} {a : α} {b : β} (h : F a b) : ∀ n, Paired F (List.replicate n a) (List.replicate n b)
  | 0 => .nil
  | n + 1 => .cons h (paired_rep h n)
def putSlot (fs : List (Option V)) (i : Nat) (x : V) : List (Option V) := (fs ++ List.replicate (i + 1 - fs.length) none).set i (some x)
section
variable {c : Cx} {q : Md} {d : Nat} {A : Around} {env : Env} {m : Map} {H : AH} {P : V → AH → Prop} {X : Exc → AH → Prop} {pos : Pos} {fl : Option Addr} {K : Frag} {p : Program} {loose : List Str} {mg mb : Str → Option Value}
theorem slotAt_of {a C dd : Addr} {fs : List (Option V)} {ns : List (Str × V)} {s : Shared} (R : Rep c H s) (h1 : H a = some (.slots C dd fs)) (h2 : H dd = some (.ns ns)) : ∃ sl es n, InstAt s.heap a { cls := .ref C, dict := some dd, data := .plain, slots := sl } C (some (dictOf es n)) ∧ Paired (OptR s.heap) fs sl.toList := by
  obtain ⟨sl, e, hp⟩ := R.at_ _ _ h1
  obtain ⟨es, n, e2, _⟩ := R.at_ _ _ h2
  exact ⟨sl, es, n, ⟨e, rfl, rfl, e2⟩, hp⟩
theorem getAttr_slot {a C dd pp : Addr} {i : Nat} {fs : List (Option V)} {ns : List (Str × V)} {name : Str} {x : V} {expr : Bool} (G : Gd K p loose mg mb c.g) (h1 : H a = some (.slots C dd fs)) (h2 : H dd = some (.ns ns)) (hg : plainGet K C name = true) (hc : isClsIn K C = true)
    (ha : findIn K (.ref C) name = some (some (.ref pp))) (hn : specialIn K (.ref pp) "__get__" = some (some (.builtin "member_descriptor.__get__"))) (ht : takesIn K (.ref pp) = some true) (hp : slotIn K pp C = some i) (hl : fs[i]? = some (some x)) (hx : ∀ i, x ≠ .imm (.builtin i)) (h : P x H) : awO c q d A fl (fun vs => getAttr (vs.getD 0 .none) name expr) [.ref a] H P X := by
  intro s vs B hv
  obtain ⟨v, _, rfl, hv, rfl⟩ := hv
  cases hv
  obtain ⟨sl, es, n, I, hr⟩ := slotAt_of B.rep h1 h2
  obtain ⟨y, hy, v, rfl, hv⟩ := paired_get hr hl
  have X' := G.X.keeps B.rep.keep
  have hh : handedIn v = true := by
    cases v <;> try rfl
    rename_i i'
    cases x with
    | imm u => cases hv; exact absurd rfl (hx i')
    | none => cases hv
    | bool b => cases hv
    | ref a => cases hv
    | int i => obtain ⟨t, z⟩ := hv; cases z
    | str i => obtain ⟨t, z⟩ := hv; cases z
    | tup i => obtain ⟨t, ws, z, _⟩ := hv; cases z
    | rng i => obtain ⟨_, _, _, _, z, _⟩ := hv; cases z
    | vals i => obtain ⟨t, z, _⟩ := hv; cases z
  refine get_bind X' I (plainGet_of hg).1 (findObj_data hc ha hn ht) (plainGet_of hg).2 (wpAny_call (slot_get (s := { s with toks := s.toks + 1 }) X' I hp ?_ (handed_on hh (.tok B.rep hv h))))
  show (sl[i]?).join = some v
  rw [← Array.getElem?_toList, hy]; rfl
theorem set_slots {a C dd pp : Addr} {i : Nat} {fs : List (Option V)} {ns : List (Str × V)} {name : Str} {x : V} {P : AH → Prop} (G : Gd K p loose mg mb c.g) (h1 : H a = some (.slots C dd fs)) (h2 : H dd = some (.ns ns)) (hs : findIn K (.ref C) "__setattr__" = some (some (.builtin "object.__setattr__"))) (hp : plainOver K C = true)
    (ht : takerIn K C name = some (some (.ref pp))) (hT : typeIn K (.ref pp) = some (.type "member_descriptor")) (hi : slotIn K pp C = some i) (hz : i < 1000) (h : P (upd H a (.slots C dd (putSlot fs i x)))) : awSet c q d A (.ref a) name x H P := by
  intro E s u v B hu hv
  cases hu
  obtain ⟨sl, es, n, I, hr⟩ := slotAt_of B.rep h1 h2
  have X' := G.X.keeps B.rep.keep
  refine set_plain X' I hs (osa_descr (s := { s with toks := s.toks + 1 }) KF.slot_mset X' I hp ht hT (slot_store (s := { s with toks := s.toks + 1 }) X' I hi hz ?_))
  have e := Heap.get?_update_self (fun o : Obj => { o with slots := (o.slots ++ Array.replicate (i + 1 - o.slots.size) none).setIfInBounds i (some v) }) I.at_ rfl
  have kk : ∀ b o, b ≠ a → s.heap.get? b = some o → (s.heap.update a fun o : Obj => { o with slots := (o.slots ++ Array.replicate (i + 1 - o.slots.size) none).setIfInBounds i (some v) }).get? b = some o := fun b o hb e => (Heap.get?_update_ne _ _ _ _ hb).trans e
  have tk : TK s.heap (s.heap.update a fun o : Obj => { o with slots := (o.slots ++ Array.replicate (i + 1 - o.slots.size) none).setIfInBounds i (some v) }) := fun b o e1 hc hd => kk b o (fun z => by subst z; rw [I.at_] at e1; cases e1; cases hc) e1
  have or : OR c (s.heap.update a fun o : Obj => { o with slots := (o.slots ++ Array.replicate (i + 1 - o.slots.size) none).setIfInBounds i (some v) }) a (.slots C dd (putSlot fs i x)) := by
    refine ⟨_, e, ?_⟩
    have hlen : fs.length = sl.size := by rw [paired_len hr, Array.length_toList]
    rw [Array.toList_setIfInBounds, Array.toList_append, Array.toList_replicate]
    unfold putSlot
    rw [hlen]
    exact paired_set ⟨v, rfl, hv.mono tk⟩ i (paired_append (paired_mono (fun _ _ z => z.mono tk) hr) (paired_rep (F := OptR _) (a := none) (b := none) rfl _))
  exact ⟨_, h, B.rep.put h1 kk or, .put h1 kk or⟩
theorem call_make {C fI : Addr} {args : List V} {kw : List (Str × V)} {ao : Addr → AO} (G : Gd K p loose mg mb c.g) (hm : makesIn K C = true) (hi : findIn K (.ref C) "__init__" = some (some (.ref fI))) (hf : typeIn K (.ref fI) = some (.type "function"))
    (hao : ∀ dd, ao dd = .inst C dd ∨ ao dd = .slots C dd [])
    (h : ∀ dd a, dd ≠ a → H dd = none → H a = none → callP c d (.ref fI) (.ref a :: args) kw (upd (upd H dd (.ns [])) a (ao dd)) (fun r H' => r = .none ∧ P (.ref a) H') X) : callP c (d + 1) (.ref C) args kw H P X := by
  intro A s vs kvs B hv hkw
  have X' := G.X.keeps B.rep.keep
  obtain ⟨hh, g, dr, t, os⟩ := s
  refine make_core (makes_of X' hm) (looks_findIn X' hi) (fun self => bind_fn X' self hf) (.inl rfl) ?_
  have R₁ := B.rep.push emptyDict t (.ns []) ⟨[], 0, Heap.get?_push_size _ rfl, .nil⟩
  have st₁ := Step.push H ⟨hh, g, dr, t, os⟩ emptyDict t (.ns [])
  have R₂ := R₁.push (instObj C hh.objs.size) t (ao hh.objs.size) (by
    rcases hao hh.objs.size with z | z <;> rw [z]
    · exact Heap.get?_push_size _ rfl
    · exact ⟨#[], Heap.get?_push_size _ rfl, .nil⟩)
  have st₂ := st₁.trans (Step.push _ _ (instObj C hh.objs.size) t (ao hh.objs.size))
  have hsz : (hh.push emptyDict).objs.size = hh.objs.size + 1 := Heap.size_push _ _
  have e1 : H hh.objs.size = none := B.rep.fresh (get?_size _)
  have e2 : H (hh.objs.size + 1) = none := B.rep.fresh (Heap.get?_none_of_le (Nat.le_succ _))
  have B₂ := B.step R₂ st₂
  dsimp only at R₂ st₂ B₂
  rw [hsz] at R₂ st₂ B₂
  have tk := B.rep.tk st₂
  have B₃ : BRep c .quiet d (A.under (.builtin "type.__call__" ⟨.ref C :: vs, kvs⟩)) (upd (upd H hh.objs.size (.ns [])) (hh.objs.size + 1) (ao hh.objs.size)) ⟨(hh.push emptyDict).push (instObj C hh.objs.size), g, dr, t, os⟩ := by
    obtain ⟨R, O⟩ := B₂
    refine ⟨R, ⟨?_, ?_, O.quiet, (fun z => by cases z), O.stack⟩⟩
    · have := O.depth
      show A.depth + 1 + 5 * d ≤ 900
      omega
    · have := O.units
      show A.units + 1 + 50 * d ≤ 9000
      omega
  refine codeAny_mono (h hh.objs.size (hh.objs.size + 1) (Nat.ne_of_lt (Nat.lt_succ_self _)) e1 e2 _ _ (.ref (hh.objs.size + 1) :: vs) kvs B₃ ⟨_, _, rfl, rfl, hv.mono tk⟩ ⟨hkw.1, hkw.2.mono tk⟩) fun r s' o => ?_
  cases r with
  | error e => exact OutX.from st₂ o
  | ok f =>
    cases f with
    | ret v =>
      obtain ⟨y, H', ⟨rfl, hp⟩, hv, R', st'⟩ := o
      cases hv
      exact ⟨rfl, _, H', hp, rfl, R', st₂.trans st'⟩
    | next => exact o
    | brk => exact o
    | cont => exact o
end
end
section
variable {prog : Program} {w : World} {A : Around} {E : Value → Shared → Prop} {s : Shared}
theorem dictAt_push {h : Heap} {d : Addr} {ys : List (Str × Value)} {ep : Nat} (x : h.DictAt (strKind prog w) d ys ep) (o : Obj) : (h.push o).DictAt (strKind prog w) d ys ep := let ⟨ob, es, e, r⟩ := x; ⟨ob, es, Heap.get?_push_of_some _ e, r⟩
theorem items_none {d : Addr} {ep : Nat} {env : Env} {target : Expr} {body : List Stmt} {Q : Flow → Shared → Prop} (hD : s.heap.DictAt (strKind prog w) d [] ep) (hd : (d == sysModules) = false) (hh : A.handled = none)
    (h : ∀ h', (∀ b o, s.heap.get? b = some o → h'.get? b = some o) → Q .next { s with heap := h' }) :
    wpAny (model prog w) A (call (.builtin "dict.items") [.ref d]) (fun x s₁ => wpAny (model prog w) A (pyIter x) (fun it s₂ =>
      codeAny (model prog w) A (.forLoop target it body [] env) (fun r s' => match r with | .ok f => Q f s' | .error e => cameBackBy (model prog w) A env E e s') s₂) E s₁) E s := by
  refine call_meetsIn PySem.F.slot_dict_items hD.dictOf.typeIs PySem.F.entry_dict_items (PySem.F.args_dict_items_1 _) (meets_dict_items (strKind prog w) d hd) ⟨⟨[], hD.dictOf⟩, ?_⟩
  show wpAny (model prog w) A (pyIter (.ref s.heap.objs.size)) _ E { s with heap := s.heap.push { cls := .type "dict_items", data := .fields #[.ref d] } }
  have u1 : ∀ b o, s.heap.get? b = some o → (s.heap.push { cls := .type "dict_items", data := .fields #[.ref d] }).get? b = some o := fun b o e => Heap.get?_push_of_some _ e
  have at1 := dictAt_push hD { cls := .type "dict_items", data := .fields #[.ref d] }
  refine wpAny_pyIter_items ⟨_, Heap.get?_push_size _ rfl, rfl, rfl⟩ at1 ?_
  generalize hH1 : s.heap.push { cls := .type "dict_items", data := .fields #[.ref d] } = H1 at u1 at1 ⊢
  have u2 : ∀ b o, H1.get? b = some o → (H1.push { cls := .type "dict_itemiterator", data := .fields #[.none, .bool false, .ref d, .int 0 0, .int ([] : List (Str × Value)).length 0, .int ep 0, .none, .none] }).get? b = some o := fun b o e => Heap.get?_push_of_some _ e
  have gI : (H1.push { cls := .type "dict_itemiterator", data := .fields #[.none, .bool false, .ref d, .int 0 0, .int ([] : List (Str × Value)).length 0, .int ep 0, .none, .none] }).get? H1.objs.size = some { cls := .type "dict_itemiterator", data := .fields #[.none, .bool false, .ref d, .int 0 0, .int ([] : List (Str × Value)).length 0, .int ep 0, .none, .none] } := Heap.get?_push_size _ rfl
  have at2 := dictAt_push at1 { cls := .type "dict_itemiterator", data := .fields #[.none, .bool false, .ref d, .int 0 0, .int ([] : List (Str × Value)).length 0, .int ep 0, .none, .none] }
  generalize hH2 : H1.push { cls := .type "dict_itemiterator", data := .fields #[.none, .bool false, .ref d, .int 0 0, .int ([] : List (Str × Value)).length 0, .int ep 0, .none, .none] } = H2 at u2 gI at2 ⊢
  refine codeAny_forLoop_any (fun k s' => s' = { s with heap := H2 }) ?_ 1 rfl
  rintro k s' rfl
  refine wpAny_pyNext_items_end hh gI at2 rfl fun h' hx => ?_
  refine wpAny_execs_nil (h h' fun b o e => hx b o ?_ (u2 b o (u1 b o e)))
  exact Nat.ne_of_lt (Nat.lt_of_lt_of_le (Heap.lt_size e) (by rw [← hH1, Heap.size_push]; exact Nat.le_succ _))
end
section
variable {c : Cx} {q : Md} {d : Nat} {A : Around} {env : Env} {m : Map} {H : AH} {pos ipos apos : Pos} {P : Fl → Map → AH → Prop} {X : Exc → Map → AH → Prop}
theorem awS_ForItems0 {o target : Expr} {body : List Stmt} (hh : q = .quiet) (hs : ∀ x, foldedSetIterable (.Call (.Attribute o (Str.ofString "items") apos) [] [] ipos) env x = pure x) (hab : attributeBase o (Str.ofString "items") env (eval o env) = eval o env) (hpos : (apos.endLine == ipos.line) = true)
    (h : awE c q d A env o m H (fun x H₁ => ∃ a ep, x = .ref a ∧ H₁ a = some (.dict [] ep) ∧ P .next m H₁) fun k H' => X k m H') : awS c q d A env (.For target (.Call (.Attribute o (Str.ofString "items") apos) [] [] ipos) body [] pos) m H P X := by
  intro s S
  have hq : A.handled = none := S.ok.quiet hh
  refine wpAny_For ?_ hs
  show wpAny c.M A (do
    let ov ← attributeBase o (Str.ofString "items") env (eval o env)
    standAt apos.atName
    methodCall o (Str.ofString "items") apos ipos env ov 0 (backTo ipos (starEach [] env)) (backToKw ipos (keywordEach [] env))) _ _ s
  rw [hab]
  refine wpAny_bind (awT_then h S.toFRep (fun x H₁ s₁ v ⟨a, ep, hx, ha, hp⟩ F₁ hv st => wpAny_bind (wpAny_standAt ?_)) fun _ _ o => o.toS S.toFRep)
  subst hx
  cases hv
  obtain ⟨ys, hD, hk, hr, hsm⟩ := F₁.rep.at_ _ _ ha
  obtain rfl : ys = [] := by simpa using hk
  unfold methodCall
  have hT := typeV_ok F₁.rep (x := .ref a) rfl (show typeV H₁ (.ref a) = some "dict" by simp only [typeV, ha])
  have hnd := typeV_nodict F₁.rep (x := .ref a) rfl (show typeV H₁ (.ref a) = some "dict" by simp only [typeV, ha]) (by decide)
  refine wpAny_bind (wpAny_holding ?_)
  show wpAny c.M A (getMethod (.ref a) (Str.ofString "items") _) _ _ s₁
  refine getMethod_builtin hT PySem.F.plainAttrs_dict PySem.F.slot_dict_items PySem.F.type_dict_items hnd ?_
  have hmp : ∀ few, methodCallPos few o env apos ipos = pure ipos := fun few => by unfold methodCallPos; rw [hpos]; simp
  rw [hmp]
  refine wpAny_bind (wpAny_pure ?_)
  refine callWith_of rfl (keepOk_builtin (c := c) "dict.items") ?_
  show wpAny c.M A (evalArgs _ true [] []) _ _ s₁
  refine evalArgs_nil3 ⟨F₁.rep.keep, ?_⟩
  refine items_none hD hsm hq fun h' hk' => ?_
  have R₂ : Rep c H₁ { s₁ with heap := h' } := F₁.rep.silent hk' rfl rfl
  have st₂ : Step H₁ s₁ H₁ { s₁ with heap := h' } := .silent hk'
  exact ⟨.next, m, H₁, hp, rfl, R₂, (F₁.step R₂ st₂).fr, (st.trans st₂).toF⟩
end
def Ext (H H' : AH) : Prop := ∀ a o, H a = some o → H' a = some o
theorem Ext.refl (H : AH) : Ext H H := fun _ _ h => h
theorem Ext.trans {H₁ H₂ H₃ : AH} (x : Ext H₁ H₂) (y : Ext H₂ H₃) : Ext H₁ H₃ := fun a o h => y a o (x a o h)
theorem Ext.get {H H' : AH} (x : Ext H H') {a : Addr} {o : AO} (h : H a = some o) : H' a = some o := x a o h
theorem Ext.none {H H' : AH} (x : Ext H H') {a : Addr} (h : H' a = none) : H a = none := by
  cases e : H a with
  | none => rfl
  | some o => rw [x a o e] at h; cases h
theorem Ext.upd {H H' : AH} (x : Ext H H') {a : Addr} {o : AO} (h : H a = Option.none) : Ext H (Mine.upd H' a o) := fun b ob hb => by
  rw [upd_ne _ _ (fun z => by rw [z, h] at hb; cases hb)]; exact x b ob hb
theorem Ext.fresh {H : AH} {a : Addr} {o : AO} (h : H a = Option.none) : Ext H (Mine.upd H a o) := (Ext.refl H).upd h
theorem Ext.ne {H : AH} {a b : Addr} {o : AO} (ha : H a = some o) (hb : H b = Option.none) : a ≠ b := fun z => by rw [z, hb] at ha; cases ha
def Mod (H : AH) (a : Addr) (H' : AH) : Prop := ∀ b, b ≠ a → H' b = H b
theorem Mod.upd (H : AH) (a : Addr) (o : AO) : Mod H a (Mine.upd H a o) := fun b h => upd_ne H o h
theorem Mod.get {H H' : AH} {a b : Addr} {o : AO} (x : Mod H a H') (hn : b ≠ a) (h : H b = some o) : H' b = some o := (x b hn).trans h
theorem Mod.ext {H H₁ H' : AH} {a : Addr} (x : Mod H₁ a H') (e : Ext H H₁) (hn : H a = none) : Ext H H' := fun b o hb => by
  rw [x b (Ext.ne hb hn)]; exact e b o hb
theorem known {H : AH} {a : Addr} {o : AO} (h : H a = some o) : H a ≠ none := by rw [h]; exact fun z => by cases z
theorem Ext.of_keep {H H' : AH} (h : ∀ a, H a ≠ Option.none → H' a = H a) : Ext H H' := fun a o e => (h a (known e)).trans e
theorem forP_J {α : Type} {st : AH → Prop} {turn : V → Map → AH → (Fl → Map → AH → Prop) → Prop} {P : Fl → Map → AH → Prop} (g : α → V) {xs : List α} (J : List α → List α → Map → AH → Prop)
    (nil : ∀ m H, J xs [] m H → st H ∧ P .next m H)
    (cons : ∀ dn x r m H, xs = dn ++ x :: r → J dn (x :: r) m H → st H ∧ ∀ K : Fl → Map → AH → Prop, (∀ m' H', J (dn ++ [x]) r m' H' → K .next m' H') → (∀ m' H', J (dn ++ [x]) r m' H' → K .cont m' H') → (∀ m' H', P .next m' H' → K .brk m' H') → (∀ v m' H', P (.ret v) m' H' → K (.ret v) m' H') → turn (g x) m H K)
    {m : Map} {H : AH} (h : J [] xs m H) : forP st turn P (xs.map g) m H := by
  have key : ∀ r dn m H, xs = dn ++ r → J dn r m H → forP st turn P (r.map g) m H := by
    intro r
    induction r with
    | nil => intro dn m H e hj; rw [List.append_nil] at e; subst e; exact nil m H hj
    | cons x r ih =>
      intro dn m H e hj
      obtain ⟨a, b⟩ := cons dn x r m H e hj
      have e' : xs = (dn ++ [x]) ++ r := by rw [e]; simp
      exact ⟨a, b _ (fun m' H' h' => ih _ m' H' e' h') (fun m' H' h' => ih _ m' H' e' h') (fun _ _ h' => h') fun _ _ _ h' => h'⟩
  exact key xs [] m H rfl h
theorem compItems_J {α : Type} {st : AH → Prop} {turn : V → Map → AH → List V → (Map → AH → List V → Prop) → Prop} (g : α → V) (f : α → Option V) (J : Map → AH → Prop) (hst : ∀ m H, J m H → st H) :
    ∀ {xs : List α} {m : Map} {H : AH} {acc : List V} {K : Map → AH → List V → Prop}, acc.length + xs.length ≤ 100000 → J m H →
      (∀ x ∈ xs, ∀ m H acc (K : Map → AH → List V → Prop), acc.length ≤ 100000 → J m H → (∀ m' H', J m' H' → K m' H' (acc ++ (f x).toList)) → turn (g x) m H acc K) →
      (∀ m' H', J m' H' → K m' H' (acc ++ xs.filterMap f)) → compItems st turn (xs.map g) m H acc K
  | [], m, H, acc, K, _, hj, _, hk => ⟨hst m H hj, by simpa using hk m H hj⟩
  | x :: r, m, H, acc, K, hl, hj, ht, hk => by
    simp only [List.length_cons] at hl
    refine ⟨hst m H hj, ht x (List.mem_cons_self ..) m H acc _ (by omega) hj fun m' H' hj' => compItems_J g f J hst ?_ hj' (fun y hy => ht y (List.mem_cons_of_mem _ hy)) fun m'' H'' hj'' => ?_⟩
    · rw [List.length_append]
      cases f x <;> simp <;> omega
    · have := hk m'' H'' hj''
      rw [List.filterMap_cons] at this
      cases e : f x <;> rw [e] at this <;> simpa using this
section
variable {c : Cx} {q : Md} {d : Nat} {A : Around} {env : Env} {m : Map} {H : AH} {P : V → AH → Prop} {X : Exc → AH → Prop} {pos : Pos} {fl : Option Addr} {K : Frag} {p : Program} {loose : List Str} {mg mb : Str → Option Value}
abbrev New (H : AH) (o : AO) (P : V → AH → Prop) : Prop := ∀ a H', Ext H H' → H a = none → H' a = some o → P (.ref a) H'
theorem New.use {o : AO} (h : New H o P) : ∀ a, H a = none → P (.ref a) (upd H a o) := fun a ha => h a _ (Ext.fresh ha) ha (upd_self _ _ _)
theorem awE_ListX {es : List Expr} (h : awL c q d A env es m H (fun xs H₁ => xs.length ≤ 1000 ∧ New H₁ (.list xs) P) X) : awE c q d A env (.List es pos) m H P X :=
  awE_List (fun s pos F => wpAny_mono (h s pos F) (fun _ _ o => OutL.imp (fun _ _ ⟨a, b⟩ => ⟨a, b.use⟩) o) fun _ _ o => o)
theorem awE_Dict0X (G : Gd K p loose mg mb c.g) (h : New H (.dict [] 0) P) : awE c q d A env (.Dict [] [] pos) m H P X := awE_Dict0 G h.use
theorem add_listsX {a b : Addr} {vs us : List V} (ha : H a = some (.list vs)) (hb : H b = some (.list us)) (hl : vs.length + us.length ≤ 100000) (h : New H (.list (vs ++ us)) P) : awO c q d A fl (fun vs => binaryOp .Add (vs.getD 0 .none) (vs.getD 1 .none)) [.ref a, .ref b] H P X := add_lists ha hb hl h.use
theorem call_list_tX {vs : List V} (hl : vs.length ≤ 100000) (h : New H (.list vs) P) : awCall c q d A fl (.type "list") [.tup vs] [] H P X := call_list_t hl h.use
theorem call_list_sX {x : Str} (hq : q = .quiet) (hl : x.length ≤ 100000) (h : New H (.list (signsV x)) P) : awCall c q d A fl (.type "list") [.str x] [] H P X := call_list_s hq hl h.use
theorem call_set0X (h : New H (.set []) P) : awCall c q d A fl (.type "set") [] [] H P X := call_set0 h.use
theorem awE_SliceX {value : Expr} {lower upper : Option Expr} {pp : Pos}
    (h : awE c q d A env value m H (fun x H₁ => awPart c q d A env lower m H₁ (fun y H₂ => awPart c q d A env upper m H₂ (fun z H₃ => ∃ a vs lo hi, x = .ref a ∧ H₃ a = some (.list vs) ∧ vs.length ≤ 100000 ∧ PartV y lo ∧ PartV z hi ∧ New H₃ (.list (sliceV vs lo hi)) P) X) X) X) : awE c q d A env (.Subscript value (.Slice lower upper none pp) pos) m H P X := by
  have im : ∀ {e : Option Expr} {m : Map} {H : AH} {P P' : V → AH → Prop}, (∀ x H, P x H → P' x H) → awPart c q d A env e m H P X → awPart c q d A env e m H P' X := by
    intro e m H P P' hp h
    cases e with
    | none => exact hp _ _ h
    | some e => exact fun s F => wpAny_mono (h s F) (fun _ _ o => OutE.mono hp o) fun _ _ o => o
  refine awE_SliceL (fun s F => wpAny_mono (h s F) (fun _ _ o => OutE.mono (fun x H₁ h1 => im (fun y H₂ h2 => im (fun z H₃ h3 => ?_) h2) h1) o) fun _ _ o => o)
  obtain ⟨a, vs, lo, hi, h1, h2, h3, h4, h5, h6⟩ := h3
  exact ⟨a, vs, lo, hi, h1, h2, h3, h4, h5, h6.use⟩
theorem call_appendX {a : Addr} {x : V} {vs : List V} (ha : H a = some (.list vs)) (hl : vs.length ≤ 100000) (h : ∀ H', Mod H a H' → H' a = some (.list (vs ++ [x])) → P .none H') : awCall c q d A fl (.builtin "list.append") [.ref a, x] [] H P X := call_append ha hl (h _ (Mod.upd _ _ _) (upd_self _ _ _))
theorem call_extendX {a b : Addr} {vs us : List V} (ha : H a = some (.list vs)) (hb : H b = some (.list us)) (hl : vs.length + us.length ≤ 100000) (h : ∀ H', Mod H a H' → H' a = some (.list (vs ++ us)) → P .none H') : awCall c q d A fl (.builtin "list.extend") [.ref a, .ref b] [] H P X := call_extend_l ha hb hl (h _ (Mod.upd _ _ _) (upd_self _ _ _))
theorem call_popX {a : Addr} {vs : List V} {x : V} (ha : H a = some (.list (vs ++ [x]))) (hl : vs.length ≤ 100000 - 1) (h : ∀ H', Mod H a H' → H' a = some (.list vs) → P x H') : awCall c q d A fl (.builtin "list.pop") [.ref a] [] H P X := call_pop ha hl (h _ (Mod.upd _ _ _) (upd_self _ _ _))
theorem call_clearX {a : Addr} {vs : List V} (ha : H a = some (.list vs)) (hl : vs.length ≤ 100000) (h : ∀ H', Mod H a H' → H' a = some (.list []) → P .none H') : awCall c q d A fl (.builtin "list.clear") [.ref a] [] H P X := call_clear ha hl (h _ (Mod.upd _ _ _) (upd_self _ _ _))
theorem call_set_addX {a : Addr} {xs : List Str} {k : Str} (ha : H a = some (.set xs)) (hl : xs.length < 1000) (h : ∀ H', Mod H a H' → H' a = some (.set (if k ∈ xs then xs else xs ++ [k])) → P .none H') : awCall c q d A fl (.builtin "set.add") [.ref a, .str k] [] H P X := call_set_add_ ha hl (h _ (Mod.upd _ _ _) (upd_self _ _ _))
end
section
theorem slot_li_ga : Slot "list_iterator" "__getattribute__" "object.__getattribute__" :=
  .of (owner := "object") (n := "__getattribute__") (by rw [typeLookup_type, builtinLookup_eq_fast]; kernel_rfl) (by decide +kernel) (by decide +kernel) (by decide +kernel)
    (by first | exact .inl (by decide +kernel) | exact .inr (by decide +kernel)) (by rw [isSubtype_type]; kernel_rfl)
theorem li_getattr_none : typeLookup (.type "list_iterator") "__getattr__" = pure none := by rw [typeLookup_type, builtinLookup_eq_fast]; kernel_rfl
theorem entry_li_ga : entryFor table "object.__getattribute__" = some Builtin.«object.__getattribute__» := by first | exact entryFor_of_fast (by kernel_rfl) | exact entryFor_of_tree (by kernel_rfl)
theorem args_li_ga (a b : Value) : argsOk "object.__getattribute__" ⟨[a, b], []⟩ := by unfold argsOk; kernel_rfl
theorem ty_li_next : typeOf (.builtin "list_iterator.__next__") = pure (.type "wrapper_descriptor") := by first | rfl | kernel_rfl
theorem lk_wd_get : typeLookup (.type "wrapper_descriptor") "__get__" = pure (some (.builtin "wrapper_descriptor.__get__")) := by rw [typeLookup_type, builtinLookup_eq_fast]; kernel_rfl
theorem slot_wd_get : Slot "wrapper_descriptor" "__get__" "wrapper_descriptor.__get__" :=
  .of (owner := "wrapper_descriptor") (n := "__get__") (by rw [typeLookup_type, builtinLookup_eq_fast]; kernel_rfl) (by decide +kernel) (by decide +kernel) (by decide +kernel)
    (by first | exact .inl (by decide +kernel) | exact .inr (by decide +kernel)) (by rw [isSubtype_type]; kernel_rfl)
theorem entry_wd_get : entryFor table "wrapper_descriptor.__get__" = some Builtin.«wrapper_descriptor.__get__» := by first | exact entryFor_of_fast (by kernel_rfl) | exact entryFor_of_tree (by kernel_rfl)
theorem args_wd_get (a b c : Value) : argsOk "wrapper_descriptor.__get__" ⟨[a, b, c], []⟩ := by unfold argsOk; kernel_rfl
theorem lk_wd_set : typeLookup (.type "wrapper_descriptor") "__set__" = pure none := by rw [typeLookup_type, builtinLookup_eq_fast]; kernel_rfl
theorem lk_wd_del : typeLookup (.type "wrapper_descriptor") "__delete__" = pure none := by rw [typeLookup_type, builtinLookup_eq_fast]; kernel_rfl
variable {prog : Program} {w : World} {A : Around} {E : Value → Shared → Prop}
theorem run_wd_get {s : Shared} {it : Addr} {o : Obj} {P : PySem.Fin → Shared → Prop} (hx : s.heap.get? it = some o) (hc : o.cls = .type "list_iterator")
    (h : P (.done (.ret (.ref s.heap.objs.size))) { s with heap := s.heap.push { cls := .type "method-wrapper", data := .fields #[.builtin "list_iterator.__next__", .ref it] } }) :
    wpAny (model prog w) A (Builtin.«wrapper_descriptor.__get__» ⟨[.builtin "list_iterator.__next__", .ref it, .type "list_iterator"], []⟩) P E s := by
  obtain ⟨hp, g, d, tk, os⟩ := s
  have hT : (⟨hp, g, d, tk, os⟩ : Shared).TypeIs (.ref it) "list_iterator" := ⟨_, hx, hc⟩
  have hsub : isSubtype (.type "list_iterator") (.type "list_iterator") = pure true := by rw [isSubtype_type]; kernel_rfl
  have hcut : ".".intercalate ("list_iterator.__next__".cutAt '.').dropLast = "list_iterator" := by decide +kernel
  unfold Builtin.«wrapper_descriptor.__get__»
  repeat (any_goals (first | assumption | wp_step))
  rw [hcut]
  repeat (any_goals (first | assumption | wp_step))
theorem getAttr_next {s : Shared} {it : Addr} {o : Obj} {Q : Value → Shared → Prop} (hx : s.heap.get? it = some o) (hc : o.cls = .type "list_iterator") (hd : o.dict = none) (hdat : ∃ vs, o.data = .fields vs)
    (h : Q (.ref s.heap.objs.size) { s with heap := s.heap.push { cls := .type "method-wrapper", data := .fields #[.builtin "list_iterator.__next__", .ref it] }, toks := s.toks + 1 }) :
    wpAny (model prog w) A (getAttr (.ref it) (Str.ofString "__next__") true) Q E s := by
  obtain ⟨c, dct, dat, sl⟩ := o
  obtain ⟨vs, hdat⟩ := hdat
  simp only at hc hdat hd
  subst hc hdat hd
  obtain ⟨hp, g, d, tk, os⟩ := s
  have hT : ∀ tk', (⟨hp, g, d, tk', os⟩ : Shared).TypeIs (.ref it) "list_iterator" := fun _ => ⟨_, hx, rfl⟩
  have f3 := slot_li_ga.lookup
  have f4 := slot_li_ga.bind (.ref it)
  have f5 := li_getattr_none
  have f6 := slot_listiter_next.lookup
  have f7 := lk_wd_get
  have f8 := lk_wd_set
  have f9 := lk_wd_del
  have f10 := ty_li_next
  unfold getAttr getAttrBy
  repeat (any_goals (first | assumption | exact hT _ | wp_step))
  refine codeAny_call_builtin slot_li_ga.plain entry_li_ga (slot_li_ga.check _ _ _ _ _ _ _ _ (hT _) (args_li_ga _ _) ?_)
  unfold Builtin.«object.__getattribute__»
  repeat (any_goals (first | assumption | exact hT _ | wp_step))
  refine codeAny_call_builtin slot_wd_get.plain entry_wd_get (slot_wd_get.check _ _ _ _ _ _ _ _ ?_ (args_wd_get _ _ _) (run_wd_get hx rfl ?_))
  · exact ty_li_next
  repeat (any_goals (first | assumption | exact hT _ | wp_step))
theorem check_li_next {it : Addr} : checkBoundCall "list_iterator.__next__" ⟨[.ref it], []⟩ = pure () := by first | kernel_rfl | rfl
theorem quiet_li_next {as : Args} : (Code.builtin "list_iterator.__next__" as).quiet = true := Code.quiet_builtin _ (by decide +kernel)
theorem call_wrapped {s : Shared} {x it : Addr} {Q : Value → Shared → Prop} (hx : s.heap.get? x = some { cls := .type "method-wrapper", data := .fields #[.builtin "list_iterator.__next__", .ref it] })
    (h : wpAny (model prog w) (A.under (.builtin "list_iterator.__next__" ⟨[.ref it], []⟩)) (Builtin.«list_iterator.__next__» ⟨[.ref it], []⟩) (fun f s' => match f with | .done (.ret v) => Q v s' | _ => False) E s) : wpAny (model prog w) A (call (.ref x) []) Q E s := by
  refine wpAny_call (codeAny_of_tree ?_)
  show wpAny _ A.in1 (callAny (.ref x) ⟨[], []⟩) _ _ s
  simp only [callAny]
  refine wpAny_bind (wpAny_load hx ?_)
  simp only [show (Value.type "method-wrapper" == Value.type "method" || Value.type "method-wrapper" == Value.type "builtin_function_or_method" || Value.type "method-wrapper" == Value.type "method-wrapper") = true by decide, if_true]
  show wpAny _ A.in1 (if (Value.type "method-wrapper" != Value.type "method") = true then do
        checkBoundCall "list_iterator.__next__" { pos := [.ref it] }
        again (Code.builtin "list_iterator.__next__" { pos := [.ref it] }) else _) _ _ s
  rw [if_pos (by decide)]
  refine wpAny_bind (wpAny_of_eq (a := ()) check_li_next ?_)
  refine wpAny_pure ⟨quiet_li_next, codeAny_builtin entry_listiter_next (wpAny_mono h (fun f s' hf => ?_) fun _ _ z => z)⟩
  cases f with
  | done f => cases f with
    | ret v => exact hf
    | _ => exact hf.elim
  | again c' => exact hf.elim
theorem next_item_tree {s : Shared} {it l : Addr} {i : Nat} {items : Array Value} {x : Value} {P : PySem.Fin → Shared → Prop} (ho : s.heap.get? it = some { cls := .type "list_iterator", data := .fields #[.ref l, .int i 0] })
    (hl : s.heap.IsList l items) (hx : items[i]? = some x)
    (hQ : P (.done (.ret x)) { s with heap := s.heap.update it (Obj.mapFields (·.setIfInBounds 1 (rawInt ((i : Int) + 1)))) }) : wpAny (model prog w) A (Builtin.«list_iterator.__next__» ⟨[.ref it], []⟩) P E s := by
  obtain ⟨ol, hol, _, nl, hdl⟩ := hl
  show wpAny _ _ (field (.ref it) 0 >>= _) _ _ s
  refine wpAny_bind (wpAny_field ho rfl (x := .ref l) rfl ?_)
  show wpAny _ _ (if (Value.ref l == Value.none) = true then _ else _) _ _ s
  rw [if_neg (show ¬ ((Value.ref l == Value.none) = true) from Bool.false_ne_true)]
  show wpAny _ _ (field (.ref it) 1 >>= _) _ _ s
  refine wpAny_bind (wpAny_field ho rfl (x := .int i 0) rfl ?_)
  show wpAny _ _ (seqItems? (.ref l) >>= _) _ _ s
  refine wpAny_bind (wpAny_seqItems hol hdl ?_)
  simp only [Int.toNat_natCast, hx]
  exact wpAny_bind (wpAny_setField ho rfl (by simp) (wpAny_pure hQ))
structure NewStop (h h' : Heap) (e : Addr) : Prop where
  keeps : ∀ b o, h.get? b = some o → h'.get? b = some o
  new : h.get? e = none
  there : ∃ ob vs, h'.get? e = some ob ∧ ob.cls = .type "StopIteration" ∧ ob.data = .fields vs ∧ vs[1]? = some .none ∧ vs[2]? = some .none
theorem next_end_tree {s : Shared} {it l : Addr} {i : Nat} {items : Array Value} {P : PySem.Fin → Shared → Prop} (hh : A.handled = none) (ho : s.heap.get? it = some { cls := .type "list_iterator", data := .fields #[.ref l, .int i 0] })
    (hl : s.heap.IsList l items) (hx : items[i]? = none)
    (hQ : ∀ h' e, NewStop (s.heap.update it (Obj.mapFields (·.setIfInBounds 0 .none))) h' e → E (.ref e) { s with heap := h' }) : wpAny (model prog w) A (Builtin.«list_iterator.__next__» ⟨[.ref it], []⟩) P E s := by
  obtain ⟨ol, hol, _, nl, hdl⟩ := hl
  show wpAny _ _ (field (.ref it) 0 >>= _) _ _ s
  refine wpAny_bind (wpAny_field ho rfl (x := .ref l) rfl ?_)
  show wpAny _ _ (if (Value.ref l == Value.none) = true then _ else _) _ _ s
  rw [if_neg (show ¬ ((Value.ref l == Value.none) = true) from Bool.false_ne_true)]
  show wpAny _ _ (field (.ref it) 1 >>= _) _ _ s
  refine wpAny_bind (wpAny_field ho rfl (x := .int i 0) rfl ?_)
  show wpAny _ _ (seqItems? (.ref l) >>= _) _ _ s
  refine wpAny_bind (wpAny_seqItems hol hdl ?_)
  simp only [Int.toNat_natCast, hx]
  refine wpAny_bind (wpAny_rule (wpAny_bind (wpAny_setField ho rfl (by simp) ?_)))
  show wpAny _ _ (newExc (.type "StopIteration") [] >>= _) _ _ _
  refine wpAny_bind ?_
  simp only [newExc, newTuple]
  refine wpAny_bind (wpAny_newObj_type ?_ (by size_fits))
  refine wpAny_bind (m := firstArgMember _ _) (wpAny_of_eq (a := Value.none) (by first | rfl | (simp only [firstArgMember]; rfl)) ?_)
  refine wpAny_newObj_type ?_ (by size_fits)
  simp only [raiseNew]
  refine wpAny_bind (wpAny_handled ?_)
  rw [hh]
  refine wpAny_bind (wpAny_pure (wpAny_throw ?_))
  refine hQ _ _ ⟨fun b o e => Heap.get?_push_of_some _ (Heap.get?_push_of_some _ e), Heap.get?_none_of_le ?_, _, _, Heap.get?_push_size _ rfl, rfl, rfl, ?_, ?_⟩
  · rw [Heap.push]; simp
  · rw [Array.getElem?_append_left (by simp)]; rfl
  · rw [Array.getElem?_append_left (by simp)]; rfl
end
section
variable {c : Cx} {q : Md} {d : Nat} {A : Around} {env : Env} {m : Map} {H : AH} {P : V → AH → Prop} {X : Exc → AH → Prop} {pos : Pos} {fl : Option Addr} {K : Frag} {p : Program} {loose : List Str} {mg mb : Str → Option Value}
theorem get_next {it l : Addr} {i : Nat} (h1 : H it = some (.iter l i)) (h : New H (.next it) P) : awO c q d A fl (fun vs => getAttr (vs.getD 0 .none) (Str.ofString "__next__") true) [.ref it] H P X := by
  intro s vs B hv
  obtain ⟨v, _, rfl, hv, rfl⟩ := hv
  cases hv
  have e := B.rep.at_ _ _ h1
  refine getAttr_next e rfl rfl ⟨_, rfl⟩ ?_
  exact ⟨.ref s.heap.objs.size, _, h.use _ (B.rep.free (Nat.le_refl _)), rfl, B.rep.push _ (s.toks + 1) (.next it) (Heap.get?_push_size _ rfl), Step.push _ _ _ _ _⟩
theorem call_iter_l {l : Addr} {vs : List V} (ha : H l = some (.list vs)) (h : New H (.iter l 0) P) : awCall c q d A fl (.builtin "iter") [.ref l] [] H P X := by
  intro s vs kvs B hv hk
  obtain rfl := kvs_nil hk
  obtain ⟨v, _, rfl, hv, rfl⟩ := hv
  cases hv
  obtain ⟨items, n, e, hr⟩ := B.rep.at_ _ _ ha
  refine call_function_entry (by decide +kernel) (by decide +kernel) kdk_entry_iter (kdk_args_iter _) ?_
  unfold Builtin.«iter»
  refine wpAny_bind (m := someArgs "iter" 1 2 _) (wpAny_of_eq (a := [Value.ref l]) (by first | rfl | kernel_rfl!) ?_)
  show wpAny _ _ (pyIter (.ref l) >>= _) _ _ _
  refine wpAny_bind (wpAny_pyIter_list ⟨_, e, rfl, n, rfl⟩ ?_)
  refine wpAny_pure ⟨_, rfl, ?_⟩
  exact ⟨.ref s.heap.objs.size, _, h.use _ (B.rep.free (Nat.le_refl _)), rfl, B.rep.push _ s.toks (.iter l 0) (Heap.get?_push_size _ rfl), Step.push _ _ _ _ _⟩
theorem awE_CallNext {fe : Expr} (hfe : ∀ o n ap, fe ≠ .Attribute o n ap)
    (h : awE c q d A env fe m H (fun x H₁ => ∃ a it l i vs, x = .ref a ∧ H₁ a = some (.next it) ∧ H₁ it = some (.iter l i) ∧ H₁ l = some (.list vs) ∧
      (match vs[i]? with
      | some y => ∀ H', Mod H₁ it H' → H' it = some (.iter l (i + 1)) → P y H'
      | none => q = .quiet ∧ ∀ H', Mod H₁ it H' → H' it = none → X (.b "StopIteration") H')) X) : awE c q d A env (.Call fe [] [] pos) m H P X := by
  intro s F
  have he : eval (.Call fe [] [] pos) env = (do callWith pos (← eval fe env) [] (backTo pos (starEach [] env)) (backToKw pos (keywordEach [] env))) := by
    cases fe <;> first | rfl | exact absurd rfl (hfe _ _ _)
  show wpAny _ _ (eval (.Call fe [] [] pos) env) _ _ _
  rw [he]
  refine wpAny_bind (awT_then h F (fun x H₁ s₁ v ⟨a, it, l, i, vs, hx, h1, h2, h3, hp⟩ F₁ hv S => ?_) fun _ _ o => o)
  subst hx
  cases hv
  refine awT.from S ?_
  have e1 := F₁.rep.at_ _ _ h1
  have e2 := F₁.rep.at_ _ _ h2
  obtain ⟨items, n, e3, hr⟩ := F₁.rep.at_ _ _ h3
  have key : awT c A env.frame (call (.ref a) [] []) H₁ P X s₁ := by
    refine call_wrapped e1 ?_
    cases hy : vs[i]? with
    | some y =>
      rw [hy] at hp
      obtain ⟨v, hv1, hv2⟩ := hr.get hy
      refine next_item_tree e2 ⟨_, e3, rfl, n, rfl⟩ (by simpa using hv1) ?_
      have on : Only it s₁.heap (s₁.heap.update it (Obj.mapFields (·.setIfInBounds 1 (rawInt ((i : Int) + 1))))) := ⟨fun b o hb eb => ((Heap.SameBut.update ..).2 b hb).trans eb⟩
      have or : OR c (s₁.heap.update it (Obj.mapFields (·.setIfInBounds 1 (rawInt ((i : Int) + 1))))) it (.iter l (i + 1)) := by
        show Heap.get? _ _ = _
        rw [Heap.get?_update_self _ e2 rfl]
        simp [Obj.mapFields, rawInt]
      have tk : TK s₁.heap (s₁.heap.update it (Obj.mapFields (·.setIfInBounds 1 (rawInt ((i : Int) + 1))))) := on.tk fun o eo => by rw [e2] at eo; cases eo; rfl
      exact ⟨y, _, hp _ (Mod.upd _ _ _) (upd_self _ _ _), hv2.mono tk, F₁.rep.put (t := s₁.toks) h2 (fun b o hb eb => on.keep b o hb eb) or, Step.put (c := c) (t := s₁.toks) h2 (fun b o hb eb => on.keep b o hb eb) or⟩
    | none =>
      rw [hy] at hp
      obtain ⟨hq, hp⟩ := hp
      have hnone : items[i]? = none := by
        have hl := hr.length
        rw [List.getElem?_eq_none_iff] at hy
        rw [Array.getElem?_eq_none_iff]
        simp at hl; omega
      refine next_end_tree (F₁.ok.quiet hq) e2 ⟨_, e3, rfl, n, rfl⟩ hnone fun h' e hx => ?_
      have on : Only it s₁.heap (s₁.heap.update it (Obj.mapFields (·.setIfInBounds 0 .none))) := ⟨fun b o hb eb => ((Heap.SameBut.update ..).2 b hb).trans eb⟩
      let H₂ : AH := fun b => if b = it then none else H₁ b
      have less : ∀ b o, H₂ b = some o → H₁ b = some o := fun b o hb => by
        by_cases z : b = it
        · simp only [H₂, z, if_true] at hb; cases hb
        · simp only [H₂, z, if_false] at hb; exact hb
      have hit : H₂ it = none := if_pos rfl
      have R₂ : Rep c H₂ { s₁ with heap := s₁.heap.update it (Obj.mapFields (·.setIfInBounds 0 .none)) } := on.rep (t := s₁.toks) (F₁.rep.less less) hit (F₁.rep.new _ _ h2) fun o eo => by rw [e2] at eo; cases eo; rfl
      have S₂ : Step H₁ s₁ H₂ { s₁ with heap := s₁.heap.update it (Obj.mapFields (·.setIfInBounds 0 .none)) } := by
        refine ⟨fun b o eb nb => ⟨o, on.keep b o (fun z => by rw [z, h2] at nb; cases nb) eb, .refl _⟩, (fun b o eb nb => by rw [less b o eb] at nb; cases nb), fun b o eb => ?_⟩
        by_cases z : b = it
        · subst z; exact ⟨_, Heap.get?_update_self _ e2 rfl⟩
        · exact ⟨o, on.keep b o z eb⟩
      refine OutX.from S₂ ?_
      obtain ⟨ob, ws, o1, o2, o3, o4, o5⟩ := hx.there
      exact ⟨.b "StopIteration", H₂, hp H₂ (fun b hb => if_neg hb) hit, ⟨e, ob, ws, .none, rfl, hx.new, R₂.fresh hx.new, o1, ⟨o2, rfl, fun _ => o5⟩, o3, o4, .inl rfl⟩, R₂.silent (s' := { s₁ with heap := h' }) hx.keeps rfl rfl, .silent hx.keeps⟩
  show wpAny _ _ (callWith pos (.ref a) [] [] []) _ _ _
  unfold callWith
  refine wpAny_bind (wpAny_holding (evalArgs_nil3 (wpAny_bind (wpAny_standAt ?_))))
  refine wpAny_bind (m := keeperOf (.ref a)) ?_
  unfold keeperOf
  refine wpAny_bind (wpAny_load e1 ?_)
  simp only [show (Value.type "method-wrapper" != Value.type "method") = true by decide, show (Value.type "method-wrapper" == Value.type "builtin_function_or_method" || Value.type "method-wrapper" == Value.type "method-wrapper") = true by decide, if_true]
  refine wpAny_pure ?_
  exact wpAny_bind (wpAny_mono key (fun r s₂ hr => wpAny_bind (wpAny_holding (wpAny_point (wpAny_pure hr)))) fun _ _ x => x)
end
section
variable {c : Cx} {q : Md} {d : Nat} {A : Around} {env : Env} {m : Map} {H : AH} {pos : Pos} {fl : Option Addr} {K : Frag} {p : Program} {loose : List Str} {mg mb : Str → Option Value}
inductive MethAt (K : Frag) (name : Str) (H : AH) (go : Addr → Addr → Prop) (x : V) : Prop
  | mk (a C dd f : Addr) (fs : List (Str × V)) (hx : x = .ref a) (h1 : H a = some (.inst C dd)) (h2 : H dd = some (.ns fs)) (hg : plainGet K C name = true) (hh : hasDictIn K C = true) (hf : findIn K (.ref C) name = some (some (.ref f))) (ht : isFn K (.ref f) = true) (hfn : fnIn K f = true)
      (hgf : specialIn K (.ref f) "__get__" = some (some (.builtin "function.__get__"))) (htk : takesIn K (.ref f) = some false) (hc : copiedNames.contains name = false) (hl : fs.lookup name = none) (hp : go a f)
theorem awE_MethS {o : Expr} {name : Str} {apos : Pos} {args : List Expr} {P : V → AH → Prop} {X : Exc → AH → Prop} (G : Gd K p loose mg mb c.g) (hfew : methodCallForm (args.length + 0) (backTo pos (starEach args env)) (backToKw pos (keywordEach [] env)) = false) (hab : attributeBase o name env (eval o env) = eval o env) (hpos : (apos.endLine == pos.line) = true) (hst : (backTo pos (starEach args env)).any (·.1) = true) (hq : q = .quiet)
    (h : awE c q d A env o m H (fun x H₁ => MethAt K name H₁ (fun a f => awArgs c q d A env args [] m H₁ (fun xs kw H₂ => callP c d (.ref f) (.ref a :: xs) kw H₂ P X) X) x) X) : awE c q d A env (.Call (.Attribute o name apos) args [] pos) m H P X := by
  intro s F
  subst hq
  show wpAny c.M A (do
    let ov ← attributeBase o name env (eval o env)
    standAt apos.atName
    methodCall o name apos pos env ov (args.length + 0) (backTo pos (starEach args env)) (backToKw pos (keywordEach [] env))) _ _ s
  rw [hab]
  refine wpAny_bind (awT_then h F (fun x H₁ s₁ v hm F₁ hv S => ?_) fun _ _ o => o)
  obtain ⟨a, C, dd, f, fs, hx, h1, h2, hg, hh, hf, ht, hfn, hgf, htk, hc, hl, hp⟩ := hm
  subst hx
  cases hv
  refine wpAny_bind (wpAny_standAt ?_)
  unfold methodCall
  rw [hfew]
  obtain ⟨es, n, I, hpr⟩ := instAt_of F₁.rep h1 h2
  have hg' := getL_of (name := name) hpr
  rw [hl] at hg'
  have X' := G.X.keeps F₁.rep.keep
  refine wpAny_bind (wpAny_holding (wpAny_bind (m := getAttr (.ref a) name true) (get_bind X' I (plainGet_of hg).1 (findObj_fn hh hf hgf htk hc (by show lookIn name (dictOf es n) = _; rw [lookIn_dict, hg'])) (plainGet_of hg).2
    (wpAny_call (fn_get (s := { s₁ with toks := s₁.toks + 1 }) X' (beq_iff_eq.mp ht) (handed_on rfl ?_))))))
  refine wpAny_pure ?_
  have hmp : ∀ few, methodCallPos few o env apos pos = pure pos := fun few => by unfold methodCallPos; rw [hpos]; simp
  rw [hmp]
  refine wpAny_bind (wpAny_pure ?_)
  have R₂ := F₁.rep.push0 (methodObj (.ref f) (.ref a)) (s₁.toks + 1)
  have S₂ := Step.push0 H₁ s₁ (methodObj (.ref f) (.ref a)) (s₁.toks + 1)
  have F₂ := F₁.step R₂ S₂
  refine awT.from (S.trans S₂) ?_
  have e0 : (s₁.heap.push (methodObj (.ref f) (.ref a))).get? s₁.heap.objs.size = some (methodObj (.ref f) (.ref a)) := Heap.get?_push_size _ rfl
  have key : wpAny c.M A (evalArgs (.ref s₁.heap.objs.size) true (backTo pos (starEach args env)) []) (fun b s₃ => MethP K s₁.heap.objs.size f (.ref a) s₃.heap ∧ wpAny c.M A (call (.ref s₁.heap.objs.size) ([] ++ b.pos) b.kw) (OutE c H₁ { s₁ with heap := s₁.heap.push (methodObj (.ref f) (.ref a)), toks := s₁.toks + 1 } P) (OutX c env.frame H₁ { s₁ with heap := s₁.heap.push (methodObj (.ref f) (.ref a)), toks := s₁.toks + 1 } X) s₃) (OutX c env.frame H₁ { s₁ with heap := s₁.heap.push (methodObj (.ref f) (.ref a)), toks := s₁.toks + 1 } X) { s₁ with heap := s₁.heap.push (methodObj (.ref f) (.ref a)), toks := s₁.toks + 1 } := by
    refine wpAny_mono (hp _ pos (.ref s₁.heap.objs.size) F₂) (fun b s₃ ⟨xs, kw, H₃, hc3, hv3, hk3, R₃, S₃⟩ => ?_) fun _ _ o => o
    have hH : H₁ s₁.heap.objs.size = none := F₁.rep.free (Nat.le_refl _)
    obtain ⟨o', e', k'⟩ := S₃.kept _ _ e0 hH
    have e3 : s₃.heap.get? s₁.heap.objs.size = some (methodObj (.ref f) (.ref a)) := by
      rw [k'.eq (fun es n z => by cases z)] at e'
      exact e'
    refine ⟨⟨e3, G.X.keeps R₃.keep⟩, awT.from S₃ ?_⟩
    refine wpAny_call (ks_codeAny_call_bound e3 ?_)
    refine codeAny_mono (hc3 A s₃ (.ref a :: b.pos) b.kw (F₂.toBRep.step R₃ S₃) ⟨_, _, rfl, rfl, hv3⟩ hk3) fun r s' o => ?_
    cases r with
    | ok f => cases f <;> exact o
    | error e =>
      obtain ⟨k, H', a, b, r, z⟩ := o
      exact ⟨k, H', a, b.anyFl, r, z⟩
  exact ks_call hst (fun h X => keeps_M hfn h X) key
theorem awE_JStr {v : Expr} {P : V → AH → Prop} {X : Exc → AH → Prop} (h : awE c q d A env v m H P X) : awE c q d A env (.JoinedStr [v] pos) m H P X := fun s F => wpAny_JoinedStr_one (h s F)
theorem vrs_strs {h : Heap} : ∀ {ss : List Str} {vs : List Value}, VRs h (ss.map V.str) vs → StrsAre vs ss
  | [], _, e => by cases e; exact .nil
  | x :: ss, _, e => by obtain ⟨y, ys, rfl, ⟨t, rfl⟩, b⟩ := e; exact .cons x t (vrs_strs b)
theorem strs_vrs {h : Heap} : ∀ {ss : List Str} {vs : List Value}, StrsAre vs ss → VRs h (ss.map V.str) vs
  | _, _, .nil => rfl
  | _, _, .cons x t r => ⟨_, _, rfl, ⟨t, rfl⟩, strs_vrs r⟩
theorem call_sorted_strs {a : Addr} {ss : List Str} {P : V → AH → Prop} {X : Exc → AH → Prop} (ha : H a = some (.list (ss.map V.str))) (hl : ss.length < 64) (h : ∀ ss' : List Str, ss'.Perm ss → sortedS ss' = true → New H (.list (ss'.map V.str)) P) : awCall c q d A fl (.builtin "sorted") [.ref a] [] H P X := by
  intro s vs kvs B hv hk
  obtain rfl := kvs_nil hk
  obtain ⟨v, _, rfl, hv, rfl⟩ := hv
  cases hv
  obtain ⟨items, n, e, hr⟩ := B.rep.at_ _ _ ha
  have hS := vrs_strs hr
  refine sorted_strs (vs := items.toList) ⟨_, e, rfl, n, by simp⟩ hS (by rw [← hr.length]; simpa using hl) fun out ss' h1 h2 h3 => ?_
  obtain ⟨e', he'⟩ := sortedAll_at s.heap items.toList out
  have k : ∀ b o, s.heap.get? b = some o → (sortedAll s.heap items.toList out).get? b = some o := fun b o => sortedAll_old
  have hfr : s.heap.get? (s.heap.objs.size + 1) = none := Heap.get?_none_of_le (Nat.le_succ _)
  have R₁ : Rep c H { s with heap := sortedAll s.heap items.toList out } := B.rep.silent k rfl rfl
  have S₁ : Step H s H { s with heap := sortedAll s.heap items.toList out } := .silent k
  exact ⟨.ref (s.heap.objs.size + 1), _, (h ss' h2 h3).use _ (B.rep.fresh hfr), rfl, R₁.add (B.rep.gnone hfr) ⟨out, e', he', strs_vrs h1⟩, S₁.add fun _ => hfr⟩
theorem cmp_ne_bool {x y : Bool} {P : V → AH → Prop} {X : Exc → AH → Prop} (h : P (.bool (x != y)) H) : awO c q d A fl (fun vs => compareOp .NotEq (vs.getD 0 .none) (vs.getD 1 .none)) [.bool x, .bool y] H P X := by
  intro s vs B hv
  obtain ⟨v, _, rfl, hv, u, _, rfl, hu, rfl⟩ := hv
  cases hv; cases hu
  exact ne_bool (.here (x := .bool _) B.rep rfl h)
section
variable {P : Fl → Map → AH → Prop} {X : Exc → Map → AH → Prop}
theorem awS_RaiseOwn {x : Str} {np cpos : Pos} {args : List Expr} {C : Addr} {B newId initId : String} {bm : List Value} (G : Gd K p loose mg mb c.g) (hq : q = .quiet) (FB : ExcBaseFacts B newId initId bm) (hk : env.kindOf x = some .globalImplicit) (ex : nsIn K mainGlobals x = some (some (.ref C))) (hx : excIn K C bm newId = true) (hplain : (backTo cpos (starEach args env)).any (·.1) = false) (hd : (x == ("__debug__" : Str)) = false)
    (h : awArgs c q d A env args [] m H (fun xs kw H₁ => kw = [] ∧ xs.length ≤ 1000 ∧ X (.own C) m H₁) fun k H' => X k m H') : awS c q d A env (.Raise (some (.Call (.Name x np) args [] cpos)) none pos) m H P X := by
  intro s S
  have O := own_of_in G.X G.T ex hx
  obtain ⟨tl, N, nm, qn, bs, hdct, sn, sub, ab, col, dd, k0, k1, k2, k3, k5, mN, hC, hN, hni, T⟩ := O.obj
  refine wpAny_Raise_call_subT (C := C) (nm := nm) (q := qn) (N := N) (bs := bs) (bm := tl) (hdct := hdct) (sn := sn) (sub := sub) (ab := ab) (col := col) (dd := dd) (k0 := k0) (k1 := k1) (k2 := k2) (k3 := k3) (k5 := k5)
    FB (mN := mN) (T.hasType FB.hasBase) (S.ok.quiet hq) hplain hni ?_
  refine wpAny_mono (awE_Glob (c := c) (q := q) (d := d) (A := A) (env := env) (m := m) (H := H) (P := fun y H' => y = .ref C ∧ H' = H) (X := fun _ _ => False) G hk ex ⟨rfl, rfl⟩ hd s S.toFRep) (fun v s₁ ⟨y, H₁, ⟨hy, hH⟩, hv, R₁, S₁⟩ => ?_) fun _ _ ⟨_, _, z, _, _, _⟩ => z.elim
  subst hy hH
  cases hv
  refine ⟨rfl, wpAny_mono (h s₁ cpos (.ref C) (S.toFRep.step R₁ S₁)) (fun a s₂ ⟨xs, kw, H₂, ⟨hkw, hl, hX⟩, hv2, hk2, R₂, S₂⟩ => ?_) fun e s₂ o => (OutX.from S₁ o).toS S.toFRep⟩
  subst hkw
  obtain ⟨ap, akw⟩ := a
  obtain rfl := kvs_nil hk2
  refine ⟨rfl, by rw [← hv2.length]; exact Nat.le_trans hl (by decide), R₂.keep _ _ hC, hN.keeps R₂.keep, T.keeps R₂.keep, fun h' e hm => ?_⟩
  obtain ⟨t, ht, _, _⟩ := hm.there
  have R₃ : Rep c H₂ { s₂ with heap := h' } := R₂.silent hm.keeps rfl rfl
  have S₃ : Step H₂ s₂ H₂ { s₂ with heap := h' } := .silent hm.keeps
  refine OutX.toS S.toFRep (OutX.from (S₁.trans S₂) ⟨.own C, H₂, hX, ?_, R₃, S₃⟩)
  exact ⟨e, _, _, .none, rfl, hm.new, R₂.fresh hm.new, ht, ⟨rfl, rfl, fun _ => rfl⟩, rfl, rfl, .inl rfl⟩
theorem awS_TryO {body orelse suite : List Stmt} {b₀ : Stmt} {x : Str} {np hpos : Pos} {C : Addr} {newId : String} {bm : List Value} (G : Gd K p loose mg mb c.g) (hk : env.kindOf x = some .globalImplicit) (ex : nsIn K mainGlobals x = some (some (.ref C))) (hx : excIn K C bm newId = true) (hbase : bm.contains (.type "BaseException") = true) (hd : (x == ("__debug__" : Str)) = false)
    (h : awSs c q d A env body m H (fun f m' H' => match f with | .next => awSs c q d A env orelse m' H' P X | f => P f m' H') fun k m' H' => k.cls = .ref C ∧ ∀ e, awSs c .loose d (A.mark (some (.ref e))) env (b₀ :: suite) m' H' P X) :
    awS c q d A env (.Try body [.ExceptHandler (some (.Name x np)) none (b₀ :: suite) hpos] orelse [] pos) m H P X := by
  intro s S
  refine wpAny_Try_except (wpAny_mono (h s S) (fun f s₁ ⟨g, m', H', hp, hf, R, F, x⟩ => ?_) fun ex s₁ o => ?_)
  · cases g with
    | next => cases hf; exact wpAny_mono (hp s₁ (S.stepF R F x)) (fun _ _ => OutS.from x) fun _ _ => OutSX.from x
    | brk => cases hf; exact ⟨.brk, m', H', hp, rfl, R, F, x⟩
    | cont => cases hf; exact ⟨.cont, m', H', hp, rfl, R, F, x⟩
    | ret v => obtain ⟨u, rfl, hv⟩ := hf; exact ⟨.ret v, m', H', hp, ⟨u, rfl, hv⟩, R, F, x⟩
  · refine wpAny_mono (note_ok (E := OutSX c env H s X) S o) (fun _ s₂ o₂ => ?_) fun _ _ e => e
    obtain ⟨e, rfl, hw⟩ := o₂.toN (A' := A) (E := OutSX c env H s X) S
    refine wpAny_mono hw (fun _ s₃ ⟨k, m', H', ⟨hk', hx'⟩, n, R, F, x⟩ => ?_) fun _ _ e => e
    have S₃ := S.stepF R F x
    have M₃ := S₃.mark (md := .loose) (e := e) (fun z => nomatch z) (fun z => nomatch z)
    obtain ⟨bm', N, nm, qn, bs, hdct, sn, sub, ab, col, dd, k0, k1, k2, k3, k5, mN, hC, hN, hni, TL⟩ := ((own_of_in G.X G.T ex hx).keeps R.keep).obj
    refine wpAny_handleBy_cons (codeAny_handlers_test (wpAny_mono (awE_Glob (c := c) (q := .loose) (d := d) (A := A.mark (some (.ref e))) (env := env) (m := m') (H := H') (P := fun y H₁ => y = .ref C ∧ H₁ = H') (X := fun _ _ => False) G hk ex ⟨rfl, rfl⟩ hd s₃ M₃.toFRep) (fun cv s₄ o₄ => ?_) fun _ _ ⟨_, _, f, _, _, _⟩ => f.elim)) (by intro q; cases q)
    obtain ⟨x₄, H₄, ⟨rfl, rfl⟩, hv, R₄, st₄⟩ := o₄
    cases hv
    have n₄ := n.keep F st₄.toF
    have F₄ := F.step R st₄
    obtain ⟨ob, _, _, _, _, _, _, e3, ⟨e4, _⟩, _⟩ := id n₄
    obtain ⟨bm'', N', nm', qn', bs', hdct', sn', sub', ab', col', dd', j0, j1, j2, j3, j5, mN', hC', hN', hni', TL'⟩ := ((own_of_in G.X G.T ex hx).keeps R₄.keep).obj
    refine wpAny_excMatches_sub_self hC' e3 (e4.trans hk') (TL'.hasType hbase) (codeAny_handlers_suite ?_)
    refine wpAny_mono (flight_set (A := A.mark (some (.ref e))) (E := fun _ _ => False) (fun b hb => S.rep.gnone hb) n₄ R₄ F₄) (fun _ s₅ ⟨n₅, R₅, F₅, w, _⟩ => ?_) fun _ _ z => z.elim
    have x₅ := w H s rfl (x.trans st₄.toF)
    have M₅ := (S.stepF R₅ F₅ x₅).mark (md := .loose) (e := e) (fun z => nomatch z) (fun z => nomatch z)
    exact wpAny_mono (hx' e s₅ M₅) (fun _ _ o => OutS.from x₅ o) fun ex s' o => noted_back' S (OutSX.from x₅ o)
end
end
noncomputable def stN (i : Nat) : Stmt := PySem.Challenge.pw_om0166_01.main.body.getD i (.Pass ⟨0, 0, 0, 0⟩)
noncomputable def stM (i j : Nat) : Stmt := match stN i with
  | .ClassDef _ _ _ b _ _ _ _ _ _ _ => b.getD j (.Pass ⟨0, 0, 0, 0⟩)
  | s => s
inductive Lt (s : Stmt) (a : Arguments) (b : List Stmt) (c : Scope) : Prop
  | mk (n : Str) (d : List Expr) (r : Option Expr) (t : List TypeParam) (u : Option Scope) (e : Str) (p : Pos) (h : s = .FunctionDef n a b d r t c u e p)
noncomputable def kh (P : Params) (s : Str) : Int := PyData.keyHash P s
noncomputable def KF : Params → Frag := by
  refine' (fun
  {a1 : Arguments} {b1 : List Stmt} {c1 : Scope} (_ : Lt (stM 7 0) a1 b1 c1)
  {a2 : Arguments} {b2 : List Stmt} {c2 : Scope} (_ : Lt (stM 7 1) a2 b2 c2)
  {a3 : Arguments} {b3 : List Stmt} {c3 : Scope} (_ : Lt (stM 7 7) a3 b3 c3)
  {a4 : Arguments} {b4 : List Stmt} {c4 : Scope} (_ : Lt (stM 7 8) a4 b4 c4)
  {a5 : Arguments} {b5 : List Stmt} {c5 : Scope} (_ : Lt (stM 7 16) a5 b5 c5)
  {a6 : Arguments} {b6 : List Stmt} {c6 : Scope} (_ : Lt (stM 11 1) a6 b6 c6)
  {a7 : Arguments} {b7 : List Stmt} {c7 : Scope} (_ : Lt (stM 13 0) a7 b7 c7)
  {a8 : Arguments} {b8 : List Stmt} {c8 : Scope} (_ : Lt (stM 13 1) a8 b8 c8)
  {a9 : Arguments} {b9 : List Stmt} {c9 : Scope} (_ : Lt (stM 13 2) a9 b9 c9)
  {a10 : Arguments} {b10 : List Stmt} {c10 : Scope} (_ : Lt (stM 13 3) a10 b10 c10)
  {a11 : Arguments} {b11 : List Stmt} {c11 : Scope} (_ : Lt (stM 13 4) a11 b11 c11)
  {a12 : Arguments} {b12 : List Stmt} {c12 : Scope} (_ : Lt (stM 13 5) a12 b12 c12)
  {a13 : Arguments} {b13 : List Stmt} {c13 : Scope} (_ : Lt (stM 13 7) a13 b13 c13)
  {a14 : Arguments} {b14 : List Stmt} {c14 : Scope} (_ : Lt (stM 13 8) a14 b14 c14)
  {a15 : Arguments} {b15 : List Stmt} {c15 : Scope} (_ : Lt (stN 15) a15 b15 c15)
  {a16 : Arguments} {b16 : List Stmt} {c16 : Scope} (_ : Lt (stN 17) a16 b16 c16)
  {a17 : Arguments} {b17 : List Stmt} {c17 : Scope} (_ : Lt (stN 18) a17 b17 c17)
  {a18 : Arguments} {b18 : List Stmt} {c18 : Scope} (_ : Lt (stN 19) a18 b18 c18)
  {a19 : Arguments} {b19 : List Stmt} {c19 : Scope} (_ : Lt (stN 20) a19 b19 c19)
  {a20 : Arguments} {b20 : List Stmt} {c20 : Scope} (_ : Lt (stN 21) a20 b20 c20)
  {a21 : Arguments} {b21 : List Stmt} {c21 : Scope} (_ : Lt (stN 22) a21 b21 c21)
  {a22 : Arguments} {b22 : List Stmt} {c22 : Scope} (_ : Lt (stN 23) a22 b22 c22)
  {a23 : Arguments} {b23 : List Stmt} {c23 : Scope} (_ : Lt (stN 24) a23 b23 c23)
  {a24 : Arguments} {b24 : List Stmt} {c24 : Scope} (_ : Lt (stN 25) a24 b24 c24)
  {a25 : Arguments} {b25 : List Stmt} {c25 : Scope} (_ : Lt (stN 26) a25 b25 c25)
    P =>
  (nat_lit 3, { cls := .type "dict", data := .dict #[⟨kh P "__name__", .str "__name__" 165, .str "law_om0166_01" 750⟩, ⟨kh P "__doc__", .str "__doc__" 166, .none⟩, ⟨kh P "__package__", .str "__package__" 167, .none⟩, ⟨kh P "__loader__", .str "__loader__" 168, .builtin "__main__.__loader__#opaque"⟩, ⟨kh P "__spec__", .str "__spec__" 169, .none⟩, ⟨kh P "__annotations__", .str "__annotations__" 170, .ref 6⟩, ⟨kh P "__builtins__", .str "__builtins__" 171, .ref 4⟩, ⟨kh P "__file__", .str "__file__" 173, .str "/claim/cut.py" 172⟩, ⟨kh P "__cached__", .str "__cached__" 174, .none⟩, ⟨kh P "_sre", .str "_sre" 275, .ref 12⟩, ⟨kh P "_wall", .str "_wall" 288, .ref 38⟩, ⟨kh P "tspecials", .str "tspecials" 324, .ref 43⟩, ⟨kh P "_name_disallowed_re", .str "_name_disallowed_re" 350, .ref 48⟩, ⟨kh P "_value_disallowed_re", .str "_value_disallowed_re" 384, .ref 53⟩, ⟨kh P "_formatparam", .str "_formatparam" 394, .ref 61⟩, ⟨kh P "Headers", .str "Headers" 551, .ref 182⟩, ⟨kh P "_NODE_OUT", .str "_NODE_OUT" 556, .int (-1) 555⟩, ⟨kh P "_NODE_DONE", .str "_NODE_DONE" 559, .int (-2) 558⟩, ⟨kh P "_NodeInfo", .str "_NodeInfo" 596, .ref 205⟩, ⟨kh P "CycleError", .str "CycleError" 614, .ref 220⟩, ⟨kh P "TopologicalSorter", .str "TopologicalSorter" 733, .ref 302⟩, ⟨kh P "sorted_list_difference", .str "sorted_list_difference" 749, .ref 313⟩, ⟨kh P "_law_arrows", .str "_law_arrows" 763, .ref 320⟩, ⟨kh P "_law_steps", .str "_law_steps" 773, .ref 327⟩, ⟨kh P "_law_handed", .str "_law_handed" 785, .ref 334⟩, ⟨kh P "_law_due", .str "_law_due" 791, .ref 339⟩, ⟨kh P "_law_ends", .str "_law_ends" 797, .ref 344⟩, ⟨kh P "_law_reach", .str "_law_reach" 803, .ref 349⟩, ⟨kh P "_law_next_meet", .str "_law_next_meet" 816, .ref 356⟩, ⟨kh P "_law_led", .str "_law_led" 825, .ref 363⟩, ⟨kh P "_law_agree", .str "_law_agree" 831, .ref 368⟩, ⟨kh P "law", .str "law" 837, .ref 373⟩] 32 }) ::
  (nat_lit 43, { cls := .type "re.Pattern", data := .fields #[.str "[ \\(\\)<>@,;:\\\\\"/\\[\\]\\?=]" 292, .int 32 323, .int 0 0, .none, .none, .ref 42, .int 0 0] }) ::
  (nat_lit 47, { cls := .type "tuple", data := .seq #[.int 14 0, .int 10 0, .int 4 0, .int 1 0, .int 1 0, .int 22 0, .int 0 0, .int 31 0, .int 16 0, .int 127 0, .int 0 0, .int 13 0, .int 7 0, .int 22 0, .int 0 0, .int 31 0, .int 16 0, .int 127 0, .int 0 0, .int 1 0] }) ::
  (nat_lit 48, { cls := .type "re.Pattern", data := .fields #[.str "[\\x00-\\x1F\\x7F]" 326, .int 32 349, .int 0 0, .none, .none, .ref 47, .int 0 0] }) ::
  (nat_lit 52, { cls := .type "tuple", data := .seq #[.int 14 0, .int 14 0, .int 4 0, .int 1 0, .int 1 0, .int 9 0, .int 4294966783 0, .int 0 0, .int 0 0, .int 2147483648 0, .int 0 0, .int 0 0, .int 0 0, .int 0 0, .int 0 0, .int 13 0, .int 11 0, .int 9 0, .int 4294966783 0, .int 0 0, .int 0 0, .int 2147483648 0, .int 0 0, .int 0 0, .int 0 0, .int 0 0, .int 0 0, .int 1 0] }) ::
  (nat_lit 53, { cls := .type "re.Pattern", data := .fields #[.str "[\\x00-\\x08\\x0A-\\x1F\\x7F]" 352, .int 32 383, .int 0 0, .none, .none, .ref 52, .int 0 0] }) ::
  (nat_lit 69, { cls := .type "tuple", data := .seq #[.none] }) ::
  (nat_lit 75, { cls := .type "code", data := .fields #[.str "__init__" 407, .str "Headers.__init__" 408, .str "/claim/cut.py" 409, .int 20 0, .int 2 0, .int 0 0, .int 0 0, .int 3 0, .ref 70, .bool true, .int 276 0, .ref 71, .none, .ref 72, .ref 73, .ref 74, .int 414 0, .int 20 0, .str "/claim/cut.py" 415] }) ::
  (nat_lit 76, { cls := .type "function", data := .func { name := "__init__", qualname := "Headers.__init__", params := a1, body := .stmts b1, scope := c1, globals := 3, closure := [], defaults := .ref 69, kwdefaults := .none, pyModule := .str "cpy313.wsgiref.headers" 289, code := .ref 75 } }) ::
  (nat_lit 82, { cls := .type "code", data := .fields #[.str "_convert_string_type" 417, .str "Headers._convert_string_type" 418, .str "/claim/cut.py" 419, .int 30 0, .int 2 0, .int 0 0, .int 1 0, .int 3 0, .ref 77, .bool true, .int 276 0, .ref 78, .none, .ref 79, .ref 80, .ref 81, .int 424 0, .int 30 0, .str "/claim/cut.py" 425] }) ::
  (nat_lit 83, { cls := .type "function", data := .func { name := "_convert_string_type", qualname := "Headers._convert_string_type", params := a2, body := .stmts b2, scope := c2, globals := 3, closure := [], defaults := .none, kwdefaults := .none, pyModule := .str "cpy313.wsgiref.headers" 289, code := .ref 82 } }) ::
  (nat_lit 120, { cls := .type "code", data := .fields #[.str "get_all" 465, .str "Headers.get_all" 466, .str "/claim/cut.py" 467, .int 55 0, .int 2 0, .int 0 0, .int 0 0, .int 3 0, .ref 117, .bool true, .int 276 0, .ref 118, .none, .none, .none, .ref 119, .int 468 0, .int 55 0, .str "/claim/cut.py" 469] }) ::
  (nat_lit 121, { cls := .type "function", data := .func { name := "get_all", qualname := "Headers.get_all", params := a3, body := .stmts b3, scope := c3, globals := 3, closure := [], defaults := .none, kwdefaults := .none, pyModule := .str "cpy313.wsgiref.headers" 289, code := .ref 120 } }) ::
  (nat_lit 122, { cls := .type "tuple", data := .seq #[.none] }) ::
  (nat_lit 128, { cls := .type "code", data := .fields #[.str "get" 471, .str "Headers.get" 472, .str "/claim/cut.py" 473, .int 59 0, .int 3 0, .int 0 0, .int 0 0, .int 3 0, .ref 123, .bool true, .int 276 0, .ref 124, .none, .ref 125, .ref 126, .ref 127, .int 479 0, .int 59 0, .str "/claim/cut.py" 480] }) ::
  (nat_lit 129, { cls := .type "function", data := .func { name := "get", qualname := "Headers.get", params := a4, body := .stmts b4, scope := c4, globals := 3, closure := [], defaults := .ref 122, kwdefaults := .none, pyModule := .str "cpy313.wsgiref.headers" 289, code := .ref 128 } }) ::
  (nat_lit 178, { cls := .type "code", data := .fields #[.str "add_header" 530, .str "Headers.add_header" 531, .str "/claim/cut.py" 532, .int 87 0, .int 3 0, .int 0 0, .int 0 0, .int 11 0, .ref 173, .bool true, .int 276 0, .ref 174, .none, .ref 175, .ref 176, .ref 177, .int 540 0, .int 87 0, .str "/claim/cut.py" 541] }) ::
  (nat_lit 179, { cls := .type "function", data := .func { name := "add_header", qualname := "Headers.add_header", params := a5, body := .stmts b5, scope := c5, globals := 3, closure := [], defaults := .none, kwdefaults := .none, pyModule := .str "cpy313.wsgiref.headers" 289, code := .ref 178 } }) ::
  (nat_lit 181, { cls := .type "dict", data := .dict #[⟨kh P "__module__", .str "__module__" 402, .str "cpy313.wsgiref.headers" 289⟩, ⟨kh P "__firstlineno__", .str "__firstlineno__" 406, .int 18 405⟩, ⟨kh P "__init__", .str "__init__" 416, .ref 76⟩, ⟨kh P "_convert_string_type", .str "_convert_string_type" 426, .ref 83⟩, ⟨kh P "__len__", .str "__len__" 433, .ref 90⟩, ⟨kh P "__setitem__", .str "__setitem__" 442, .ref 97⟩, ⟨kh P "__delitem__", .str "__delitem__" 448, .ref 102⟩, ⟨kh P "__getitem__", .str "__getitem__" 456, .ref 109⟩, ⟨kh P "__contains__", .str "__contains__" 464, .ref 116⟩, ⟨kh P "get_all", .str "get_all" 470, .ref 121⟩, ⟨kh P "get", .str "get" 481, .ref 129⟩, ⟨kh P "keys", .str "keys" 487, .ref 134⟩, ⟨kh P "values", .str "values" 493, .ref 139⟩, ⟨kh P "items", .str "items" 500, .ref 146⟩, ⟨kh P "__repr__", .str "__repr__" 507, .ref 153⟩, ⟨kh P "__str__", .str "__str__" 513, .ref 158⟩, ⟨kh P "__bytes__", .str "__bytes__" 520, .ref 165⟩, ⟨kh P "setdefault", .str "setdefault" 529, .ref 172⟩, ⟨kh P "add_header", .str "add_header" 542, .ref 179⟩, ⟨kh P "__static_attributes__", .str "__static_attributes__" 544, .ref 180⟩, ⟨kh P "__dict__", .str "__dict__" 546, .ref 183⟩, ⟨kh P "__weakref__", .str "__weakref__" 548, .ref 184⟩, ⟨kh P "__doc__", .str "__doc__" 549, .none⟩] 4 }) ::
  (nat_lit 182, { cls := .type "type", data := .cls { name := "Headers", bases := [.type "object"], mro := [.ref 182, .type "object"], ns := 181, qualname := "Headers" }, slots := #[none, none, some (.str "Headers" 395), some (.str "Headers" 403), some (.builtin "object.__new__"), some (.bool true)] }) ::
  (nat_lit 183, { cls := .type "getset_descriptor", data := .fields #[.str "__dict__" 545, .ref 182, .builtin "function.__dict__", .builtin "function.__dict__#set"] }) ::
  (nat_lit 184, { cls := .type "getset_descriptor", data := .fields #[.str "__weakref__" 547, .ref 182, .builtin "ExceptionGroup.__weakref__", .none] }) ::
  (nat_lit 200, { cls := .type "code", data := .fields #[.str "__init__" 576, .str "_NodeInfo.__init__" 577, .str "/claim/cut.py" 578, .int 106 0, .int 2 0, .int 0 0, .int 0 0, .int 3 0, .ref 195, .bool true, .int 276 0, .ref 196, .none, .ref 197, .ref 198, .ref 199, .int 581 0, .int 106 0, .str "/claim/cut.py" 582] }) ::
  (nat_lit 201, { cls := .type "function", data := .func { name := "__init__", qualname := "_NodeInfo.__init__", params := a6, body := .stmts b6, scope := c6, globals := 3, closure := [], defaults := .none, kwdefaults := .none, pyModule := .str "cpy313.graphlib" 552, code := .ref 200 } }) ::
  (nat_lit 204, { cls := .type "dict", data := .dict #[⟨kh P "__module__", .str "__module__" 567, .str "cpy313.graphlib" 552⟩, ⟨kh P "__firstlineno__", .str "__firstlineno__" 571, .int 103 570⟩, ⟨kh P "__slots__", .str "__slots__" 575, .ref 194⟩, ⟨kh P "__init__", .str "__init__" 583, .ref 201⟩, ⟨kh P "__static_attributes__", .str "__static_attributes__" 587, .ref 202⟩, ⟨kh P "node", .str "node" 589, .ref 206⟩, ⟨kh P "npredecessors", .str "npredecessors" 591, .ref 207⟩, ⟨kh P "successors", .str "successors" 593, .ref 208⟩, ⟨kh P "__doc__", .str "__doc__" 594, .none⟩] 5 }) ::
  (nat_lit 205, { cls := .type "type", data := .cls { name := "_NodeInfo", bases := [.type "object"], mro := [.ref 205, .type "object"], ns := 204, qualname := "_NodeInfo", hasDict := false, slotNames := ["node", "npredecessors", "successors"] }, slots := #[none, none, some (.str "_NodeInfo" 560), some (.str "_NodeInfo" 568), some (.builtin "object.__new__"), some (.bool false)] }) ::
  (nat_lit 206, { cls := .type "member_descriptor", data := .fields #[.str "node" 588, .ref 205, .builtin "proto.slot", .builtin "proto.slot#set", .int 2 0] }) ::
  (nat_lit 207, { cls := .type "member_descriptor", data := .fields #[.str "npredecessors" 590, .ref 205, .builtin "proto.slot", .builtin "proto.slot#set", .int 1 0] }) ::
  (nat_lit 208, { cls := .type "member_descriptor", data := .fields #[.str "successors" 592, .ref 205, .builtin "proto.slot", .builtin "proto.slot#set", .int 0 0] }) ::
  (nat_lit 219, { cls := .type "dict", data := .dict #[⟨kh P "__module__", .str "__module__" 604, .str "cpy313.graphlib" 552⟩, ⟨kh P "__firstlineno__", .str "__firstlineno__" 608, .int 110 607⟩, ⟨kh P "__static_attributes__", .str "__static_attributes__" 609, .ref 218⟩, ⟨kh P "__weakref__", .str "__weakref__" 611, .ref 221⟩, ⟨kh P "__doc__", .str "__doc__" 612, .none⟩] 3 }) ::
  (nat_lit 220, { cls := .type "type", data := .cls { name := "CycleError", bases := [.type "ValueError"], mro := [.ref 220, .type "ValueError", .type "Exception", .type "BaseException", .type "object"], ns := 219, qualname := "CycleError" }, slots := #[some (.ref 211), none, some (.str "CycleError" 597), some (.str "CycleError" 605), some (.builtin "ValueError.__new__"), some (.bool true)] }) ::
  (nat_lit 221, { cls := .type "getset_descriptor", data := .fields #[.str "__weakref__" 610, .ref 220, .builtin "ExceptionGroup.__weakref__", .none] }) ::
  (nat_lit 231, { cls := .type "tuple", data := .seq #[.none] }) ::
  (nat_lit 237, { cls := .type "code", data := .fields #[.str "__init__" 627, .str "TopologicalSorter.__init__" 628, .str "/claim/cut.py" 629, .int 114 0, .int 2 0, .int 0 0, .int 0 0, .int 3 0, .ref 232, .bool true, .int 276 0, .ref 233, .none, .ref 234, .ref 235, .ref 236, .int 634 0, .int 114 0, .str "/claim/cut.py" 635] }) ::
  (nat_lit 238, { cls := .type "function", data := .func { name := "__init__", qualname := "TopologicalSorter.__init__", params := a7, body := .stmts b7, scope := c7, globals := 3, closure := [], defaults := .ref 231, kwdefaults := .none, pyModule := .str "cpy313.graphlib" 552, code := .ref 237 } }) ::
  (nat_lit 244, { cls := .type "code", data := .fields #[.str "_get_nodeinfo" 637, .str "TopologicalSorter._get_nodeinfo" 638, .str "/claim/cut.py" 639, .int 123 0, .int 2 0, .int 0 0, .int 0 0, .int 3 0, .ref 239, .bool true, .int 276 0, .ref 240, .none, .ref 241, .ref 242, .ref 243, .int 643 0, .int 123 0, .str "/claim/cut.py" 644] }) ::
  (nat_lit 245, { cls := .type "function", data := .func { name := "_get_nodeinfo", qualname := "TopologicalSorter._get_nodeinfo", params := a8, body := .stmts b8, scope := c8, globals := 3, closure := [], defaults := .none, kwdefaults := .none, pyModule := .str "cpy313.graphlib" 552, code := .ref 244 } }) ::
  (nat_lit 251, { cls := .type "code", data := .fields #[.str "add" 646, .str "TopologicalSorter.add" 647, .str "/claim/cut.py" 648, .int 128 0, .int 2 0, .int 0 0, .int 0 0, .int 7 0, .ref 246, .bool true, .int 276 0, .ref 247, .none, .ref 248, .ref 249, .ref 250, .int 655 0, .int 128 0, .str "/claim/cut.py" 656] }) ::
  (nat_lit 252, { cls := .type "function", data := .func { name := "add", qualname := "TopologicalSorter.add", params := a9, body := .stmts b9, scope := c9, globals := 3, closure := [], defaults := .none, kwdefaults := .none, pyModule := .str "cpy313.graphlib" 552, code := .ref 251 } }) ::
  (nat_lit 256, { cls := .type "code", data := .fields #[.str "prepare" 658, .str "TopologicalSorter.prepare" 659, .str "/claim/cut.py" 660, .int 137 0, .int 1 0, .int 0 0, .int 0 0, .int 3 0, .ref 253, .bool true, .int 276 0, .ref 254, .none, .none, .none, .ref 255, .int 661 0, .int 137 0, .str "/claim/cut.py" 662] }) ::
  (nat_lit 257, { cls := .type "function", data := .func { name := "prepare", qualname := "TopologicalSorter.prepare", params := a10, body := .stmts b10, scope := c10, globals := 3, closure := [], defaults := .none, kwdefaults := .none, pyModule := .str "cpy313.graphlib" 552, code := .ref 256 } }) ::
  (nat_lit 263, { cls := .type "code", data := .fields #[.str "get_ready" 664, .str "TopologicalSorter.get_ready" 665, .str "/claim/cut.py" 666, .int 145 0, .int 1 0, .int 0 0, .int 0 0, .int 3 0, .ref 258, .bool true, .int 276 0, .ref 259, .none, .ref 260, .ref 261, .ref 262, .int 671 0, .int 145 0, .str "/claim/cut.py" 672] }) ::
  (nat_lit 264, { cls := .type "function", data := .func { name := "get_ready", qualname := "TopologicalSorter.get_ready", params := a11, body := .stmts b11, scope := c11, globals := 3, closure := [], defaults := .none, kwdefaults := .none, pyModule := .str "cpy313.graphlib" 552, code := .ref 263 } }) ::
  (nat_lit 270, { cls := .type "code", data := .fields #[.str "is_active" 674, .str "TopologicalSorter.is_active" 675, .str "/claim/cut.py" 676, .int 156 0, .int 1 0, .int 0 0, .int 0 0, .int 3 0, .ref 265, .bool true, .int 276 0, .ref 266, .none, .ref 267, .ref 268, .ref 269, .int 678 0, .int 156 0, .str "/claim/cut.py" 679] }) ::
  (nat_lit 271, { cls := .type "function", data := .func { name := "is_active", qualname := "TopologicalSorter.is_active", params := a12, body := .stmts b12, scope := c12, globals := 3, closure := [], defaults := .none, kwdefaults := .none, pyModule := .str "cpy313.graphlib" 552, code := .ref 270 } }) ::
  (nat_lit 284, { cls := .type "code", data := .fields #[.str "done" 688, .str "TopologicalSorter.done" 689, .str "/claim/cut.py" 690, .int 164 0, .int 1 0, .int 0 0, .int 0 0, .int 7 0, .ref 279, .bool true, .int 276 0, .ref 280, .none, .ref 281, .ref 282, .ref 283, .int 699 0, .int 164 0, .str "/claim/cut.py" 700] }) ::
  (nat_lit 285, { cls := .type "function", data := .func { name := "done", qualname := "TopologicalSorter.done", params := a13, body := .stmts b13, scope := c13, globals := 3, closure := [], defaults := .none, kwdefaults := .none, pyModule := .str "cpy313.graphlib" 552, code := .ref 284 } }) ::
  (nat_lit 291, { cls := .type "code", data := .fields #[.str "_find_cycle" 702, .str "TopologicalSorter._find_cycle" 703, .str "/claim/cut.py" 704, .int 187 0, .int 1 0, .int 0 0, .int 0 0, .int 3 0, .ref 286, .bool true, .int 276 0, .ref 287, .none, .ref 288, .ref 289, .ref 290, .int 712 0, .int 187 0, .str "/claim/cut.py" 713] }) ::
  (nat_lit 292, { cls := .type "function", data := .func { name := "_find_cycle", qualname := "TopologicalSorter._find_cycle", params := a14, body := .stmts b14, scope := c14, globals := 3, closure := [], defaults := .none, kwdefaults := .none, pyModule := .str "cpy313.graphlib" 552, code := .ref 291 } }) ::
  (nat_lit 301, { cls := .type "dict", data := .dict #[⟨kh P "__module__", .str "__module__" 622, .str "cpy313.graphlib" 552⟩, ⟨kh P "__firstlineno__", .str "__firstlineno__" 626, .int 112 625⟩, ⟨kh P "__init__", .str "__init__" 636, .ref 238⟩, ⟨kh P "_get_nodeinfo", .str "_get_nodeinfo" 645, .ref 245⟩, ⟨kh P "add", .str "add" 657, .ref 252⟩, ⟨kh P "prepare", .str "prepare" 663, .ref 257⟩, ⟨kh P "get_ready", .str "get_ready" 673, .ref 264⟩, ⟨kh P "is_active", .str "is_active" 680, .ref 271⟩, ⟨kh P "__bool__", .str "__bool__" 687, .ref 278⟩, ⟨kh P "done", .str "done" 701, .ref 285⟩, ⟨kh P "_find_cycle", .str "_find_cycle" 714, .ref 292⟩, ⟨kh P "static_order", .str "static_order" 721, .ref 299⟩, ⟨kh P "__static_attributes__", .str "__static_attributes__" 726, .ref 300⟩, ⟨kh P "__dict__", .str "__dict__" 728, .ref 303⟩, ⟨kh P "__weakref__", .str "__weakref__" 730, .ref 304⟩, ⟨kh P "__doc__", .str "__doc__" 731, .none⟩] 4 }) ::
  (nat_lit 302, { cls := .type "type", data := .cls { name := "TopologicalSorter", bases := [.type "object"], mro := [.ref 302, .type "object"], ns := 301, qualname := "TopologicalSorter" }, slots := #[none, none, some (.str "TopologicalSorter" 615), some (.str "TopologicalSorter" 623), some (.builtin "object.__new__"), some (.bool true)] }) ::
  (nat_lit 303, { cls := .type "getset_descriptor", data := .fields #[.str "__dict__" 727, .ref 302, .builtin "function.__dict__", .builtin "function.__dict__#set"] }) ::
  (nat_lit 304, { cls := .type "getset_descriptor", data := .fields #[.str "__weakref__" 729, .ref 302, .builtin "ExceptionGroup.__weakref__", .none] }) ::
  (nat_lit 312, { cls := .type "code", data := .fields #[.str "sorted_list_difference" 736, .str "sorted_list_difference" 737, .str "/claim/cut.py" 738, .int 219 0, .int 2 0, .int 0 0, .int 0 0, .int 3 0, .ref 307, .bool true, .int 276 0, .ref 308, .none, .ref 309, .ref 310, .ref 311, .int 747 0, .int 219 0, .str "/claim/cut.py" 748] }) ::
  (nat_lit 313, { cls := .type "function", data := .func { name := "sorted_list_difference", qualname := "sorted_list_difference", params := a15, body := .stmts b15, scope := c15, globals := 3, closure := [], defaults := .none, kwdefaults := .none, pyModule := .str "cpy313.unittest.util" 734, code := .ref 312 } }) ::
  (nat_lit 319, { cls := .type "code", data := .fields #[.str "_law_arrows" 752, .str "_law_arrows" 753, .str "/claim/cut.py" 754, .int 252 0, .int 1 0, .int 0 0, .int 0 0, .int 3 0, .ref 314, .bool true, .int 276 0, .ref 315, .none, .ref 316, .ref 317, .ref 318, .int 761 0, .int 252 0, .str "/claim/cut.py" 762] }) ::
  (nat_lit 320, { cls := .type "function", data := .func { name := "_law_arrows", qualname := "_law_arrows", params := a16, body := .stmts b16, scope := c16, globals := 3, closure := [], defaults := .none, kwdefaults := .none, pyModule := .str "law_om0166_01" 750, code := .ref 319 } }) ::
  (nat_lit 326, { cls := .type "code", data := .fields #[.str "_law_steps" 764, .str "_law_steps" 765, .str "/claim/cut.py" 766, .int 263 0, .int 1 0, .int 0 0, .int 0 0, .int 3 0, .ref 321, .bool true, .int 276 0, .ref 322, .none, .ref 323, .ref 324, .ref 325, .int 771 0, .int 263 0, .str "/claim/cut.py" 772] }) ::
  (nat_lit 327, { cls := .type "function", data := .func { name := "_law_steps", qualname := "_law_steps", params := a17, body := .stmts b17, scope := c17, globals := 3, closure := [], defaults := .none, kwdefaults := .none, pyModule := .str "law_om0166_01" 750, code := .ref 326 } }) ::
  (nat_lit 333, { cls := .type "code", data := .fields #[.str "_law_handed" 774, .str "_law_handed" 775, .str "/claim/cut.py" 776, .int 268 0, .int 1 0, .int 0 0, .int 0 0, .int 3 0, .ref 328, .bool true, .int 276 0, .ref 329, .none, .ref 330, .ref 331, .ref 332, .int 783 0, .int 268 0, .str "/claim/cut.py" 784] }) ::
  (nat_lit 334, { cls := .type "function", data := .func { name := "_law_handed", qualname := "_law_handed", params := a18, body := .stmts b18, scope := c18, globals := 3, closure := [], defaults := .none, kwdefaults := .none, pyModule := .str "law_om0166_01" 750, code := .ref 333 } }) ::
  (nat_lit 338, { cls := .type "code", data := .fields #[.str "_law_due" 786, .str "_law_due" 787, .str "/claim/cut.py" 788, .int 283 0, .int 1 0, .int 0 0, .int 0 0, .int 3 0, .ref 335, .bool true, .int 276 0, .ref 336, .none, .none, .none, .ref 337, .int 789 0, .int 283 0, .str "/claim/cut.py" 790] }) ::
  (nat_lit 339, { cls := .type "function", data := .func { name := "_law_due", qualname := "_law_due", params := a19, body := .stmts b19, scope := c19, globals := 3, closure := [], defaults := .none, kwdefaults := .none, pyModule := .str "law_om0166_01" 750, code := .ref 338 } }) ::
  (nat_lit 343, { cls := .type "code", data := .fields #[.str "_law_ends" 792, .str "_law_ends" 793, .str "/claim/cut.py" 794, .int 293 0, .int 2 0, .int 0 0, .int 0 0, .int 3 0, .ref 340, .bool true, .int 276 0, .ref 341, .none, .none, .none, .ref 342, .int 795 0, .int 293 0, .str "/claim/cut.py" 796] }) ::
  (nat_lit 344, { cls := .type "function", data := .func { name := "_law_ends", qualname := "_law_ends", params := a20, body := .stmts b20, scope := c20, globals := 3, closure := [], defaults := .none, kwdefaults := .none, pyModule := .str "law_om0166_01" 750, code := .ref 343 } }) ::
  (nat_lit 348, { cls := .type "code", data := .fields #[.str "_law_reach" 798, .str "_law_reach" 799, .str "/claim/cut.py" 800, .int 302 0, .int 2 0, .int 0 0, .int 0 0, .int 3 0, .ref 345, .bool true, .int 276 0, .ref 346, .none, .none, .none, .ref 347, .int 801 0, .int 302 0, .str "/claim/cut.py" 802] }) ::
  (nat_lit 349, { cls := .type "function", data := .func { name := "_law_reach", qualname := "_law_reach", params := a21, body := .stmts b21, scope := c21, globals := 3, closure := [], defaults := .none, kwdefaults := .none, pyModule := .str "law_om0166_01" 750, code := .ref 348 } }) ::
  (nat_lit 355, { cls := .type "code", data := .fields #[.str "_law_next_meet" 804, .str "_law_next_meet" 805, .str "/claim/cut.py" 806, .int 310 0, .int 3 0, .int 0 0, .int 0 0, .int 3 0, .ref 350, .bool true, .int 276 0, .ref 351, .none, .ref 352, .ref 353, .ref 354, .int 814 0, .int 310 0, .str "/claim/cut.py" 815] }) ::
  (nat_lit 356, { cls := .type "function", data := .func { name := "_law_next_meet", qualname := "_law_next_meet", params := a22, body := .stmts b22, scope := c22, globals := 3, closure := [], defaults := .none, kwdefaults := .none, pyModule := .str "law_om0166_01" 750, code := .ref 355 } }) ::
  (nat_lit 362, { cls := .type "code", data := .fields #[.str "_law_led" 817, .str "_law_led" 818, .str "/claim/cut.py" 819, .int 318 0, .int 2 0, .int 0 0, .int 0 0, .int 3 0, .ref 357, .bool true, .int 276 0, .ref 358, .none, .ref 359, .ref 360, .ref 361, .int 823 0, .int 318 0, .str "/claim/cut.py" 824] }) ::
  (nat_lit 363, { cls := .type "function", data := .func { name := "_law_led", qualname := "_law_led", params := a23, body := .stmts b23, scope := c23, globals := 3, closure := [], defaults := .none, kwdefaults := .none, pyModule := .str "law_om0166_01" 750, code := .ref 362 } }) ::
  (nat_lit 367, { cls := .type "code", data := .fields #[.str "_law_agree" 826, .str "_law_agree" 827, .str "/claim/cut.py" 828, .int 323 0, .int 3 0, .int 0 0, .int 0 0, .int 3 0, .ref 364, .bool true, .int 276 0, .ref 365, .none, .none, .none, .ref 366, .int 829 0, .int 323 0, .str "/claim/cut.py" 830] }) ::
  (nat_lit 368, { cls := .type "function", data := .func { name := "_law_agree", qualname := "_law_agree", params := a24, body := .stmts b24, scope := c24, globals := 3, closure := [], defaults := .none, kwdefaults := .none, pyModule := .str "law_om0166_01" 750, code := .ref 367 } }) ::
  (nat_lit 372, { cls := .type "code", data := .fields #[.str "law" 832, .str "law" 833, .str "/claim/cut.py" 834, .int 333 0, .int 1 0, .int 0 0, .int 0 0, .int 3 0, .ref 369, .bool true, .int 276 0, .ref 370, .none, .none, .none, .ref 371, .int 835 0, .int 333 0, .str "/claim/cut.py" 836] }) ::
  (nat_lit 373, { cls := .type "function", data := .func { name := "law", qualname := "law", params := a25, body := .stmts b25, scope := c25, globals := 3, closure := [], defaults := .none, kwdefaults := .none, pyModule := .str "law_om0166_01" 750, code := .ref 372 } }) :: []) ?h1 ?h2 ?h3 ?h4 ?h5 ?h6 ?h7 ?h8 ?h9 ?h10 ?h11 ?h12 ?h13 ?h14 ?h15 ?h16 ?h17 ?h18 ?h19 ?h20 ?h21 ?h22 ?h23 ?h24 ?h25
  case h1 => (refine' Lt.mk _ _ _ _ _ _ _ ?z; (case z => ((conv => lhs; whnf) <;> exact rfl)))
  case h2 => (refine' Lt.mk _ _ _ _ _ _ _ ?z; (case z => ((conv => lhs; whnf) <;> exact rfl)))
  case h3 => (refine' Lt.mk _ _ _ _ _ _ _ ?z; (case z => ((conv => lhs; whnf) <;> exact rfl)))
  case h4 => (refine' Lt.mk _ _ _ _ _ _ _ ?z; (case z => ((conv => lhs; whnf) <;> exact rfl)))
  case h5 => (refine' Lt.mk _ _ _ _ _ _ _ ?z; (case z => ((conv => lhs; whnf) <;> exact rfl)))
  case h6 => (refine' Lt.mk _ _ _ _ _ _ _ ?z; (case z => ((conv => lhs; whnf) <;> exact rfl)))
  case h7 => (refine' Lt.mk _ _ _ _ _ _ _ ?z; (case z => ((conv => lhs; whnf) <;> exact rfl)))
  case h8 => (refine' Lt.mk _ _ _ _ _ _ _ ?z; (case z => ((conv => lhs; whnf) <;> exact rfl)))
  case h9 => (refine' Lt.mk _ _ _ _ _ _ _ ?z; (case z => ((conv => lhs; whnf) <;> exact rfl)))
  case h10 => (refine' Lt.mk _ _ _ _ _ _ _ ?z; (case z => ((conv => lhs; whnf) <;> exact rfl)))
  case h11 => (refine' Lt.mk _ _ _ _ _ _ _ ?z; (case z => ((conv => lhs; whnf) <;> exact rfl)))
  case h12 => (refine' Lt.mk _ _ _ _ _ _ _ ?z; (case z => ((conv => lhs; whnf) <;> exact rfl)))
  case h13 => (refine' Lt.mk _ _ _ _ _ _ _ ?z; (case z => ((conv => lhs; whnf) <;> exact rfl)))
  case h14 => (refine' Lt.mk _ _ _ _ _ _ _ ?z; (case z => ((conv => lhs; whnf) <;> exact rfl)))
  case h15 => (refine' Lt.mk _ _ _ _ _ _ _ ?z; (case z => ((conv => lhs; whnf) <;> exact rfl)))
  case h16 => (refine' Lt.mk _ _ _ _ _ _ _ ?z; (case z => ((conv => lhs; whnf) <;> exact rfl)))
  case h17 => (refine' Lt.mk _ _ _ _ _ _ _ ?z; (case z => ((conv => lhs; whnf) <;> exact rfl)))
  case h18 => (refine' Lt.mk _ _ _ _ _ _ _ ?z; (case z => ((conv => lhs; whnf) <;> exact rfl)))
  case h19 => (refine' Lt.mk _ _ _ _ _ _ _ ?z; (case z => ((conv => lhs; whnf) <;> exact rfl)))
  case h20 => (refine' Lt.mk _ _ _ _ _ _ _ ?z; (case z => ((conv => lhs; whnf) <;> exact rfl)))
  case h21 => (refine' Lt.mk _ _ _ _ _ _ _ ?z; (case z => ((conv => lhs; whnf) <;> exact rfl)))
  case h22 => (refine' Lt.mk _ _ _ _ _ _ _ ?z; (case z => ((conv => lhs; whnf) <;> exact rfl)))
  case h23 => (refine' Lt.mk _ _ _ _ _ _ _ ?z; (case z => ((conv => lhs; whnf) <;> exact rfl)))
  case h24 => (refine' Lt.mk _ _ _ _ _ _ _ ?z; (case z => ((conv => lhs; whnf) <;> exact rfl)))
  case h25 => (refine' Lt.mk _ _ _ _ _ _ _ ?z; (case z => ((conv => lhs; whnf) <;> exact rfl)))
abbrev rw1 : OpenLaw := PySem.Challenge.rw_om0166_01
noncomputable abbrev vw : Program := view rw1.row.toRowW.prog [0, 1, 2, 7, 8, 9, 10, 12, 13, 14, 15, 16, 17, 18, 19, 20, 21, 22, 23, 24, 25, 26]
abbrev lse : List Str := ["tspecials", "_name_disallowed_re", "_value_disallowed_re", "_formatparam", "_NodeInfo"]
noncomputable def Hk : Hook := kHook KF [3, 43, 47, 48, 52, 53, 69, 75, 76, 82, 83, 120, 121, 122, 128, 129, 178, 179, 181, 182, 183, 184, 200, 201, 204, 205, 206, 207, 208, 219, 220, 221, 231, 237, 238, 244, 245, 251, 252, 256, 257, 263, 264, 270, 271, 284, 285, 291, 292, 301, 302, 303, 304, 312, 313, 319, 320, 326, 327, 333, 334, 338, 339, 343, 344, 348, 349, 355, 356, 362, 363, 367, 368, 372, 373] (fun _ => by kernel_rfl)
noncomputable def fA : Stmt → Arguments
  | .FunctionDef _ a _ _ _ _ _ _ _ _ => a
  | _ => ⟨[], [], none, [], [], none, []⟩
noncomputable def fB : Stmt → List Stmt
  | .FunctionDef _ _ b _ _ _ _ _ _ _ => b
  | _ => []
noncomputable def fS : Stmt → Scope
  | .FunctionDef _ _ _ _ _ _ s _ _ _ => s
  | _ => { kind := .function, names := [], isGenerator := false, isCoroutine := false }
noncomputable abbrev pw : Program := rw1.row.toRowW.prog
noncomputable def b0 (w : World) : Shared := match (PySem.W.Fast.tw10274390034422433532 PySem.W.Fast.tw14364793385576792824 (opening pw) w 4892 (PySem.W.Fast.tw1435165496053646825 (opening pw)).1 (PySem.W.Fast.tw1435165496053646825 (opening pw)).2).bind (PySem.W.Fast.tw14289696077712309145 pw) with
  | some s => s
  | none => (start (opening pw)).1
noncomputable def dE (P : Params) : List DictEntry := [
  ⟨kh P "__doc__", .str "__doc__" 166, .none⟩,
  ⟨kh P "__package__", .str "__package__" 167, .none⟩,
  ⟨kh P "__loader__", .str "__loader__" 168, .builtin "__main__.__loader__#opaque"⟩,
  ⟨kh P "__spec__", .str "__spec__" 169, .none⟩,
  ⟨kh P "__annotations__", .str "__annotations__" 170, .ref 6⟩,
  ⟨kh P "__builtins__", .str "__builtins__" 171, .ref 4⟩,
  ⟨kh P "__file__", .str "__file__" 173, .str "/claim/cut.py" 172⟩,
  ⟨kh P "__cached__", .str "__cached__" 174, .none⟩,
  ⟨kh P "_sre", .str "_sre" 275, .ref 12⟩,
  ⟨kh P "_wall", .str "_wall" 288, .ref 38⟩,
  ⟨kh P "tspecials", .str "tspecials" 324, .ref 43⟩,
  ⟨kh P "_name_disallowed_re", .str "_name_disallowed_re" 350, .ref 48⟩,
  ⟨kh P "_value_disallowed_re", .str "_value_disallowed_re" 384, .ref 53⟩,
  ⟨kh P "_formatparam", .str "_formatparam" 394, .ref 61⟩,
  ⟨kh P "Headers", .str "Headers" 551, .ref 182⟩,
  ⟨kh P "_NODE_OUT", .str "_NODE_OUT" 556, .int (-1) 555⟩,
  ⟨kh P "_NODE_DONE", .str "_NODE_DONE" 559, .int (-2) 558⟩,
  ⟨kh P "_NodeInfo", .str "_NodeInfo" 596, .ref 205⟩,
  ⟨kh P "CycleError", .str "CycleError" 614, .ref 220⟩,
  ⟨kh P "TopologicalSorter", .str "TopologicalSorter" 733, .ref 302⟩,
  ⟨kh P "sorted_list_difference", .str "sorted_list_difference" 749, .ref 313⟩,
  ⟨kh P "_law_arrows", .str "_law_arrows" 763, .ref 320⟩,
  ⟨kh P "_law_steps", .str "_law_steps" 773, .ref 327⟩,
  ⟨kh P "_law_handed", .str "_law_handed" 785, .ref 334⟩,
  ⟨kh P "_law_due", .str "_law_due" 791, .ref 339⟩,
  ⟨kh P "_law_ends", .str "_law_ends" 797, .ref 344⟩,
  ⟨kh P "_law_reach", .str "_law_reach" 803, .ref 349⟩,
  ⟨kh P "_law_next_meet", .str "_law_next_meet" 816, .ref 356⟩,
  ⟨kh P "_law_led", .str "_law_led" 825, .ref 363⟩,
  ⟨kh P "_law_agree", .str "_law_agree" 831, .ref 368⟩,
  ⟨kh P "law", .str "law" 837, .ref 373⟩]
noncomputable def fE : List Value := [.int 2 0, .int 0 0, .ref 37, .int 9 0, .int 0 0, .ref 60, .int 18 0, .int 0 0, .ref 67, .int 103 0, .int 0 0, .ref 192, .int 110 0, .int 0 0, .ref 216, .int 112 0, .int 0 0, .ref 229, .int 219 0, .int 0 0, .ref 312, .int 252 0, .int 0 0, .ref 319, .int 263 0, .int 0 0, .ref 326, .int 268 0, .int 0 0, .ref 333, .int 283 0, .int 0 0, .ref 338, .int 293 0, .int 0 0, .ref 343, .int 302 0, .int 0 0, .ref 348, .int 310 0, .int 0 0, .ref 355, .int 318 0, .int 0 0, .ref 362, .int 323 0, .int 0 0, .ref 367, .int 333 0, .int 0 0, .ref 372]
noncomputable def g1 (P : Params) : List Obj := [
  { cls := .type "code", data := .fields #[.str "<module>" 277, .str "<module>" 278, .str "/claim/cut.py" 279, .int 1 0, .int 0 0, .int 0 0, .int 0 0, .int 0 0, .ref 28, .bool false, .int 276 0, .ref 29, .none, .none, .none, .none, .int 280 0, .int 1 0, .str "/claim/cut.py" 281] },
  { cls := .type "frame", slots := #[some (.ref 30), some (.ref 3), some (.ref 3), none, some (.str "__main__" 164), none, some (.ref 0)] },
  { cls := .type "tuple", data := .seq #[] },
  { cls := .none, data := .fields #[] },
  { cls := .type "tuple", data := .seq #[.str "k" 285] },
  { cls := .type "tuple", data := .seq #[] },
  { cls := .none, data := .func { name := "_wall", qualname := "_wall", params := fA (stN 1), body := .stmts (fB (stN 1)), scope := fS (stN 1), globals := 0, closure := [], defaults := .none, kwdefaults := .none } },
  { cls := .type "code", data := .fields #[.str "_wall" 282, .str "_wall" 283, .str "/claim/cut.py" 284, .int 2 0, .int 1 0, .int 0 0, .int 0 0, .int 3 0, .ref 32, .bool true, .int 276 0, .ref 33, .none, .ref 34, .ref 35, .ref 36, .int 286 0, .int 2 0, .str "/claim/cut.py" 287] },
  { cls := .type "function", data := .func { name := "_wall", qualname := "_wall", params := fA (stN 1), body := .stmts (fB (stN 1)), scope := fS (stN 1), globals := 3, closure := [], defaults := .none, kwdefaults := .none, pyModule := .str "__main__" 164, code := .ref 37 } },
  { cls := .type "list", data := .seq #[.int 14 294, .int 14 295, .int 4 296, .int 1 297, .int 1 298, .int 9 299, .int 0 300, .int 4227896069 301, .int 939524097 302, .int 0 303, .int 0 304, .int 0 305, .int 0 306, .int 0 307, .int 0 308, .int 13 309, .int 11 310, .int 9 311, .int 0 312, .int 4227896069 313, .int 939524097 314, .int 0 315, .int 0 316, .int 0 317, .int 0 318, .int 0 319, .int 0 320, .int 1 321] },
  { cls := .type "dict", data := .dict #[] },
  { cls := .type "tuple", data := .seq #[.none] },
  { cls := .type "tuple", data := .seq #[.int 14 0, .int 14 0, .int 4 0, .int 1 0, .int 1 0, .int 9 0, .int 0 0, .int 4227896069 0, .int 939524097 0, .int 0 0, .int 0 0, .int 0 0, .int 0 0, .int 0 0, .int 0 0, .int 13 0, .int 11 0, .int 9 0, .int 0 0, .int 4227896069 0, .int 939524097 0, .int 0 0, .int 0 0, .int 0 0, .int 0 0, .int 0 0, .int 0 0, .int 1 0] },
  { cls := .type "re.Pattern", data := .fields #[.str "[ \\(\\)<>@,;:\\\\\"/\\[\\]\\?=]" 292, .int 32 323, .int 0 0, .none, .none, .ref 42, .int 0 0] },
  { cls := .type "list", data := .seq #[.int 14 328, .int 10 329, .int 4 330, .int 1 331, .int 1 332, .int 22 333, .int 0 334, .int 31 335, .int 16 336, .int 127 337, .int 0 338, .int 13 339, .int 7 340, .int 22 341, .int 0 342, .int 31 343, .int 16 344, .int 127 345, .int 0 346, .int 1 347] },
  { cls := .type "dict", data := .dict #[] },
  { cls := .type "tuple", data := .seq #[.none] },
  { cls := .type "tuple", data := .seq #[.int 14 0, .int 10 0, .int 4 0, .int 1 0, .int 1 0, .int 22 0, .int 0 0, .int 31 0, .int 16 0, .int 127 0, .int 0 0, .int 13 0, .int 7 0, .int 22 0, .int 0 0, .int 31 0, .int 16 0, .int 127 0, .int 0 0, .int 1 0] },
  { cls := .type "re.Pattern", data := .fields #[.str "[\\x00-\\x1F\\x7F]" 326, .int 32 349, .int 0 0, .none, .none, .ref 47, .int 0 0] },
  { cls := .type "list", data := .seq #[.int 14 354, .int 14 355, .int 4 356, .int 1 357, .int 1 358, .int 9 359, .int 4294966783 360, .int 0 361, .int 0 362, .int 2147483648 363, .int 0 364, .int 0 365, .int 0 366, .int 0 367, .int 0 368, .int 13 369, .int 11 370, .int 9 371, .int 4294966783 372, .int 0 373, .int 0 374, .int 2147483648 375, .int 0 376, .int 0 377, .int 0 378, .int 0 379, .int 0 380, .int 1 381] },
  { cls := .type "dict", data := .dict #[] },
  { cls := .type "tuple", data := .seq #[.none] },
  { cls := .type "tuple", data := .seq #[.int 14 0, .int 14 0, .int 4 0, .int 1 0, .int 1 0, .int 9 0, .int 4294966783 0, .int 0 0, .int 0 0, .int 2147483648 0, .int 0 0, .int 0 0, .int 0 0, .int 0 0, .int 0 0, .int 13 0, .int 11 0, .int 9 0, .int 4294966783 0, .int 0 0, .int 0 0, .int 2147483648 0, .int 0 0, .int 0 0, .int 0 0, .int 0 0, .int 0 0, .int 1 0] },
  { cls := .type "re.Pattern", data := .fields #[.str "[\\x00-\\x08\\x0A-\\x1F\\x7F]" 352, .int 32 383, .int 0 0, .none, .none, .ref 52, .int 0 0] },
  { cls := .type "tuple", data := .seq #[.none, .int 1 385] },
  { cls := .type "tuple", data := .seq #[] },
  { cls := .none, data := .fields #[] },
  { cls := .type "tuple", data := .seq #[.str "param" 389, .str "value" 390, .str "quote" 391] },
  { cls := .type "tuple", data := .seq #[] },
  { cls := .none, data := .func { name := "_formatparam", qualname := "_formatparam", params := fA (stN 6), body := .stmts (fB (stN 6)), scope := fS (stN 6), globals := 0, closure := [], defaults := .none, kwdefaults := .none } },
  { cls := .type "code", data := .fields #[.str "_formatparam" 386, .str "_formatparam" 387, .str "/claim/cut.py" 388, .int 9 0, .int 3 0, .int 0 0, .int 0 0, .int 3 0, .ref 55, .bool true, .int 276 0, .ref 56, .none, .ref 57, .ref 58, .ref 59, .int 392 0, .int 9 0, .str "/claim/cut.py" 393] },
  { cls := .type "function", data := .func { name := "_formatparam", qualname := "_formatparam", params := fA (stN 6), body := .stmts (fB (stN 6)), scope := fS (stN 6), globals := 3, closure := [], defaults := .ref 54, kwdefaults := .none, pyModule := .str "cpy313.wsgiref.headers" 289, code := .ref 60 } }]
noncomputable def g2 (P : Params) : List Obj := [
  { cls := .type "tuple", data := .seq #[] },
  { cls := .type "builtin_function_or_method", data := .fields #[.builtin "type.__prepare__", .type "type"] },
  { cls := .type "dict", data := .dict #[⟨kh P "__module__", .str "__module__" 402, .str "cpy313.wsgiref.headers" 289⟩, ⟨kh P "__qualname__", .str "__qualname__" 404, .str "Headers" 403⟩, ⟨kh P "__firstlineno__", .str "__firstlineno__" 406, .int 18 405⟩, ⟨kh P "__init__", .str "__init__" 416, .ref 76⟩, ⟨kh P "_convert_string_type", .str "_convert_string_type" 426, .ref 83⟩, ⟨kh P "__len__", .str "__len__" 433, .ref 90⟩, ⟨kh P "__setitem__", .str "__setitem__" 442, .ref 97⟩, ⟨kh P "__delitem__", .str "__delitem__" 448, .ref 102⟩, ⟨kh P "__getitem__", .str "__getitem__" 456, .ref 109⟩, ⟨kh P "__contains__", .str "__contains__" 464, .ref 116⟩, ⟨kh P "get_all", .str "get_all" 470, .ref 121⟩, ⟨kh P "get", .str "get" 481, .ref 129⟩, ⟨kh P "keys", .str "keys" 487, .ref 134⟩, ⟨kh P "values", .str "values" 493, .ref 139⟩, ⟨kh P "items", .str "items" 500, .ref 146⟩, ⟨kh P "__repr__", .str "__repr__" 507, .ref 153⟩, ⟨kh P "__str__", .str "__str__" 513, .ref 158⟩, ⟨kh P "__bytes__", .str "__bytes__" 520, .ref 165⟩, ⟨kh P "setdefault", .str "setdefault" 529, .ref 172⟩, ⟨kh P "add_header", .str "add_header" 542, .ref 179⟩, ⟨kh P "__static_attributes__", .str "__static_attributes__" 544, .ref 180⟩] 21 },
  { cls := .type "tuple", data := .seq #[] },
  { cls := .none, data := .fields #[.int 20 0, .int 4 0, .ref 75, .int 30 0, .int 4 0, .ref 82, .int 38 0, .int 4 0, .ref 89, .int 41 0, .int 4 0, .ref 96, .int 45 0, .int 4 0, .ref 101, .int 49 0, .int 4 0, .ref 108, .int 52 0, .int 4 0, .ref 115, .int 55 0, .int 4 0, .ref 120, .int 59 0, .int 4 0, .ref 128, .int 66 0, .int 4 0, .ref 133, .int 69 0, .int 4 0, .ref 138, .int 72 0, .int 4 0, .ref 145, .int 75 0, .int 4 0, .ref 152, .int 78 0, .int 4 0, .ref 157, .int 81 0, .int 4 0, .ref 164, .int 84 0, .int 4 0, .ref 171, .int 87 0, .int 4 0, .ref 178] },
  { cls := .type "code", data := .fields #[.str "Headers" 397, .str "Headers" 398, .str "/claim/cut.py" 399, .int 18 0, .int 0 0, .int 0 0, .int 0 0, .int 0 0, .ref 65, .bool false, .int 276 0, .ref 66, .none, .none, .none, .none, .int 400 0, .int 18 0, .str "/claim/cut.py" 401] },
  { cls := .type "frame", slots := #[some (.ref 67), some (.ref 3), some (.ref 64), none, some (.str "cpy313.wsgiref.headers" 289), none, some (.ref 0)] },
  { cls := .type "tuple", data := .seq #[.none] },
  { cls := .type "tuple", data := .seq #[] },
  { cls := .none, data := .fields #[] },
  { cls := .type "tuple", data := .seq #[.str "self" 410, .str "headers" 411, .str "k" 412, .str "v" 413] },
  { cls := .type "tuple", data := .seq #[] },
  { cls := .none, data := .func { name := "__init__", qualname := "Headers.__init__", params := fA (stM 7 0), body := .stmts (fB (stM 7 0)), scope := fS (stM 7 0), globals := 0, closure := [], defaults := .none, kwdefaults := .none } },
  { cls := .type "code", data := .fields #[.str "__init__" 407, .str "Headers.__init__" 408, .str "/claim/cut.py" 409, .int 20 0, .int 2 0, .int 0 0, .int 0 0, .int 3 0, .ref 70, .bool true, .int 276 0, .ref 71, .none, .ref 72, .ref 73, .ref 74, .int 414 0, .int 20 0, .str "/claim/cut.py" 415] },
  { cls := .type "function", data := .func { name := "__init__", qualname := "Headers.__init__", params := fA (stM 7 0), body := .stmts (fB (stM 7 0)), scope := fS (stM 7 0), globals := 3, closure := [], defaults := .ref 69, kwdefaults := .none, pyModule := .str "cpy313.wsgiref.headers" 289, code := .ref 75 } },
  { cls := .type "tuple", data := .seq #[] },
  { cls := .none, data := .fields #[] },
  { cls := .type "tuple", data := .seq #[.str "self" 420, .str "value" 421, .str "name" 422, .str "regex" 423] },
  { cls := .type "tuple", data := .seq #[] },
  { cls := .none, data := .func { name := "_convert_string_type", qualname := "Headers._convert_string_type", params := fA (stM 7 1), body := .stmts (fB (stM 7 1)), scope := fS (stM 7 1), globals := 0, closure := [], defaults := .none, kwdefaults := .none } },
  { cls := .type "code", data := .fields #[.str "_convert_string_type" 417, .str "Headers._convert_string_type" 418, .str "/claim/cut.py" 419, .int 30 0, .int 2 0, .int 0 0, .int 1 0, .int 3 0, .ref 77, .bool true, .int 276 0, .ref 78, .none, .ref 79, .ref 80, .ref 81, .int 424 0, .int 30 0, .str "/claim/cut.py" 425] },
  { cls := .type "function", data := .func { name := "_convert_string_type", qualname := "Headers._convert_string_type", params := fA (stM 7 1), body := .stmts (fB (stM 7 1)), scope := fS (stM 7 1), globals := 3, closure := [], defaults := .none, kwdefaults := .none, pyModule := .str "cpy313.wsgiref.headers" 289, code := .ref 82 } },
  { cls := .type "tuple", data := .seq #[] },
  { cls := .none, data := .fields #[] },
  { cls := .type "tuple", data := .seq #[.str "self" 430] },
  { cls := .type "tuple", data := .seq #[] },
  { cls := .none, data := .func { name := "__len__", qualname := "Headers.__len__", params := fA (stM 7 2), body := .stmts (fB (stM 7 2)), scope := fS (stM 7 2), globals := 0, closure := [], defaults := .none, kwdefaults := .none } },
  { cls := .type "code", data := .fields #[.str "__len__" 427, .str "Headers.__len__" 428, .str "/claim/cut.py" 429, .int 38 0, .int 1 0, .int 0 0, .int 0 0, .int 3 0, .ref 84, .bool true, .int 276 0, .ref 85, .none, .ref 86, .ref 87, .ref 88, .int 431 0, .int 38 0, .str "/claim/cut.py" 432] },
  { cls := .type "function", data := .func { name := "__len__", qualname := "Headers.__len__", params := fA (stM 7 2), body := .stmts (fB (stM 7 2)), scope := fS (stM 7 2), globals := 3, closure := [], defaults := .none, kwdefaults := .none, pyModule := .str "cpy313.wsgiref.headers" 289, code := .ref 89 } },
  { cls := .type "tuple", data := .seq #[] },
  { cls := .none, data := .fields #[] },
  { cls := .type "tuple", data := .seq #[.str "self" 437, .str "name" 438, .str "val" 439] },
  { cls := .type "tuple", data := .seq #[] },
  { cls := .none, data := .func { name := "__setitem__", qualname := "Headers.__setitem__", params := fA (stM 7 3), body := .stmts (fB (stM 7 3)), scope := fS (stM 7 3), globals := 0, closure := [], defaults := .none, kwdefaults := .none } },
  { cls := .type "code", data := .fields #[.str "__setitem__" 434, .str "Headers.__setitem__" 435, .str "/claim/cut.py" 436, .int 41 0, .int 3 0, .int 0 0, .int 0 0, .int 3 0, .ref 91, .bool true, .int 276 0, .ref 92, .none, .ref 93, .ref 94, .ref 95, .int 440 0, .int 41 0, .str "/claim/cut.py" 441] },
  { cls := .type "function", data := .func { name := "__setitem__", qualname := "Headers.__setitem__", params := fA (stM 7 3), body := .stmts (fB (stM 7 3)), scope := fS (stM 7 3), globals := 3, closure := [], defaults := .none, kwdefaults := .none, pyModule := .str "cpy313.wsgiref.headers" 289, code := .ref 96 } },
  { cls := .type "tuple", data := .seq #[] },
  { cls := .none, data := .fields #[] },
  { cls := .none, data := .func { name := "__delitem__", qualname := "Headers.__delitem__", params := fA (stM 7 4), body := .stmts (fB (stM 7 4)), scope := fS (stM 7 4), globals := 0, closure := [], defaults := .none, kwdefaults := .none } },
  { cls := .type "code", data := .fields #[.str "__delitem__" 443, .str "Headers.__delitem__" 444, .str "/claim/cut.py" 445, .int 45 0, .int 2 0, .int 0 0, .int 0 0, .int 3 0, .ref 98, .bool true, .int 276 0, .ref 99, .none, .none, .none, .ref 100, .int 446 0, .int 45 0, .str "/claim/cut.py" 447] },
  { cls := .type "function", data := .func { name := "__delitem__", qualname := "Headers.__delitem__", params := fA (stM 7 4), body := .stmts (fB (stM 7 4)), scope := fS (stM 7 4), globals := 3, closure := [], defaults := .none, kwdefaults := .none, pyModule := .str "cpy313.wsgiref.headers" 289, code := .ref 101 } },
  { cls := .type "tuple", data := .seq #[] },
  { cls := .none, data := .fields #[] },
  { cls := .type "tuple", data := .seq #[.str "self" 452, .str "name" 453] },
  { cls := .type "tuple", data := .seq #[] },
  { cls := .none, data := .func { name := "__getitem__", qualname := "Headers.__getitem__", params := fA (stM 7 5), body := .stmts (fB (stM 7 5)), scope := fS (stM 7 5), globals := 0, closure := [], defaults := .none, kwdefaults := .none } },
  { cls := .type "code", data := .fields #[.str "__getitem__" 449, .str "Headers.__getitem__" 450, .str "/claim/cut.py" 451, .int 49 0, .int 2 0, .int 0 0, .int 0 0, .int 3 0, .ref 103, .bool true, .int 276 0, .ref 104, .none, .ref 105, .ref 106, .ref 107, .int 454 0, .int 49 0, .str "/claim/cut.py" 455] },
  { cls := .type "function", data := .func { name := "__getitem__", qualname := "Headers.__getitem__", params := fA (stM 7 5), body := .stmts (fB (stM 7 5)), scope := fS (stM 7 5), globals := 3, closure := [], defaults := .none, kwdefaults := .none, pyModule := .str "cpy313.wsgiref.headers" 289, code := .ref 108 } },
  { cls := .type "tuple", data := .seq #[] },
  { cls := .none, data := .fields #[] },
  { cls := .type "tuple", data := .seq #[.str "self" 460, .str "name" 461] },
  { cls := .type "tuple", data := .seq #[] },
  { cls := .none, data := .func { name := "__contains__", qualname := "Headers.__contains__", params := fA (stM 7 6), body := .stmts (fB (stM 7 6)), scope := fS (stM 7 6), globals := 0, closure := [], defaults := .none, kwdefaults := .none } },
  { cls := .type "code", data := .fields #[.str "__contains__" 457, .str "Headers.__contains__" 458, .str "/claim/cut.py" 459, .int 52 0, .int 2 0, .int 0 0, .int 0 0, .int 3 0, .ref 110, .bool true, .int 276 0, .ref 111, .none, .ref 112, .ref 113, .ref 114, .int 462 0, .int 52 0, .str "/claim/cut.py" 463] },
  { cls := .type "function", data := .func { name := "__contains__", qualname := "Headers.__contains__", params := fA (stM 7 6), body := .stmts (fB (stM 7 6)), scope := fS (stM 7 6), globals := 3, closure := [], defaults := .none, kwdefaults := .none, pyModule := .str "cpy313.wsgiref.headers" 289, code := .ref 115 } },
  { cls := .type "tuple", data := .seq #[] },
  { cls := .none, data := .fields #[] },
  { cls := .none, data := .func { name := "get_all", qualname := "Headers.get_all", params := fA (stM 7 7), body := .stmts (fB (stM 7 7)), scope := fS (stM 7 7), globals := 0, closure := [], defaults := .none, kwdefaults := .none } },
  { cls := .type "code", data := .fields #[.str "get_all" 465, .str "Headers.get_all" 466, .str "/claim/cut.py" 467, .int 55 0, .int 2 0, .int 0 0, .int 0 0, .int 3 0, .ref 117, .bool true, .int 276 0, .ref 118, .none, .none, .none, .ref 119, .int 468 0, .int 55 0, .str "/claim/cut.py" 469] },
  { cls := .type "function", data := .func { name := "get_all", qualname := "Headers.get_all", params := fA (stM 7 7), body := .stmts (fB (stM 7 7)), scope := fS (stM 7 7), globals := 3, closure := [], defaults := .none, kwdefaults := .none, pyModule := .str "cpy313.wsgiref.headers" 289, code := .ref 120 } },
  { cls := .type "tuple", data := .seq #[.none] },
  { cls := .type "tuple", data := .seq #[] },
  { cls := .none, data := .fields #[] },
  { cls := .type "tuple", data := .seq #[.str "self" 474, .str "name" 475, .str "default" 476, .str "k" 477, .str "v" 478] },
  { cls := .type "tuple", data := .seq #[] },
  { cls := .none, data := .func { name := "get", qualname := "Headers.get", params := fA (stM 7 8), body := .stmts (fB (stM 7 8)), scope := fS (stM 7 8), globals := 0, closure := [], defaults := .none, kwdefaults := .none } },
  { cls := .type "code", data := .fields #[.str "get" 471, .str "Headers.get" 472, .str "/claim/cut.py" 473, .int 59 0, .int 3 0, .int 0 0, .int 0 0, .int 3 0, .ref 123, .bool true, .int 276 0, .ref 124, .none, .ref 125, .ref 126, .ref 127, .int 479 0, .int 59 0, .str "/claim/cut.py" 480] },
  { cls := .type "function", data := .func { name := "get", qualname := "Headers.get", params := fA (stM 7 8), body := .stmts (fB (stM 7 8)), scope := fS (stM 7 8), globals := 3, closure := [], defaults := .ref 122, kwdefaults := .none, pyModule := .str "cpy313.wsgiref.headers" 289, code := .ref 128 } },
  { cls := .type "tuple", data := .seq #[] },
  { cls := .none, data := .fields #[] },
  { cls := .none, data := .func { name := "keys", qualname := "Headers.keys", params := fA (stM 7 9), body := .stmts (fB (stM 7 9)), scope := fS (stM 7 9), globals := 0, closure := [], defaults := .none, kwdefaults := .none } },
  { cls := .type "code", data := .fields #[.str "keys" 482, .str "Headers.keys" 483, .str "/claim/cut.py" 484, .int 66 0, .int 1 0, .int 0 0, .int 0 0, .int 3 0, .ref 130, .bool true, .int 276 0, .ref 131, .none, .none, .none, .ref 132, .int 485 0, .int 66 0, .str "/claim/cut.py" 486] },
  { cls := .type "function", data := .func { name := "keys", qualname := "Headers.keys", params := fA (stM 7 9), body := .stmts (fB (stM 7 9)), scope := fS (stM 7 9), globals := 3, closure := [], defaults := .none, kwdefaults := .none, pyModule := .str "cpy313.wsgiref.headers" 289, code := .ref 133 } },
  { cls := .type "tuple", data := .seq #[] },
  { cls := .none, data := .fields #[] },
  { cls := .none, data := .func { name := "values", qualname := "Headers.values", params := fA (stM 7 10), body := .stmts (fB (stM 7 10)), scope := fS (stM 7 10), globals := 0, closure := [], defaults := .none, kwdefaults := .none } },
  { cls := .type "code", data := .fields #[.str "values" 488, .str "Headers.values" 489, .str "/claim/cut.py" 490, .int 69 0, .int 1 0, .int 0 0, .int 0 0, .int 3 0, .ref 135, .bool true, .int 276 0, .ref 136, .none, .none, .none, .ref 137, .int 491 0, .int 69 0, .str "/claim/cut.py" 492] },
  { cls := .type "function", data := .func { name := "values", qualname := "Headers.values", params := fA (stM 7 10), body := .stmts (fB (stM 7 10)), scope := fS (stM 7 10), globals := 3, closure := [], defaults := .none, kwdefaults := .none, pyModule := .str "cpy313.wsgiref.headers" 289, code := .ref 138 } },
  { cls := .type "tuple", data := .seq #[] },
  { cls := .none, data := .fields #[] },
  { cls := .type "tuple", data := .seq #[.str "self" 497] },
  { cls := .type "tuple", data := .seq #[] },
  { cls := .none, data := .func { name := "items", qualname := "Headers.items", params := fA (stM 7 11), body := .stmts (fB (stM 7 11)), scope := fS (stM 7 11), globals := 0, closure := [], defaults := .none, kwdefaults := .none } },
  { cls := .type "code", data := .fields #[.str "items" 494, .str "Headers.items" 495, .str "/claim/cut.py" 496, .int 72 0, .int 1 0, .int 0 0, .int 0 0, .int 3 0, .ref 140, .bool true, .int 276 0, .ref 141, .none, .ref 142, .ref 143, .ref 144, .int 498 0, .int 72 0, .str "/claim/cut.py" 499] },
  { cls := .type "function", data := .func { name := "items", qualname := "Headers.items", params := fA (stM 7 11), body := .stmts (fB (stM 7 11)), scope := fS (stM 7 11), globals := 3, closure := [], defaults := .none, kwdefaults := .none, pyModule := .str "cpy313.wsgiref.headers" 289, code := .ref 145 } },
  { cls := .type "tuple", data := .seq #[] },
  { cls := .none, data := .fields #[] },
  { cls := .type "tuple", data := .seq #[.str "self" 504] },
  { cls := .type "tuple", data := .seq #[] },
  { cls := .none, data := .func { name := "__repr__", qualname := "Headers.__repr__", params := fA (stM 7 12), body := .stmts (fB (stM 7 12)), scope := fS (stM 7 12), globals := 0, closure := [], defaults := .none, kwdefaults := .none } },
  { cls := .type "code", data := .fields #[.str "__repr__" 501, .str "Headers.__repr__" 502, .str "/claim/cut.py" 503, .int 75 0, .int 1 0, .int 0 0, .int 0 0, .int 3 0, .ref 147, .bool true, .int 276 0, .ref 148, .none, .ref 149, .ref 150, .ref 151, .int 505 0, .int 75 0, .str "/claim/cut.py" 506] },
  { cls := .type "function", data := .func { name := "__repr__", qualname := "Headers.__repr__", params := fA (stM 7 12), body := .stmts (fB (stM 7 12)), scope := fS (stM 7 12), globals := 3, closure := [], defaults := .none, kwdefaults := .none, pyModule := .str "cpy313.wsgiref.headers" 289, code := .ref 152 } },
  { cls := .type "tuple", data := .seq #[] },
  { cls := .none, data := .fields #[] },
  { cls := .none, data := .func { name := "__str__", qualname := "Headers.__str__", params := fA (stM 7 13), body := .stmts (fB (stM 7 13)), scope := fS (stM 7 13), globals := 0, closure := [], defaults := .none, kwdefaults := .none } },
  { cls := .type "code", data := .fields #[.str "__str__" 508, .str "Headers.__str__" 509, .str "/claim/cut.py" 510, .int 78 0, .int 1 0, .int 0 0, .int 0 0, .int 3 0, .ref 154, .bool true, .int 276 0, .ref 155, .none, .none, .none, .ref 156, .int 511 0, .int 78 0, .str "/claim/cut.py" 512] },
  { cls := .type "function", data := .func { name := "__str__", qualname := "Headers.__str__", params := fA (stM 7 13), body := .stmts (fB (stM 7 13)), scope := fS (stM 7 13), globals := 3, closure := [], defaults := .none, kwdefaults := .none, pyModule := .str "cpy313.wsgiref.headers" 289, code := .ref 157 } },
  { cls := .type "tuple", data := .seq #[] },
  { cls := .none, data := .fields #[] },
  { cls := .type "tuple", data := .seq #[.str "self" 517] },
  { cls := .type "tuple", data := .seq #[] },
  { cls := .none, data := .func { name := "__bytes__", qualname := "Headers.__bytes__", params := fA (stM 7 14), body := .stmts (fB (stM 7 14)), scope := fS (stM 7 14), globals := 0, closure := [], defaults := .none, kwdefaults := .none } },
  { cls := .type "code", data := .fields #[.str "__bytes__" 514, .str "Headers.__bytes__" 515, .str "/claim/cut.py" 516, .int 81 0, .int 1 0, .int 0 0, .int 0 0, .int 3 0, .ref 159, .bool true, .int 276 0, .ref 160, .none, .ref 161, .ref 162, .ref 163, .int 518 0, .int 81 0, .str "/claim/cut.py" 519] },
  { cls := .type "function", data := .func { name := "__bytes__", qualname := "Headers.__bytes__", params := fA (stM 7 14), body := .stmts (fB (stM 7 14)), scope := fS (stM 7 14), globals := 3, closure := [], defaults := .none, kwdefaults := .none, pyModule := .str "cpy313.wsgiref.headers" 289, code := .ref 164 } },
  { cls := .type "tuple", data := .seq #[] },
  { cls := .none, data := .fields #[] },
  { cls := .type "tuple", data := .seq #[.str "self" 524, .str "name" 525, .str "value" 526] },
  { cls := .type "tuple", data := .seq #[] },
  { cls := .none, data := .func { name := "setdefault", qualname := "Headers.setdefault", params := fA (stM 7 15), body := .stmts (fB (stM 7 15)), scope := fS (stM 7 15), globals := 0, closure := [], defaults := .none, kwdefaults := .none } },
  { cls := .type "code", data := .fields #[.str "setdefault" 521, .str "Headers.setdefault" 522, .str "/claim/cut.py" 523, .int 84 0, .int 3 0, .int 0 0, .int 0 0, .int 3 0, .ref 166, .bool true, .int 276 0, .ref 167, .none, .ref 168, .ref 169, .ref 170, .int 527 0, .int 84 0, .str "/claim/cut.py" 528] },
  { cls := .type "function", data := .func { name := "setdefault", qualname := "Headers.setdefault", params := fA (stM 7 15), body := .stmts (fB (stM 7 15)), scope := fS (stM 7 15), globals := 3, closure := [], defaults := .none, kwdefaults := .none, pyModule := .str "cpy313.wsgiref.headers" 289, code := .ref 171 } },
  { cls := .type "tuple", data := .seq #[] },
  { cls := .none, data := .fields #[] },
  { cls := .type "tuple", data := .seq #[.str "self" 533, .str "_name" 534, .str "_value" 535, .str "_params" 536, .str "parts" 537, .str "k" 538, .str "v" 539] },
  { cls := .type "tuple", data := .seq #[] },
  { cls := .none, data := .func { name := "add_header", qualname := "Headers.add_header", params := fA (stM 7 16), body := .stmts (fB (stM 7 16)), scope := fS (stM 7 16), globals := 0, closure := [], defaults := .none, kwdefaults := .none } },
  { cls := .type "code", data := .fields #[.str "add_header" 530, .str "Headers.add_header" 531, .str "/claim/cut.py" 532, .int 87 0, .int 3 0, .int 0 0, .int 0 0, .int 11 0, .ref 173, .bool true, .int 276 0, .ref 174, .none, .ref 175, .ref 176, .ref 177, .int 540 0, .int 87 0, .str "/claim/cut.py" 541] },
  { cls := .type "function", data := .func { name := "add_header", qualname := "Headers.add_header", params := fA (stM 7 16), body := .stmts (fB (stM 7 16)), scope := fS (stM 7 16), globals := 3, closure := [], defaults := .none, kwdefaults := .none, pyModule := .str "cpy313.wsgiref.headers" 289, code := .ref 178 } },
  { cls := .type "tuple", data := .seq #[.str "_headers" 543] },
  { cls := .type "dict", data := .dict #[⟨kh P "__module__", .str "__module__" 402, .str "cpy313.wsgiref.headers" 289⟩, ⟨kh P "__firstlineno__", .str "__firstlineno__" 406, .int 18 405⟩, ⟨kh P "__init__", .str "__init__" 416, .ref 76⟩, ⟨kh P "_convert_string_type", .str "_convert_string_type" 426, .ref 83⟩, ⟨kh P "__len__", .str "__len__" 433, .ref 90⟩, ⟨kh P "__setitem__", .str "__setitem__" 442, .ref 97⟩, ⟨kh P "__delitem__", .str "__delitem__" 448, .ref 102⟩, ⟨kh P "__getitem__", .str "__getitem__" 456, .ref 109⟩, ⟨kh P "__contains__", .str "__contains__" 464, .ref 116⟩, ⟨kh P "get_all", .str "get_all" 470, .ref 121⟩, ⟨kh P "get", .str "get" 481, .ref 129⟩, ⟨kh P "keys", .str "keys" 487, .ref 134⟩, ⟨kh P "values", .str "values" 493, .ref 139⟩, ⟨kh P "items", .str "items" 500, .ref 146⟩, ⟨kh P "__repr__", .str "__repr__" 507, .ref 153⟩, ⟨kh P "__str__", .str "__str__" 513, .ref 158⟩, ⟨kh P "__bytes__", .str "__bytes__" 520, .ref 165⟩, ⟨kh P "setdefault", .str "setdefault" 529, .ref 172⟩, ⟨kh P "add_header", .str "add_header" 542, .ref 179⟩, ⟨kh P "__static_attributes__", .str "__static_attributes__" 544, .ref 180⟩, ⟨kh P "__dict__", .str "__dict__" 546, .ref 183⟩, ⟨kh P "__weakref__", .str "__weakref__" 548, .ref 184⟩, ⟨kh P "__doc__", .str "__doc__" 549, .none⟩] 4 },
  { cls := .type "type", data := .cls { name := "Headers", bases := [.type "object"], mro := [.ref 182, .type "object"], ns := 181, qualname := "Headers" }, slots := #[none, none, some (.str "Headers" 395), some (.str "Headers" 403), some (.builtin "object.__new__"), some (.bool true)] },
  { cls := .type "getset_descriptor", data := .fields #[.str "__dict__" 545, .ref 182, .builtin "function.__dict__", .builtin "function.__dict__#set"] },
  { cls := .type "getset_descriptor", data := .fields #[.str "__weakref__" 547, .ref 182, .builtin "ExceptionGroup.__weakref__", .none] },
  { cls := .type "super", data := .fields #[.ref 182, .ref 182, .ref 182] },
  { cls := .type "builtin_function_or_method", data := .fields #[.builtin "object.__init_subclass__", .ref 182] }]
noncomputable def g3 (P : Params) : List Obj := [
  { cls := .type "tuple", data := .seq #[] },
  { cls := .type "builtin_function_or_method", data := .fields #[.builtin "type.__prepare__", .type "type"] },
  { cls := .type "dict", data := .dict #[⟨kh P "__module__", .str "__module__" 567, .str "cpy313.graphlib" 552⟩, ⟨kh P "__qualname__", .str "__qualname__" 569, .str "_NodeInfo" 568⟩, ⟨kh P "__firstlineno__", .str "__firstlineno__" 571, .int 103 570⟩, ⟨kh P "__slots__", .str "__slots__" 575, .ref 194⟩, ⟨kh P "__init__", .str "__init__" 583, .ref 201⟩, ⟨kh P "__static_attributes__", .str "__static_attributes__" 587, .ref 202⟩] 6 },
  { cls := .type "tuple", data := .seq #[] },
  { cls := .none, data := .fields #[.int 106 0, .int 4 0, .ref 200] },
  { cls := .type "code", data := .fields #[.str "_NodeInfo" 562, .str "_NodeInfo" 563, .str "/claim/cut.py" 564, .int 103 0, .int 0 0, .int 0 0, .int 0 0, .int 0 0, .ref 190, .bool false, .int 276 0, .ref 191, .none, .none, .none, .none, .int 565 0, .int 103 0, .str "/claim/cut.py" 566] },
  { cls := .type "frame", slots := #[some (.ref 192), some (.ref 3), some (.ref 189), none, some (.str "cpy313.graphlib" 552), none, some (.ref 0)] },
  { cls := .type "tuple", data := .seq #[.str "node" 572, .str "npredecessors" 573, .str "successors" 574] },
  { cls := .type "tuple", data := .seq #[] },
  { cls := .none, data := .fields #[] },
  { cls := .type "tuple", data := .seq #[.str "self" 579, .str "node" 580] },
  { cls := .type "tuple", data := .seq #[] },
  { cls := .none, data := .func { name := "__init__", qualname := "_NodeInfo.__init__", params := fA (stM 11 1), body := .stmts (fB (stM 11 1)), scope := fS (stM 11 1), globals := 0, closure := [], defaults := .none, kwdefaults := .none } },
  { cls := .type "code", data := .fields #[.str "__init__" 576, .str "_NodeInfo.__init__" 577, .str "/claim/cut.py" 578, .int 106 0, .int 2 0, .int 0 0, .int 0 0, .int 3 0, .ref 195, .bool true, .int 276 0, .ref 196, .none, .ref 197, .ref 198, .ref 199, .int 581 0, .int 106 0, .str "/claim/cut.py" 582] },
  { cls := .type "function", data := .func { name := "__init__", qualname := "_NodeInfo.__init__", params := fA (stM 11 1), body := .stmts (fB (stM 11 1)), scope := fS (stM 11 1), globals := 3, closure := [], defaults := .none, kwdefaults := .none, pyModule := .str "cpy313.graphlib" 552, code := .ref 200 } },
  { cls := .type "tuple", data := .seq #[.str "node" 584, .str "npredecessors" 585, .str "successors" 586] },
  { cls := .type "list", data := .seq #[.str "node" 572, .str "npredecessors" 573, .str "successors" 574] 1 },
  { cls := .type "dict", data := .dict #[⟨kh P "__module__", .str "__module__" 567, .str "cpy313.graphlib" 552⟩, ⟨kh P "__firstlineno__", .str "__firstlineno__" 571, .int 103 570⟩, ⟨kh P "__slots__", .str "__slots__" 575, .ref 194⟩, ⟨kh P "__init__", .str "__init__" 583, .ref 201⟩, ⟨kh P "__static_attributes__", .str "__static_attributes__" 587, .ref 202⟩, ⟨kh P "node", .str "node" 589, .ref 206⟩, ⟨kh P "npredecessors", .str "npredecessors" 591, .ref 207⟩, ⟨kh P "successors", .str "successors" 593, .ref 208⟩, ⟨kh P "__doc__", .str "__doc__" 594, .none⟩] 5 },
  { cls := .type "type", data := .cls { name := "_NodeInfo", bases := [.type "object"], mro := [.ref 205, .type "object"], ns := 204, qualname := "_NodeInfo", hasDict := false, slotNames := ["node", "npredecessors", "successors"] }, slots := #[none, none, some (.str "_NodeInfo" 560), some (.str "_NodeInfo" 568), some (.builtin "object.__new__"), some (.bool false)] },
  { cls := .type "member_descriptor", data := .fields #[.str "node" 588, .ref 205, .builtin "proto.slot", .builtin "proto.slot#set", .int 2 0] },
  { cls := .type "member_descriptor", data := .fields #[.str "npredecessors" 590, .ref 205, .builtin "proto.slot", .builtin "proto.slot#set", .int 1 0] },
  { cls := .type "member_descriptor", data := .fields #[.str "successors" 592, .ref 205, .builtin "proto.slot", .builtin "proto.slot#set", .int 0 0] },
  { cls := .type "super", data := .fields #[.ref 205, .ref 205, .ref 205] },
  { cls := .type "builtin_function_or_method", data := .fields #[.builtin "object.__init_subclass__", .ref 205] },
  { cls := .type "tuple", data := .seq #[.type "ValueError"] },
  { cls := .type "builtin_function_or_method", data := .fields #[.builtin "type.__prepare__", .type "type"] },
  { cls := .type "dict", data := .dict #[⟨kh P "__module__", .str "__module__" 604, .str "cpy313.graphlib" 552⟩, ⟨kh P "__qualname__", .str "__qualname__" 606, .str "CycleError" 605⟩, ⟨kh P "__firstlineno__", .str "__firstlineno__" 608, .int 110 607⟩, ⟨kh P "__static_attributes__", .str "__static_attributes__" 609, .ref 218⟩] 4 },
  { cls := .type "tuple", data := .seq #[] },
  { cls := .none, data := .fields #[] },
  { cls := .type "code", data := .fields #[.str "CycleError" 599, .str "CycleError" 600, .str "/claim/cut.py" 601, .int 110 0, .int 0 0, .int 0 0, .int 0 0, .int 0 0, .ref 214, .bool false, .int 276 0, .ref 215, .none, .none, .none, .none, .int 602 0, .int 110 0, .str "/claim/cut.py" 603] },
  { cls := .type "frame", slots := #[some (.ref 216), some (.ref 3), some (.ref 213), none, some (.str "cpy313.graphlib" 552), none, some (.ref 0)] },
  { cls := .type "tuple", data := .seq #[] },
  { cls := .type "dict", data := .dict #[⟨kh P "__module__", .str "__module__" 604, .str "cpy313.graphlib" 552⟩, ⟨kh P "__firstlineno__", .str "__firstlineno__" 608, .int 110 607⟩, ⟨kh P "__static_attributes__", .str "__static_attributes__" 609, .ref 218⟩, ⟨kh P "__weakref__", .str "__weakref__" 611, .ref 221⟩, ⟨kh P "__doc__", .str "__doc__" 612, .none⟩] 3 },
  { cls := .type "type", data := .cls { name := "CycleError", bases := [.type "ValueError"], mro := [.ref 220, .type "ValueError", .type "Exception", .type "BaseException", .type "object"], ns := 219, qualname := "CycleError" }, slots := #[some (.ref 211), none, some (.str "CycleError" 597), some (.str "CycleError" 605), some (.builtin "ValueError.__new__"), some (.bool true)] },
  { cls := .type "getset_descriptor", data := .fields #[.str "__weakref__" 610, .ref 220, .builtin "ExceptionGroup.__weakref__", .none] },
  { cls := .type "super", data := .fields #[.ref 220, .ref 220, .ref 220] },
  { cls := .type "builtin_function_or_method", data := .fields #[.builtin "object.__init_subclass__", .ref 220] }]
noncomputable def g4 (P : Params) : List Obj := [
  { cls := .type "tuple", data := .seq #[] },
  { cls := .type "builtin_function_or_method", data := .fields #[.builtin "type.__prepare__", .type "type"] },
  { cls := .type "dict", data := .dict #[⟨kh P "__module__", .str "__module__" 622, .str "cpy313.graphlib" 552⟩, ⟨kh P "__qualname__", .str "__qualname__" 624, .str "TopologicalSorter" 623⟩, ⟨kh P "__firstlineno__", .str "__firstlineno__" 626, .int 112 625⟩, ⟨kh P "__init__", .str "__init__" 636, .ref 238⟩, ⟨kh P "_get_nodeinfo", .str "_get_nodeinfo" 645, .ref 245⟩, ⟨kh P "add", .str "add" 657, .ref 252⟩, ⟨kh P "prepare", .str "prepare" 663, .ref 257⟩, ⟨kh P "get_ready", .str "get_ready" 673, .ref 264⟩, ⟨kh P "is_active", .str "is_active" 680, .ref 271⟩, ⟨kh P "__bool__", .str "__bool__" 687, .ref 278⟩, ⟨kh P "done", .str "done" 701, .ref 285⟩, ⟨kh P "_find_cycle", .str "_find_cycle" 714, .ref 292⟩, ⟨kh P "static_order", .str "static_order" 721, .ref 299⟩, ⟨kh P "__static_attributes__", .str "__static_attributes__" 726, .ref 300⟩] 14 },
  { cls := .type "tuple", data := .seq #[] },
  { cls := .none, data := .fields #[.int 114 0, .int 4 0, .ref 237, .int 123 0, .int 4 0, .ref 244, .int 128 0, .int 4 0, .ref 251, .int 137 0, .int 4 0, .ref 256, .int 145 0, .int 4 0, .ref 263, .int 156 0, .int 4 0, .ref 270, .int 161 0, .int 4 0, .ref 277, .int 164 0, .int 4 0, .ref 284, .int 187 0, .int 4 0, .ref 291, .int 216 0, .int 4 0, .ref 298] },
  { cls := .type "code", data := .fields #[.str "TopologicalSorter" 617, .str "TopologicalSorter" 618, .str "/claim/cut.py" 619, .int 112 0, .int 0 0, .int 0 0, .int 0 0, .int 0 0, .ref 227, .bool false, .int 276 0, .ref 228, .none, .none, .none, .none, .int 620 0, .int 112 0, .str "/claim/cut.py" 621] },
  { cls := .type "frame", slots := #[some (.ref 229), some (.ref 3), some (.ref 226), none, some (.str "cpy313.graphlib" 552), none, some (.ref 0)] },
  { cls := .type "tuple", data := .seq #[.none] },
  { cls := .type "tuple", data := .seq #[] },
  { cls := .none, data := .fields #[] },
  { cls := .type "tuple", data := .seq #[.str "self" 630, .str "graph" 631, .str "node" 632, .str "predecessors" 633] },
  { cls := .type "tuple", data := .seq #[] },
  { cls := .none, data := .func { name := "__init__", qualname := "TopologicalSorter.__init__", params := fA (stM 13 0), body := .stmts (fB (stM 13 0)), scope := fS (stM 13 0), globals := 0, closure := [], defaults := .none, kwdefaults := .none } },
  { cls := .type "code", data := .fields #[.str "__init__" 627, .str "TopologicalSorter.__init__" 628, .str "/claim/cut.py" 629, .int 114 0, .int 2 0, .int 0 0, .int 0 0, .int 3 0, .ref 232, .bool true, .int 276 0, .ref 233, .none, .ref 234, .ref 235, .ref 236, .int 634 0, .int 114 0, .str "/claim/cut.py" 635] },
  { cls := .type "function", data := .func { name := "__init__", qualname := "TopologicalSorter.__init__", params := fA (stM 13 0), body := .stmts (fB (stM 13 0)), scope := fS (stM 13 0), globals := 3, closure := [], defaults := .ref 231, kwdefaults := .none, pyModule := .str "cpy313.graphlib" 552, code := .ref 237 } },
  { cls := .type "tuple", data := .seq #[] },
  { cls := .none, data := .fields #[] },
  { cls := .type "tuple", data := .seq #[.str "self" 640, .str "node" 641, .str "result" 642] },
  { cls := .type "tuple", data := .seq #[] },
  { cls := .none, data := .func { name := "_get_nodeinfo", qualname := "TopologicalSorter._get_nodeinfo", params := fA (stM 13 1), body := .stmts (fB (stM 13 1)), scope := fS (stM 13 1), globals := 0, closure := [], defaults := .none, kwdefaults := .none } },
  { cls := .type "code", data := .fields #[.str "_get_nodeinfo" 637, .str "TopologicalSorter._get_nodeinfo" 638, .str "/claim/cut.py" 639, .int 123 0, .int 2 0, .int 0 0, .int 0 0, .int 3 0, .ref 239, .bool true, .int 276 0, .ref 240, .none, .ref 241, .ref 242, .ref 243, .int 643 0, .int 123 0, .str "/claim/cut.py" 644] },
  { cls := .type "function", data := .func { name := "_get_nodeinfo", qualname := "TopologicalSorter._get_nodeinfo", params := fA (stM 13 1), body := .stmts (fB (stM 13 1)), scope := fS (stM 13 1), globals := 3, closure := [], defaults := .none, kwdefaults := .none, pyModule := .str "cpy313.graphlib" 552, code := .ref 244 } },
  { cls := .type "tuple", data := .seq #[] },
  { cls := .none, data := .fields #[] },
  { cls := .type "tuple", data := .seq #[.str "self" 649, .str "node" 650, .str "predecessors" 651, .str "nodeinfo" 652, .str "pred" 653, .str "pred_info" 654] },
  { cls := .type "tuple", data := .seq #[] },
  { cls := .none, data := .func { name := "add", qualname := "TopologicalSorter.add", params := fA (stM 13 2), body := .stmts (fB (stM 13 2)), scope := fS (stM 13 2), globals := 0, closure := [], defaults := .none, kwdefaults := .none } },
  { cls := .type "code", data := .fields #[.str "add" 646, .str "TopologicalSorter.add" 647, .str "/claim/cut.py" 648, .int 128 0, .int 2 0, .int 0 0, .int 0 0, .int 7 0, .ref 246, .bool true, .int 276 0, .ref 247, .none, .ref 248, .ref 249, .ref 250, .int 655 0, .int 128 0, .str "/claim/cut.py" 656] },
  { cls := .type "function", data := .func { name := "add", qualname := "TopologicalSorter.add", params := fA (stM 13 2), body := .stmts (fB (stM 13 2)), scope := fS (stM 13 2), globals := 3, closure := [], defaults := .none, kwdefaults := .none, pyModule := .str "cpy313.graphlib" 552, code := .ref 251 } },
  { cls := .type "tuple", data := .seq #[] },
  { cls := .none, data := .fields #[] },
  { cls := .none, data := .func { name := "prepare", qualname := "TopologicalSorter.prepare", params := fA (stM 13 3), body := .stmts (fB (stM 13 3)), scope := fS (stM 13 3), globals := 0, closure := [], defaults := .none, kwdefaults := .none } },
  { cls := .type "code", data := .fields #[.str "prepare" 658, .str "TopologicalSorter.prepare" 659, .str "/claim/cut.py" 660, .int 137 0, .int 1 0, .int 0 0, .int 0 0, .int 3 0, .ref 253, .bool true, .int 276 0, .ref 254, .none, .none, .none, .ref 255, .int 661 0, .int 137 0, .str "/claim/cut.py" 662] },
  { cls := .type "function", data := .func { name := "prepare", qualname := "TopologicalSorter.prepare", params := fA (stM 13 3), body := .stmts (fB (stM 13 3)), scope := fS (stM 13 3), globals := 3, closure := [], defaults := .none, kwdefaults := .none, pyModule := .str "cpy313.graphlib" 552, code := .ref 256 } },
  { cls := .type "tuple", data := .seq #[] },
  { cls := .none, data := .fields #[] },
  { cls := .type "tuple", data := .seq #[.str "self" 667, .str "result" 668, .str "n2i" 669, .str "node" 670] },
  { cls := .type "tuple", data := .seq #[] },
  { cls := .none, data := .func { name := "get_ready", qualname := "TopologicalSorter.get_ready", params := fA (stM 13 4), body := .stmts (fB (stM 13 4)), scope := fS (stM 13 4), globals := 0, closure := [], defaults := .none, kwdefaults := .none } },
  { cls := .type "code", data := .fields #[.str "get_ready" 664, .str "TopologicalSorter.get_ready" 665, .str "/claim/cut.py" 666, .int 145 0, .int 1 0, .int 0 0, .int 0 0, .int 3 0, .ref 258, .bool true, .int 276 0, .ref 259, .none, .ref 260, .ref 261, .ref 262, .int 671 0, .int 145 0, .str "/claim/cut.py" 672] },
  { cls := .type "function", data := .func { name := "get_ready", qualname := "TopologicalSorter.get_ready", params := fA (stM 13 4), body := .stmts (fB (stM 13 4)), scope := fS (stM 13 4), globals := 3, closure := [], defaults := .none, kwdefaults := .none, pyModule := .str "cpy313.graphlib" 552, code := .ref 263 } },
  { cls := .type "tuple", data := .seq #[] },
  { cls := .none, data := .fields #[] },
  { cls := .type "tuple", data := .seq #[.str "self" 677] },
  { cls := .type "tuple", data := .seq #[] },
  { cls := .none, data := .func { name := "is_active", qualname := "TopologicalSorter.is_active", params := fA (stM 13 5), body := .stmts (fB (stM 13 5)), scope := fS (stM 13 5), globals := 0, closure := [], defaults := .none, kwdefaults := .none } },
  { cls := .type "code", data := .fields #[.str "is_active" 674, .str "TopologicalSorter.is_active" 675, .str "/claim/cut.py" 676, .int 156 0, .int 1 0, .int 0 0, .int 0 0, .int 3 0, .ref 265, .bool true, .int 276 0, .ref 266, .none, .ref 267, .ref 268, .ref 269, .int 678 0, .int 156 0, .str "/claim/cut.py" 679] },
  { cls := .type "function", data := .func { name := "is_active", qualname := "TopologicalSorter.is_active", params := fA (stM 13 5), body := .stmts (fB (stM 13 5)), scope := fS (stM 13 5), globals := 3, closure := [], defaults := .none, kwdefaults := .none, pyModule := .str "cpy313.graphlib" 552, code := .ref 270 } },
  { cls := .type "tuple", data := .seq #[] },
  { cls := .none, data := .fields #[] },
  { cls := .type "tuple", data := .seq #[.str "self" 684] },
  { cls := .type "tuple", data := .seq #[] },
  { cls := .none, data := .func { name := "__bool__", qualname := "TopologicalSorter.__bool__", params := fA (stM 13 6), body := .stmts (fB (stM 13 6)), scope := fS (stM 13 6), globals := 0, closure := [], defaults := .none, kwdefaults := .none } },
  { cls := .type "code", data := .fields #[.str "__bool__" 681, .str "TopologicalSorter.__bool__" 682, .str "/claim/cut.py" 683, .int 161 0, .int 1 0, .int 0 0, .int 0 0, .int 3 0, .ref 272, .bool true, .int 276 0, .ref 273, .none, .ref 274, .ref 275, .ref 276, .int 685 0, .int 161 0, .str "/claim/cut.py" 686] },
  { cls := .type "function", data := .func { name := "__bool__", qualname := "TopologicalSorter.__bool__", params := fA (stM 13 6), body := .stmts (fB (stM 13 6)), scope := fS (stM 13 6), globals := 3, closure := [], defaults := .none, kwdefaults := .none, pyModule := .str "cpy313.graphlib" 552, code := .ref 277 } },
  { cls := .type "tuple", data := .seq #[] },
  { cls := .none, data := .fields #[] },
  { cls := .type "tuple", data := .seq #[.str "self" 691, .str "nodes" 692, .str "n2i" 693, .str "node" 694, .str "nodeinfo" 695, .str "stat" 696, .str "successor" 697, .str "successor_info" 698] },
  { cls := .type "tuple", data := .seq #[] },
  { cls := .none, data := .func { name := "done", qualname := "TopologicalSorter.done", params := fA (stM 13 7), body := .stmts (fB (stM 13 7)), scope := fS (stM 13 7), globals := 0, closure := [], defaults := .none, kwdefaults := .none } },
  { cls := .type "code", data := .fields #[.str "done" 688, .str "TopologicalSorter.done" 689, .str "/claim/cut.py" 690, .int 164 0, .int 1 0, .int 0 0, .int 0 0, .int 7 0, .ref 279, .bool true, .int 276 0, .ref 280, .none, .ref 281, .ref 282, .ref 283, .int 699 0, .int 164 0, .str "/claim/cut.py" 700] },
  { cls := .type "function", data := .func { name := "done", qualname := "TopologicalSorter.done", params := fA (stM 13 7), body := .stmts (fB (stM 13 7)), scope := fS (stM 13 7), globals := 3, closure := [], defaults := .none, kwdefaults := .none, pyModule := .str "cpy313.graphlib" 552, code := .ref 284 } },
  { cls := .type "tuple", data := .seq #[] },
  { cls := .none, data := .fields #[] },
  { cls := .type "tuple", data := .seq #[.str "self" 705, .str "n2i" 706, .str "stack" 707, .str "itstack" 708, .str "seen" 709, .str "node2stacki" 710, .str "node" 711] },
  { cls := .type "tuple", data := .seq #[] },
  { cls := .none, data := .func { name := "_find_cycle", qualname := "TopologicalSorter._find_cycle", params := fA (stM 13 8), body := .stmts (fB (stM 13 8)), scope := fS (stM 13 8), globals := 0, closure := [], defaults := .none, kwdefaults := .none } },
  { cls := .type "code", data := .fields #[.str "_find_cycle" 702, .str "TopologicalSorter._find_cycle" 703, .str "/claim/cut.py" 704, .int 187 0, .int 1 0, .int 0 0, .int 0 0, .int 3 0, .ref 286, .bool true, .int 276 0, .ref 287, .none, .ref 288, .ref 289, .ref 290, .int 712 0, .int 187 0, .str "/claim/cut.py" 713] },
  { cls := .type "function", data := .func { name := "_find_cycle", qualname := "TopologicalSorter._find_cycle", params := fA (stM 13 8), body := .stmts (fB (stM 13 8)), scope := fS (stM 13 8), globals := 3, closure := [], defaults := .none, kwdefaults := .none, pyModule := .str "cpy313.graphlib" 552, code := .ref 291 } },
  { cls := .type "tuple", data := .seq #[] },
  { cls := .none, data := .fields #[] },
  { cls := .type "tuple", data := .seq #[.str "self" 718] },
  { cls := .type "tuple", data := .seq #[] },
  { cls := .none, data := .func { name := "static_order", qualname := "TopologicalSorter.static_order", params := fA (stM 13 9), body := .stmts (fB (stM 13 9)), scope := fS (stM 13 9), globals := 0, closure := [], defaults := .none, kwdefaults := .none } },
  { cls := .type "code", data := .fields #[.str "static_order" 715, .str "TopologicalSorter.static_order" 716, .str "/claim/cut.py" 717, .int 216 0, .int 1 0, .int 0 0, .int 0 0, .int 3 0, .ref 293, .bool true, .int 276 0, .ref 294, .none, .ref 295, .ref 296, .ref 297, .int 719 0, .int 216 0, .str "/claim/cut.py" 720] },
  { cls := .type "function", data := .func { name := "static_order", qualname := "TopologicalSorter.static_order", params := fA (stM 13 9), body := .stmts (fB (stM 13 9)), scope := fS (stM 13 9), globals := 3, closure := [], defaults := .none, kwdefaults := .none, pyModule := .str "cpy313.graphlib" 552, code := .ref 298 } },
  { cls := .type "tuple", data := .seq #[.str "_nfinished" 722, .str "_node2info" 723, .str "_npassedout" 724, .str "_ready_nodes" 725] },
  { cls := .type "dict", data := .dict #[⟨kh P "__module__", .str "__module__" 622, .str "cpy313.graphlib" 552⟩, ⟨kh P "__firstlineno__", .str "__firstlineno__" 626, .int 112 625⟩, ⟨kh P "__init__", .str "__init__" 636, .ref 238⟩, ⟨kh P "_get_nodeinfo", .str "_get_nodeinfo" 645, .ref 245⟩, ⟨kh P "add", .str "add" 657, .ref 252⟩, ⟨kh P "prepare", .str "prepare" 663, .ref 257⟩, ⟨kh P "get_ready", .str "get_ready" 673, .ref 264⟩, ⟨kh P "is_active", .str "is_active" 680, .ref 271⟩, ⟨kh P "__bool__", .str "__bool__" 687, .ref 278⟩, ⟨kh P "done", .str "done" 701, .ref 285⟩, ⟨kh P "_find_cycle", .str "_find_cycle" 714, .ref 292⟩, ⟨kh P "static_order", .str "static_order" 721, .ref 299⟩, ⟨kh P "__static_attributes__", .str "__static_attributes__" 726, .ref 300⟩, ⟨kh P "__dict__", .str "__dict__" 728, .ref 303⟩, ⟨kh P "__weakref__", .str "__weakref__" 730, .ref 304⟩, ⟨kh P "__doc__", .str "__doc__" 731, .none⟩] 4 },
  { cls := .type "type", data := .cls { name := "TopologicalSorter", bases := [.type "object"], mro := [.ref 302, .type "object"], ns := 301, qualname := "TopologicalSorter" }, slots := #[none, none, some (.str "TopologicalSorter" 615), some (.str "TopologicalSorter" 623), some (.builtin "object.__new__"), some (.bool true)] },
  { cls := .type "getset_descriptor", data := .fields #[.str "__dict__" 727, .ref 302, .builtin "function.__dict__", .builtin "function.__dict__#set"] },
  { cls := .type "getset_descriptor", data := .fields #[.str "__weakref__" 729, .ref 302, .builtin "ExceptionGroup.__weakref__", .none] },
  { cls := .type "super", data := .fields #[.ref 302, .ref 302, .ref 302] },
  { cls := .type "builtin_function_or_method", data := .fields #[.builtin "object.__init_subclass__", .ref 302] }]
noncomputable def g5 (P : Params) : List Obj := [
  { cls := .type "tuple", data := .seq #[] },
  { cls := .none, data := .fields #[] },
  { cls := .type "tuple", data := .seq #[.str "expected" 739, .str "actual" 740, .str "i" 741, .str "j" 742, .str "missing" 743, .str "unexpected" 744, .str "e" 745, .str "a" 746] },
  { cls := .type "tuple", data := .seq #[] },
  { cls := .none, data := .func { name := "sorted_list_difference", qualname := "sorted_list_difference", params := fA (stN 15), body := .stmts (fB (stN 15)), scope := fS (stN 15), globals := 0, closure := [], defaults := .none, kwdefaults := .none } },
  { cls := .type "code", data := .fields #[.str "sorted_list_difference" 736, .str "sorted_list_difference" 737, .str "/claim/cut.py" 738, .int 219 0, .int 2 0, .int 0 0, .int 0 0, .int 3 0, .ref 307, .bool true, .int 276 0, .ref 308, .none, .ref 309, .ref 310, .ref 311, .int 747 0, .int 219 0, .str "/claim/cut.py" 748] },
  { cls := .type "function", data := .func { name := "sorted_list_difference", qualname := "sorted_list_difference", params := fA (stN 15), body := .stmts (fB (stN 15)), scope := fS (stN 15), globals := 3, closure := [], defaults := .none, kwdefaults := .none, pyModule := .str "cpy313.unittest.util" 734, code := .ref 312 } },
  { cls := .type "tuple", data := .seq #[] },
  { cls := .none, data := .fields #[] },
  { cls := .type "tuple", data := .seq #[.str "script" 755, .str "arrows" 756, .str "x" 757, .str "number" 758, .str "left" 759, .str "reached" 760] },
  { cls := .type "tuple", data := .seq #[] },
  { cls := .none, data := .func { name := "_law_arrows", qualname := "_law_arrows", params := fA (stN 17), body := .stmts (fB (stN 17)), scope := fS (stN 17), globals := 0, closure := [], defaults := .none, kwdefaults := .none } },
  { cls := .type "code", data := .fields #[.str "_law_arrows" 752, .str "_law_arrows" 753, .str "/claim/cut.py" 754, .int 252 0, .int 1 0, .int 0 0, .int 0 0, .int 3 0, .ref 314, .bool true, .int 276 0, .ref 315, .none, .ref 316, .ref 317, .ref 318, .int 761 0, .int 252 0, .str "/claim/cut.py" 762] },
  { cls := .type "function", data := .func { name := "_law_arrows", qualname := "_law_arrows", params := fA (stN 17), body := .stmts (fB (stN 17)), scope := fS (stN 17), globals := 3, closure := [], defaults := .none, kwdefaults := .none, pyModule := .str "law_om0166_01" 750, code := .ref 319 } },
  { cls := .type "tuple", data := .seq #[] },
  { cls := .none, data := .fields #[] },
  { cls := .type "tuple", data := .seq #[.str "arrows" 767, .str "steps" 768, .str "left" 769, .str "reached" 770] },
  { cls := .type "tuple", data := .seq #[] },
  { cls := .none, data := .func { name := "_law_steps", qualname := "_law_steps", params := fA (stN 18), body := .stmts (fB (stN 18)), scope := fS (stN 18), globals := 0, closure := [], defaults := .none, kwdefaults := .none } },
  { cls := .type "code", data := .fields #[.str "_law_steps" 764, .str "_law_steps" 765, .str "/claim/cut.py" 766, .int 263 0, .int 1 0, .int 0 0, .int 0 0, .int 3 0, .ref 321, .bool true, .int 276 0, .ref 322, .none, .ref 323, .ref 324, .ref 325, .int 771 0, .int 263 0, .str "/claim/cut.py" 772] },
  { cls := .type "function", data := .func { name := "_law_steps", qualname := "_law_steps", params := fA (stN 18), body := .stmts (fB (stN 18)), scope := fS (stN 18), globals := 3, closure := [], defaults := .none, kwdefaults := .none, pyModule := .str "law_om0166_01" 750, code := .ref 326 } },
  { cls := .type "tuple", data := .seq #[] },
  { cls := .none, data := .fields #[] },
  { cls := .type "tuple", data := .seq #[.str "steps" 777, .str "sorter" 778, .str "state" 779, .str "ringed" 780, .str "rounds" 781, .str "group" 782] },
  { cls := .type "tuple", data := .seq #[] },
  { cls := .none, data := .func { name := "_law_handed", qualname := "_law_handed", params := fA (stN 19), body := .stmts (fB (stN 19)), scope := fS (stN 19), globals := 0, closure := [], defaults := .none, kwdefaults := .none } },
  { cls := .type "code", data := .fields #[.str "_law_handed" 774, .str "_law_handed" 775, .str "/claim/cut.py" 776, .int 268 0, .int 1 0, .int 0 0, .int 0 0, .int 3 0, .ref 328, .bool true, .int 276 0, .ref 329, .none, .ref 330, .ref 331, .ref 332, .int 783 0, .int 268 0, .str "/claim/cut.py" 784] },
  { cls := .type "function", data := .func { name := "_law_handed", qualname := "_law_handed", params := fA (stN 19), body := .stmts (fB (stN 19)), scope := fS (stN 19), globals := 3, closure := [], defaults := .none, kwdefaults := .none, pyModule := .str "law_om0166_01" 750, code := .ref 333 } },
  { cls := .type "tuple", data := .seq #[] },
  { cls := .none, data := .fields #[] },
  { cls := .none, data := .func { name := "_law_due", qualname := "_law_due", params := fA (stN 20), body := .stmts (fB (stN 20)), scope := fS (stN 20), globals := 0, closure := [], defaults := .none, kwdefaults := .none } },
  { cls := .type "code", data := .fields #[.str "_law_due" 786, .str "_law_due" 787, .str "/claim/cut.py" 788, .int 283 0, .int 1 0, .int 0 0, .int 0 0, .int 3 0, .ref 335, .bool true, .int 276 0, .ref 336, .none, .none, .none, .ref 337, .int 789 0, .int 283 0, .str "/claim/cut.py" 790] },
  { cls := .type "function", data := .func { name := "_law_due", qualname := "_law_due", params := fA (stN 20), body := .stmts (fB (stN 20)), scope := fS (stN 20), globals := 3, closure := [], defaults := .none, kwdefaults := .none, pyModule := .str "law_om0166_01" 750, code := .ref 338 } },
  { cls := .type "tuple", data := .seq #[] },
  { cls := .none, data := .fields #[] },
  { cls := .none, data := .func { name := "_law_ends", qualname := "_law_ends", params := fA (stN 21), body := .stmts (fB (stN 21)), scope := fS (stN 21), globals := 0, closure := [], defaults := .none, kwdefaults := .none } },
  { cls := .type "code", data := .fields #[.str "_law_ends" 792, .str "_law_ends" 793, .str "/claim/cut.py" 794, .int 293 0, .int 2 0, .int 0 0, .int 0 0, .int 3 0, .ref 340, .bool true, .int 276 0, .ref 341, .none, .none, .none, .ref 342, .int 795 0, .int 293 0, .str "/claim/cut.py" 796] },
  { cls := .type "function", data := .func { name := "_law_ends", qualname := "_law_ends", params := fA (stN 21), body := .stmts (fB (stN 21)), scope := fS (stN 21), globals := 3, closure := [], defaults := .none, kwdefaults := .none, pyModule := .str "law_om0166_01" 750, code := .ref 343 } },
  { cls := .type "tuple", data := .seq #[] },
  { cls := .none, data := .fields #[] },
  { cls := .none, data := .func { name := "_law_reach", qualname := "_law_reach", params := fA (stN 22), body := .stmts (fB (stN 22)), scope := fS (stN 22), globals := 0, closure := [], defaults := .none, kwdefaults := .none } },
  { cls := .type "code", data := .fields #[.str "_law_reach" 798, .str "_law_reach" 799, .str "/claim/cut.py" 800, .int 302 0, .int 2 0, .int 0 0, .int 0 0, .int 3 0, .ref 345, .bool true, .int 276 0, .ref 346, .none, .none, .none, .ref 347, .int 801 0, .int 302 0, .str "/claim/cut.py" 802] },
  { cls := .type "function", data := .func { name := "_law_reach", qualname := "_law_reach", params := fA (stN 22), body := .stmts (fB (stN 22)), scope := fS (stN 22), globals := 3, closure := [], defaults := .none, kwdefaults := .none, pyModule := .str "law_om0166_01" 750, code := .ref 348 } },
  { cls := .type "tuple", data := .seq #[] },
  { cls := .none, data := .fields #[] },
  { cls := .type "tuple", data := .seq #[.str "steps" 807, .str "reach" 808, .str "state" 809, .str "after" 810, .str "second" 811, .str "first" 812, .str "missing" 813] },
  { cls := .type "tuple", data := .seq #[] },
  { cls := .none, data := .func { name := "_law_next_meet", qualname := "_law_next_meet", params := fA (stN 23), body := .stmts (fB (stN 23)), scope := fS (stN 23), globals := 0, closure := [], defaults := .none, kwdefaults := .none } },
  { cls := .type "code", data := .fields #[.str "_law_next_meet" 804, .str "_law_next_meet" 805, .str "/claim/cut.py" 806, .int 310 0, .int 3 0, .int 0 0, .int 0 0, .int 3 0, .ref 350, .bool true, .int 276 0, .ref 351, .none, .ref 352, .ref 353, .ref 354, .int 814 0, .int 310 0, .str "/claim/cut.py" 815] },
  { cls := .type "function", data := .func { name := "_law_next_meet", qualname := "_law_next_meet", params := fA (stN 23), body := .stmts (fB (stN 23)), scope := fS (stN 23), globals := 3, closure := [], defaults := .none, kwdefaults := .none, pyModule := .str "law_om0166_01" 750, code := .ref 355 } },
  { cls := .type "tuple", data := .seq #[] },
  { cls := .none, data := .fields #[] },
  { cls := .type "tuple", data := .seq #[.str "steps" 820, .str "state" 821, .str "here" 822] },
  { cls := .type "tuple", data := .seq #[] },
  { cls := .none, data := .func { name := "_law_led", qualname := "_law_led", params := fA (stN 24), body := .stmts (fB (stN 24)), scope := fS (stN 24), globals := 0, closure := [], defaults := .none, kwdefaults := .none } },
  { cls := .type "code", data := .fields #[.str "_law_led" 817, .str "_law_led" 818, .str "/claim/cut.py" 819, .int 318 0, .int 2 0, .int 0 0, .int 0 0, .int 3 0, .ref 357, .bool true, .int 276 0, .ref 358, .none, .ref 359, .ref 360, .ref 361, .int 823 0, .int 318 0, .str "/claim/cut.py" 824] },
  { cls := .type "function", data := .func { name := "_law_led", qualname := "_law_led", params := fA (stN 24), body := .stmts (fB (stN 24)), scope := fS (stN 24), globals := 3, closure := [], defaults := .none, kwdefaults := .none, pyModule := .str "law_om0166_01" 750, code := .ref 362 } },
  { cls := .type "tuple", data := .seq #[] },
  { cls := .none, data := .fields #[] },
  { cls := .none, data := .func { name := "_law_agree", qualname := "_law_agree", params := fA (stN 25), body := .stmts (fB (stN 25)), scope := fS (stN 25), globals := 0, closure := [], defaults := .none, kwdefaults := .none } },
  { cls := .type "code", data := .fields #[.str "_law_agree" 826, .str "_law_agree" 827, .str "/claim/cut.py" 828, .int 323 0, .int 3 0, .int 0 0, .int 0 0, .int 3 0, .ref 364, .bool true, .int 276 0, .ref 365, .none, .none, .none, .ref 366, .int 829 0, .int 323 0, .str "/claim/cut.py" 830] },
  { cls := .type "function", data := .func { name := "_law_agree", qualname := "_law_agree", params := fA (stN 25), body := .stmts (fB (stN 25)), scope := fS (stN 25), globals := 3, closure := [], defaults := .none, kwdefaults := .none, pyModule := .str "law_om0166_01" 750, code := .ref 367 } },
  { cls := .type "tuple", data := .seq #[] },
  { cls := .none, data := .fields #[] },
  { cls := .none, data := .func { name := "law", qualname := "law", params := fA (stN 26), body := .stmts (fB (stN 26)), scope := fS (stN 26), globals := 0, closure := [], defaults := .none, kwdefaults := .none } },
  { cls := .type "code", data := .fields #[.str "law" 832, .str "law" 833, .str "/claim/cut.py" 834, .int 333 0, .int 1 0, .int 0 0, .int 0 0, .int 3 0, .ref 369, .bool true, .int 276 0, .ref 370, .none, .none, .none, .ref 371, .int 835 0, .int 333 0, .str "/claim/cut.py" 836] },
  { cls := .type "function", data := .func { name := "law", qualname := "law", params := fA (stN 26), body := .stmts (fB (stN 26)), scope := fS (stN 26), globals := 3, closure := [], defaults := .none, kwdefaults := .none, pyModule := .str "law_om0166_01" 750, code := .ref 372 } }]
noncomputable def stW (w : World) (nm : Value) (k m : Nat) (gs : List Obj) (t : Nat) : Shared := { b0 w with heap := { (b0 w).heap with objs := ⟨(b0 w).heap.objs.toList.set 3 { cls := .type "dict", data := .dict ⟨⟨kh w.params "__name__", .str "__name__" 165, nm⟩ :: (dE w.params).take k⟩ (k + 1) } ++ { cls := .type "tuple", data := .seq #[] } :: { cls := .none, data := .fields ⟨fE.take m⟩ } :: gs⟩ }, toks := t }
noncomputable def s1 (w : World) : Shared := stW w (.str "__main__" 164) 9 0 ((g1 w.params).take 2) 282
noncomputable def s2 (w : World) : Shared := stW w (.str "cpy313.wsgiref.headers" 289) 14 6 (g1 w.params) 395
noncomputable def s3 (w : World) : Shared := stW w (.str "cpy313.wsgiref.headers" 289) 15 9 (g1 w.params ++ g2 w.params) 552
noncomputable def s4 (w : World) : Shared := stW w (.str "cpy313.graphlib" 552) 19 15 (g1 w.params ++ (g2 w.params ++ g3 w.params)) 615
noncomputable def s5 (w : World) : Shared := stW w (.str "cpy313.graphlib" 552) 20 18 (g1 w.params ++ (g2 w.params ++ (g3 w.params ++ g4 w.params))) 734
noncomputable def s6 (w : World) : Shared := stW w (.str "law_om0166_01" 750) 31 51 (g1 w.params ++ (g2 w.params ++ (g3 w.params ++ (g4 w.params ++ g5 w.params)))) 838
noncomputable def ev : Env := { scope := pw.main.scope, locals := mainNs, globals := mainNs, cells := [], code := .ref 30, frame := some 31 }
noncomputable abbrev bd : List Stmt := behindTheImports pw
noncomputable abbrev cE : Code := .body bd ev
noncomputable abbrev B1 : List Frame := [topFrame ⟨0, 0, 0, 0⟩]
theorem hopen (w : World) : fencedOpening treeTable pw w 4892 = some (b0 w) := by
  have h : ((PySem.W.Fast.tw10274390034422433532 PySem.W.Fast.tw14364793385576792824 (opening pw) w 4892 (PySem.W.Fast.tw1435165496053646825 (opening pw)).1 (PySem.W.Fast.tw1435165496053646825 (opening pw)).2).bind (PySem.W.Fast.tw14289696077712309145 pw)).isSome = true := by kernel_rfl
  unfold fencedOpening b0
  rw [PySem.W.Fast.te10274390034422433532, PySem.W.Fast.te14289696077712309145, PySem.W.Fast.te1435165496053646825, PySem.W.Fast.te14364793385576792824]
  cases e : (PySem.W.Fast.tw10274390034422433532 PySem.W.Fast.tw14364793385576792824 (opening pw) w 4892 (PySem.W.Fast.tw1435165496053646825 (opening pw)).1 (PySem.W.Fast.tw1435165496053646825 (opening pw)).2).bind (PySem.W.Fast.tw14289696077712309145 pw) with
  | none => rw [e] at h; cases h
  | some s => rfl
theorem hpre (w : World) : topGo treeTable pw w 28 (some (.ref 6)) 12 (b0 w) (topStub pw) = some (s1 w, ⟨denote treeTable cE, cE, ⟨0, 0, 0, 0⟩, B1⟩) := by
  rw [PySem.W.Fast.te15667345088766844465, PySem.W.Fast.te14364793385576792824, PySem.W.Fast.te11892475500146522536]
  kernel_rfl
theorem hblk (w : World) : segRun treeTable pw w 28 (some (.ref 6)) 1 1 (s1 w) (blockOf bd ev cE ⟨0, 0, 0, 0⟩ B1) = some (.next, s1 w, cE, ⟨0, 0, 0, 0⟩) := by
  rw [PySem.W.Fast.te14374325043358763698, PySem.W.Fast.te14364793385576792824]
  kernel_rfl
theorem hA (w : World) : segRun treeTable pw w 28 (some (.ref 6)) 1 400 (s1 w) (piecesOf (bd.take 6) ev cE ⟨0, 0, 0, 0⟩ B1) = some (.next, s2 w, cE, ⟨9, 0, 17, 20⟩) := by
  rw [PySem.W.Fast.te14374325043358763698, PySem.W.Fast.te14364793385576792824]
  kernel_rfl
theorem hB (w : World) : segRun treeTable pw w 28 (some (.ref 6)) 1 800 (s2 w) (piecesOf ((bd.drop 6).take 1) ev cE ⟨9, 0, 17, 20⟩ B1) = some (.next, s3 w, cE, ⟨18, 0, 99, 93⟩) := by
  rw [PySem.W.Fast.te14374325043358763698, PySem.W.Fast.te14364793385576792824]
  kernel_rfl
theorem hC (w : World) : segRun treeTable pw w 28 (some (.ref 6)) 1 560 (s3 w) (piecesOf (((bd.drop 6).drop 1).take 5) ev cE ⟨18, 0, 99, 93⟩ B1) = some (.next, s4 w, cE, ⟨110, 0, 111, 8⟩) := by
  rw [PySem.W.Fast.te14374325043358763698, PySem.W.Fast.te14364793385576792824]
  kernel_rfl
theorem hD (w : World) : segRun treeTable pw w 28 (some (.ref 6)) 1 600 (s4 w) (piecesOf ((((bd.drop 6).drop 1).drop 5).take 1) ev cE ⟨110, 0, 111, 8⟩ B1) = some (.next, s5 w, cE, ⟨112, 0, 217, 16⟩) := by
  rw [PySem.W.Fast.te14374325043358763698, PySem.W.Fast.te14364793385576792824]
  kernel_rfl
theorem hE (w : World) : segRun treeTable pw w 28 (some (.ref 6)) 1 500 (s5 w) (piecesOf (((((bd.drop 6).drop 1).drop 5).drop 1).take 13) ev cE ⟨112, 0, 217, 16⟩ B1) = some (.next, s6 w, cE, ⟨333, 0, 339, 85⟩) := by
  rw [PySem.W.Fast.te14374325043358763698, PySem.W.Fast.te14364793385576792824]
  kernel_rfl
theorem hfin (w : World) : topRun treeTable pw w 28 (some (.ref 6)) 2 (s6 w) (restOf (((((bd.drop 6).drop 1).drop 5).drop 1).drop 13) ev cE ⟨333, 0, 339, 85⟩ B1) = some (s6 w) := by
  rw [PySem.W.Fast.te14082659384304107361, PySem.W.Fast.te14364793385576792824]
  kernel_rfl
theorem pc {w : World} {k n N : Nat} {s s' r : Shared} {l : List Stmt} {p p' : Pos} (h : segRun treeTable pw w 28 (some (.ref 6)) 1 n s (piecesOf (l.take k) ev cE p B1) = some (.next, s', cE, p'))
    (x : topRun treeTable pw w 28 (some (.ref 6)) N s' (restOf (l.drop k) ev cE p' B1) = some r) : topRun treeTable pw w 28 (some (.ref 6)) (n + N) s (restOf l ev cE p B1) = some r := by
  have := piece_app h x
  rwa [List.take_append_drop] at this
theorem hrun (w : World) : topRun treeTable pw w 28 (some (.ref 6)) 4892 (b0 w) (topStub pw) = some (s6 w) := by
  have r1 := hfin w
  have r2 := pc (hE w) r1
  have r3 := pc (hD w) r2
  have r4 := pc (hC w) r3
  have r5 := pc (hB w) r4
  have r6 := pc (hA w) r5
  have r7 := piece_block (hblk w) r6
  have r8 := go_top (hpre w) r7
  have r9 := topRun_mono 2017 _ _ _ _ r8
  exact r9
theorem hz (w : World) : ((b0 w).heap.isNs mainGlobals && (b0 w).gens.size == 0, (b0 w).heap.objs.size, (b0 w).heap.nsMap mainGlobals "__annotations__") = (true, 28, some (.ref 6)) := by kernel_rfl
theorem hl1 (w : World) : (staticsOk (importedModules pw.main.body) (b0 w).heap (s6 w).heap && namesBound pw (s6 w).heap && gensDone (s6 w) && laidKept (b0 w).heap (s6 w).heap) = true := by kernel_rfl
noncomputable abbrev Xq (s : Shared) : Bool := xlAt vw [] s && recOk (RowW.records rw1.row.toRowW) s
noncomputable abbrev sn (w : World) := PySem.W.Fast.tw4187177175401517315 vw lse (importedModules pw.main.body) Xq true (s6 w)
noncomputable abbrev gd := openGood vw lse
theorem k0 (w : World) : sn w = gd := by kernel_rfl
theorem hY (w : World) : Hook.obs Hk (s6 w) = Hook.val Hk w := by kernel_rfl
theorem kk (w : World) : openSeen vw lse (importedModules pw.main.body) Xq true (s6 w) = gd := by
  rw [PySem.W.Fast.te4187177175401517315]
  exact k0 w
theorem leftOf {p q : Program} {loose : List Str} {Xt : Shared → Bool} {α : Type} {Yf : Shared → α} {Ya : World → α} {N : Nat} {b s : World → Shared} {m₀ : Nat} {ann : Option Value} (ho : ∀ w, fencedOpening treeTable p w N = some (b w)) (z1 : ∀ w, ((b w).heap.isNs mainGlobals && (b w).gens.size == 0) = true) (z2 : ∀ w, (b w).heap.objs.size = m₀) (z3 : ∀ w, (b w).heap.nsMap mainGlobals "__annotations__" = ann)
    (r : ∀ w, topRun treeTable p w m₀ ann N (b w) (topStub p) = some (s w)) (l1 : ∀ w, (staticsOk (importedModules p.main.body) (b w).heap (s w).heap && namesBound p (s w).heap && gensDone (s w) && laidKept (b w).heap (s w).heap) = true)
    (l2 : ∀ w, openSeen q loose (importedModules p.main.body) Xt true (s w) = openGood q loose) (l3 : ∀ w, Yf (s w) = Ya w) : LeftO p q loose Xt Yf Ya N := fun w => by
  have t : topFrom treeTable p w N (b w) = some (s w) := by
    unfold topFrom
    simp only [z1 w, z2 w, z3 w, r w, Option.bind_some, l1 w]
  unfold openEnds
  rw [ho w, Option.bind_some, t]
  exact congrArg some (Prod.ext (l2 w) (l3 w))
theorem hleft : LeftO pw vw lse Xq (Hook.obs Hk) (Hook.val Hk) 4892 := leftOf hopen (fun w => (Prod.mk.inj (hz w)).1) (fun w => (Prod.mk.inj (Prod.mk.inj (hz w)).2).1) (fun w => (Prod.mk.inj (Prod.mk.inj (hz w)).2).2) hrun hl1 kk hY
theorem hsaid : OpenLaw.wellSaid PySem.Challenge.rw_om0166_01 = true := by
  rw [PySem.W.Fast.te9446332074065402090]
  kernel_rfl
theorem hdW (D : DefRec) (kwd : List (Str × Expr)) (h1 : defOf vw rw1.row.name = some (D, kwd)) (h2 : rw1.row.prog.theDef rw1.row.name = some (D.params, D.body, D.scope)) (h3 : kwWritten? D.params.kwonlyargs D.params.kw_defaults = some kwd) (hp : rw1.row.toRowW.promised)
    (hc : WalkO vw lse (XL vw []) Hk.says rw1.row.toRowW D kwd fun f vs => PySem.call f vs) : PySem.Challenge.rw_om0166_01.Holds :=
  holds_law hsaid fun sd => holds_open (q := vw) (loose := lse) (Xt := Xq) (XP := XL vw []) (Yf := Hook.obs Hk) (Ya := Hook.val Hk) (YP := Hook.says Hk) (N := 4892) hleft (Hook.of Hk) (Hook.keeps Hk) (fun s e => xl_of s (Bool.and_eq_true_iff.mp e).1) XL.keeps h1 h2 h3 (fun s e => recFacts_of (Bool.and_eq_true_iff.mp e).2) (by rfl) sd (by decide +kernel) ⟨rfl, rfl, rfl, rfl, rfl, by decide +kernel⟩ hp hc
theorem ite_t {b : Bool} {p q : Prop} (h : b = true) (hp : p) : if b = true then p else q := by rw [if_pos h]; exact hp
theorem ite_f {b : Bool} {p q : Prop} (h : b = false) (hq : q) : if b = true then p else q := by rw [if_neg (by rw [h]; exact Bool.false_ne_true)]; exact hq
def Go (K : Fl → Map → AH → Prop) : Fl → Map → AH → Prop := K
theorem awSs_consK {c : Cx} {q : Md} {d : Nat} {A : Around} {env : Env} {m : Map} {H : AH} {P : Fl → Map → AH → Prop} {X : Exc → Map → AH → Prop} {st : Stmt} {rest : List Stmt}
    (h : ∀ K : Fl → Map → AH → Prop, (∀ m' H', awSs c q d A env rest m' H' P X → Go K .next m' H') → (∀ m' H', P .brk m' H' → Go K .brk m' H') → (∀ m' H', P .cont m' H' → Go K .cont m' H') → (∀ v m' H', P (.ret v) m' H' → Go K (.ret v) m' H') → awS c q d A env st m H (Go K) X) : awSs c q d A env (st :: rest) m H P X :=
  awSs_cons (h (fun f m' H' => match f with | .next => awSs c q d A env rest m' H' P X | f => P f m' H') (fun _ _ x => x) (fun _ _ x => x) (fun _ _ x => x) (fun _ _ _ x => x))
def GoE (K : V → AH → Prop) : V → AH → Prop := K
theorem awSs_AssignK {c : Cx} {q : Md} {d : Nat} {A : Around} {env : Env} {m : Map} {H : AH} {P : Fl → Map → AH → Prop} {X : Exc → Map → AH → Prop} {pos : Pos} {y : Str} {p₁ : Pos} {e : Expr} {rest : List Stmt} (hy : Storable env y) (hsw : swapsWith e (some (.Name y p₁)) pos.line env = pure false)
    (h : ∀ K : V → AH → Prop, (∀ x H₁, awSs c q d A env rest (set m y x) H₁ P X → GoE K x H₁) → awE c q d A env e m H (GoE K) fun k H' => X k m H') : awSs c q d A env (.Assign [.Name y p₁] e pos :: rest) m H P X :=
  awSs_cons (awS_Assign hy hsw (h (fun x H₁ => awSs c q d A env rest (set m y x) H₁ P X) fun _ _ z => z))
theorem awSs_ExprK {c : Cx} {q : Md} {d : Nat} {A : Around} {env : Env} {m : Map} {H : AH} {P : Fl → Map → AH → Prop} {X : Exc → Map → AH → Prop} {pos : Pos} {e : Expr} {rest : List Stmt} (hi : interactive env = false) (hs : swapsWith e none pos.line env = pure false)
    (h : ∀ K : V → AH → Prop, (∀ x H₁, awSs c q d A env rest m H₁ P X → GoE K x H₁) → awE c q d A env e m H (GoE K) fun k H' => X k m H') : awSs c q d A env (.Expr e pos :: rest) m H P X :=
  awSs_cons (awS_Expr hi hs (h (fun x H₁ => awSs c q d A env rest m H₁ P X) fun _ _ z => z))
theorem awS_While0 {c : Cx} {q : Md} {d : Nat} {A : Around} {env : Env} {m : Map} {H : AH} {P : Fl → Map → AH → Prop} {X : Exc → Map → AH → Prop} {pos : Pos} {test : Expr} {body orelse : List Stmt}
    (h : awB c q d A env test m H (fun b H₁ => if b then False else awSs c q d A env orelse m H₁ P X) fun k H' => X k m H') : awS c q d A env (.While test body orelse pos) m H P X :=
  awS_While (fun _ m' H' => m' = m ∧ H' = H) 0 ⟨rfl, rfl⟩ fun n m' H' ⟨e1, e2⟩ => by
    subst e1 e2
    exact fun s F => wpAny_mono (h s F) (fun b s' ⟨H₁, a, r, z⟩ => ⟨H₁, by cases b with | true => exact a.elim | false => exact a, r, z⟩) fun _ _ o => o
theorem awS_WhileK {c : Cx} {q : Md} {d : Nat} {A : Around} {env : Env} {m : Map} {H : AH} {P : Fl → Map → AH → Prop} {X : Exc → Map → AH → Prop} {pos : Pos} {test : Expr} {body orelse : List Stmt} (J : Nat → Map → AH → Prop) (n : Nat) (hj : J n m H)
    (h : ∀ Y : Nat → Map → AH → Prop, (∀ k m' H', J k m' H' → Y k m' H') → ∀ k m' H', J k m' H' → ∀ K : Fl → Map → AH → Prop, (∀ m' H', (∃ j, j < k ∧ Y j m' H') → Go K .next m' H') → (∀ m' H', (∃ j, j < k ∧ Y j m' H') → Go K .cont m' H') → (∀ m' H', P .next m' H' → Go K .brk m' H') → (∀ v m' H', P (.ret v) m' H' → Go K (.ret v) m' H') →
      awB c q d A env test m' H' (fun b H₁ => if b then awSs c q d A env body m' H₁ (Go K) X else awSs c q d A env orelse m' H₁ P X) fun k H' => X k m' H') : awS c q d A env (.While test body orelse pos) m H P X :=
  awS_While J n hj fun k m' H' j => h J (fun _ _ _ x => x) k m' H' j _ (fun _ _ x => x) (fun _ _ x => x) (fun _ _ x => x) (fun _ _ _ x => x)
theorem typeV_list {H : AH} {a : Addr} {vs : List V} (h : H a = some (.list vs)) : typeV H (.ref a) = some "list" := by simp only [typeV, h]
theorem typeV_dict {H : AH} {a : Addr} {kvs : List (Str × V)} {ep : Nat} (h : H a = some (.dict kvs ep)) : typeV H (.ref a) = some "dict" := by simp only [typeV, h]
theorem typeV_set {H : AH} {a : Addr} {xs : List Str} (h : H a = some (.set xs)) : typeV H (.ref a) = some "set" := by simp only [typeV, h]
theorem awPart_none {c : Cx} {q : Md} {d : Nat} {A : Around} {env : Env} {m : Map} {H : AH} {P : V → AH → Prop} {X : Exc → AH → Prop} (h : P .none H) : awPart c q d A env none m H P X := h
theorem awPart_some {c : Cx} {q : Md} {d : Nat} {A : Around} {env : Env} {m : Map} {H : AH} {P : V → AH → Prop} {X : Exc → AH → Prop} {e : Expr} (h : awE c q d A env e m H P X) : awPart c q d A env (some e) m H P X := h
theorem conv : ∀ {c : Cx} {d : Nat} {p : Program} {loose : List Str} {mg mb : Str → Option Value} {H : AH} {P : V → AH → Prop} {X : Exc → AH → Prop} {st : Addr} {x : Str} {b : Bool}
    (hprog : c.prog = PySem.Challenge.rw_om0166_01.row.prog) (G : Gd (KF c.w.params) p loose mg mb c.g) (hx : Clean (KF c.w.params) (if b then 48 else 53) x) (h : P (.str x) H),
    callP c (d + 1) (.ref 83) [.ref st, .str x] [(Str.ofString "name", .bool b)] H P X := by
  w_on
  k_fill
  intro c d p loose mg mb H P X st x b hprog G hx h
  refine' enter (binds := [(Str.ofString "self", .ref st), (Str.ofString "value", .str x), (Str.ofString "name", .bool b)]) G ?ho ?hcd ?hb ?hk ?hn ?hd ?_ ?c1 ?c2 ?c3
  case ho => k_is
  case hcd => k_is
  case hb =>
    intro s vs kvs _ hv hk
    obtain ⟨v, _, rfl, a, u, _, rfl, b', rfl⟩ := hv
    obtain ⟨hk1, hk2⟩ := hk
    match kvs, hk1, hk2 with
    | [(n, w)], hk1, ⟨_, _, e, hw, _⟩ =>
      cases e
      cases hk1
      exact ⟨_, BindsTo.of_eq rfl, rfl, v, _, rfl, a, u, _, rfl, b', w, _, rfl, hw, rfl⟩
  case hk => rfl
  case hn => decide +kernel
  case hd => exact of_decide_eq_true rfl
  case c1 => rfl
  case c2 => rfl
  case c3 => rfl
  intro A L
  cases b
  · simp only [if_true, if_false, Bool.false_eq_true] at hx
    (refine awSs_consK fun Kz hz1 hz2 hz3 hz4 => ?_; refine awS_If ?_; refine awB_Compare rfl ?_; refine awE_Call (by intro o n ap h; cases h) (fun _ => rfl) (by intro _ h; first | rfl | cases h) ?_; refine awE_Bltn (by assumption) rfl (by k_is) (by first | boot_by_name | rfl) (by decide) ?_ rfl; refine ⟨_, rfl, (by first | exact keepOk_type _ | exact keepOk_builtin _ | exact keepOk_K (by assumption) (by k_is)), ?_⟩; refine awArgs_plain (fun _ _ h => nomatch h) ?_; refine awL_cons (fun _ _ h => nomatch h) ?_; refine awE_Name (by first | rfl | assumption) ?_ rfl rfl; refine awL_nil ?_; refine call_type (by first | rfl | exact typeV_list (by assumption) | exact typeV_dict (by assumption) | exact typeV_set (by assumption) | exact typeV_list (by (simp only [upd]; simp_all)) | exact typeV_dict (by (simp only [upd]; simp_all)) | exact typeV_set (by (simp only [upd]; simp_all))) ?_; refine awE_Bltn (by assumption) rfl (by k_is) (by first | boot_by_name | rfl) (by decide) ?_ rfl; refine is_type ?_; refine ⟨_, rfl, ?_⟩; refine ite_t (by first | rfl | assumption) ?_; refine awSs_AssignK (by first | exact .inl rfl | exact .inr ⟨rfl, rfl⟩) rfl fun Kz hz1 => ?_; refine awE_IfExp ?_; refine awB_value (fun _ => rfl) ?_; refine awE_Name (by first | rfl | assumption) ?_ rfl rfl; refine ⟨_, rfl, ?_⟩; refine ite_f (by first | rfl | assumption) ?_; refine awE_Glob (by assumption) rfl (by k_is) ?_ rfl; apply_assumption; refine awSs_consK fun Kz hz1 hz2 hz3 hz4 => ?_; refine awS_If ?_; refine awB_value (fun _ => rfl) ?_; refine awE_Meth (few := true) rfl rfl rfl (fun _ => rfl) (by intro _ h; first | rfl | cases h) ?_; refine awE_Name (by first | rfl | assumption) ?_ rfl rfl; refine awM_search (by assumption) (by k_is) rfl rfl ⟨keepOk_builtin _, ?_⟩; refine awArgs_plain (fun _ _ h => nomatch h) ?_; refine awL_cons (fun _ _ h => nomatch h) ?_; refine awE_Name (by first | rfl | assumption) ?_ rfl rfl; refine awL_nil ?_; refine awCall_1 ?_; refine call_search_ok (by assumption) (by k_is) rfl (by assumption) ?_; refine ⟨_, rfl, ?_⟩; refine ite_f (by first | rfl | assumption) ?_; refine awSs_nil ?_; apply_assumption; refine awSs_consK fun Kz hz1 hz2 hz3 hz4 => ?_; refine awS_Return ?_; refine awE_Name (by first | rfl | assumption) ?_ rfl rfl; apply_assumption; apply_assumption)
    exact h
  · simp only [if_true, if_false, Bool.false_eq_true] at hx
    (refine awSs_consK fun Kz hz1 hz2 hz3 hz4 => ?_; refine awS_If ?_; refine awB_Compare rfl ?_; refine awE_Call (by intro o n ap h; cases h) (fun _ => rfl) (by intro _ h; first | rfl | cases h) ?_; refine awE_Bltn (by assumption) rfl (by k_is) (by first | boot_by_name | rfl) (by decide) ?_ rfl; refine ⟨_, rfl, (by first | exact keepOk_type _ | exact keepOk_builtin _ | exact keepOk_K (by assumption) (by k_is)), ?_⟩; refine awArgs_plain (fun _ _ h => nomatch h) ?_; refine awL_cons (fun _ _ h => nomatch h) ?_; refine awE_Name (by first | rfl | assumption) ?_ rfl rfl; refine awL_nil ?_; refine call_type (by first | rfl | exact typeV_list (by assumption) | exact typeV_dict (by assumption) | exact typeV_set (by assumption) | exact typeV_list (by (simp only [upd]; simp_all)) | exact typeV_dict (by (simp only [upd]; simp_all)) | exact typeV_set (by (simp only [upd]; simp_all))) ?_; refine awE_Bltn (by assumption) rfl (by k_is) (by first | boot_by_name | rfl) (by decide) ?_ rfl; refine is_type ?_; refine ⟨_, rfl, ?_⟩; refine ite_t (by first | rfl | assumption) ?_; refine awSs_AssignK (by first | exact .inl rfl | exact .inr ⟨rfl, rfl⟩) rfl fun Kz hz1 => ?_; refine awE_IfExp ?_; refine awB_value (fun _ => rfl) ?_; refine awE_Name (by first | rfl | assumption) ?_ rfl rfl; refine ⟨_, rfl, ?_⟩; refine ite_t (by first | rfl | assumption) ?_; refine awE_Glob (by assumption) rfl (by k_is) ?_ rfl; apply_assumption; refine awSs_consK fun Kz hz1 hz2 hz3 hz4 => ?_; refine awS_If ?_; refine awB_value (fun _ => rfl) ?_; refine awE_Meth (few := true) rfl rfl rfl (fun _ => rfl) (by intro _ h; first | rfl | cases h) ?_; refine awE_Name (by first | rfl | assumption) ?_ rfl rfl; refine awM_search (by assumption) (by k_is) rfl rfl ⟨keepOk_builtin _, ?_⟩; refine awArgs_plain (fun _ _ h => nomatch h) ?_; refine awL_cons (fun _ _ h => nomatch h) ?_; refine awE_Name (by first | rfl | assumption) ?_ rfl rfl; refine awL_nil ?_; refine awCall_1 ?_; refine call_search_ok (by assumption) (by k_is) rfl (by assumption) ?_; refine ⟨_, rfl, ?_⟩; refine ite_f (by first | rfl | assumption) ?_; refine awSs_nil ?_; apply_assumption; refine awSs_consK fun Kz hz1 hz2 hz3 hz4 => ?_; refine awS_Return ?_; refine awE_Name (by first | rfl | assumption) ?_ rfl rfl; apply_assumption; apply_assumption)
    exact h
def HeadAt (H : AH) (st : Addr) (ps : List (Str × Str)) : Prop := ∃ dd l, H st = some (.inst 182 dd) ∧ H dd = some (.ns [(Str.ofString "_headers", .ref l)]) ∧ H l = some (.list (ps.map fun q => .tup [.str q.1, .str q.2]))
theorem get_ : ∀ {c : Cx} {d : Nat} {p : Program} {loose : List Str} {mg mb : Str → Option Value} {H : AH} {P : V → AH → Prop} {X : Exc → AH → Prop} {st : Addr} {x : Str} {ps : List (Str × Str)}
    (hprog : c.prog = PySem.Challenge.rw_om0166_01.row.prog) (G : Gd (KF c.w.params) p loose mg mb c.g) (HA : HeadAt H st ps) (hx : x.length ≤ 1000) (hc : Clean (KF c.w.params) 48 (Txt.lower x)) (hps : ∀ q ∈ ps, q.1.length ≤ 1000)
    (h : P (match ps.find? fun q => Txt.lower q.1 == Txt.lower x with | some q => .str q.2 | none => .none) H),
    callP c (d + 2) (.ref 129) [.ref st, .str x] [] H P X := by
  w_on
  k_fill
  intro c d p loose mg mb H P X st x ps hprog G HA hx hc hps h
  obtain ⟨dd, l, h1, h2, h3⟩ := HA
  refine' enter (d := d + 1) (binds := [(Str.ofString "self", .ref st), (Str.ofString "name", .str x), (Str.ofString "default", .none)]) G ?ho ?hcd ?hb ?hk ?hn ?hd ?_ ?c1 ?c2 ?c3
  case ho => k_is
  case hcd => k_is
  case hb =>
    intro s vs kvs KX hv hk
    obtain rfl := kvs_nil hk
    obtain ⟨v, _, rfl, a, u, _, rfl, b, rfl⟩ := hv
    exact ⟨[(Str.ofString "self", v), (Str.ofString "name", u), (Str.ofString "default", .none)], binds_K KX rfl (by k_is) rfl rfl rfl, rfl, v, _, rfl, a, u, _, rfl, b, _, _, rfl, rfl, rfl⟩
  case hk => rfl
  case hn => decide +kernel
  case hd => exact of_decide_eq_true rfl
  case c1 => rfl
  case c2 => rfl
  case c3 => rfl
  intro A L
  (refine awSs_AssignK (by first | exact .inl rfl | exact .inr ⟨rfl, rfl⟩) rfl fun Kz hz1 => ?_; refine awE_Meth (few := true) rfl rfl rfl (fun _ => rfl) (by intro _ h; first | rfl | cases h) ?_; refine awE_Name (by first | rfl | assumption) ?_ rfl rfl; refine awM_inst (by assumption) (by first | assumption | (simp only [upd]; simp_all)) (by first | assumption | (simp only [upd]; simp_all)) (by k_is) (by k_is) (by k_is) rfl ⟨keepOk_K (by assumption) (by k_is), ?_⟩; refine awArgs_kw (fun _ _ h => nomatch h) ?_; refine awL_cons (fun _ _ h => nomatch h) ?_; refine awE_Meth (few := true) rfl rfl rfl (fun _ => rfl) (by intro _ h; first | rfl | cases h) ?_; refine awE_Name (by first | rfl | assumption) ?_ rfl rfl; refine awM_bi rfl (by decide) F.plainAttrs_str F.slot_str_lower F.type_str_lower ⟨keepOk_builtin _, ?_⟩; refine awArgs_nil ?_; refine awCall_1 ?_; refine call_lower (by assumption) ?_; refine awL_nil ?_; refine awE_Const rfl ?_; refine awCall_1 ?_)
  refine awCall_of (conv hprog G hc ?_)
  (apply_assumption; refine awSs_consK fun Kz hz1 hz2 hz3 hz4 => ?_; refine awS_For rfl (fun _ => rfl) (by first | (show Storable _ _; exact .inl rfl) | (show Storable _ _; exact .inr ⟨rfl, rfl⟩) | exact (Or.inl rfl : Storable _ _) | exact (Or.inr ⟨rfl, rfl⟩ : Storable _ _) | exact ⟨(Or.inl rfl : Storable _ _), (Or.inl rfl : Storable _ _)⟩) ?_; refine awE_Attr rfl ?_; refine awE_Name (by first | rfl | assumption) ?_ rfl rfl; refine getAttr_inst (by assumption) (by first | assumption | (simp only [upd]; simp_all)) (by first | assumption | (simp only [upd]; simp_all)) (by k_is) (by k_is) (by k_is) (by k_is) rfl (by intro i h; cases h) ?_)
  refine ⟨.list l, ps.map (fun q => V.tup [.str q.1, .str q.2]), by simp [iterK, h3], ?_⟩
  refine forP_ind (fun r m' H' => H' = H ∧ ∃ rest : List (Str × Str), r = rest.map (fun q => V.tup [.str q.1, .str q.2]) ∧ (∀ q ∈ rest, q ∈ ps) ∧ (ps.find? fun q => Txt.lower q.1 == Txt.lower x) = (rest.find? fun q => Txt.lower q.1 == Txt.lower x) ∧ m' (Str.ofString "name") = some (.str (Txt.lower x)) ∧ m' (Str.ofString "default") = some .none) ?_ ?_ ⟨rfl, ps, rfl, fun _ h => h, rfl, rfl, rfl⟩
  · rintro m' H' ⟨rfl, rest, hr, _, hf, hm1, hm2⟩
    cases rest with
    | cons _ _ => cases hr
    | nil =>
      refine ⟨by simp [IK.items, h3], ?_⟩
      rw [hf] at h
      (apply_assumption; refine awSs_consK fun Kz hz1 hz2 hz3 hz4 => ?_; refine awS_Return ?_; refine awE_Name (by first | rfl | assumption) ?_ rfl rfl; apply_assumption)
      exact h
  · rintro v r m' H' ⟨rfl, rest, hr, hsub, hf, hm1, hm2⟩
    cases rest with
    | nil => cases hr
    | cons q rest =>
      cases hr
      refine ⟨by simp [IK.items, h3], fun K hn _ _ hret => ⟨_, rfl, ?_⟩⟩
      have hq := hps q (hsub q (List.mem_cons_self ..))
      (refine awSs_consK fun Kz hz1 hz2 hz3 hz4 => ?_; refine awS_If ?_; refine awB_Compare rfl ?_; refine awE_Meth (few := true) rfl rfl rfl (fun _ => rfl) (by intro _ h; first | rfl | cases h) ?_; refine awE_Name (by first | rfl | assumption) ?_ rfl rfl; refine awM_bi rfl (by decide) F.plainAttrs_str F.slot_str_lower F.type_str_lower ⟨keepOk_builtin _, ?_⟩; refine awArgs_nil ?_; refine awCall_1 ?_; refine call_lower (by assumption) ?_; refine awE_Name (by first | rfl | assumption) ?_ rfl rfl; refine cmp_eq_str ?_; refine ⟨_, rfl, ?_⟩)
      rw [hf, List.find?_cons] at h
      cases hb : (Txt.lower q.1 == Txt.lower x)
      · (refine ite_f (by first | rfl | assumption) ?_; refine awSs_nil ?_; apply_assumption; refine awSs_nil ?_)
        refine hn _ _ ⟨rfl, rest, rfl, fun q' h' => hsub q' (List.mem_cons_of_mem _ h'), ?_, hm1, hm2⟩
        rw [hf, List.find?_cons, hb]
      · rw [hb] at h
        (refine ite_t (by first | rfl | assumption) ?_; refine awSs_consK fun Kz hz1 hz2 hz3 hz4 => ?_; refine awS_Return ?_; refine awE_Name (by first | rfl | assumption) ?_ rfl rfl; apply_assumption; apply_assumption)
        refine hret _ _ _ ?_
        (apply_assumption)
        exact h
theorem get_all : ∀ {c : Cx} {d : Nat} {p : Program} {loose : List Str} {mg mb : Str → Option Value} {H : AH} {P : V → AH → Prop} {X : Exc → AH → Prop} {st : Addr} {x : Str} {ps : List (Str × Str)}
    (hprog : c.prog = PySem.Challenge.rw_om0166_01.row.prog) (G : Gd (KF c.w.params) p loose mg mb c.g) (HA : HeadAt H st ps) (hx : x.length ≤ 1000) (hc : Clean (KF c.w.params) 48 (Txt.lower x)) (hps : ∀ q ∈ ps, q.1.length ≤ 1000) (hpl : ps.length ≤ 1000)
    (h : ∀ a, H a = none → P (.ref a) (upd H a (.list ((ps.filter fun q => Txt.lower q.1 == Txt.lower x).map fun q => .str q.2)))),
    callP c (d + 2) (.ref 121) [.ref st, .str x] [] H P X := by
  w_on
  k_fill
  intro c d p loose mg mb H P X st x ps hprog G HA hx hc hps hpl h
  obtain ⟨dd, l, h1, h2, h3⟩ := HA
  refine' enter (d := d + 1) (binds := [(Str.ofString "self", .ref st), (Str.ofString "name", .str x)]) G ?ho ?hcd ?hb ?hk ?hn ?hd ?_ ?c1 ?c2 ?c3
  case ho => k_is
  case hcd => k_is
  case hb =>
    intro s vs kvs KX hv hk
    obtain rfl := kvs_nil hk
    obtain ⟨v, _, rfl, a, u, _, rfl, b, rfl⟩ := hv
    exact ⟨_, BindsTo.of_eq rfl, rfl, v, _, rfl, a, u, _, rfl, b, rfl⟩
  case hk => rfl
  case hn => decide +kernel
  case hd => exact of_decide_eq_true rfl
  case c1 => rfl
  case c2 => rfl
  case c3 => rfl
  intro A L
  (refine awSs_AssignK (by first | exact .inl rfl | exact .inr ⟨rfl, rfl⟩) rfl fun Kz hz1 => ?_; refine awE_Meth (few := true) rfl rfl rfl (fun _ => rfl) (by intro _ h; first | rfl | cases h) ?_; refine awE_Name (by first | rfl | assumption) ?_ rfl rfl; refine awM_inst (by assumption) (by first | assumption | (simp only [upd]; simp_all)) (by first | assumption | (simp only [upd]; simp_all)) (by k_is) (by k_is) (by k_is) rfl ⟨keepOk_K (by assumption) (by k_is), ?_⟩; refine awArgs_kw (fun _ _ h => nomatch h) ?_; refine awL_cons (fun _ _ h => nomatch h) ?_; refine awE_Meth (few := true) rfl rfl rfl (fun _ => rfl) (by intro _ h; first | rfl | cases h) ?_; refine awE_Name (by first | rfl | assumption) ?_ rfl rfl; refine awM_bi rfl (by decide) F.plainAttrs_str F.slot_str_lower F.type_str_lower ⟨keepOk_builtin _, ?_⟩; refine awArgs_nil ?_; refine awCall_1 ?_; refine call_lower (by assumption) ?_; refine awL_nil ?_; refine awE_Const rfl ?_; refine awCall_1 ?_)
  refine awCall_of (conv hprog G hc ?_)
  (apply_assumption; refine awSs_consK fun Kz hz1 hz2 hz3 hz4 => ?_; refine awS_Return ?_; refine awE_ListComp rfl (compOk_of rfl rfl (by decide +kernel) rfl rfl) (fun _ => rfl) ?_; refine awE_Attr rfl ?_; refine awE_Name (by first | rfl | assumption) ?_ rfl rfl; refine getAttr_inst (by assumption) (by first | assumption | (simp only [upd]; simp_all)) (by first | assumption | (simp only [upd]; simp_all)) (by k_is) (by k_is) (by k_is) (by k_is) rfl (by intro i h; cases h) ?_)
  refine ⟨.list l, ps.map (fun q => V.tup [.str q.1, .str q.2]), by simp [iterK, h3], fun C => ?_⟩
  refine compItems_fm (fun v => match v with | .tup [.str a, .str b] => if Txt.lower a == Txt.lower x then some (.str b) else none | _ => none) (fun m => m (Str.ofString "name") = some (.str (Txt.lower x))) (by simp [IK.items, h3]) (by simpa using Nat.le_trans hpl (by decide)) rfl ?_ ?_
  · rintro v hv m acc K hacc hm hk
    obtain ⟨q, hq, rfl⟩ := List.mem_map.mp hv
    have hq1 := hps q hq
    refine compTurn1 rfl ?_
    (refine awB_Compare rfl ?_; refine awE_Meth (few := true) rfl rfl rfl (fun _ => rfl) (by intro _ h; first | rfl | cases h) ?_; refine awE_Sub (by intro _ _ _ h; cases h) ?_; refine awE_Name (by first | rfl | assumption) ?_ rfl rfl; refine awE_Const rfl ?_; refine sub_tup (by decide) (by decide) rfl ?_; refine awM_bi rfl (by decide) F.plainAttrs_str F.slot_str_lower F.type_str_lower ⟨keepOk_builtin _, ?_⟩; refine awArgs_nil ?_; refine awCall_1 ?_; refine call_lower (by assumption) ?_; refine awE_Name (by first | rfl | assumption) ?_ rfl rfl; refine cmp_eq_str ?_; refine ⟨_, rfl, ?_⟩)
    dsimp only at hk
    cases hb : (Txt.lower q.1 == Txt.lower x)
    · rw [hb] at hk
      (refine ite_f (by first | rfl | assumption) ?_)
      simpa using hk (set m (Str.ofString "kv") (V.tup [.str q.1, .str q.2])) hm
    · rw [hb] at hk
      refine ite_t rfl ⟨hacc, ?_⟩
      (refine awE_Sub (by intro _ _ _ h; cases h) ?_; refine awE_Name (by first | rfl | assumption) ?_ rfl rfl; refine awE_Const rfl ?_; refine sub_tup (by decide) (by decide) rfl ?_)
      exact hk _ hm
  · intro m' hm'
    rw [fm_eq (p := fun q : Str × Str => Txt.lower q.1 == Txt.lower x) (h := fun q => .str q.2) fun q _ => rfl, List.nil_append]
    intro a ha
    (apply_assumption)
    exact h a ha
def firstOf (ps : List (Str × Str)) (x : Str) : Option Str := (ps.find? fun q => Txt.lower q.1 == Txt.lower x).map (·.2)
def getV (ps : List (Str × Str)) (x : Str) : V := match firstOf ps x with | some w => .str w | none => .none
theorem get_k {c : Cx} {d : Nat} {p : Program} {loose : List Str} {mg mb : Str → Option Value} {H : AH} {P : V → AH → Prop} {X : Exc → AH → Prop} {st : Addr} {x : Str} {ps : List (Str × Str)}
    (hprog : c.prog = PySem.Challenge.rw_om0166_01.row.prog) (G : Gd (KF c.w.params) p loose mg mb c.g) (HA : HeadAt H st ps) (hx : x.length ≤ 1000) (hc : Clean (KF c.w.params) 48 (Txt.lower x)) (hps : ∀ q ∈ ps, q.1.length ≤ 1000)
    (h : P (getV ps x) H) : callP c (d + 2) (.ref 129) [.ref st, .str x] [] H P X := by
  refine get_ hprog G HA hx hc hps ?_
  unfold getV firstOf at h
  revert h
  cases ps.find? fun q => Txt.lower q.1 == Txt.lower x <;> exact id
def ledTo (ps : List (Str × Str)) : Nat → Str → Option Str
  | 0, _ => none
  | n + 1, x => match firstOf ps x with
    | none => some x
    | some y => ledTo ps n y
inductive LedJ (H : AH) (st : Addr) (ps : List (Str × Str)) (ok : Str → Prop) (y : Str) (k : Nat) (m' : Map) (H' : AH) : Prop
  | mk (e : H' = H) (z : Str) (a : m' (Str.ofString "here") = some (.str z)) (b : m' (Str.ofString "steps") = some (.ref st)) (f : ledTo ps k z = some y) (g : ok z)
theorem law_led : ∀ {c : Cx} {d : Nat} {p : Program} {loose : List Str} {mg mb : Str → Option Value} {H : AH} {P : V → AH → Prop} {X : Exc → AH → Prop} {st : Addr} {x y : Str} {n : Nat} {ps : List (Str × Str)} {ok : Str → Prop}
    (hprog : c.prog = PySem.Challenge.rw_om0166_01.row.prog) (G : Gd (KF c.w.params) p loose mg mb c.g) (HA : HeadAt H st ps) (hps : ∀ q ∈ ps, q.1.length ≤ 1000) (hx : ok x) (hok : ∀ q ∈ ps, ok q.2) (hcl : ∀ z, ok z → z.length ≤ 1000 ∧ Clean (KF c.w.params) 48 (Txt.lower z))
    (hl : ledTo ps n x = some y) (h : P (.str y) H), callP c (d + 3) (.ref 363) [.ref st, .str x] [] H P X := by
  w_on
  k_fill
  intro c d p loose mg mb H P X st x y n ps ok hprog G HA hps hx hok hcl hl h
  refine' enter (d := d + 2) (binds := [(Str.ofString "steps", .ref st), (Str.ofString "state", .str x)]) G ?ho ?hcd ?hb ?hk ?hn ?hd ?_ ?c1 ?c2 ?c3
  case ho => k_is
  case hcd => k_is
  case hb =>
    intro s vs kvs KX hv hk
    obtain rfl := kvs_nil hk
    obtain ⟨v, _, rfl, a, u, _, rfl, b, rfl⟩ := hv
    exact ⟨_, BindsTo.of_eq rfl, rfl, v, _, rfl, a, u, _, rfl, b, rfl⟩
  case hk => rfl
  case hn => decide +kernel
  case hd => exact of_decide_eq_true rfl
  case c1 => rfl
  case c2 => rfl
  case c3 => rfl
  intro A L
  (refine awSs_AssignK (by first | exact .inl rfl | exact .inr ⟨rfl, rfl⟩) rfl fun Kz hz1 => ?_; refine awE_Name (by first | rfl | assumption) ?_ rfl rfl; apply_assumption; refine awSs_consK fun Kz hz1 hz2 hz3 hz4 => ?_)
  refine awS_WhileK (LedJ H st ps ok y) n ⟨rfl, x, rfl, rfl, hl, hx⟩ ?_
  rintro Y hY k m' H' ⟨eH, z, hm1, hm2, hk, hz⟩ K yn yc yb yr
  subst eH
  obtain ⟨dd, l, h1, h2, h3⟩ := id HA
  (refine awB_Compare rfl ?_; refine awE_Meth (few := true) rfl rfl rfl (fun _ => rfl) (by intro _ h; first | rfl | cases h) ?_; refine awE_Name (by first | rfl | assumption) ?_ rfl rfl; refine awM_inst (by assumption) (by first | assumption | (simp only [upd]; simp_all)) (by first | assumption | (simp only [upd]; simp_all)) (by k_is) (by k_is) (by k_is) rfl ⟨keepOk_K (by assumption) (by k_is), ?_⟩; refine awArgs_plain (fun _ _ h => nomatch h) ?_; refine awL_cons (fun _ _ h => nomatch h) ?_; refine awE_Name (by first | rfl | assumption) ?_ rfl rfl; refine awL_nil ?_; refine awCall_1 ?_)
  refine awCall_of (get_k hprog G HA (hcl z hz).1 (hcl z hz).2 hps ?_)
  unfold getV
  cases k with
  | zero => cases hk
  | succ k =>
    unfold ledTo at hk
    cases hfz : firstOf ps z with
    | none =>
      rw [hfz] at hk
      cases hk
      (refine awE_Const rfl ?_; refine isnot_none rfl ?_; refine ⟨_, rfl, ?_⟩; refine ite_f (by first | rfl | assumption) ?_; refine awSs_nil ?_; apply_assumption; refine awSs_consK fun Kz hz1 hz2 hz3 hz4 => ?_; refine awS_Return ?_; refine awE_Name (by first | rfl | assumption) ?_ rfl rfl; apply_assumption)
      exact h
    | some w =>
      rw [hfz] at hk
      have hw : ok w := by
        unfold firstOf at hfz
        cases hfd : ps.find? fun q => Txt.lower q.1 == Txt.lower z with
        | none => rw [hfd] at hfz; cases hfz
        | some q => rw [hfd] at hfz; cases hfz; exact hok q (List.mem_of_find?_eq_some hfd)
      (refine awE_Const rfl ?_; refine isnot_none rfl ?_; refine ⟨_, rfl, ?_⟩; refine ite_t (by first | rfl | assumption) ?_; refine awSs_AssignK (by first | exact .inl rfl | exact .inr ⟨rfl, rfl⟩) rfl fun Kz hz1 => ?_; refine awE_Meth (few := true) rfl rfl rfl (fun _ => rfl) (by intro _ h; first | rfl | cases h) ?_; refine awE_Name (by first | rfl | assumption) ?_ rfl rfl; refine awM_inst (by assumption) (by first | assumption | (simp only [upd]; simp_all)) (by first | assumption | (simp only [upd]; simp_all)) (by k_is) (by k_is) (by k_is) rfl ⟨keepOk_K (by assumption) (by k_is), ?_⟩; refine awArgs_plain (fun _ _ h => nomatch h) ?_; refine awL_cons (fun _ _ h => nomatch h) ?_; refine awE_Name (by first | rfl | assumption) ?_ rfl rfl; refine awL_nil ?_; refine awCall_1 ?_)
      refine awCall_of (get_k hprog G HA (hcl z hz).1 (hcl z hz).2 hps ?_)
      unfold getV
      rw [hfz]
      (apply_assumption; refine awSs_nil ?_; apply_assumption)
      exact ⟨k, Nat.lt_succ_self _, hY _ _ _ ⟨rfl, w, rfl, hm2, hk, hw⟩⟩
theorem head_init : ∀ {c : Cx} {d : Nat} {p : Program} {loose : List Str} {mg mb : Str → Option Value} {H : AH} {P : V → AH → Prop} {X : Exc → AH → Prop} {st dd l : Addr}
    (hprog : c.prog = PySem.Challenge.rw_om0166_01.row.prog) (G : Gd (KF c.w.params) p loose mg mb c.g) (h1 : H st = some (.inst 182 dd)) (h2 : H dd = some (.ns [])) (h3 : H l = some (.list []))
    (h : P .none (upd H dd (.ns [(Str.ofString "_headers", .ref l)]))), callP c (d + 2) (.ref 76) [.ref st, .ref l] [] H P X := by
  w_on
  k_fill
  intro c d p loose mg mb H P X st dd l hprog G h1 h2 h3 h
  refine' enter (d := d + 1) (binds := [(Str.ofString "self", .ref st), (Str.ofString "headers", .ref l)]) G ?ho ?hcd ?hb ?hk ?hn ?hd ?_ ?c1 ?c2 ?c3
  case ho => k_is
  case hcd => k_is
  case hb =>
    intro s vs kvs KX hv hk
    obtain rfl := kvs_nil hk
    obtain ⟨v, _, rfl, a, u, _, rfl, b, rfl⟩ := hv
    exact ⟨[(Str.ofString "self", v), (Str.ofString "headers", u)], binds_K KX rfl (by k_is) rfl rfl rfl, rfl, v, _, rfl, a, u, _, rfl, b, rfl⟩
  case hk => rfl
  case hn => decide +kernel
  case hd => exact of_decide_eq_true rfl
  case c1 => rfl
  case c2 => rfl
  case c3 => rfl
  intro A L
  (refine awSs_AssignK (by first | exact .inl rfl | exact .inr ⟨rfl, rfl⟩) rfl fun Kz hz1 => ?_; refine awE_IfExp ?_; refine awB_Compare rfl ?_; refine awE_Name (by first | rfl | assumption) ?_ rfl rfl; refine awE_Const rfl ?_; refine isnot_none rfl ?_; refine ⟨_, rfl, ?_⟩; refine ite_t (by first | rfl | assumption) ?_; refine awE_Name (by first | rfl | assumption) ?_ rfl rfl; apply_assumption; refine awSs_consK fun Kz hz1 hz2 hz3 hz4 => ?_; refine awS_If ?_; refine awB_Compare rfl ?_; refine awE_Call (by intro o n ap h; cases h) (fun _ => rfl) (by intro _ h; first | rfl | cases h) ?_; refine awE_Bltn (by assumption) rfl (by k_is) (by first | boot_by_name | rfl) (by decide) ?_ rfl; refine ⟨_, rfl, (by first | exact keepOk_type _ | exact keepOk_builtin _ | exact keepOk_K (by assumption) (by k_is)), ?_⟩; refine awArgs_plain (fun _ _ h => nomatch h) ?_; refine awL_cons (fun _ _ h => nomatch h) ?_; refine awE_Name (by first | rfl | assumption) ?_ rfl rfl; refine awL_nil ?_; refine call_type (by first | rfl | exact typeV_list (by assumption) | exact typeV_dict (by assumption) | exact typeV_set (by assumption) | exact typeV_list (by (simp only [upd]; simp_all)) | exact typeV_dict (by (simp only [upd]; simp_all)) | exact typeV_set (by (simp only [upd]; simp_all))) ?_; refine awE_Bltn (by assumption) rfl (by k_is) (by first | boot_by_name | rfl) (by decide) ?_ rfl; refine isnot_type ?_; refine ⟨_, rfl, ?_⟩; refine ite_f (by first | rfl | assumption) ?_; refine awSs_nil ?_; apply_assumption; refine awSs_consK fun Kz hz1 hz2 hz3 hz4 => ?_; refine awS_SetAttr rfl rfl ?_; refine awE_Name (by first | rfl | assumption) ?_ rfl rfl; refine awE_Name (by first | rfl | assumption) ?_ rfl rfl; refine set_inst (by assumption) (by first | assumption | (simp only [upd]; simp_all)) (by first | assumption | (simp only [upd]; simp_all)) (by k_is) (by k_is) (by k_is) (by k_is) (by decide) ?_; apply_assumption; refine awSs_consK fun Kz hz1 hz2 hz3 hz4 => ?_; refine awS_If ?_; refine awB_value (fun _ => rfl) ?_; refine awE_Const rfl ?_; refine ⟨_, rfl, ?_⟩; refine ite_t (by first | rfl | assumption) ?_; refine awSs_consK fun Kz hz1 hz2 hz3 hz4 => ?_; refine awS_For rfl (fun _ => rfl) (by first | (show Storable _ _; exact .inl rfl) | (show Storable _ _; exact .inr ⟨rfl, rfl⟩) | exact (Or.inl rfl : Storable _ _) | exact (Or.inr ⟨rfl, rfl⟩ : Storable _ _) | exact ⟨(Or.inl rfl : Storable _ _), (Or.inl rfl : Storable _ _)⟩) ?_; refine awE_Name (by first | rfl | assumption) ?_ rfl rfl)
  have hne : l ≠ dd := fun z => by rw [z, h2] at h3; cases h3
  have h3' : (upd H dd (.ns (putF [] (Str.ofString "_headers") (.ref l)))) l = some (.list []) := by rw [upd_ne _ _ hne]; exact h3
  refine ⟨.list l, [], by simp [iterK, h3'], ?_⟩
  refine forP_ind (fun r m' H' => r = [] ∧ H' = upd H dd (.ns (putF [] (Str.ofString "_headers") (.ref l)))) ?_ ?_ ⟨rfl, rfl⟩
  · rintro m' H' ⟨_, rfl⟩
    refine ⟨by simp [IK.items, h3'], ?_⟩
    (apply_assumption; refine awSs_nil ?_; apply_assumption; refine awSs_nil ?_)
    exact h
  · rintro v r m' H' ⟨hr, _⟩
    cases hr
theorem head_make : ∀ {c : Cx} {d : Nat} {p : Program} {loose : List Str} {mg mb : Str → Option Value} {H : AH} {P : V → AH → Prop} {X : Exc → AH → Prop} {l : Addr}
    (hprog : c.prog = PySem.Challenge.rw_om0166_01.row.prog) (G : Gd (KF c.w.params) p loose mg mb c.g) (h3 : H l = some (.list []))
    (h : ∀ st dd, H st = none → H dd = none → dd ≠ st → P (.ref st) (upd (upd (upd H dd (.ns [])) st (.inst 182 dd)) dd (.ns [(Str.ofString "_headers", .ref l)]))), callP c (d + 3) (.ref 182) [.ref l] [] H P X := by
  w_on
  k_fill
  intro c d p loose mg mb H P X l hprog G h3 h
  refine' call_make (d := d + 2) (ao := fun dd => .inst 182 dd) (fI := 76) G ?hm ?hi ?hf (fun _ => .inl rfl) ?_
  case hm => k_is
  case hi => k_is
  case hf => k_is
  intro dd a hne hdd ha
  have l1 : l ≠ dd := fun z => by rw [z, hdd] at h3; cases h3
  have l2 : l ≠ a := fun z => by rw [z, ha] at h3; cases h3
  refine head_init hprog G (upd_self _ _ _) ?_ ?_ ⟨rfl, h a dd ha hdd hne⟩
  · rw [upd_ne _ _ hne]; exact upd_self _ _ _
  · rw [upd_ne _ _ l2, upd_ne _ _ l1]; exact h3
theorem join1 (sep r : Str) : Txt.join sep [r] = r := by
  first | rfl | simp [Txt.join] | (unfold Txt.join; simp)
theorem upd_keep {H : AH} {a b : Addr} {o ob : AO} (hn : H a = none) (hb : H b = some ob) : (upd H a o) b = some ob := by rw [upd_ne _ _ (fun z => by rw [z, hn] at hb; cases hb)]; exact hb
theorem add_header : ∀ {c : Cx} {d : Nat} {p : Program} {loose : List Str} {mg mb : Str → Option Value} {H : AH} {P : V → AH → Prop} {X : Exc → AH → Prop} {st dd l : Addr} {u r : Str} {vs : List V}
    (hprog : c.prog = PySem.Challenge.rw_om0166_01.row.prog) (G : Gd (KF c.w.params) p loose mg mb c.g) (h1 : H st = some (.inst 182 dd)) (h2 : H dd = some (.ns [(Str.ofString "_headers", .ref l)])) (h3 : H l = some (.list vs)) (hvs : vs.length ≤ 1000)
    (hu : Clean (KF c.w.params) 48 u) (hr : Clean (KF c.w.params) 53 r) (hrl : r.length ≤ 1000)
    (h : ∀ H', (∀ a, H a ≠ none → a ≠ l → H' a = H a) → H' l = some (.list (vs ++ [.tup [.str u, .str r]])) → P .none H'), callP c (d + 2) (.ref 179) [.ref st, .str u, .str r] [] H P X := by
  w_on
  k_fill
  intro c d p loose mg mb H P X st dd l u r vs hprog G h1 h2 h3 hvs hu hr hrl h
  refine' enterS (d := d + 1) G ?ho ?hcd ?hn ?hb ?c1 ?c2 ?c3
  case ho => k_is
  case hcd => k_is
  case hn => decide +kernel
  case c1 => rfl
  case c2 => rfl
  case c3 => rfl
  case hb =>
    intro s ws kvs R KX hv hk
    obtain rfl := kvs_nil hk
    obtain ⟨v, _, rfl, a, v', _, rfl, b, v'', _, rfl, b', rfl⟩ := hv
    have hn : H s.heap.objs.size = none := R.fresh (get?_size _)
    refine ⟨[(Str.ofString "self", .ref st), (Str.ofString "_name", .str u), (Str.ofString "_value", .str r), (Str.ofString "_params", .ref s.heap.objs.size)], upd H s.heap.objs.size (.dict [] 0),
      [(Str.ofString "self", v), (Str.ofString "_name", v'), (Str.ofString "_value", v''), (Str.ofString "_params", .ref s.heap.objs.size)], { s with heap := s.heap.push { cls := .type "dict", data := .dict #[] } }, ?_, rfl, ?_, ?_, ?_, rfl, of_decide_eq_true rfl, ?_⟩
    · intro M A E Q hq
      exact fun _ _ _ => hq
    · have tk : TK s.heap (s.heap.push { cls := .type "dict", data := .dict #[] }) := TK.of_keeps fun _ _ e => Heap.get?_push_of_some _ e
      exact ⟨v, _, rfl, a.mono tk, v', _, rfl, b.mono tk, v'', _, rfl, b'.mono tk, _, _, rfl, rfl, rfl⟩
    · exact R.push _ s.toks _ ⟨[], ⟨_, #[], Heap.get?_push_size _ rfl, ⟨rfl, rfl, rfl⟩, rfl, (fun e he => by simp at he), .nil, List.nodup_nil⟩, rfl, rfl, G.notSm R.keep⟩
    · exact Step.push _ _ _ _ _
    · generalize s.heap.objs.size = n at hn
      clear R KX a b b'
      have n1 : st ≠ n := fun z => by rw [z, hn] at h1; cases h1
      have n2 : dd ≠ n := fun z => by rw [z, hn] at h2; cases h2
      have n3 : l ≠ n := fun z => by rw [z, hn] at h3; cases h3
      have k1 : (upd H n (.dict [] 0)) st = some (.inst 182 dd) := by rw [upd_ne _ _ n1]; exact h1
      have k2 : (upd H n (.dict [] 0)) dd = some (.ns [(Str.ofString "_headers", .ref l)]) := by rw [upd_ne _ _ n2]; exact h2
      have k3 : (upd H n (.dict [] 0)) l = some (.list vs) := by rw [upd_ne _ _ n3]; exact h3
      have k4 : (upd H n (.dict [] 0)) n = some (.dict [] 0) := upd_self _ _ _
      have k5 : ∀ a, H a ≠ none → (upd H n (.dict [] 0)) a = H a := fun a ha => upd_ne _ _ fun z => ha (by rw [z]; exact hn)
      generalize upd H n (.dict [] 0) = H₁ at k1 k2 k3 k4 k5
      intro A L
      (refine awSs_AssignK (by first | exact .inl rfl | exact .inr ⟨rfl, rfl⟩) rfl fun Kz hz1 => ?_; refine awE_List ?_; refine awL_nil ?_)
      refine ⟨Nat.zero_le _, fun pa hpa => ?_⟩
      have a1 := upd_keep (o := .list []) hpa k1
      have a2 := upd_keep (o := .list []) hpa k2
      have a3 := upd_keep (o := .list []) hpa k3
      have a4 := upd_keep (o := .list []) hpa k4
      have a5 : ∀ a, H a ≠ none → (upd H₁ pa (.list [])) a = H a := fun a ha => by
        rw [upd_ne _ _ (fun z => by rw [← k5 a ha, z] at ha; exact ha hpa)]; exact k5 a ha
      have a6 : (upd H₁ pa (.list [])) pa = some (.list []) := upd_self _ _ _
      have a7 : H pa = none := by
        cases hz : H pa with
        | none => rfl
        | some o => rw [k5 pa (by rw [hz]; exact fun z => by cases z), hz] at hpa; cases hpa
      generalize upd H₁ pa (.list []) = H₂ at a1 a2 a3 a4 a5 a6
      (apply_assumption; refine awSs_consK fun Kz hz1 hz2 hz3 hz4 => ?_; refine awS_If ?_; refine awB_Compare rfl ?_; refine awE_Name (by first | rfl | assumption) ?_ rfl rfl; refine awE_Const rfl ?_; refine isnot_none rfl ?_; refine ⟨_, rfl, ?_⟩; refine ite_t (by first | rfl | assumption) ?_; refine awSs_AssignK (by first | exact .inl rfl | exact .inr ⟨rfl, rfl⟩) rfl fun Kz hz1 => ?_; refine awE_Meth (few := true) rfl rfl rfl (fun _ => rfl) (by intro _ h; first | rfl | cases h) ?_; refine awE_Name (by first | rfl | assumption) ?_ rfl rfl; refine awM_inst (by assumption) (by first | assumption | (simp only [upd]; simp_all)) (by first | assumption | (simp only [upd]; simp_all)) (by k_is) (by k_is) (by k_is) rfl ⟨keepOk_K (by assumption) (by k_is), ?_⟩; refine awArgs_kw (fun _ _ h => nomatch h) ?_; refine awL_cons (fun _ _ h => nomatch h) ?_; refine awE_Name (by first | rfl | assumption) ?_ rfl rfl; refine awL_nil ?_; refine awE_Const rfl ?_; refine awCall_1 ?_)
      refine awCall_of (conv (b := false) hprog G hr ?_)
      (apply_assumption; refine awSs_ExprK rfl rfl fun Kz hz1 => ?_; refine awE_Meth (few := true) rfl rfl rfl (fun _ => rfl) (by intro _ h; first | rfl | cases h) ?_; refine awE_Name (by first | rfl | assumption) ?_ rfl rfl; refine awM_bi (by first | rfl | exact typeV_list (by assumption) | exact typeV_dict (by assumption) | exact typeV_set (by assumption) | exact typeV_list (by (simp only [upd]; simp_all)) | exact typeV_dict (by (simp only [upd]; simp_all)) | exact typeV_set (by (simp only [upd]; simp_all))) (by decide) F.plainAttrs_list F.slot_list_append F.type_list_append ⟨keepOk_builtin _, ?_⟩; refine awArgs_plain (fun _ _ h => nomatch h) ?_; refine awL_cons (fun _ _ h => nomatch h) ?_; refine awE_Name (by first | rfl | assumption) ?_ rfl rfl; refine awL_nil ?_; refine awCall_1 ?_)
      refine call_append a6 (Nat.zero_le _) ?_
      have p1 : st ≠ pa := fun z => by rw [z, a7] at h1; cases h1
      have p2 : dd ≠ pa := fun z => by rw [z, a7] at h2; cases h2
      have p3 : l ≠ pa := fun z => by rw [z, a7] at h3; cases h3
      have p4 : n ≠ pa := fun z => by rw [z, hpa] at k4; cases k4
      have b1 := (upd_ne H₂ (.list ([] ++ [.str r])) p1).trans a1
      have b2 := (upd_ne H₂ (.list ([] ++ [.str r])) p2).trans a2
      have b3 := (upd_ne H₂ (.list ([] ++ [.str r])) p3).trans a3
      have b4 := (upd_ne H₂ (.list ([] ++ [.str r])) p4).trans a4
      have b5 : ∀ a, H a ≠ none → (upd H₂ pa (.list ([] ++ [.str r]))) a = H a := fun a ha => (upd_ne H₂ _ (fun z => by rw [z] at ha; exact ha a7)).trans (a5 a ha)
      have b6 : (upd H₂ pa (.list ([] ++ [.str r]))) pa = some (.list ([r].map V.str)) := upd_self _ _ _
      generalize upd H₂ pa (.list ([] ++ [.str r])) = H₃ at b1 b2 b3 b4 b5 b6
      (apply_assumption; refine awSs_nil ?_; apply_assumption; refine awSs_consK fun Kz hz1 hz2 hz3 hz4 => ?_; refine awS_ForItems0 rfl (fun _ => rfl) rfl rfl ?_; refine awE_Name (by first | rfl | assumption) ?_ rfl rfl)
      refine ⟨n, 0, rfl, b4, ?_⟩
      (apply_assumption; refine awSs_ExprK rfl rfl fun Kz hz1 => ?_; refine awE_Meth (few := true) rfl rfl rfl (fun _ => rfl) (by intro _ h; first | rfl | cases h) ?_; refine awE_Attr rfl ?_; refine awE_Name (by first | rfl | assumption) ?_ rfl rfl; refine getAttr_inst (by assumption) (by first | assumption | (simp only [upd]; simp_all)) (by first | assumption | (simp only [upd]; simp_all)) (by k_is) (by k_is) (by k_is) (by k_is) rfl (by intro i h; cases h) ?_; refine awM_bi (by first | rfl | exact typeV_list (by assumption) | exact typeV_dict (by assumption) | exact typeV_set (by assumption) | exact typeV_list (by (simp only [upd]; simp_all)) | exact typeV_dict (by (simp only [upd]; simp_all)) | exact typeV_set (by (simp only [upd]; simp_all))) (by decide) F.plainAttrs_list F.slot_list_append F.type_list_append ⟨keepOk_builtin _, ?_⟩; refine awArgs_plain (fun _ _ h => nomatch h) ?_; refine awL_cons (fun _ _ h => nomatch h) ?_; refine awE_Tuple ?_; refine awL_cons (fun _ _ h => nomatch h) ?_; refine awE_Meth (few := true) rfl rfl rfl (fun _ => rfl) (by intro _ h; first | rfl | cases h) ?_; refine awE_Name (by first | rfl | assumption) ?_ rfl rfl; refine awM_inst (by assumption) (by first | assumption | (simp only [upd]; simp_all)) (by first | assumption | (simp only [upd]; simp_all)) (by k_is) (by k_is) (by k_is) rfl ⟨keepOk_K (by assumption) (by k_is), ?_⟩; refine awArgs_kw (fun _ _ h => nomatch h) ?_; refine awL_cons (fun _ _ h => nomatch h) ?_; refine awE_Name (by first | rfl | assumption) ?_ rfl rfl; refine awL_nil ?_; refine awE_Const rfl ?_; refine awCall_1 ?_)
      refine awCall_of (conv (b := true) hprog G hu ?_)
      (refine awL_cons (fun _ _ h => nomatch h) ?_; refine awE_Meth (few := true) rfl rfl rfl (fun _ => rfl) (by intro _ h; first | rfl | cases h) ?_; refine awE_Const rfl ?_; refine awM_bi (by first | rfl | exact typeV_list (by assumption) | exact typeV_dict (by assumption) | exact typeV_set (by assumption) | exact typeV_list (by (simp only [upd]; simp_all)) | exact typeV_dict (by (simp only [upd]; simp_all)) | exact typeV_set (by (simp only [upd]; simp_all))) (by decide) F.plainAttrs_str F.slot_str_join F.type_str_join ⟨keepOk_builtin _, ?_⟩; refine awArgs_plain (fun _ _ h => nomatch h) ?_; refine awL_cons (fun _ _ h => nomatch h) ?_; refine awE_Name (by first | rfl | assumption) ?_ rfl rfl; refine awL_nil ?_; refine awCall_1 ?_)
      refine call_join b6 ?_ ?_
      · unfold JoinOk
        rw [StrLaws.joinFits (sep := Str.ofString "; ") (texts := [r]) (B := 1000) (fun y hy => by rw [List.mem_singleton.mp hy]; exact hrl) (show 1 * 1000 + 1 * (Str.ofString "; ").length ≤ 16777216 by decide +kernel)]
        rfl
      rw [show Txt.join (Str.ofString "; ") [r] = r from join1 _ _]
      (refine awL_nil ?_)
      refine ⟨(by decide : 2 ≤ 1000), ?_⟩
      (refine awL_nil ?_; refine awCall_1 ?_)
      refine call_append b3 (Nat.le_trans hvs (by decide)) ?_
      (apply_assumption; refine awSs_nil ?_)
      refine h _ (fun a ha hl => ?_) (upd_self _ _ _)
      rw [upd_ne _ _ hl]; exact b5 a ha
def headsOf (ar : List (Str × Str)) : List (Str × Str) := ar.map fun q => (Txt.upper q.1, q.2)
theorem law_steps : ∀ {c : Cx} {d : Nat} {p : Program} {loose : List Str} {mg mb : Str → Option Value} {H : AH} {P : V → AH → Prop} {X : Exc → AH → Prop} {ra : Addr} {ar : List (Str × Str)}
    (hprog : c.prog = PySem.Challenge.rw_om0166_01.row.prog) (G : Gd (KF c.w.params) p loose mg mb c.g) (h3 : H ra = some (.list (ar.map fun q => .tup [.str q.1, .str q.2]))) (hal : ar.length ≤ 100)
    (hok : ∀ q ∈ ar, q.1.length ≤ 1000 ∧ q.2.length ≤ 1000 ∧ Clean (KF c.w.params) 48 (Txt.upper q.1) ∧ Clean (KF c.w.params) 53 q.2)
    (h : ∀ st H', (∀ a, H a ≠ none → H' a = H a) → H st = none → HeadAt H' st (headsOf ar) → P (.ref st) H'), callP c (d + 4) (.ref 327) [.ref ra] [] H P X := by
  w_on
  k_fill
  intro c d p loose mg mb H P X ra ar hprog G h3 hal hok h
  refine' enter (d := d + 3) (binds := [(Str.ofString "arrows", .ref ra)]) G ?ho ?hcd ?hb ?hk ?hn ?hd ?_ ?c1 ?c2 ?c3
  case ho => k_is
  case hcd => k_is
  case hb =>
    intro s vs kvs KX hv hk
    obtain rfl := kvs_nil hk
    obtain ⟨v, _, rfl, a, rfl⟩ := hv
    exact ⟨_, BindsTo.of_eq rfl, rfl, v, _, rfl, a, rfl⟩
  case hk => rfl
  case hn => decide +kernel
  case hd => exact of_decide_eq_true rfl
  case c1 => rfl
  case c2 => rfl
  case c3 => rfl
  intro A L
  (refine awSs_AssignK (by first | exact .inl rfl | exact .inr ⟨rfl, rfl⟩) rfl fun Kz hz1 => ?_; refine awE_Call (by intro o n ap h; cases h) (fun _ => rfl) (by intro _ h; first | rfl | cases h) ?_; refine awE_Glob (by assumption) rfl (by k_is) ?_ rfl; refine ⟨_, rfl, (by first | exact keepOk_type _ | exact keepOk_builtin _ | exact keepOk_K (by assumption) (by k_is)), ?_⟩; refine awArgs_plain (fun _ _ h => nomatch h) ?_; refine awL_cons (fun _ _ h => nomatch h) ?_; refine awE_List ?_; refine awL_nil ?_)
  refine ⟨Nat.zero_le _, fun l hl => ?_⟩
  (refine awL_nil ?_)
  refine awCall_of (head_make hprog G (upd_self _ _ _) fun st dd hst hdd hne => ?_)
  have l1 : st ≠ l := fun z => by rw [z, upd_self] at hst; cases hst
  have l2 : dd ≠ l := fun z => by rw [z, upd_self] at hdd; cases hdd
  have hst' : H st = none := by rw [upd_ne _ _ l1] at hst; exact hst
  have hdd' : H dd = none := by rw [upd_ne _ _ l2] at hdd; exact hdd
  have f1 : (upd (upd (upd (upd H l (.list [])) dd (.ns [])) st (.inst 182 dd)) dd (.ns [(Str.ofString "_headers", .ref l)])) st = some (.inst 182 dd) := by rw [upd_ne _ _ hne.symm, upd_self]
  have f2 : (upd (upd (upd (upd H l (.list [])) dd (.ns [])) st (.inst 182 dd)) dd (.ns [(Str.ofString "_headers", .ref l)])) dd = some (.ns [(Str.ofString "_headers", .ref l)]) := upd_self _ _ _
  have f3 : (upd (upd (upd (upd H l (.list [])) dd (.ns [])) st (.inst 182 dd)) dd (.ns [(Str.ofString "_headers", .ref l)])) l = some (.list []) := by rw [upd_ne _ _ l2.symm, upd_ne _ _ l1.symm, upd_ne _ _ l2.symm, upd_self]
  have f5 : ∀ a, H a ≠ none → (upd (upd (upd (upd H l (.list [])) dd (.ns [])) st (.inst 182 dd)) dd (.ns [(Str.ofString "_headers", .ref l)])) a = H a := fun a ha => by
    rw [upd_ne _ _ (fun z => ha (by rw [z]; exact hdd')), upd_ne _ _ (fun z => ha (by rw [z]; exact hst')), upd_ne _ _ (fun z => ha (by rw [z]; exact hdd')), upd_ne _ _ (fun z => ha (by rw [z]; exact hl))]
  generalize upd (upd (upd (upd H l (.list [])) dd (.ns [])) st (.inst 182 dd)) dd (.ns [(Str.ofString "_headers", .ref l)]) = H₁ at f1 f2 f3 f5
  have hra : H ra ≠ none := by rw [h3]; exact fun z => by cases z
  (apply_assumption; refine awSs_consK fun Kz hz1 hz2 hz3 hz4 => ?_; refine awS_For rfl (fun _ => rfl) (by first | (show Storable _ _; exact .inl rfl) | (show Storable _ _; exact .inr ⟨rfl, rfl⟩) | exact (Or.inl rfl : Storable _ _) | exact (Or.inr ⟨rfl, rfl⟩ : Storable _ _) | exact ⟨(Or.inl rfl : Storable _ _), (Or.inl rfl : Storable _ _)⟩) ?_; refine awE_Name (by first | rfl | assumption) ?_ rfl rfl)
  refine ⟨.list ra, ar.map (fun q => V.tup [.str q.1, .str q.2]), by simp [iterK, f5 ra hra, h3], ?_⟩
  refine forP_ind (fun r m' H' => ∃ dn rest : List (Str × Str), r = rest.map (fun q => V.tup [.str q.1, .str q.2]) ∧ ar = dn ++ rest ∧ (∀ a, H a ≠ none → H' a = H a) ∧ H' st = some (.inst 182 dd) ∧ H' dd = some (.ns [(Str.ofString "_headers", .ref l)]) ∧ H' l = some (.list ((headsOf dn).map fun q => .tup [.str q.1, .str q.2])) ∧ m' (Str.ofString "steps") = some (.ref st)) ?_ ?_ ⟨[], ar, rfl, rfl, f5, f1, f2, f3, rfl⟩
  · rintro m' H' ⟨dn, rest, hr, har, g5, g1, g2, g3, hm⟩
    cases rest with
    | cons _ _ => cases hr
    | nil =>
      rw [List.append_nil] at har
      subst har
      refine ⟨by simp [IK.items, g5 ra hra, h3], ?_⟩
      (apply_assumption; refine awSs_consK fun Kz hz1 hz2 hz3 hz4 => ?_; refine awS_Return ?_; refine awE_Name (by first | rfl | assumption) ?_ rfl rfl; apply_assumption)
      exact h st H' g5 hst' ⟨dd, l, g1, g2, g3⟩
  · rintro v r m' H' ⟨dn, rest, hr, har, g5, g1, g2, g3, hm⟩
    cases rest with
    | nil => cases hr
    | cons q rest =>
      cases hr
      refine ⟨by simp [IK.items, g5 ra hra, h3], fun K hn _ _ hret => ⟨_, rfl, ?_⟩⟩
      obtain ⟨q1, q2, q3, q4⟩ := hok q (by rw [har]; simp)
      (refine awSs_ExprK rfl rfl fun Kz hz1 => ?_; refine awE_Meth (few := true) rfl rfl rfl (fun _ => rfl) (by intro _ h; first | rfl | cases h) ?_; refine awE_Name (by first | rfl | assumption) ?_ rfl rfl; refine awM_inst (by assumption) (by first | assumption | (simp only [upd]; simp_all)) (by first | assumption | (simp only [upd]; simp_all)) (by k_is) (by k_is) (by k_is) rfl ⟨keepOk_K (by assumption) (by k_is), ?_⟩; refine awArgs_plain (fun _ _ h => nomatch h) ?_; refine awL_cons (fun _ _ h => nomatch h) ?_; refine awE_Meth (few := true) rfl rfl rfl (fun _ => rfl) (by intro _ h; first | rfl | cases h) ?_; refine awE_Name (by first | rfl | assumption) ?_ rfl rfl; refine awM_bi rfl (by decide) F.plainAttrs_str F.slot_str_upper F.type_str_upper ⟨keepOk_builtin _, ?_⟩; refine awArgs_nil ?_; refine awCall_1 ?_; refine call_upper (by assumption) ?_; refine awL_cons (fun _ _ h => nomatch h) ?_; refine awE_Name (by first | rfl | assumption) ?_ rfl rfl; refine awL_nil ?_; refine awCall_1 ?_)
      refine awCall_of (add_header (d := d + 1) hprog G g1 g2 g3 ?_ q3 q4 q2 fun H'' e1 e2 => ?_)
      · have := congrArg List.length har
        simp [headsOf] at this ⊢
        omega
      (apply_assumption; refine awSs_nil ?_)
      have n1 : st ≠ l := fun z => by rw [z, g3] at g1; cases g1
      have n2 : dd ≠ l := fun z => by rw [z, g3] at g2; cases g2
      refine hn _ _ ⟨dn ++ [q], rest, rfl, by rw [har]; simp, fun a ha => ?_, ?_, ?_, ?_, hm⟩
      · have hal' : a ≠ l := fun z => ha (by rw [z]; exact hl)
        rw [e1 a (by rw [g5 a ha]; exact ha) hal']; exact g5 a ha
      · rw [e1 st (by rw [g1]; exact fun z => by cases z) n1]; exact g1
      · rw [e1 dd (by rw [g2]; exact fun z => by cases z) n2]; exact g2
      · rw [e2]; simp [headsOf]
theorem Mod.mv {H H' : AH} {a b : Addr} {o o' : AO} (m : Mod H a H') (ha : H a = some o) (hb : H b = some o') (hn : o ≠ o' := by intro z; cases z) : H' b = some o' := m.get (fun z => hn (by rw [z, ha] at hb; cases hb; rfl)) hb
theorem set_inst_x {c : Cx} {q : Md} {d : Nat} {A : Around} {H : AH} {K : Frag} {p : Program} {loose : List Str} {mg mb : Str → Option Value} {a C dd : Addr} {fs : List (Str × V)} {name : Str} {x : V} {P : AH → Prop} (G : Gd K p loose mg mb c.g) (h1 : H a = some (.inst C dd)) (h2 : H dd = some (.ns fs)) (hs : findIn K (.ref C) "__setattr__" = some (some (.builtin "object.__setattr__"))) (hp : plainOver K C = true) (ht : takerIn K C name = some none) (hh : hasDictIn K C = true) (hl : fs.length ≤ 500)
    (h : ∀ H', Mod H dd H' → H' dd = some (.ns (putF fs name x)) → P H') : awSet c q d A (.ref a) name x H P := set_inst G h1 h2 hs hp ht hh hl (h _ (Mod.upd _ _ _) (upd_self _ _ _))
theorem set_slots_x {c : Cx} {q : Md} {d : Nat} {A : Around} {H : AH} {K : Frag} {p : Program} {loose : List Str} {mg mb : Str → Option Value} {a C dd pp : Addr} {i : Nat} {fs : List (Option V)} {ns : List (Str × V)} {name : Str} {x : V} {P : AH → Prop} (G : Gd K p loose mg mb c.g) (h1 : H a = some (.slots C dd fs)) (h2 : H dd = some (.ns ns)) (hs : findIn K (.ref C) "__setattr__" = some (some (.builtin "object.__setattr__"))) (hp : plainOver K C = true)
    (ht : takerIn K C name = some (some (.ref pp))) (hT : typeIn K (.ref pp) = some (.type "member_descriptor")) (hi : slotIn K pp C = some i) (hz : i < 1000) (h : ∀ H', Mod H a H' → H' a = some (.slots C dd (putSlot fs i x)) → P H') : awSet c q d A (.ref a) name x H P := set_slots G h1 h2 hs hp ht hT hi hz (h _ (Mod.upd _ _ _) (upd_self _ _ _))
theorem call_append_x {c : Cx} {q : Md} {d : Nat} {A : Around} {fl : Option Addr} {H : AH} {P : V → AH → Prop} {X : Exc → AH → Prop} {a : Addr} {x : V} {vs : List V} (ha : H a = some (.list vs)) (hl : vs.length ≤ 100000) (h : ∀ H', Mod H a H' → H' a = some (.list (vs ++ [x])) → P .none H') : awCall c q d A fl (.builtin "list.append") [.ref a, x] [] H P X := call_appendX ha hl h
section
variable {K : Frag} {fd : FuncData}
theorem bnd1 {n1 : Str} {x1 : V} (h : ∀ v, bindArgs fd ⟨[v], []⟩ = pure [(n1, v)]) : ∀ (s : Shared) vs kvs, K.In s.heap → VRs s.heap [x1] vs → KwR s.heap [] kvs → ∃ bs, BindsTo s fd ⟨vs, kvs⟩ bs ∧ bs.map (·.1) = [(n1, x1)].map (·.1) ∧ VRs s.heap ([(n1, x1)].map (·.2)) (bs.map (·.2)) := by
  intro s vs kvs _ hv hk
  obtain rfl := kvs_nil hk
  obtain ⟨v, _, rfl, a, rfl⟩ := hv
  exact ⟨_, BindsTo.of_eq (h v), rfl, v, _, rfl, a, rfl⟩
theorem bnd2 {n1 n2 : Str} {x1 x2 : V} (h : ∀ v1 v2, bindArgs fd ⟨[v1, v2], []⟩ = pure [(n1, v1), (n2, v2)]) : ∀ (s : Shared) vs kvs, K.In s.heap → VRs s.heap [x1, x2] vs → KwR s.heap [] kvs → ∃ bs, BindsTo s fd ⟨vs, kvs⟩ bs ∧ bs.map (·.1) = [(n1, x1), (n2, x2)].map (·.1) ∧ VRs s.heap ([(n1, x1), (n2, x2)].map (·.2)) (bs.map (·.2)) := by
  intro s vs kvs _ hv hk
  obtain rfl := kvs_nil hk
  obtain ⟨v, _, rfl, a, u, _, rfl, b, rfl⟩ := hv
  exact ⟨_, BindsTo.of_eq (h v u), rfl, v, _, rfl, a, u, _, rfl, b, rfl⟩
theorem bnd3 {n1 n2 n3 : Str} {x1 x2 x3 : V} (h : ∀ v1 v2 v3, bindArgs fd ⟨[v1, v2, v3], []⟩ = pure [(n1, v1), (n2, v2), (n3, v3)]) : ∀ (s : Shared) vs kvs, K.In s.heap → VRs s.heap [x1, x2, x3] vs → KwR s.heap [] kvs → ∃ bs, BindsTo s fd ⟨vs, kvs⟩ bs ∧ bs.map (·.1) = [(n1, x1), (n2, x2), (n3, x3)].map (·.1) ∧ VRs s.heap ([(n1, x1), (n2, x2), (n3, x3)].map (·.2)) (bs.map (·.2)) := by
  intro s vs kvs _ hv hk
  obtain rfl := kvs_nil hk
  obtain ⟨v, _, rfl, a, u, _, rfl, b, w, _, rfl, c, rfl⟩ := hv
  exact ⟨_, BindsTo.of_eq (h v u w), rfl, v, _, rfl, a, u, _, rfl, b, w, _, rfl, c, rfl⟩
end
theorem node_init : ∀ {c : Cx} {d : Nat} {p : Program} {loose : List Str} {mg mb : Str → Option Value} {H : AH} {P : V → AH → Prop} {X : Exc → AH → Prop} {a dd : Addr} {x : Str}
    (hprog : c.prog = PySem.Challenge.rw_om0166_01.row.prog) (G : Gd (KF c.w.params) p loose mg mb c.g) (h1 : H a = some (.slots 205 dd [])) (h2 : H dd = some (.ns []))
    (h : ∀ H' sl, H sl = none → (∀ b o, H b = some o → b ≠ a → H' b = some o) → H' a = some (.slots 205 dd [some (.str x), some (.int 0), some (.ref sl)]) → H' sl = some (.list []) → P .none H'), callP c (d + 1) (.ref 201) [.ref a, .str x] [] H P X := by
  w_on
  k_fill
  intro c d p loose mg mb H P X a dd x hprog G h1 h2 h
  refine' enter (d := d) (binds := [(Str.ofString "self", .ref a), (Str.ofString "node", .str x)]) G ?ho ?hcd ?hb ?hk ?hn ?hd ?_ ?c1 ?c2 ?c3
  ((case ho => k_is); (case hcd => k_is); (case hk => rfl); (case hn => decide +kernel); (case hd => exact of_decide_eq_true rfl); (case c1 => rfl); (case c2 => rfl); (case c3 => rfl); try (case hb => first | exact bnd0 rfl | exact bnd1 (fun _ => rfl) | exact bnd2 (fun _ _ => rfl) | exact bnd3 (fun _ _ _ => rfl)))
  intro A L
  (refine awSs_consK fun Kz hz1 hz2 hz3 hz4 => ?_; refine awS_SetAttr rfl rfl ?_; refine awE_Name (by first | rfl | assumption) ?_ rfl rfl; refine awE_Name (by first | rfl | assumption) ?_ rfl rfl; refine set_slots_x (by assumption) (by assumption) (by assumption) (by k_is) (by k_is) (by k_is) (by k_is) (by k_is) (by decide) ?_)
  intro H1 m1 e1
  have g1 := m1.mv h1 h2
  (apply_assumption; refine awSs_consK fun Kz hz1 hz2 hz3 hz4 => ?_; refine awS_SetAttr rfl rfl ?_; refine awE_Const rfl ?_; refine awE_Name (by first | rfl | assumption) ?_ rfl rfl; refine set_slots_x (by assumption) (by assumption) (by assumption) (by k_is) (by k_is) (by k_is) (by k_is) (by k_is) (by decide) ?_)
  intro H2 m2 e2
  have g2 := m2.mv e1 g1
  (apply_assumption; refine awSs_consK fun Kz hz1 hz2 hz3 hz4 => ?_; refine awS_SetAttr rfl rfl ?_; refine awE_ListX ?_; refine awL_nil ?_)
  refine ⟨Nat.zero_le _, fun sl H3 x3 n3 e3 => ?_⟩
  have k1 := x3.get e2
  have k2 := x3.get (m2.mv e1 g1)
  (refine awE_Name (by first | rfl | assumption) ?_ rfl rfl; refine set_slots_x (by assumption) (by assumption) (by assumption) (by k_is) (by k_is) (by k_is) (by k_is) (by k_is) (by decide) ?_)
  intro H4 m4 e4
  have k3 := m4.mv k1 e3
  (apply_assumption; refine awSs_nil ?_)
  have ns : sl ≠ a := (Ext.ne e2 n3).symm
  refine h H4 sl ?_ ?_ e4 k3
  · have z := (m2 sl ns).symm.trans n3; exact (m1 sl ns).symm.trans z
  · intro b o hb hn
    exact m4.get hn (x3.get (m2.get hn (m1.get hn hb)))
theorem sorter_init : ∀ {c : Cx} {d : Nat} {p : Program} {loose : List Str} {mg mb : Str → Option Value} {H : AH} {P : V → AH → Prop} {X : Exc → AH → Prop} {a dd : Addr}
    (hprog : c.prog = PySem.Challenge.rw_om0166_01.row.prog) (G : Gd (KF c.w.params) p loose mg mb c.g) (h1 : H a = some (.inst 302 dd)) (h2 : H dd = some (.ns []))
    (h : ∀ H' n2, H n2 = none → (∀ b o, H b = some o → b ≠ dd → H' b = some o) → H' dd = some (.ns [(Str.ofString "_node2info", .ref n2), (Str.ofString "_ready_nodes", .none), (Str.ofString "_npassedout", .int 0), (Str.ofString "_nfinished", .int 0)]) → (∃ ep, H' n2 = some (.dict [] ep)) → P .none H'), callP c (d + 1) (.ref 238) [.ref a] [] H P X := by
  w_on
  k_fill
  intro c d p loose mg mb H P X a dd hprog G h1 h2 h
  refine' enter (d := d) (binds := [(Str.ofString "self", .ref a), (Str.ofString "graph", .none)]) G ?ho ?hcd ?hb ?hk ?hn ?hd ?_ ?c1 ?c2 ?c3
  ((case ho => k_is); (case hcd => k_is); (case hk => rfl); (case hn => decide +kernel); (case hd => exact of_decide_eq_true rfl); (case c1 => rfl); (case c2 => rfl); (case c3 => rfl); try (case hb => first | exact bnd0 rfl | exact bnd1 (fun _ => rfl) | exact bnd2 (fun _ _ => rfl) | exact bnd3 (fun _ _ _ => rfl)))
  case hb =>
    intro s vs kvs KX hv hk
    obtain rfl := kvs_nil hk
    obtain ⟨v, _, rfl, a, rfl⟩ := hv
    exact ⟨[(Str.ofString "self", v), (Str.ofString "graph", .none)], binds_K KX rfl (by k_is) rfl rfl rfl, rfl, v, _, rfl, a, _, _, rfl, rfl, rfl⟩
  intro A L
  (refine awSs_consK fun Kz hz1 hz2 hz3 hz4 => ?_; refine awS_SetAttr rfl rfl ?_; refine awE_Dict0X (by assumption) ?_)
  intro n2 H1 x1 n1 e1
  have k1 := x1.get h1
  have k2 := x1.get h2
  (refine awE_Name (by first | rfl | assumption) ?_ rfl rfl; refine set_inst_x (by assumption) (by assumption) (by assumption) (by k_is) (by k_is) (by k_is) (by k_is) (by first | decide | exact Nat.le_of_ble_eq_true rfl) ?_)
  intro H2 m2 e2
  have k3 := m2.mv k2 k1
  have k4 := m2.mv k2 e1
  (apply_assumption; refine awSs_consK fun Kz hz1 hz2 hz3 hz4 => ?_; refine awS_SetAttr rfl rfl ?_; refine awE_Const rfl ?_; refine awE_Name (by first | rfl | assumption) ?_ rfl rfl; refine set_inst_x (by assumption) (by assumption) (by assumption) (by k_is) (by k_is) (by k_is) (by k_is) (by first | decide | exact Nat.le_of_ble_eq_true rfl) ?_)
  intro H3 m3 e3
  have k5 := m3.mv e2 k3
  have k6 := m3.mv e2 k4
  (apply_assumption; refine awSs_consK fun Kz hz1 hz2 hz3 hz4 => ?_; refine awS_SetAttr rfl rfl ?_; refine awE_Const rfl ?_; refine awE_Name (by first | rfl | assumption) ?_ rfl rfl; refine set_inst_x (by assumption) (by assumption) (by assumption) (by k_is) (by k_is) (by k_is) (by k_is) (by first | decide | exact Nat.le_of_ble_eq_true rfl) ?_)
  intro H4 m4 e4
  have k7 := m4.mv e3 k5
  have k8 := m4.mv e3 k6
  (apply_assumption; refine awSs_consK fun Kz hz1 hz2 hz3 hz4 => ?_; refine awS_SetAttr rfl rfl ?_; refine awE_Const rfl ?_; refine awE_Name (by first | rfl | assumption) ?_ rfl rfl; refine set_inst_x (by assumption) (by assumption) (by assumption) (by k_is) (by k_is) (by k_is) (by k_is) (by first | decide | exact Nat.le_of_ble_eq_true rfl) ?_)
  intro H5 m5 e5
  have k9 := m5.mv e4 k8
  (apply_assumption; refine awSs_consK fun Kz hz1 hz2 hz3 hz4 => ?_; refine awS_If ?_; refine awB_Compare rfl ?_; refine awE_Name (by first | rfl | assumption) ?_ rfl rfl; refine awE_Const rfl ?_; refine isnot_none rfl ?_; refine ⟨_, rfl, ?_⟩; refine ite_f (by first | rfl | assumption) ?_; refine awSs_nil ?_; apply_assumption; refine awSs_nil ?_)
  refine h H5 n2 n1 ?_ e5 ⟨_, k9⟩
  intro b o hb hn
  exact m5.get hn (m4.get hn (m3.get hn (m2.get hn (x1.get hb))))
structure Nd where
  nm : Str
  ia : Addr
  na : Addr
  sa : Addr
  np : Int
  su : List Str
def rdV : Option (Addr × List Str) → V
  | none => .none
  | some p => .ref p.1
abbrev nsOf (n2 : Addr) (rd : Option (Addr × List Str)) (po nf : Int) : List (Str × V) := [(Str.ofString "_node2info", .ref n2), (Str.ofString "_ready_nodes", rdV rd), (Str.ofString "_npassedout", .int po), (Str.ofString "_nfinished", .int nf)]
structure Srt (B H : AH) (st dd n2 : Addr) (nds : List Nd) (rd : Option (Addr × List Str)) (po nf : Int) : Prop where
  ext : Ext B H
  o1 : B st = none
  o2 : B dd = none
  o3 : B n2 = none
  o4 : ∀ n ∈ nds, B n.ia = none ∧ B n.na = none ∧ B n.sa = none
  o5 : ∀ p, rd = some p → B p.1 = none
  h1 : H st = some (.inst 302 dd)
  h2 : H dd = some (.ns (nsOf n2 rd po nf))
  h3 : ∃ ep, H n2 = some (.dict (nds.map fun n => (n.nm, .ref n.ia)) ep)
  h4 : ∀ n ∈ nds, H n.ia = some (.slots 205 n.na [some (.str n.nm), some (.int n.np), some (.ref n.sa)]) ∧ H n.na = some (.ns []) ∧ H n.sa = some (.list (n.su.map V.str))
  h5 : ∀ p, rd = some p → H p.1 = some (.list (p.2.map V.str)) ∧ ∀ n ∈ nds, n.sa ≠ p.1
  d1 : (nds.map (·.nm)).Nodup
  d2 : (nds.map (·.ia)).Nodup
  d3 : (nds.map (·.sa)).Nodup
section
variable {B H H' : AH} {st dd n2 : Addr} {nds : List Nd} {rd : Option (Addr × List Str)} {po nf : Int}
theorem Srt.more (S : Srt B H st dd n2 nds rd po nf) (x : Ext H H') : Srt B H' st dd n2 nds rd po nf :=
  ⟨S.ext.trans x, S.o1, S.o2, S.o3, S.o4, S.o5, x.get S.h1, x.get S.h2, S.h3.imp fun _ => x.get, fun n hn => ⟨x.get (S.h4 n hn).1, x.get (S.h4 n hn).2.1, x.get (S.h4 n hn).2.2⟩, fun p hp => ⟨x.get (S.h5 p hp).1, (S.h5 p hp).2⟩, S.d1, S.d2, S.d3⟩
theorem Srt.base (S : Srt B H st dd n2 nds rd po nf) {a : Addr} {o : AO} (x : Ext H H') (hn : H a = none) (e : H' a = some o) : Srt (upd B a o) H' st dd n2 nds rd po nf := by
  have S' := S.more x
  have ne : ∀ {b ob}, H b = some ob → B b = none → (upd B a o) b = none := fun {b ob} hb hB => by rw [upd_ne _ _ (Ext.ne hb hn)]; exact hB
  refine ⟨fun b ob hb => ?_, ne S.h1 S.o1, ne S.h2 S.o2, S.h3.elim fun _ h => ne h S.o3, fun n hm => ⟨ne (S.h4 n hm).1 (S.o4 n hm).1, ne (S.h4 n hm).2.1 (S.o4 n hm).2.1, ne (S.h4 n hm).2.2 (S.o4 n hm).2.2⟩, fun p hp => ne (S.h5 p hp).1 (S.o5 p hp), S'.h1, S'.h2, S'.h3, S'.h4, S'.h5, S.d1, S.d2, S.d3⟩
  unfold upd at hb
  split at hb
  · rename_i z; cases hb; subst z; exact e
  · exact S'.ext.get hb
theorem Srt.out (S : Srt B H st dd n2 nds rd po nf) {a : Addr} {o o' : AO} (ha : B a = some o) (m : Mod H a H') (e : H' a = some o') : Srt (upd B a o') H' st dd n2 nds rd po nf := by
  have ne : ∀ {b}, B b = none → b ≠ a := fun hb z => by rw [z, ha] at hb; cases hb
  have on : ∀ {b}, B b = none → (upd B a o') b = none := fun hb => by rw [upd_ne _ _ (ne hb)]; exact hb
  refine ⟨fun b ob hb => ?_, on S.o1, on S.o2, on S.o3, fun n hm => ⟨on (S.o4 n hm).1, on (S.o4 n hm).2.1, on (S.o4 n hm).2.2⟩, fun p hp => on (S.o5 p hp), m.get (ne S.o1) S.h1, m.get (ne S.o2) S.h2, S.h3.imp fun _ => m.get (ne S.o3),
    fun n hm => ⟨m.get (ne (S.o4 n hm).1) (S.h4 n hm).1, m.get (ne (S.o4 n hm).2.1) (S.h4 n hm).2.1, m.get (ne (S.o4 n hm).2.2) (S.h4 n hm).2.2⟩, fun p hp => ⟨m.get (ne (S.o5 p hp)) (S.h5 p hp).1, (S.h5 p hp).2⟩, S.d1, S.d2, S.d3⟩
  unfold upd at hb
  split at hb
  · rename_i z; cases hb; subst z; exact e
  · rename_i z; exact m.get z (S.ext.get hb)
theorem Srt.outNe (S : Srt B H st dd n2 nds rd po nf) {a b : Addr} {o : AO} (hb : B a = none) (h : B b = some o) : b ≠ a := fun z => by rw [z, hb] at h; cases h
theorem Srt.ns (S : Srt B H st dd n2 nds rd po nf) {rd' : Option (Addr × List Str)} {po' nf' : Int} (m : Mod H dd H') (e : H' dd = some (.ns (nsOf n2 rd' po' nf'))) (hr : ∀ p, rd' = some p → B p.1 = none ∧ H p.1 = some (.list (p.2.map V.str)) ∧ ∀ n ∈ nds, n.sa ≠ p.1) : Srt B H' st dd n2 nds rd' po' nf' := by
  refine ⟨fun b ob hb => m.get (S.outNe S.o2 hb) (S.ext.get hb), S.o1, S.o2, S.o3, S.o4, fun p hp => (hr p hp).1, m.mv S.h2 S.h1, e, S.h3.imp fun _ h => m.mv S.h2 h, fun n hm => ⟨m.mv S.h2 (S.h4 n hm).1, m.mv S.h2 (S.h4 n hm).2.1, m.mv S.h2 (S.h4 n hm).2.2⟩, fun p hp => ⟨m.mv S.h2 (hr p hp).2.1, (hr p hp).2.2⟩, S.d1, S.d2, S.d3⟩
theorem Srt.ns0 (S : Srt B H st dd n2 nds rd po nf) {po' nf' : Int} (m : Mod H dd H') (e : H' dd = some (.ns (nsOf n2 rd po' nf'))) : Srt B H' st dd n2 nds rd po' nf' :=
  S.ns m e fun p hp => ⟨S.o5 p hp, S.h5 p hp⟩
theorem Srt.rdy (S : Srt B H st dd n2 nds rd po nf) {rl : Addr} {xs xs' : List Str} (hr : rd = some (rl, xs)) (m : Mod H rl H') (e : H' rl = some (.list (xs'.map V.str))) : Srt B H' st dd n2 nds (some (rl, xs')) po nf := by
  subst hr
  obtain ⟨hl, hs⟩ := S.h5 _ rfl
  refine ⟨fun b ob hb => m.get (S.outNe (S.o5 _ rfl) hb) (S.ext.get hb), S.o1, S.o2, S.o3, S.o4, fun p hp => by cases hp; exact S.o5 (rl, xs) rfl, m.mv hl S.h1, m.mv hl S.h2, S.h3.imp fun _ h => m.mv hl h, fun n hm => ⟨m.mv hl (S.h4 n hm).1, m.mv hl (S.h4 n hm).2.1, m.get (hs n hm) (S.h4 n hm).2.2⟩, fun p hp => by cases hp; exact ⟨e, hs⟩, S.d1, S.d2, S.d3⟩
def setNd (nds : List Nd) (x : Str) (f : Nd → Nd) : List Nd := nds.map fun k => if k.nm = x then f k else k
theorem mem_setNd {x : Str} {f : Nd → Nd} {k : Nd} : k ∈ setNd nds x f ↔ ∃ k' ∈ nds, k = if k'.nm = x then f k' else k' := by
  simp [setNd, eq_comm]
theorem setNd_map {β : Type} {x : Str} {f : Nd → Nd} (g : Nd → β) (h : ∀ k, g (f k) = g k) : (setNd nds x f).map g = nds.map g := by
  unfold setNd
  rw [List.map_map]
  refine List.map_congr_left fun k _ => ?_
  show g (if k.nm = x then f k else k) = g k
  split <;> simp [h]
theorem nodup_key {α β : Type} {l : List α} {g : α → β} (h : (l.map g).Nodup) {a b : α} (ha : a ∈ l) (hb : b ∈ l) (e : g a = g b) : a = b := by
  induction l with
  | nil => cases ha
  | cons c r ih =>
    rw [List.map_cons, List.nodup_cons] at h
    rcases List.mem_cons.mp ha with rfl | ha' <;> rcases List.mem_cons.mp hb with rfl | hb'
    · rfl
    · exact absurd (List.mem_map_of_mem (f := g) hb') (by rw [← e]; exact h.1)
    · exact absurd (List.mem_map_of_mem (f := g) ha') (by rw [e]; exact h.1)
    · exact ih h.2 ha' hb'
def npF (v : Int) (k : Nd) : Nd := { k with np := v }
def suF (l : List Str) (k : Nd) : Nd := { k with su := l }
abbrev setNp (nds : List Nd) (x : Str) (v : Int) : List Nd := setNd nds x (npF v)
abbrev setSu (nds : List Nd) (x : Str) (l : List Str) : List Nd := setNd nds x (suF l)
theorem Srt.np (S : Srt B H st dd n2 nds rd po nf) {n : Nd} (hn : n ∈ nds) {v : Int} (m : Mod H n.ia H') (e : H' n.ia = some (.slots 205 n.na [some (.str n.nm), some (.int v), some (.ref n.sa)])) : Srt B H' st dd n2 (setNp nds n.nm v) rd po nf := by
  obtain ⟨a1, a2, a3⟩ := S.h4 n hn
  refine ⟨fun b ob hb => m.get (S.outNe (S.o4 n hn).1 hb) (S.ext.get hb), S.o1, S.o2, S.o3, fun k hk => ?_, S.o5, m.mv a1 S.h1, m.mv a1 S.h2, S.h3.imp fun _ h => ?_, fun k hk => ?_, fun p hp => ⟨m.mv a1 (S.h5 p hp).1, fun k hk => ?_⟩, ?_, ?_, ?_⟩
  · obtain ⟨k', hk', rfl⟩ := mem_setNd.mp hk
    have := S.o4 k' hk'
    split <;> exact this
  · rw [setNd_map (f := npF v) _ (fun k => rfl)]; exact m.mv a1 h
  · obtain ⟨k', hk', rfl⟩ := mem_setNd.mp hk
    obtain ⟨b1, b2, b3⟩ := S.h4 k' hk'
    by_cases z : k'.nm = n.nm
    · obtain rfl := nodup_key S.d1 hk' hn z
      rw [if_pos rfl]
      exact ⟨e, m.mv a1 b2, m.mv a1 b3⟩
    · rw [if_neg z]
      exact ⟨m.get (fun y => z (by rw [nodup_key S.d2 hk' hn y])) b1, m.mv a1 b2, m.mv a1 b3⟩
  · obtain ⟨k', hk', rfl⟩ := mem_setNd.mp hk
    have := (S.h5 p hp).2 k' hk'
    split <;> exact this
  · rw [setNd_map (f := npF v) _ (fun k => rfl)]; exact S.d1
  · rw [setNd_map (f := npF v) _ (fun k => rfl)]; exact S.d2
  · rw [setNd_map (f := npF v) _ (fun k => rfl)]; exact S.d3
theorem Srt.su (S : Srt B H st dd n2 nds rd po nf) {n : Nd} (hn : n ∈ nds) {l : List Str} (m : Mod H n.sa H') (e : H' n.sa = some (.list (l.map V.str))) : Srt B H' st dd n2 (setSu nds n.nm l) rd po nf := by
  obtain ⟨a1, a2, a3⟩ := S.h4 n hn
  refine ⟨fun b ob hb => m.get (S.outNe (S.o4 n hn).2.2 hb) (S.ext.get hb), S.o1, S.o2, S.o3, fun k hk => ?_, S.o5, m.mv a3 S.h1, m.mv a3 S.h2, S.h3.imp fun _ h => ?_, fun k hk => ?_, fun p hp => ⟨m.get (fun z => (S.h5 p hp).2 n hn z.symm) (S.h5 p hp).1, fun k hk => ?_⟩, ?_, ?_, ?_⟩
  · obtain ⟨k', hk', rfl⟩ := mem_setNd.mp hk
    have := S.o4 k' hk'
    split <;> exact this
  · rw [setNd_map (f := suF l) _ (fun k => rfl)]; exact m.mv a3 h
  · obtain ⟨k', hk', rfl⟩ := mem_setNd.mp hk
    obtain ⟨b1, b2, b3⟩ := S.h4 k' hk'
    by_cases z : k'.nm = n.nm
    · obtain rfl := nodup_key S.d1 hk' hn z
      rw [if_pos rfl]
      exact ⟨m.mv a3 b1, m.mv a3 b2, e⟩
    · rw [if_neg z]
      exact ⟨m.mv a3 b1, m.mv a3 b2, m.get (fun y => z (by rw [nodup_key S.d3 hk' hn y])) b3⟩
  · obtain ⟨k', hk', rfl⟩ := mem_setNd.mp hk
    have := (S.h5 p hp).2 k' hk'
    split <;> exact this
  · rw [setNd_map (f := suF l) _ (fun k => rfl)]; exact S.d1
  · rw [setNd_map (f := suF l) _ (fun k => rfl)]; exact S.d2
  · rw [setNd_map (f := suF l) _ (fun k => rfl)]; exact S.d3
theorem nds_lookup : ∀ {nds : List Nd} {x : Str}, (nds.map fun n => (n.nm, V.ref n.ia)).lookup x = (nds.find? fun n => n.nm == x).map fun n => V.ref n.ia
  | [], x => rfl
  | n :: r, x => by
    rw [List.map_cons, List.lookup_cons, List.find?_cons, nds_lookup (nds := r)]
    rw [show (x == n.nm) = (n.nm == x) from BEq.comm]
    cases n.nm == x <;> rfl
theorem nds_find {x : Str} {n : Nd} (h : nds.find? (fun n => n.nm == x) = some n) : n ∈ nds ∧ n.nm = x := ⟨List.mem_of_find?_eq_some h, by simpa using List.find?_some h⟩
theorem nds_find_of {n : Nd} (hd : (nds.map (·.nm)).Nodup) (hn : n ∈ nds) : nds.find? (fun k => k.nm == n.nm) = some n := by
  cases h : nds.find? (fun k => k.nm == n.nm) with
  | none => exact absurd (List.find?_eq_none.mp h n hn) (by simp)
  | some k => obtain ⟨a, b⟩ := nds_find h; rw [nodup_key hd a hn b]
def npOf (nds : List Nd) (y : Str) : Int := ((nds.find? fun n => n.nm == y).map (·.np)).getD 0
def suOf (nds : List Nd) (y : Str) : List Str := ((nds.find? fun n => n.nm == y).map (·.su)).getD []
abbrev nms (nds : List Nd) : List Str := nds.map (·.nm)
theorem find_setNd {x y : Str} {f : Nd → Nd} (hf : ∀ k, (f k).nm = k.nm) : (setNd nds x f).find? (fun n => n.nm == y) = (nds.find? fun n => n.nm == y).map fun k => if k.nm = x then f k else k := by
  unfold setNd
  rw [List.find?_map]
  congr 1
  congr 1
  funext k
  show ((if k.nm = x then f k else k).nm == y) = _
  split <;> simp [hf]
theorem npOf_setNp {x y : Str} {v : Int} (hx : x ∈ nms nds) : npOf (setNp nds x v) y = if y = x then v else npOf nds y := by
  unfold npOf setNp
  rw [find_setNd (f := npF v) (fun k => rfl)]
  cases h : nds.find? (fun n => n.nm == y) with
  | none =>
    rw [if_neg]
    · rfl
    · rintro rfl
      obtain ⟨n, hn, e⟩ := List.mem_map.mp hx
      exact absurd (List.find?_eq_none.mp h n hn) (by simp [e])
  | some k =>
    obtain ⟨_, rfl⟩ := nds_find h
    by_cases z : k.nm = x
    · simp [z, npF, suF]
    · simp [z]
theorem suOf_setNp {x y : Str} {v : Int} : suOf (setNp nds x v) y = suOf nds y := by
  unfold suOf setNp
  rw [find_setNd (f := npF v) (fun k => rfl)]
  cases h : nds.find? (fun n => n.nm == y) with
  | none => rfl
  | some k => by_cases z : k.nm = x <;> simp [z, npF, suF]
theorem npOf_setSu {x y : Str} {l : List Str} : npOf (setSu nds x l) y = npOf nds y := by
  unfold npOf setSu
  rw [find_setNd (f := suF l) (fun k => rfl)]
  cases h : nds.find? (fun n => n.nm == y) with
  | none => rfl
  | some k => by_cases z : k.nm = x <;> simp [z, npF, suF]
theorem suOf_setSu {x y : Str} {l : List Str} (hx : x ∈ nms nds) : suOf (setSu nds x l) y = if y = x then l else suOf nds y := by
  unfold suOf setSu
  rw [find_setNd (f := suF l) (fun k => rfl)]
  cases h : nds.find? (fun n => n.nm == y) with
  | none =>
    rw [if_neg]
    · rfl
    · rintro rfl
      obtain ⟨n, hn, e⟩ := List.mem_map.mp hx
      exact absurd (List.find?_eq_none.mp h n hn) (by simp [e])
  | some k =>
    obtain ⟨_, rfl⟩ := nds_find h
    by_cases z : k.nm = x
    · simp [z, npF, suF]
    · simp [z]
theorem nms_setNp {x : Str} {v : Int} : nms (setNp nds x v) = nms nds := setNd_map (f := npF v) _ fun _ => rfl
theorem nms_setSu {x : Str} {l : List Str} : nms (setSu nds x l) = nms nds := setNd_map (f := suF l) _ fun _ => rfl
theorem npOf_of {n : Nd} (hd : (nds.map (·.nm)).Nodup) (hn : n ∈ nds) : npOf nds n.nm = n.np := by unfold npOf; rw [nds_find_of hd hn]; rfl
theorem suOf_of {n : Nd} (hd : (nds.map (·.nm)).Nodup) (hn : n ∈ nds) : suOf nds n.nm = n.su := by unfold suOf; rw [nds_find_of hd hn]; rfl
theorem npOf_add {n : Nd} {y : Str} (h : n.nm ∉ nms nds) : npOf (nds ++ [n]) y = if y = n.nm then n.np else npOf nds y := by
  unfold npOf
  rw [List.find?_append]
  cases e : nds.find? (fun n => n.nm == y) with
  | none =>
    by_cases z : y = n.nm
    · simp [z]
    · have : (n.nm == y) = false := by simpa using fun w => z w.symm
      simp [z, this]
  | some k =>
    obtain ⟨a, rfl⟩ := nds_find e
    rw [if_neg fun z => h (by rw [← z]; exact List.mem_map_of_mem a)]
    rfl
theorem suOf_add {n : Nd} {y : Str} (h : n.nm ∉ nms nds) : suOf (nds ++ [n]) y = if y = n.nm then n.su else suOf nds y := by
  unfold suOf
  rw [List.find?_append]
  cases e : nds.find? (fun n => n.nm == y) with
  | none =>
    by_cases z : y = n.nm
    · simp [z]
    · have : (n.nm == y) = false := by simpa using fun w => z w.symm
      simp [z, this]
  | some k =>
    obtain ⟨a, rfl⟩ := nds_find e
    rw [if_neg fun z => h (by rw [← z]; exact List.mem_map_of_mem a)]
    rfl
end
theorem node_make : ∀ {c : Cx} {d : Nat} {p : Program} {loose : List Str} {mg mb : Str → Option Value} {H : AH} {P : V → AH → Prop} {X : Exc → AH → Prop} {x : Str}
    (hprog : c.prog = PySem.Challenge.rw_om0166_01.row.prog) (G : Gd (KF c.w.params) p loose mg mb c.g)
    (h : ∀ H' a dd sl, Ext H H' → H a = none → H dd = none → H sl = none → H' a = some (.slots 205 dd [some (.str x), some (.int 0), some (.ref sl)]) → H' dd = some (.ns []) → H' sl = some (.list []) → P (.ref a) H'), callP c (d + 2) (.ref 205) [.str x] [] H P X := by
  w_on
  k_fill
  intro c d p loose mg mb H P X x hprog G h
  refine' call_make (d := d + 1) (ao := fun dd => .slots 205 dd []) (fI := 201) G ?hm ?hi ?hf (fun _ => .inr rfl) ?_
  case hm => k_is
  case hi => k_is
  case hf => k_is
  intro dd a hne hdd ha
  refine node_init (d := d) hprog G (upd_self _ _ _) (by rw [upd_ne _ _ hne, upd_self]) fun H' sl n1 k1 e1 e2 => ⟨rfl, ?_⟩
  have q1 : sl ≠ a := fun z => by rw [z, upd_self] at n1; cases n1
  have q2 : sl ≠ dd := fun z => by rw [z, upd_ne _ _ hne, upd_self] at n1; cases n1
  refine h H' a dd sl (fun b o hb => ?_) ha hdd (by rw [upd_ne _ _ q1, upd_ne _ _ q2] at n1; exact n1) e1 (k1 dd _ (by rw [upd_ne _ _ hne, upd_self]) hne) e2
  have hb1 : b ≠ a := Ext.ne hb ha
  exact k1 b o (by rw [upd_ne _ _ hb1, upd_ne _ _ (Ext.ne hb hdd)]; exact hb) hb1
theorem get_nodeinfo : ∀ {c : Cx} {d : Nat} {p : Program} {loose : List Str} {mg mb : Str → Option Value} {B H : AH} {P : V → AH → Prop} {X : Exc → AH → Prop} {st dd n2 : Addr} {nds : List Nd} {rd : Option (Addr × List Str)} {po nf : Int} {x : Str}
    (hprog : c.prog = PySem.Challenge.rw_om0166_01.row.prog) (G : Gd (KF c.w.params) p loose mg mb c.g) (S : Srt B H st dd n2 nds rd po nf) (hl : nds.length ≤ 1000)
    (h : ∀ H' nds' n, Srt B H' st dd n2 nds' rd po nf → n ∈ nds' → n.nm = x → (nds' = nds ∨ x ∉ nms nds ∧ ∃ n', nds' = nds ++ [n'] ∧ n'.nm = x ∧ n'.np = 0 ∧ n'.su = []) → P (.ref n.ia) H'), callP c (d + 3) (.ref 245) [.ref st, .str x] [] H P X := by
  w_on
  k_fill
  intro c d p loose mg mb B H P X st dd n2 nds rd po nf x hprog G S hl h
  refine' enter (d := d + 2) (binds := [(Str.ofString "self", .ref st), (Str.ofString "node", .str x)]) G ?ho ?hcd ?hb ?hk ?hn ?hd ?_ ?c1 ?c2 ?c3
  ((case ho => k_is); (case hcd => k_is); (case hk => rfl); (case hn => decide +kernel); (case hd => exact of_decide_eq_true rfl); (case c1 => rfl); (case c2 => rfl); (case c3 => rfl); try (case hb => first | exact bnd0 rfl | exact bnd1 (fun _ => rfl) | exact bnd2 (fun _ _ => rfl) | exact bnd3 (fun _ _ _ => rfl)))
  intro A L
  have s1 := S.h1
  have s2 := S.h2
  obtain ⟨ep, s3⟩ := S.h3
  (refine awSs_consK fun Kz hz1 hz2 hz3 hz4 => ?_; refine awS_IfWalrus (by first | exact .inl rfl | exact .inr ⟨rfl, rfl⟩) ?_; refine awE_Meth (few := true) rfl rfl rfl (fun _ => rfl) (by intro _ h; first | rfl | cases h) ?_; refine awE_Attr rfl ?_; refine awE_Name (by first | rfl | assumption) ?_ rfl rfl; refine getAttr_inst (by assumption) (by assumption) (by assumption) (by k_is) (by k_is) (by k_is) (by k_is) rfl (by intro i h; cases h) ?_; refine awM_bi (by first | rfl | exact typeV_list (by assumption) | exact typeV_dict (by assumption) | exact typeV_set (by assumption)) (by decide) F.plainAttrs_dict F.slot_dict_get F.type_dict_get ⟨keepOk_builtin _, ?_⟩; refine awArgs_plain (fun _ _ h => nomatch h) ?_; refine awL_cons (fun _ _ h => nomatch h) ?_; refine awE_Name (by first | rfl | assumption) ?_ rfl rfl; refine awL_nil ?_; refine awCall_1 ?_; refine call_dict_get (by assumption) ?_)
  rw [nds_lookup]
  cases hf : nds.find? (fun n => n.nm == x) with
  | some n =>
    obtain ⟨f1, f2⟩ := nds_find hf
    refine ⟨false, rfl, ?_⟩
    (refine ite_f (by first | rfl | assumption) ?_; refine awSs_nil ?_; apply_assumption; refine awSs_consK fun Kz hz1 hz2 hz3 hz4 => ?_; refine awS_Return ?_; refine awE_Name (by first | rfl | assumption) ?_ rfl rfl; apply_assumption)
    exact h H nds n S f1 f2 (.inl rfl)
  | none =>
    refine ⟨true, rfl, ?_⟩
    (refine ite_t (by first | rfl | assumption) ?_; refine awSs_consK fun Kz hz1 hz2 hz3 hz4 => ?_; refine awS_AssignSubName (by first | exact .inl rfl | exact .inr ⟨rfl, rfl⟩) rfl rfl ?_; refine awE_Call (by intro o n ap h; cases h) (fun _ => rfl) (by intro _ h; first | rfl | cases h) ?_; refine awE_Glob (by assumption) rfl (by k_is) ?_ rfl; refine ⟨_, rfl, (by first | exact keepOk_type _ | exact keepOk_builtin _ | exact keepOk_K (by assumption) (by k_is)), ?_⟩; refine awArgs_plain (fun _ _ h => nomatch h) ?_; refine awL_cons (fun _ _ h => nomatch h) ?_; refine awE_Name (by first | rfl | assumption) ?_ rfl rfl; refine awL_nil ?_)
    refine awCall_of (node_make hprog G fun H₁ a d1 sl x1 na nd nsl e1 e2 e3 => ?_)
    have S1 := S.more x1
    have t1 := S1.h1
    have t2 := S1.h2
    have t3 := x1.get s3
    (refine awE_Attr rfl ?_; refine awE_Name (by first | rfl | assumption) ?_ rfl rfl; refine getAttr_inst (by assumption) (by assumption) (by assumption) (by k_is) (by k_is) (by k_is) (by k_is) rfl (by intro i h; cases h) ?_; refine awE_Name (by first | rfl | assumption) ?_ rfl rfl)
    refine ⟨n2, _, ep, x, rfl, rfl, t3, by simpa using hl, fun ep' => ?_⟩
    (apply_assumption; refine awSs_nil ?_; apply_assumption; refine awSs_consK fun Kz hz1 hz2 hz3 hz4 => ?_; refine awS_Return ?_; refine awE_Name (by first | rfl | assumption) ?_ rfl rfl; apply_assumption)
    have hx : x ∉ nms nds := fun hm => by
      obtain ⟨k, hk, rfl⟩ := List.mem_map.mp hm
      exact absurd (List.find?_eq_none.mp hf k hk) (by simp)
    have hput : putD (nds.map fun n => (n.nm, V.ref n.ia)) x (.ref a) = (nds ++ [Nd.mk x a d1 sl 0 []]).map fun n => (n.nm, V.ref n.ia) := by
      unfold putD
      rw [if_neg, List.map_append]
      · rfl
      · intro z
        obtain ⟨k, hk, e⟩ := List.any_eq_true.mp z
        obtain ⟨n, hn, rfl⟩ := List.mem_map.mp hk
        exact hx (List.mem_map.mpr ⟨n, hn, by simpa using e⟩)
    rw [hput]
    have mm : Mod H₁ n2 (upd H₁ n2 (.dict ((nds ++ [Nd.mk x a d1 sl 0 []]).map fun n => (n.nm, V.ref n.ia)) ep')) := Mod.upd _ _ _
    have me := upd_self H₁ n2 (.dict ((nds ++ [Nd.mk x a d1 sl 0 []]).map fun n => (n.nm, V.ref n.ia)) ep')
    have fr : ∀ {b o}, B b = some o → H b = some o := fun hb => S.ext.get hb
    have Bn : ∀ {b}, H b = none → B b = none := fun {b} hb => S.ext.none hb
    refine h _ (nds ++ [Nd.mk x a d1 sl 0 []]) (Nd.mk x a d1 sl 0 []) ?_ (by simp) rfl (.inr ⟨hx, _, rfl, rfl, rfl, rfl⟩)
    refine ⟨fun b o hb => mm.get (S.outNe S.o3 hb) (S1.ext.get hb), S.o1, S.o2, S.o3, fun n hn => ?_, S.o5, mm.mv t3 t1, mm.mv t3 t2, ⟨ep', me⟩, fun n hn => ?_, fun p hp => ⟨mm.mv t3 (S1.h5 p hp).1, fun n hn => ?_⟩, ?_, ?_, ?_⟩
    · rcases List.mem_append.mp hn with hn | hn
      · exact S.o4 n hn
      · rw [List.mem_singleton.mp hn]; exact ⟨Bn na, Bn nd, Bn nsl⟩
    · rcases List.mem_append.mp hn with hn | hn
      · exact ⟨mm.mv t3 (S1.h4 n hn).1, mm.mv t3 (S1.h4 n hn).2.1, mm.mv t3 (S1.h4 n hn).2.2⟩
      · rw [List.mem_singleton.mp hn]; exact ⟨mm.mv t3 e1, mm.mv t3 e2, mm.mv t3 e3⟩
    · rcases List.mem_append.mp hn with hn | hn
      · exact (S.h5 p hp).2 n hn
      · rw [List.mem_singleton.mp hn]; exact fun z => by have := (S.h5 p hp).1; rw [← z, nsl] at this; cases this
    · rw [List.map_append, List.nodup_append]
      exact ⟨S.d1, by simp, fun y hy z hz => by rw [List.map_singleton, List.mem_singleton] at hz; subst hz; exact fun w => hx (by rw [← w]; exact hy)⟩
    · rw [List.map_append, List.nodup_append]
      refine ⟨S.d2, by simp, fun y hy z hz => ?_⟩
      rw [List.map_singleton, List.mem_singleton] at hz; subst hz
      obtain ⟨n, hn, rfl⟩ := List.mem_map.mp hy
      exact Ext.ne (S.h4 n hn).1 na
    · rw [List.map_append, List.nodup_append]
      refine ⟨S.d3, by simp, fun y hy z hz => ?_⟩
      rw [List.map_singleton, List.mem_singleton] at hz; subst hz
      obtain ⟨n, hn, rfl⟩ := List.mem_map.mp hy
      exact Ext.ne (S.h4 n hn).2.2 nsl
theorem npOf_none {nds : List Nd} {x : Str} (h : x ∉ nms nds) : npOf nds x = 0 := by
  unfold npOf
  rw [List.find?_eq_none.mpr]
  · rfl
  · intro n hn z; exact h (List.mem_map.mpr ⟨n, hn, by simpa using z⟩)
theorem suOf_none {nds : List Nd} {x : Str} (h : x ∉ nms nds) : suOf nds x = [] := by
  unfold suOf
  rw [List.find?_eq_none.mpr]
  · rfl
  · intro n hn z; exact h (List.mem_map.mpr ⟨n, hn, by simpa using z⟩)
theorem grown {nds nds' : List Nd} {n : Nd} {x : Str} (hn : n ∈ nds') (hx : n.nm = x) (h : nds' = nds ∨ x ∉ nms nds ∧ ∃ n', nds' = nds ++ [n'] ∧ n'.nm = x ∧ n'.np = 0 ∧ n'.su = []) :
    (∀ z, z ∈ nms nds' ↔ z ∈ nms nds ∨ z = x) ∧ (∀ z, npOf nds' z = npOf nds z) ∧ (∀ z, suOf nds' z = suOf nds z) ∧ nds'.length ≤ nds.length + 1 := by
  rcases h with rfl | ⟨h1, n', rfl, rfl, h3, h4⟩
  · refine ⟨fun z => ⟨.inl, fun h => h.elim id fun h => ?_⟩, fun _ => rfl, fun _ => rfl, Nat.le_succ _⟩
    rw [h, ← hx]; exact List.mem_map_of_mem hn
  · refine ⟨fun z => by simp, fun z => ?_, fun z => ?_, by simp⟩
    · rw [npOf_add h1]
      split
      · rename_i e; rw [e, npOf_none h1, h3]
      · rfl
    · rw [suOf_add h1]
      split
      · rename_i e; rw [e, suOf_none h1, h4]
      · rfl
inductive SaddJ (B : AH) (st dd n2 : Addr) (nds : List Nd) (po nf : Int) (nm : Str) (len : Nat) (dn rest : List Str) (m' : Map) (H' : AH) : Prop
  | mk (nds' : List Nd) (S : Srt B H' st dd n2 nds' none po nf) (w1 : ∀ z, z ∈ nms nds' ↔ z ∈ nms nds ∨ z = nm ∨ z ∈ dn) (w2 : nds'.length ≤ nds.length + 1 + dn.length) (w3 : ∀ z, npOf nds' z = npOf nds z + if z = nm then (len : Int) else 0) (w4 : ∀ z, suOf nds' z = suOf nds z ++ List.replicate (dn.count z) nm) (w5 : m' (Str.ofString "self") = some (.ref st)) (w6 : m' (Str.ofString "node") = some (.str nm))
theorem sadd : ∀ {c : Cx} {d : Nat} {p : Program} {loose : List Str} {mg mb : Str → Option Value} {B H : AH} {P : V → AH → Prop} {X : Exc → AH → Prop} {st dd n2 : Addr} {nds : List Nd} {po nf : Int} {x : Str} {ys : List Str}
    (hprog : c.prog = PySem.Challenge.rw_om0166_01.row.prog) (G : Gd (KF c.w.params) p loose mg mb c.g) (S : Srt B H st dd n2 nds none po nf) (hl : nds.length + ys.length < 1000) (hsu : ∀ z, (suOf nds z).length ≤ 1000)
    (h : ∀ H' nds', Srt B H' st dd n2 nds' none po nf → (∀ z, z ∈ nms nds' ↔ z ∈ nms nds ∨ z = x ∨ z ∈ ys) → nds'.length ≤ nds.length + 1 + ys.length → (∀ z, npOf nds' z = npOf nds z + if z = x then (ys.length : Int) else 0) → (∀ z, suOf nds' z = suOf nds z ++ List.replicate (ys.count z) x) → P .none H'), callP c (d + 4) (.ref 252) (.ref st :: .str x :: ys.map V.str) [] H P X := by
  w_on
  k_fill
  intro c d p loose mg mb B H P X st dd n2 nds po nf x ys hprog G S hl hsu h
  refine' enterS (d := d + 3) G ?ho ?hcd ?hn ?hb ?c1 ?c2 ?c3
  case ho => k_is
  case hcd => k_is
  case hn => decide +kernel
  case c1 => rfl
  case c2 => rfl
  case c3 => rfl
  intro s ws kvs R KX hv hk
  obtain rfl := kvs_nil hk
  obtain ⟨v, _, rfl, a, v', ws, rfl, b, hws⟩ := hv
  have tk : TK s.heap (s.heap.push { cls := .type "tuple", data := .seq ws.toArray }) := TK.of_keeps fun _ _ e => Heap.get?_push_of_some _ e
  refine ⟨[(Str.ofString "self", .ref st), (Str.ofString "node", .str x), (Str.ofString "predecessors", .tup (ys.map V.str))], H,
    [(Str.ofString "self", v), (Str.ofString "node", v'), (Str.ofString "predecessors", .ref s.heap.objs.size)], { s with heap := s.heap.push { cls := .type "tuple", data := .seq ws.toArray } }, ?_, rfl, ?_, ?_, ?_, rfl, of_decide_eq_true rfl, ?_⟩
  · intro M A E Q hq
    have hlen : ws.length ≤ sizeLine := by rw [← hws.length, List.length_map]; exact Nat.le_trans (by omega : ys.length ≤ 1000) (by decide)
    unfold bindArgs
    dsimp only
    simp only [Option.isNone_some, Bool.and_false, Bool.false_eq_true, if_false]
    show wpAny M A (newTuple ws >>= fun t => pure [(Str.ofString "self", v), (Str.ofString "node", v'), (Str.ofString "predecessors", t)]) Q E s
    exact wpAny_bind (wpAny_newTuple (wpAny_pure hq))
  · exact ⟨v, _, rfl, a.mono tk, v', _, rfl, b.mono tk, _, _, rfl, ⟨_, ws.toArray, rfl, ⟨_, Heap.get?_push_size _ rfl, rfl, _, rfl⟩, hws.mono tk⟩, rfl⟩
  · exact R.push0 _ s.toks
  · exact Step.push0 _ _ _ _
  clear R KX a b hws tk
  intro A L
  have s1 := S.h1
  have s2 := S.h2
  (refine awSs_consK fun Kz hz1 hz2 hz3 hz4 => ?_; refine awS_If ?_; refine awB_Compare rfl ?_; refine awE_Attr rfl ?_; refine awE_Name (by first | rfl | assumption) ?_ rfl rfl; refine getAttr_inst (by assumption) (by assumption) (by assumption) (by k_is) (by k_is) (by k_is) (by k_is) rfl (by intro i h; cases h) ?_; refine awE_Const rfl ?_; refine isnot_none rfl ?_; refine ⟨_, rfl, ?_⟩; refine ite_f (by first | rfl | assumption) ?_; refine awSs_nil ?_; apply_assumption; refine awSs_AssignK (by first | exact .inl rfl | exact .inr ⟨rfl, rfl⟩) rfl fun Kz hz1 => ?_; refine awE_Meth (few := true) rfl rfl rfl (fun _ => rfl) (by intro _ h; first | rfl | cases h) ?_; refine awE_Name (by first | rfl | assumption) ?_ rfl rfl; refine awM_inst (by assumption) (by assumption) (by assumption) (by k_is) (by k_is) (by k_is) rfl ⟨keepOk_K (by assumption) (by k_is), ?_⟩; refine awArgs_plain (fun _ _ h => nomatch h) ?_; refine awL_cons (fun _ _ h => nomatch h) ?_; refine awE_Name (by first | rfl | assumption) ?_ rfl rfl; refine awL_nil ?_; refine awCall_1 ?_)
  refine awCall_of (get_nodeinfo hprog G S (by omega) fun H1 nds1 n S1 n1 n2' hg => ?_)
  obtain ⟨g1, g2, g3, g4⟩ := grown n1 n2' hg
  obtain ⟨t1, t2, t3⟩ := S1.h4 n n1
  (apply_assumption; refine awSs_consK fun Kz hz1 hz2 hz3 hz4 => ?_; refine awS_AugAttr ?_; refine awE_Name (by first | rfl | assumption) ?_ rfl rfl; refine getAttr_slot (by assumption) (by assumption) (by assumption) (by k_is) (by k_is) (by k_is) (by k_is) (by k_is) (by k_is) rfl (by intro i h; cases h) ?_; refine awE_Call (by intro o n ap h; cases h) (fun _ => rfl) (by intro _ h; first | rfl | cases h) ?_; refine awE_Bltn (by assumption) rfl (by k_is) (by first | boot_by_name | rfl) (by decide) ?_ rfl; refine ⟨_, rfl, (by first | exact keepOk_type _ | exact keepOk_builtin _ | exact keepOk_K (by assumption) (by k_is)), ?_⟩; refine awArgs_plain (fun _ _ h => nomatch h) ?_; refine awL_cons (fun _ _ h => nomatch h) ?_; refine awE_Name (by first | rfl | assumption) ?_ rfl rfl; refine awL_nil ?_)
  refine call_len_t (by simp; omega) ?_
  (refine iadd_ints ?_; refine set_slots_x (by assumption) (by assumption) (by assumption) (by k_is) (by k_is) (by k_is) (by k_is) (by k_is) (by decide) ?_)
  intro H2 m2 e2
  have S2 := S1.np n1 m2 e2
  subst n2'
  have v1 := npOf_of S1.d1 n1
  (apply_assumption; refine awSs_consK fun Kz hz1 hz2 hz3 hz4 => ?_; refine awS_For rfl (fun _ => rfl) (by first | (show Storable _ _; exact .inl rfl) | (show Storable _ _; exact .inr ⟨rfl, rfl⟩) | exact (Or.inl rfl : Storable _ _) | exact (Or.inr ⟨rfl, rfl⟩ : Storable _ _) | exact ⟨(Or.inl rfl : Storable _ _), (Or.inl rfl : Storable _ _)⟩) ?_; refine awE_Name (by first | rfl | assumption) ?_ rfl rfl)
  refine ⟨_, ys.map V.str, rfl, ?_⟩
  refine forP_J V.str (SaddJ B st dd n2 nds po nf n.nm ys.length) ?_ ?_ ?_
  · rintro m' H' ⟨nds', S', w1, w2, w3, w4, w5, w6⟩
    refine ⟨rfl, ?_⟩
    (apply_assumption; refine awSs_nil ?_)
    exact h H' nds' S' w1 w2 w3 w4
  · rintro dn y r m' H' hys ⟨nds', S', w1, w2, w3, w4, w5, w6⟩
    refine ⟨rfl, fun K hn _ _ _ => ⟨_, rfl, ?_⟩⟩
    have q1 := S'.h1
    have q2 := S'.h2
    have hlen := congrArg List.length hys
    simp only [List.length_append, List.length_cons] at hlen
    (refine awSs_AssignK (by first | exact .inl rfl | exact .inr ⟨rfl, rfl⟩) rfl fun Kz hz1 => ?_; refine awE_Meth (few := true) rfl rfl rfl (fun _ => rfl) (by intro _ h; first | rfl | cases h) ?_; refine awE_Name (by first | rfl | assumption) ?_ rfl rfl; refine awM_inst (by assumption) (by assumption) (by assumption) (by k_is) (by k_is) (by k_is) rfl ⟨keepOk_K (by assumption) (by k_is), ?_⟩; refine awArgs_plain (fun _ _ h => nomatch h) ?_; refine awL_cons (fun _ _ h => nomatch h) ?_; refine awE_Name (by first | rfl | assumption) ?_ rfl rfl; refine awL_nil ?_; refine awCall_1 ?_)
    refine awCall_of (get_nodeinfo hprog G S' (by omega) fun H3 nds3 k S3 k1 k2 hg3 => ?_)
    obtain ⟨f1, f2, f3, f4⟩ := grown k1 k2 hg3
    obtain ⟨u1, u2, u3⟩ := S3.h4 k k1
    subst k2
    have v3 := suOf_of S3.d1 k1
    (apply_assumption; refine awSs_ExprK rfl rfl fun Kz hz1 => ?_; refine awE_Meth (few := true) rfl rfl rfl (fun _ => rfl) (by intro _ h; first | rfl | cases h) ?_; refine awE_Attr rfl ?_; refine awE_Name (by first | rfl | assumption) ?_ rfl rfl; refine getAttr_slot (by assumption) (by assumption) (by assumption) (by k_is) (by k_is) (by k_is) (by k_is) (by k_is) (by k_is) rfl (by intro i h; cases h) ?_; refine awM_bi (by first | rfl | exact typeV_list (by assumption) | exact typeV_dict (by assumption) | exact typeV_set (by assumption)) (by decide) F.plainAttrs_list F.slot_list_append F.type_list_append ⟨keepOk_builtin _, ?_⟩; refine awArgs_plain (fun _ _ h => nomatch h) ?_; refine awL_cons (fun _ _ h => nomatch h) ?_; refine awE_Name (by first | rfl | assumption) ?_ rfl rfl; refine awL_nil ?_; refine awCall_1 ?_)
    refine call_appendX u3 ?_ fun H4 m4 e4 => ?_
    · have z1 := w4 k.nm
      have z2 := hsu k.nm
      have z3 := List.count_le_length (a := k.nm) (l := dn)
      rw [← f3, v3] at z1
      rw [List.length_map, z1, List.length_append, List.length_replicate]
      omega
    have e4' : H4 k.sa = some (.list ((k.su ++ [n.nm]).map V.str)) := by rw [List.map_append]; exact e4
    have S4 := S3.su k1 m4 e4'
    (apply_assumption; refine awSs_nil ?_)
    refine hn _ _ ⟨_, S4, fun z => ?_, ?_, fun z => ?_, fun z => ?_, w5, w6⟩
    · rw [nms_setSu, f1, w1, List.mem_append, List.mem_singleton]
      constructor
      · rintro ((h | h | h) | h)
        · exact .inl h
        · exact .inr (.inl h)
        · exact .inr (.inr (.inl h))
        · exact .inr (.inr (.inr h))
      · rintro (h | h | h | h)
        · exact .inl (.inl h)
        · exact .inl (.inr (.inl h))
        · exact .inl (.inr (.inr h))
        · exact .inr h
    · have : (setSu nds3 k.nm (k.su ++ [n.nm])).length = nds3.length := by simp [setNd]
      rw [this, List.length_append]
      simp only [List.length_cons, List.length_nil]; omega
    · rw [npOf_setSu, f2, w3]
    · rw [suOf_setSu (List.mem_map_of_mem k1), List.count_append, List.count_singleton]
      by_cases z1 : z = k.nm
      · subst z1
        rw [if_pos rfl, ← v3, f3, w4, if_pos (by simp), ← List.replicate_append_replicate]
        simp
      · rw [if_neg z1, f3, w4, if_neg (by simpa using fun y => z1 y.symm)]
        simp
  · refine ⟨_, S2, fun z => ?_, ?_, fun z => ?_, fun z => ?_, rfl, rfl⟩
    · rw [nms_setNp, g1]; simp
    · have : (setNp nds1 n.nm (n.np + (ys.map V.str).length)).length = nds1.length := by simp [setNd]
      rw [this]; simpa using g4
    · rw [npOf_setNp (List.mem_map_of_mem n1), ← v1, g2]
      split
      · rename_i e; rw [e, List.length_map]
      · simp; exact g2 z
    · rw [suOf_setNp, g3]; simp
abbrev shp (nds : List Nd) : List Nd := nds.map (npF 0)
theorem shp_setNp {nds : List Nd} {x : Str} {v : Int} : shp (setNp nds x v) = shp nds := setNd_map (f := npF v) _ fun _ => rfl
theorem shp_nms {nds nds' : List Nd} (h : shp nds' = shp nds) : nms nds' = nms nds := by
  have := congrArg (List.map (·.nm)) h
  rw [List.map_map, List.map_map] at this
  exact this
theorem shp_mem {nds nds' : List Nd} (h : shp nds' = shp nds) {n : Nd} (hn : n ∈ nds) : ∃ k ∈ nds', k.nm = n.nm ∧ k.ia = n.ia ∧ k.na = n.na ∧ k.sa = n.sa ∧ k.su = n.su := by
  have h1 : npF 0 n ∈ shp nds' := by rw [h]; exact List.mem_map_of_mem hn
  obtain ⟨k, hk, e⟩ := List.mem_map.mp h1
  exact ⟨k, hk, (show (npF 0 k).nm = (npF 0 n).nm by rw [e]), (show (npF 0 k).ia = (npF 0 n).ia by rw [e]), (show (npF 0 k).na = (npF 0 n).na by rw [e]), (show (npF 0 k).sa = (npF 0 n).sa by rw [e]), (show (npF 0 k).su = (npF 0 n).su by rw [e])⟩
theorem shp_su : ∀ {nds nds' : List Nd} (h : shp nds' = shp nds) (z : Str), suOf nds' z = suOf nds z
  | [], [], _, _ => rfl
  | [], _ :: _, h, _ => by simp at h
  | _ :: _, [], h, _ => by simp at h
  | a :: r, b :: r', h, z => by
    simp only [shp, List.map_cons, List.cons.injEq] at h
    obtain ⟨e, h⟩ := h
    have i := shp_su (nds := r) (nds' := r') h z
    have e1 : b.nm = a.nm := show (npF 0 b).nm = (npF 0 a).nm by rw [e]
    have e2 : b.su = a.su := show (npF 0 b).su = (npF 0 a).su by rw [e]
    unfold suOf at i ⊢
    rw [List.find?_cons, List.find?_cons, e1]
    cases (a.nm == z)
    · exact i
    · show b.su = a.su; exact e2
theorem mem_nms {nds : List Nd} {z : Str} (h : z ∈ nms nds) : ∃ n ∈ nds, n.nm = z := List.mem_map.mp h
theorem get_ready : ∀ {c : Cx} {d : Nat} {p : Program} {loose : List Str} {mg mb : Str → Option Value} {B H : AH} {P : V → AH → Prop} {X : Exc → AH → Prop} {st dd n2 rl : Addr} {nds : List Nd} {po nf : Int} {xs : List Str}
    (hprog : c.prog = PySem.Challenge.rw_om0166_01.row.prog) (G : Gd (KF c.w.params) p loose mg mb c.g) (S : Srt B H st dd n2 nds (some (rl, xs)) po nf) (hx : ∀ x ∈ xs, x ∈ nms nds) (hl : xs.length ≤ 1000)
    (h : ∀ H' nds', Srt B H' st dd n2 nds' (some (rl, [])) (po + xs.length) nf → shp nds' = shp nds → (∀ z, npOf nds' z = if z ∈ xs then -1 else npOf nds z) → P (.tup (xs.map V.str)) H'), callP c (d + 1) (.ref 264) [.ref st] [] H P X := by
  w_on
  k_fill
  intro c d p loose mg mb B H P X st dd n2 rl nds po nf xs hprog G S hx hl h
  refine' enter (d := d) (binds := [(Str.ofString "self", .ref st)]) G ?ho ?hcd ?hb ?hk ?hn ?hd ?_ ?c1 ?c2 ?c3
  ((case ho => k_is); (case hcd => k_is); (case hk => rfl); (case hn => decide +kernel); (case hd => exact of_decide_eq_true rfl); (case c1 => rfl); (case c2 => rfl); (case c3 => rfl); try (case hb => first | exact bnd0 rfl | exact bnd1 (fun _ => rfl) | exact bnd2 (fun _ _ => rfl) | exact bnd3 (fun _ _ _ => rfl)))
  intro A L
  have s1 := S.h1
  have s2 := S.h2
  obtain ⟨ep, s3⟩ := S.h3
  obtain ⟨s5, s6⟩ := S.h5 _ rfl
  dsimp only at s5 s6
  (refine awSs_consK fun Kz hz1 hz2 hz3 hz4 => ?_; refine awS_If ?_; refine awB_Compare rfl ?_; refine awE_Attr rfl ?_; refine awE_Name (by first | rfl | assumption) ?_ rfl rfl; refine getAttr_inst (by assumption) (by assumption) (by assumption) (by k_is) (by k_is) (by k_is) (by k_is) rfl (by intro i h; cases h) ?_; refine awE_Const rfl ?_; refine is_none rfl ?_; refine ⟨_, rfl, ?_⟩; refine ite_f (by first | rfl | assumption) ?_; refine awSs_nil ?_; apply_assumption; refine awSs_AssignK (by first | exact .inl rfl | exact .inr ⟨rfl, rfl⟩) rfl fun Kz hz1 => ?_; refine awE_Call (by intro o n ap h; cases h) (fun _ => rfl) (by intro _ h; first | rfl | cases h) ?_; refine awE_Bltn (by assumption) rfl (by k_is) (by first | boot_by_name | rfl) (by decide) ?_ rfl; refine ⟨_, rfl, (by first | exact keepOk_type _ | exact keepOk_builtin _ | exact keepOk_K (by assumption) (by k_is)), ?_⟩; refine awArgs_plain (fun _ _ h => nomatch h) ?_; refine awL_cons (fun _ _ h => nomatch h) ?_; refine awE_Attr rfl ?_; refine awE_Name (by first | rfl | assumption) ?_ rfl rfl; refine getAttr_inst (by assumption) (by assumption) (by assumption) (by k_is) (by k_is) (by k_is) (by k_is) rfl (by intro i h; cases h) ?_; refine awL_nil ?_)
  refine call_tuple_l s5 (by simpa using Nat.le_trans hl (by decide)) ?_
  (apply_assumption; refine awSs_AssignK (by first | exact .inl rfl | exact .inr ⟨rfl, rfl⟩) rfl fun Kz hz1 => ?_; refine awE_Attr rfl ?_; refine awE_Name (by first | rfl | assumption) ?_ rfl rfl; refine getAttr_inst (by assumption) (by assumption) (by assumption) (by k_is) (by k_is) (by k_is) (by k_is) rfl (by intro i h; cases h) ?_; apply_assumption; refine awSs_consK fun Kz hz1 hz2 hz3 hz4 => ?_; refine awS_For rfl (fun _ => rfl) (by first | (show Storable _ _; exact .inl rfl) | (show Storable _ _; exact .inr ⟨rfl, rfl⟩) | exact (Or.inl rfl : Storable _ _) | exact (Or.inr ⟨rfl, rfl⟩ : Storable _ _) | exact ⟨(Or.inl rfl : Storable _ _), (Or.inl rfl : Storable _ _)⟩) ?_; refine awE_Name (by first | rfl | assumption) ?_ rfl rfl)
  refine ⟨_, xs.map V.str, rfl, ?_⟩
  refine forP_J V.str (fun dn rest m' H' => ∃ nds', Srt B H' st dd n2 nds' (some (rl, xs)) po nf ∧ shp nds' = shp nds ∧ (∀ z, npOf nds' z = if z ∈ dn then -1 else npOf nds z) ∧ m' (Str.ofString "self") = some (.ref st) ∧ m' (Str.ofString "n2i") = some (.ref n2) ∧ m' (Str.ofString "result") = some (.tup (xs.map V.str))) ?_ ?_ ⟨nds, S, rfl, fun z => by simp, rfl, rfl, rfl⟩
  · rintro m' H' ⟨nds', S', w1, w2, w3, w4, w5⟩
    refine ⟨rfl, ?_⟩
    have q1 := S'.h1
    have q2 := S'.h2
    have q5 := (S'.h5 _ rfl).1
    dsimp only at q5
    (apply_assumption; refine awSs_ExprK rfl rfl fun Kz hz1 => ?_; refine awE_Meth (few := true) rfl rfl rfl (fun _ => rfl) (by intro _ h; first | rfl | cases h) ?_; refine awE_Attr rfl ?_; refine awE_Name (by first | rfl | assumption) ?_ rfl rfl; refine getAttr_inst (by assumption) (by assumption) (by assumption) (by k_is) (by k_is) (by k_is) (by k_is) rfl (by intro i h; cases h) ?_; refine awM_bi (by first | rfl | exact typeV_list (by assumption) | exact typeV_dict (by assumption) | exact typeV_set (by assumption)) (by decide) F.plainAttrs_list F.slot_list_clear F.type_list_clear ⟨keepOk_builtin _, ?_⟩; refine awArgs_nil ?_; refine awCall_1 ?_)
    refine call_clearX q5 (by simpa using Nat.le_trans hl (by decide)) fun H1 m1 e1 => ?_
    have S1 := S'.rdy (xs' := []) rfl m1 e1
    have t1 := S1.h1
    have t2 := S1.h2
    (apply_assumption; refine awSs_consK fun Kz hz1 hz2 hz3 hz4 => ?_; refine awS_AugAttr ?_; refine awE_Name (by first | rfl | assumption) ?_ rfl rfl; refine getAttr_inst (by assumption) (by assumption) (by assumption) (by k_is) (by k_is) (by k_is) (by k_is) rfl (by intro i h; cases h) ?_; refine awE_Call (by intro o n ap h; cases h) (fun _ => rfl) (by intro _ h; first | rfl | cases h) ?_; refine awE_Bltn (by assumption) rfl (by k_is) (by first | boot_by_name | rfl) (by decide) ?_ rfl; refine ⟨_, rfl, (by first | exact keepOk_type _ | exact keepOk_builtin _ | exact keepOk_K (by assumption) (by k_is)), ?_⟩; refine awArgs_plain (fun _ _ h => nomatch h) ?_; refine awL_cons (fun _ _ h => nomatch h) ?_; refine awE_Name (by first | rfl | assumption) ?_ rfl rfl; refine awL_nil ?_)
    refine call_len_t (by simpa using Nat.le_trans hl (by decide)) ?_
    (refine iadd_ints ?_; refine set_inst_x (by assumption) (by assumption) (by assumption) (by k_is) (by k_is) (by k_is) (by k_is) (by first | decide | exact Nat.le_of_ble_eq_true rfl) ?_)
    intro H2 m2 e2
    rw [List.length_map] at e2
    have S2 := S1.ns0 (po' := po + xs.length) (nf' := nf) m2 e2
    (apply_assumption; refine awSs_consK fun Kz hz1 hz2 hz3 hz4 => ?_; refine awS_Return ?_; refine awE_Name (by first | rfl | assumption) ?_ rfl rfl; apply_assumption)
    exact h H2 nds' S2 w1 w2
  · rintro dn y r m' H' hys ⟨nds', S', w1, w2, w3, w4, w5⟩
    refine ⟨rfl, fun K hn _ _ _ => ⟨_, rfl, ?_⟩⟩
    have hy : y ∈ nms nds' := by rw [shp_nms w1]; exact hx y (by rw [hys]; simp)
    obtain ⟨k, hk, rfl⟩ := mem_nms hy
    obtain ⟨ep', q3⟩ := S'.h3
    obtain ⟨u1, u2, u3⟩ := S'.h4 k hk
    (refine awSs_consK fun Kz hz1 hz2 hz3 hz4 => ?_; refine awS_SetAttr rfl rfl ?_; refine awE_Glob (by assumption) rfl (by k_is) ?_ rfl; refine awE_Sub (by intro _ _ _ h; cases h) ?_; refine awE_Name (by first | rfl | assumption) ?_ rfl rfl; refine awE_Name (by first | rfl | assumption) ?_ rfl rfl)
    refine sub_dict q3 (by rw [nds_lookup, nds_find_of S'.d1 hk]; rfl) ?_
    (refine set_slots_x (by assumption) (by assumption) (by assumption) (by k_is) (by k_is) (by k_is) (by k_is) (by k_is) (by decide) ?_)
    intro H1 m1 e1
    have S1 := S'.np hk m1 e1
    (apply_assumption; refine awSs_nil ?_)
    refine hn _ _ ⟨_, S1, shp_setNp.trans w1, fun z => ?_, w3, w4, w5⟩
    rw [npOf_setNp (List.mem_map_of_mem hk), w2]
    by_cases z1 : z = k.nm
    · rw [if_pos z1, if_pos (by simp [z1])]
    · rw [if_neg z1]
      by_cases z2 : z ∈ dn
      · rw [if_pos z2, if_pos (by simp [z2])]
      · rw [if_neg z2, if_neg (by simp [z1, z2])]
theorem is_active : ∀ {c : Cx} {d : Nat} {p : Program} {loose : List Str} {mg mb : Str → Option Value} {B H : AH} {P : V → AH → Prop} {X : Exc → AH → Prop} {st dd n2 rl : Addr} {nds : List Nd} {po nf : Int} {xs : List Str}
    (hprog : c.prog = PySem.Challenge.rw_om0166_01.row.prog) (G : Gd (KF c.w.params) p loose mg mb c.g) (S : Srt B H st dd n2 nds (some (rl, xs)) po nf) (hl : xs.length ≤ 1000)
    (h : P (.bool (decide (nf < po) || !xs.isEmpty)) H), callP c (d + 1) (.ref 271) [.ref st] [] H P X := by
  w_on
  k_fill
  intro c d p loose mg mb B H P X st dd n2 rl nds po nf xs hprog G S hl h
  refine' enter (d := d) (binds := [(Str.ofString "self", .ref st)]) G ?ho ?hcd ?hb ?hk ?hn ?hd ?_ ?c1 ?c2 ?c3
  ((case ho => k_is); (case hcd => k_is); (case hk => rfl); (case hn => decide +kernel); (case hd => exact of_decide_eq_true rfl); (case c1 => rfl); (case c2 => rfl); (case c3 => rfl); try (case hb => first | exact bnd0 rfl | exact bnd1 (fun _ => rfl) | exact bnd2 (fun _ _ => rfl) | exact bnd3 (fun _ _ _ => rfl)))
  intro A L
  have s1 := S.h1
  have s2 := S.h2
  obtain ⟨s5, s6⟩ := S.h5 _ rfl
  dsimp only at s5 s6
  (refine awSs_consK fun Kz hz1 hz2 hz3 hz4 => ?_; refine awS_If ?_; refine awB_Compare rfl ?_; refine awE_Attr rfl ?_; refine awE_Name (by first | rfl | assumption) ?_ rfl rfl; refine getAttr_inst (by assumption) (by assumption) (by assumption) (by k_is) (by k_is) (by k_is) (by k_is) rfl (by intro i h; cases h) ?_; refine awE_Const rfl ?_; refine is_none rfl ?_; refine ⟨_, rfl, ?_⟩; refine ite_f (by first | rfl | assumption) ?_; refine awSs_nil ?_; apply_assumption; refine awSs_consK fun Kz hz1 hz2 hz3 hz4 => ?_; refine awS_Return ?_; refine awE_BoolOp ?_; refine awBool_cons ?_; refine awE_Compare rfl ?_; refine awE_Attr rfl ?_; refine awE_Name (by first | rfl | assumption) ?_ rfl rfl; refine getAttr_inst (by assumption) (by assumption) (by assumption) (by k_is) (by k_is) (by k_is) (by k_is) rfl (by intro i h; cases h) ?_; refine awE_Attr rfl ?_; refine awE_Name (by first | rfl | assumption) ?_ rfl rfl; refine getAttr_inst (by assumption) (by assumption) (by assumption) (by k_is) (by k_is) (by k_is) (by k_is) rfl (by intro i h; cases h) ?_; refine cmp_lt_int ?_; refine ⟨_, rfl, ?_⟩)
  generalize decide (nf < po) = b at h ⊢
  cases b
  · show awBool _ _ _ _ _ _ _ _ _ _ _
    (refine awBool_one ?_; refine awE_Call (by intro o n ap h; cases h) (fun _ => rfl) (by intro _ h; first | rfl | cases h) ?_; refine awE_Bltn (by assumption) rfl (by k_is) (by first | boot_by_name | rfl) (by decide) ?_ rfl; refine ⟨_, rfl, (by first | exact keepOk_type _ | exact keepOk_builtin _ | exact keepOk_K (by assumption) (by k_is)), ?_⟩; refine awArgs_plain (fun _ _ h => nomatch h) ?_; refine awL_cons (fun _ _ h => nomatch h) ?_; refine awE_Attr rfl ?_; refine awE_Name (by first | rfl | assumption) ?_ rfl rfl; refine getAttr_inst (by assumption) (by assumption) (by assumption) (by k_is) (by k_is) (by k_is) (by k_is) rfl (by intro i h; cases h) ?_; refine awL_nil ?_)
    refine call_bool_l s5 (by simpa using Nat.le_trans hl (by decide)) ?_
    rw [show (xs.map V.str).isEmpty = xs.isEmpty by cases xs <;> rfl]
    (apply_assumption)
    exact h
  · (refine ite_t (by first | rfl | assumption) ?_; apply_assumption)
    exact h
def dStep (st : (Str → Int) × List Str) (s : Str) : (Str → Int) × List Str := (fun z => if z = s then st.1 s - 1 else st.1 z, if st.1 s - 1 = 0 then st.2 ++ [s] else st.2)
def dOne (su : Str → List Str) (st : (Str → Int) × List Str) (t : Str) : (Str → Int) × List Str := (su t).foldl dStep (fun z => if z = t then -2 else st.1 z, st.2)
def dAll (su : Str → List Str) (st : (Str → Int) × List Str) (ts : List Str) : (Str → Int) × List Str := ts.foldl (dOne su) st
theorem dStep_len (st : (Str → Int) × List Str) (s : Str) : (dStep st s).2.length ≤ st.2.length + 1 := by
  unfold dStep; dsimp only; split <;> simp
theorem dFold_len : ∀ (l : List Str) (st : (Str → Int) × List Str), (l.foldl dStep st).2.length ≤ st.2.length + l.length
  | [], st => Nat.le_refl _
  | s :: l, st => by
    have h1 := dFold_len l (dStep st s)
    have h2 := dStep_len st s
    rw [List.foldl_cons, List.length_cons]; omega
theorem sdone : ∀ {c : Cx} {d : Nat} {p : Program} {loose : List Str} {mg mb : Str → Option Value} {B H : AH} {P : V → AH → Prop} {X : Exc → AH → Prop} {st dd n2 rl : Addr} {nds : List Nd} {po nf : Int} {xs ts : List Str}
    (hprog : c.prog = PySem.Challenge.rw_om0166_01.row.prog) (G : Gd (KF c.w.params) p loose mg mb c.g) (S : Srt B H st dd n2 nds (some (rl, xs)) po nf) (ht : ∀ t ∈ ts, t ∈ nms nds ∧ (suOf nds t).length ≤ 1000 ∧ ∀ s ∈ suOf nds t, s ∈ nms nds) (hx : xs.length ≤ 1000) (htl : ts.length ≤ 20)
    (hok : ∀ dn t r, ts = dn ++ t :: r → (dAll (suOf nds) (npOf nds, xs) dn).1 t = -1)
    (h : ∀ H' nds', Srt B H' st dd n2 nds' (some (rl, (dAll (suOf nds) (npOf nds, xs) ts).2)) po (nf + ts.length) → shp nds' = shp nds → (∀ z, npOf nds' z = (dAll (suOf nds) (npOf nds, xs) ts).1 z) → P .none H'), callP c (d + 1) (.ref 285) (.ref st :: ts.map V.str) [] H P X := by
  w_on
  k_fill
  intro c d p loose mg mb B H P X st dd n2 rl nds po nf xs ts hprog G S ht hx htl hok h
  refine' enterS (d := d) G ?ho ?hcd ?hn ?hb ?c1 ?c2 ?c3
  case ho => k_is
  case hcd => k_is
  case hn => decide +kernel
  case c1 => rfl
  case c2 => rfl
  case c3 => rfl
  intro s ws kvs R KX hv hk
  obtain rfl := kvs_nil hk
  obtain ⟨v, ws, rfl, a, hws⟩ := hv
  have tk : TK s.heap (s.heap.push { cls := .type "tuple", data := .seq ws.toArray }) := TK.of_keeps fun _ _ e => Heap.get?_push_of_some _ e
  refine ⟨[(Str.ofString "self", .ref st), (Str.ofString "nodes", .tup (ts.map V.str))], H,
    [(Str.ofString "self", v), (Str.ofString "nodes", .ref s.heap.objs.size)], { s with heap := s.heap.push { cls := .type "tuple", data := .seq ws.toArray } }, ?_, rfl, ?_, ?_, ?_, rfl, of_decide_eq_true rfl, ?_⟩
  · intro M A E Q hq
    have hlen : ws.length ≤ sizeLine := by rw [← hws.length, List.length_map]; exact Nat.le_trans (by omega : ts.length ≤ 1000) (by decide)
    unfold bindArgs
    dsimp only
    simp only [Option.isNone_some, Bool.and_false, Bool.false_eq_true, if_false]
    show wpAny M A (newTuple ws >>= fun t => pure [(Str.ofString "self", v), (Str.ofString "nodes", t)]) Q E s
    exact wpAny_bind (wpAny_newTuple (wpAny_pure hq))
  · exact ⟨v, _, rfl, a.mono tk, _, _, rfl, ⟨_, ws.toArray, rfl, ⟨_, Heap.get?_push_size _ rfl, rfl, _, rfl⟩, hws.mono tk⟩, rfl⟩
  · exact R.push0 _ s.toks
  · exact Step.push0 _ _ _ _
  clear R KX a hws tk
  intro A L
  have s1 := S.h1
  have s2 := S.h2
  (refine awSs_consK fun Kz hz1 hz2 hz3 hz4 => ?_; refine awS_If ?_; refine awB_Compare rfl ?_; refine awE_Attr rfl ?_; refine awE_Name (by first | rfl | assumption) ?_ rfl rfl; refine getAttr_inst (by assumption) (by assumption) (by assumption) (by k_is) (by k_is) (by k_is) (by k_is) rfl (by intro i h; cases h) ?_; refine awE_Const rfl ?_; refine is_none rfl ?_; refine ⟨_, rfl, ?_⟩; refine ite_f (by first | rfl | assumption) ?_; refine awSs_nil ?_; apply_assumption; refine awSs_AssignK (by first | exact .inl rfl | exact .inr ⟨rfl, rfl⟩) rfl fun Kz hz1 => ?_; refine awE_Attr rfl ?_; refine awE_Name (by first | rfl | assumption) ?_ rfl rfl; refine getAttr_inst (by assumption) (by assumption) (by assumption) (by k_is) (by k_is) (by k_is) (by k_is) rfl (by intro i h; cases h) ?_; apply_assumption; refine awSs_consK fun Kz hz1 hz2 hz3 hz4 => ?_; refine awS_For rfl (fun _ => rfl) (by first | (show Storable _ _; exact .inl rfl) | (show Storable _ _; exact .inr ⟨rfl, rfl⟩) | exact (Or.inl rfl : Storable _ _) | exact (Or.inr ⟨rfl, rfl⟩ : Storable _ _) | exact ⟨(Or.inl rfl : Storable _ _), (Or.inl rfl : Storable _ _)⟩) ?_; refine awE_Name (by first | rfl | assumption) ?_ rfl rfl)
  refine ⟨_, ts.map V.str, rfl, ?_⟩
  refine forP_J V.str (fun dn rest m' H' => ∃ nds', Srt B H' st dd n2 nds' (some (rl, (dAll (suOf nds) (npOf nds, xs) dn).2)) po (nf + dn.length) ∧ shp nds' = shp nds ∧ (∀ z, npOf nds' z = (dAll (suOf nds) (npOf nds, xs) dn).1 z) ∧ (dAll (suOf nds) (npOf nds, xs) dn).2.length ≤ 1000 + 1000 * dn.length ∧ m' (Str.ofString "self") = some (.ref st) ∧ m' (Str.ofString "n2i") = some (.ref n2)) ?_ ?_ ⟨nds, by simpa [dAll] using S, rfl, fun z => rfl, by simpa [dAll] using hx, rfl, rfl⟩
  · rintro m' H' ⟨nds', S', w1, w2, w3, w4, w5⟩
    refine ⟨rfl, ?_⟩
    (apply_assumption; refine awSs_nil ?_)
    exact h H' nds' S' w1 w2
  · rintro dn t r m' H' hts ⟨nds', S', w1, w2, w3, w4, w5⟩
    refine ⟨rfl, fun K hn _ _ _ => ⟨_, rfl, ?_⟩⟩
    obtain ⟨t1, t2, t3⟩ := ht t (by rw [hts]; simp)
    have hdl : dn.length < 20 := by have := congrArg List.length hts; simp only [List.length_append, List.length_cons] at this; omega
    have hy : t ∈ nms nds' := by rw [shp_nms w1]; exact t1
    obtain ⟨k, hk, rfl⟩ := mem_nms hy
    obtain ⟨ep', q3⟩ := S'.h3
    have q1 := S'.h1
    have q2 := S'.h2
    obtain ⟨u1, u2, u3⟩ := S'.h4 k hk
    have hnp : k.np = -1 := by rw [← npOf_of S'.d1 hk, w2]; exact hok dn k.nm r hts
    have hsu : k.su = suOf nds k.nm := by rw [← suOf_of S'.d1 hk, shp_su w1]
    (refine awSs_consK fun Kz hz1 hz2 hz3 hz4 => ?_; refine awS_IfWalrus (by first | exact .inl rfl | exact .inr ⟨rfl, rfl⟩) ?_; refine awE_Meth (few := true) rfl rfl rfl (fun _ => rfl) (by intro _ h; first | rfl | cases h) ?_; refine awE_Name (by first | rfl | assumption) ?_ rfl rfl; refine awM_bi (by first | rfl | exact typeV_list (by assumption) | exact typeV_dict (by assumption) | exact typeV_set (by assumption)) (by decide) F.plainAttrs_dict F.slot_dict_get F.type_dict_get ⟨keepOk_builtin _, ?_⟩; refine awArgs_plain (fun _ _ h => nomatch h) ?_; refine awL_cons (fun _ _ h => nomatch h) ?_; refine awE_Name (by first | rfl | assumption) ?_ rfl rfl; refine awL_nil ?_; refine awCall_1 ?_; refine call_dict_get (by assumption) ?_)
    rw [nds_lookup, nds_find_of S'.d1 hk, Option.map_some, Option.getD_some]
    refine ⟨false, rfl, ?_⟩
    (refine ite_f (by first | rfl | assumption) ?_; refine awSs_nil ?_; apply_assumption; refine awSs_AssignK (by first | exact .inl rfl | exact .inr ⟨rfl, rfl⟩) rfl fun Kz hz1 => ?_; refine awE_Attr rfl ?_; refine awE_Name (by first | rfl | assumption) ?_ rfl rfl; refine getAttr_slot (by assumption) (by assumption) (by assumption) (by k_is) (by k_is) (by k_is) (by k_is) (by k_is) (by k_is) rfl (by intro i h; cases h) ?_; apply_assumption; refine awSs_consK fun Kz hz1 hz2 hz3 hz4 => ?_; refine awS_If ?_; refine awB_Compare rfl ?_; refine awE_Name (by first | rfl | assumption) ?_ rfl rfl; refine awE_Glob (by assumption) rfl (by k_is) ?_ rfl; refine cmp_ne_int ?_; refine ⟨_, rfl, ?_⟩)
    rw [hnp]
    (refine ite_f (by first | rfl | assumption) ?_; refine awSs_nil ?_; apply_assumption; refine awSs_consK fun Kz hz1 hz2 hz3 hz4 => ?_; refine awS_SetAttr rfl rfl ?_; refine awE_Glob (by assumption) rfl (by k_is) ?_ rfl; refine awE_Name (by first | rfl | assumption) ?_ rfl rfl; refine set_slots_x (by assumption) (by assumption) (by assumption) (by k_is) (by k_is) (by k_is) (by k_is) (by k_is) (by decide) ?_)
    intro H1 m1 e1
    have S1 := S'.np hk m1 e1
    obtain ⟨k1, k1m, k1n, k1i, k1a, k1s, k1u⟩ := shp_mem (shp_setNp (nds := nds') (x := k.nm) (v := -2)) hk
    obtain ⟨x1, x2, x3⟩ := S1.h4 k1 k1m
    rw [k1i, k1a, k1s, k1n] at x1
    rw [k1s, k1u] at x3
    rw [k1a] at x2
    (apply_assumption; refine awSs_consK fun Kz hz1 hz2 hz3 hz4 => ?_; refine awS_For rfl (fun _ => rfl) (by first | (show Storable _ _; exact .inl rfl) | (show Storable _ _; exact .inr ⟨rfl, rfl⟩) | exact (Or.inl rfl : Storable _ _) | exact (Or.inr ⟨rfl, rfl⟩ : Storable _ _) | exact ⟨(Or.inl rfl : Storable _ _), (Or.inl rfl : Storable _ _)⟩) ?_; refine awE_Attr rfl ?_; refine awE_Name (by first | rfl | assumption) ?_ rfl rfl; refine getAttr_slot (by assumption) (by assumption) (by assumption) (by k_is) (by k_is) (by k_is) (by k_is) (by k_is) (by k_is) rfl (by intro i h; cases h) ?_)
    refine ⟨.list k.sa, k.su.map V.str, by simp [iterK, x3], ?_⟩
    have hfold : ∀ z, npOf (setNp nds' k.nm (-2)) z = if z = k.nm then -2 else (dAll (suOf nds) (npOf nds, xs) dn).1 z := fun z => by
      rw [npOf_setNp (List.mem_map_of_mem hk), w2]
    have hd1 : dAll (suOf nds) (npOf nds, xs) (dn ++ [k.nm]) = k.su.foldl dStep (fun z => if z = k.nm then -2 else (dAll (suOf nds) (npOf nds, xs) dn).1 z, (dAll (suOf nds) (npOf nds, xs) dn).2) := by
      unfold dAll
      rw [List.foldl_append, hsu]
      rfl
    generalize hst0 : dAll (suOf nds) (npOf nds, xs) dn = st0 at hd1 hfold w2 w3 S' S1
    refine forP_J V.str (fun dn2 rest m' H' => ∃ nds2, Srt B H' st dd n2 nds2 (some (rl, (dn2.foldl dStep (fun z => if z = k.nm then -2 else st0.1 z, st0.2)).2)) po (nf + dn.length) ∧ shp nds2 = shp nds ∧ (∀ z, npOf nds2 z = (dn2.foldl dStep (fun z => if z = k.nm then -2 else st0.1 z, st0.2)).1 z) ∧ m' (Str.ofString "self") = some (.ref st) ∧ m' (Str.ofString "n2i") = some (.ref n2)) ?_ ?_ ⟨_, S1, shp_setNp.trans w1, hfold, w4, w5⟩
    · rintro m2 H2 ⟨nds2, S2, y1, y2, y3, y4⟩
      obtain ⟨k2, k2m, k2n, k2i, k2a, k2s, k2u⟩ := shp_mem (y1.trans w1.symm) hk
      have x3' := (S2.h4 k2 k2m).2.2
      rw [k2s, k2u] at x3'
      refine ⟨by simp [IK.items, x3'], ?_⟩
      have z1 := S2.h1
      have z2 := S2.h2
      rw [← hd1] at S2 y2 z2
      (apply_assumption; refine awSs_consK fun Kz hz1 hz2 hz3 hz4 => ?_; refine awS_AugAttr ?_; refine awE_Name (by first | rfl | assumption) ?_ rfl rfl; refine getAttr_inst (by assumption) (by assumption) (by assumption) (by k_is) (by k_is) (by k_is) (by k_is) rfl (by intro i h; cases h) ?_; refine awE_Const rfl ?_; refine iadd_ints ?_; refine set_inst_x (by assumption) (by assumption) (by assumption) (by k_is) (by k_is) (by k_is) (by k_is) (by first | decide | exact Nat.le_of_ble_eq_true rfl) ?_)
      intro H3 m3 e3
      have S3 := S2.ns0 (po' := po) (nf' := nf + dn.length + 1) m3 e3
      (apply_assumption; refine awSs_nil ?_)
      refine hn _ _ ⟨nds2, ?_, y1, y2, ?_, y3, y4⟩
      · rw [List.length_append, List.length_singleton, Int.natCast_add, ← Int.add_assoc]; exact S3
      · rw [hd1, List.length_append, List.length_singleton]
        have l1 := dFold_len k.su (fun z => if z = k.nm then -2 else st0.1 z, st0.2)
        have l2 : k.su.length ≤ 1000 := by rw [hsu]; exact t2
        dsimp only at l1 w3
        omega
    · rintro dn2 y r2 m2 H2 hsu2 ⟨nds2, S2, y1, y2, y3, y4⟩
      obtain ⟨k2, k2m, k2n, k2i, k2a, k2s, k2u⟩ := shp_mem (y1.trans w1.symm) hk
      have x3' := (S2.h4 k2 k2m).2.2
      rw [k2s, k2u] at x3'
      refine ⟨by simp [IK.items, x3'], fun K2 hn2 hc2 _ _ => ⟨_, rfl, ?_⟩⟩
      have hyn : y ∈ nms nds2 := by rw [shp_nms y1]; exact t3 y (by rw [← hsu, hsu2]; simp)
      obtain ⟨j, hj, rfl⟩ := mem_nms hyn
      obtain ⟨ep2, z3⟩ := S2.h3
      obtain ⟨v1, v2, v3⟩ := S2.h4 j hj
      have hjn : j.np = (dn2.foldl dStep (fun z => if z = k.nm then -2 else st0.1 z, st0.2)).1 j.nm := by rw [← npOf_of S2.d1 hj, y2]
      have hlen2 : (dn2.foldl dStep (fun z => if z = k.nm then -2 else st0.1 z, st0.2)).2.length ≤ 100000 := by
        have l1 := dFold_len dn2 (fun z => if z = k.nm then -2 else st0.1 z, st0.2)
        have l2 : k.su.length ≤ 1000 := by rw [hsu]; exact t2
        have l3 := congrArg List.length hsu2
        simp only [List.length_append, List.length_cons] at l3
        dsimp only at l1 w3
        omega
      have hstep : (dn2 ++ [j.nm]).foldl dStep (fun z => if z = k.nm then -2 else st0.1 z, st0.2) = dStep (dn2.foldl dStep (fun z => if z = k.nm then -2 else st0.1 z, st0.2)) j.nm := by
        rw [List.foldl_append]; rfl
      generalize dn2.foldl dStep (fun z => if z = k.nm then -2 else st0.1 z, st0.2) = st2 at S2 y2 hjn hlen2 hstep
      (refine awSs_AssignK (by first | exact .inl rfl | exact .inr ⟨rfl, rfl⟩) rfl fun Kz hz1 => ?_; refine awE_Sub (by intro _ _ _ h; cases h) ?_; refine awE_Name (by first | rfl | assumption) ?_ rfl rfl; refine awE_Name (by first | rfl | assumption) ?_ rfl rfl)
      refine sub_dict z3 (by rw [nds_lookup, nds_find_of S2.d1 hj]; rfl) ?_
      (apply_assumption; refine awSs_consK fun Kz hz1 hz2 hz3 hz4 => ?_; refine awS_AugAttr ?_; refine awE_Name (by first | rfl | assumption) ?_ rfl rfl; refine getAttr_slot (by assumption) (by assumption) (by assumption) (by k_is) (by k_is) (by k_is) (by k_is) (by k_is) (by k_is) rfl (by intro i h; cases h) ?_; refine awE_Const rfl ?_; refine isub_ints ?_; refine set_slots_x (by assumption) (by assumption) (by assumption) (by k_is) (by k_is) (by k_is) (by k_is) (by k_is) (by decide) ?_)
      intro H3 m3 e3
      have S3 := S2.np hj m3 e3
      obtain ⟨j1, j1m, j1n, j1i, j1a, j1s, j1u⟩ := shp_mem (shp_setNp (nds := nds2) (x := j.nm) (v := j.np - 1)) hj
      obtain ⟨x1', x2', _⟩ := S3.h4 j1 j1m
      rw [j1i, j1a, j1s, j1n] at x1'
      rw [j1a] at x2'
      have hj1 : j1.np = j.np - 1 := by
        have := npOf_of S3.d1 j1m
        rw [j1n, npOf_setNp (List.mem_map_of_mem hj), if_pos rfl] at this
        exact this.symm
      rw [hj1] at x1'
      have nps : ∀ z, npOf (setNp nds2 j.nm (j.np - 1)) z = (dStep st2 j.nm).1 z := fun z => by
        rw [npOf_setNp (List.mem_map_of_mem hj), y2, hjn]; rfl
      have t1' := S3.h1
      have t2' := S3.h2
      have t5' := (S3.h5 _ rfl).1
      dsimp only at t5'
      (apply_assumption; refine awSs_consK fun Kz hz1 hz2 hz3 hz4 => ?_; refine awS_If ?_; refine awB_Compare rfl ?_; refine awE_Attr rfl ?_; refine awE_Name (by first | rfl | assumption) ?_ rfl rfl; refine getAttr_slot (by assumption) (by assumption) (by assumption) (by k_is) (by k_is) (by k_is) (by k_is) (by k_is) (by k_is) rfl (by intro i h; cases h) ?_; refine awE_Const rfl ?_; refine cmp_eq_int ?_; refine ⟨_, rfl, ?_⟩)
      cases hz : (j.np - 1 == 0)
      · (refine ite_f (by first | rfl | assumption) ?_; refine awSs_nil ?_; apply_assumption; refine awSs_nil ?_)
        refine hn2 _ _ ⟨_, ?_, shp_setNp.trans y1, fun z => by rw [nps, hstep], y3, y4⟩
        rw [hstep]
        have : (dStep st2 j.nm).2 = st2.2 := by unfold dStep; dsimp only; rw [if_neg]; rw [← hjn]; simpa using hz
        rw [this]; exact S3
      · (refine ite_t (by first | rfl | assumption) ?_; refine awSs_ExprK rfl rfl fun Kz hz1 => ?_; refine awE_Meth (few := true) rfl rfl rfl (fun _ => rfl) (by intro _ h; first | rfl | cases h) ?_; refine awE_Attr rfl ?_; refine awE_Name (by first | rfl | assumption) ?_ rfl rfl; refine getAttr_inst (by assumption) (by assumption) (by assumption) (by k_is) (by k_is) (by k_is) (by k_is) rfl (by intro i h; cases h) ?_; refine awM_bi (by first | rfl | exact typeV_list (by assumption) | exact typeV_dict (by assumption) | exact typeV_set (by assumption)) (by decide) F.plainAttrs_list F.slot_list_append F.type_list_append ⟨keepOk_builtin _, ?_⟩; refine awArgs_plain (fun _ _ h => nomatch h) ?_; refine awL_cons (fun _ _ h => nomatch h) ?_; refine awE_Name (by first | rfl | assumption) ?_ rfl rfl; refine awL_nil ?_; refine awCall_1 ?_)
        refine call_appendX t5' (by simpa using hlen2) fun H4 m4 e4 => ?_
        have S4 := S3.rdy (xs' := st2.2 ++ [j.nm]) rfl m4 (by rw [List.map_append]; exact e4)
        (apply_assumption; refine awSs_nil ?_; apply_assumption; refine awSs_nil ?_)
        refine hn2 _ _ ⟨_, ?_, shp_setNp.trans y1, fun z => by rw [nps, hstep], y3, y4⟩
        rw [hstep]
        have : (dStep st2 j.nm).2 = st2.2 ++ [j.nm] := by unfold dStep; dsimp only; rw [if_pos]; rw [← hjn]; simpa using hz
        rw [this]; exact S4
structure Fm where
  nm : Str
  nx : Addr
  it : Addr
  sa : Addr
  ix : Nat
def Edge (su : Str → List Str) (y x : Str) : Prop := y ∈ su x
def TDone (su : Str → List Str) (f : Fm) : Prop := ∀ j, j < f.ix → ∀ y, (su f.nm)[j]? = some y → Acc (Edge su) y
def TAt (su : Str → List Str) (x : Str) (f : Fm) : Prop := ∃ i, f.ix = i + 1 ∧ (su f.nm)[i]? = some x ∧ ∀ j, j < i → ∀ y, (su f.nm)[j]? = some y → Acc (Edge su) y
structure Gr (su : Str → List Str) (nm0 : List Str) (fr : List Fm) (seen : List Str) (T : Fm → Prop) : Prop where
  g1 : ∀ f ∈ fr, f.nm ∈ seen
  g2 : ∀ x ∈ seen, x ∈ nm0
  g3 : ∀ x ∈ seen, (∀ f ∈ fr, f.nm ≠ x) → Acc (Edge su) x
  g4 : ∀ l f g r, fr = l ++ f :: g :: r → TAt su g.nm f
  g5 : ∀ l f, fr = l ++ [f] → T f
section
variable {su : Str → List Str} {nm0 : List Str} {fr : List Fm} {seen : List Str}
theorem Gr.start (su : Str → List Str) (nm0 : List Str) (T : Fm → Prop) : Gr su nm0 [] [] T := ⟨(fun _ h => nomatch h), (fun _ h => nomatch h), (fun _ h => nomatch h), (fun l f g r h => by simp at h), (fun l f h => by simp at h)⟩
theorem Gr.empty {T T' : Fm → Prop} (G : Gr su nm0 [] seen T) : Gr su nm0 [] seen T' := ⟨G.g1, G.g2, G.g3, G.g4, fun l f h => by simp at h⟩
theorem TAt.done {x : Str} {f : Fm} (h : TAt su x f) (hx : Acc (Edge su) x) : TDone su f := by
  obtain ⟨i, e, hi, hj⟩ := h
  intro j hlt y hy
  by_cases z : j = i
  · subst z; rw [hi] at hy; cases hy; exact hx
  · exact hj j (by omega) y hy
theorem Gr.old {x : Str} (G : Gr su nm0 fr seen (TAt su x)) (hs : x ∈ seen) (hn : ∀ f ∈ fr, f.nm ≠ x) : Gr su nm0 fr seen (TDone su) :=
  ⟨G.g1, G.g2, G.g3, G.g4, fun l f h => (G.g5 l f h).done (G.g3 x hs hn)⟩
theorem Gr.push {x : Str} (G : Gr su nm0 fr seen (TAt su x)) (hs : x ∉ seen) (h0 : x ∈ nm0) {f : Fm} (hf : f.nm = x) (hix : f.ix = 0) : Gr su nm0 (fr ++ [f]) (seen ++ [x]) (TDone su) := by
  refine ⟨fun g hg => ?_, fun y hy => ?_, fun y hy hn => ?_, fun l g k r h => ?_, fun l g h => ?_⟩
  · rcases List.mem_append.mp hg with hg | hg
    · exact List.mem_append_left _ (G.g1 g hg)
    · rw [List.mem_singleton.mp hg, hf]; simp
  · rcases List.mem_append.mp hy with hy | hy
    · exact G.g2 y hy
    · rw [List.mem_singleton.mp hy]; exact h0
  · rcases List.mem_append.mp hy with hy | hy
    · exact G.g3 y hy fun g hg => hn g (List.mem_append_left _ hg)
    · rw [List.mem_singleton.mp hy] at hn
      exact absurd hf (hn f (by simp))
  · rcases List.eq_nil_or_concat r with rfl | ⟨r', z, rfl⟩
    · have h2 : fr ++ [f] = (l ++ [g]) ++ [k] := by rw [h]; simp
      obtain ⟨e1, e2⟩ := List.append_inj' h2 rfl
      cases e2
      rw [hf]; exact G.g5 l g e1
    · have h2 : fr ++ [f] = (l ++ g :: k :: r') ++ [z] := by rw [h]; simp
      obtain ⟨e1, e2⟩ := List.append_inj' h2 rfl
      exact G.g4 l g k r' e1
  · obtain ⟨e1, e2⟩ := List.append_inj' h rfl
    cases e2
    intro j hj; rw [hix] at hj; cases hj
theorem Gr.next {f f' : Fm} {y : Str} (G : Gr su nm0 (fr ++ [f]) seen (TDone su)) (hy : (su f.nm)[f.ix]? = some y) (hn : f'.nm = f.nm) (hi : f'.ix = f.ix + 1) : Gr su nm0 (fr ++ [f']) seen (TAt su y) := by
  refine ⟨fun g hg => ?_, G.g2, fun x hx hne => ?_, fun l g k r h => ?_, fun l g h => ?_⟩
  · rcases List.mem_append.mp hg with hg | hg
    · exact G.g1 g (List.mem_append_left _ hg)
    · rw [List.mem_singleton.mp hg, hn]; exact G.g1 f (by simp)
  · refine G.g3 x hx fun g hg => ?_
    rcases List.mem_append.mp hg with hg | hg
    · exact hne g (List.mem_append_left _ hg)
    · rw [List.mem_singleton.mp hg, ← hn]; exact hne f' (by simp)
  · rcases List.eq_nil_or_concat r with rfl | ⟨r', z, rfl⟩
    · have h2 : fr ++ [f'] = (l ++ [g]) ++ [k] := by rw [h]; simp
      obtain ⟨e1, e2⟩ := List.append_inj' h2 rfl
      cases e2
      rw [hn]
      exact G.g4 l g f [] (by rw [e1]; simp)
    · have h2 : fr ++ [f'] = (l ++ g :: k :: r') ++ [z] := by rw [h]; simp
      obtain ⟨e1, e2⟩ := List.append_inj' h2 rfl
      exact G.g4 l g k (r' ++ [f]) (by rw [e1]; simp)
  · obtain ⟨e1, e2⟩ := List.append_inj' h rfl
    cases e2
    refine ⟨f.ix, hi, by rw [hn]; exact hy, fun j hj z hz => ?_⟩
    rw [hn] at hz
    exact G.g5 fr f rfl j hj z hz
theorem Gr.pop {f : Fm} (G : Gr su nm0 (fr ++ [f]) seen (TDone su)) (hy : (su f.nm)[f.ix]? = none) (hd : ∀ g ∈ fr, g.nm ≠ f.nm) : Gr su nm0 fr seen (TDone su) := by
  have hacc : Acc (Edge su) f.nm := by
    refine Acc.intro _ fun y hy' => ?_
    obtain ⟨j, hj, e⟩ := List.mem_iff_getElem.mp (show y ∈ su f.nm from hy')
    have hlen := List.getElem?_eq_none_iff.mp hy
    exact G.g5 fr f rfl j (by omega) y (by rw [List.getElem?_eq_getElem hj, e])
  refine ⟨fun g hg => G.g1 g (List.mem_append_left _ hg), G.g2, fun x hx hn => ?_, fun l g k r h => G.g4 l g k (r ++ [f]) (by rw [h]; simp), fun l g h => ?_⟩
  · by_cases z : f.nm = x
    · rw [← z]; exact hacc
    · refine G.g3 x hx fun g hg => ?_
      rcases List.mem_append.mp hg with hg | hg
      · exact hn g hg
      · rw [List.mem_singleton.mp hg]; exact z
  · exact (G.g4 l g f [] (by rw [h]; simp)).done hacc
theorem acc_no_ring {α : Type} {r : α → α → Prop} {C : α → Prop} (hC : ∀ x, C x → ∃ y, C y ∧ r y x) : ∀ {x : α}, Acc r x → ¬ C x := by
  intro x h
  induction h with
  | intro x _ ih => intro hx; obtain ⟨y, hy, hr⟩ := hC x hx; exact ih y hr hy
theorem Gr.ring {x : Str} (G : Gr su nm0 fr seen (TAt su x)) {f : Fm} (hf : f ∈ fr) (hx : f.nm = x) : ¬ Acc (Edge su) x := by
  obtain ⟨l, r, hfr⟩ := List.append_of_mem hf
  refine fun h => acc_no_ring (r := Edge su) (C := fun z => ∃ g ∈ f :: r, g.nm = z) ?_ h ⟨f, by simp, hx⟩
  rintro z ⟨g, hg, rfl⟩
  obtain ⟨l1, r1, h1⟩ := List.append_of_mem hg
  cases r1 with
  | nil =>
    obtain ⟨i, _, hi, _⟩ := G.g5 (l ++ l1) g (by rw [hfr, h1]; simp)
    exact ⟨x, ⟨f, by simp, hx⟩, List.mem_of_getElem? hi⟩
  | cons k r2 =>
    obtain ⟨i, _, hi, _⟩ := G.g4 (l ++ l1) g k r2 (by rw [hfr, h1]; simp)
    exact ⟨k.nm, ⟨k, by rw [h1]; simp, rfl⟩, List.mem_of_getElem? hi⟩
def left (nm0 seen : List Str) : Nat := (nm0.filter fun x => !seen.contains x).length
def room (su : Str → List Str) (fr : List Fm) : Nat := (fr.map fun f => (su f.nm).length - f.ix).sum
theorem left_push {x : Str} (h0 : x ∈ nm0) (hs : x ∉ seen) : left nm0 (seen ++ [x]) < left nm0 seen := by
  unfold left
  rw [← List.countP_eq_length_filter, ← List.countP_eq_length_filter]
  induction nm0 with
  | nil => cases h0
  | cons a r ih =>
    have mono : ∀ l : List Str, l.countP (fun x_1 => !(seen ++ [x]).contains x_1) ≤ l.countP fun x => !seen.contains x := fun l =>
      List.countP_mono_left fun y _ hy => by simp at hy ⊢; exact hy.1
    rw [List.countP_cons, List.countP_cons]
    by_cases z : a = x
    · subst z
      have := mono r
      simp [hs]
      exact Nat.lt_succ_of_le (by simpa using this)
    · have h0' : x ∈ r := (List.mem_cons.mp h0).resolve_left fun w => z w.symm
      have i := ih h0'
      have : (!(seen ++ [x]).contains a) = (!seen.contains a) := by simp [z]
      rw [this]; omega
theorem room_append (l r : List Fm) : room su (l ++ r) = room su l + room su r := by unfold room; simp
end
theorem isExc_StopIteration : isSubtype (.type "StopIteration") (.type "BaseException") = pure true := by rw [isSubtype_type]; kernel_rfl
theorem notTuple_StopIteration : isSubtype (.type ((Manifest.find? "StopIteration").elim "type" fun x => x.metatype)) (.type "tuple") = pure false := by
  have e : ((Manifest.find? "StopIteration").elim "type" fun x => x.metatype) = "type" := by first | rfl | decide +kernel | kernel_rfl
  rw [e, isSubtype_type]; kernel_rfl
theorem truth_list {H : AH} {a : Addr} {vs : List V} (h : H a = some (.list vs)) (hl : vs.length ≤ 100000) : truthV H (.ref a) = some (!vs.isEmpty) := by
  simp only [truthV, h]
  rw [if_pos (Nat.lt_of_le_of_lt hl (by decide))]
inductive SrtN (B H' : AH) (st dd n2 : Addr) (nds : List Nd) (rd : Option (Addr × List Str)) (po nf : Int) (a : Addr) (o : AO) : Prop
  | mk (B1 : AH) (x : Ext B B1) (n : B a = none) (e : B1 a = some o) (S : Srt B1 H' st dd n2 nds rd po nf)
inductive SrtO (B H' : AH) (st dd n2 : Addr) (nds : List Nd) (rd : Option (Addr × List Str)) (po nf : Int) (a : Addr) (o : Option AO) : Prop
  | mk (B1 : AH) (m : Mod B a B1) (e : B1 a = o) (S : Srt B1 H' st dd n2 nds rd po nf)
section
variable {B H H' : AH} {st dd n2 : Addr} {nds : List Nd} {rd : Option (Addr × List Str)} {po nf : Int}
theorem Srt.weak {B' : AH} (S : Srt B' H st dd n2 nds rd po nf) (x : Ext B B') : Srt B H st dd n2 nds rd po nf :=
  ⟨x.trans S.ext, x.none S.o1, x.none S.o2, x.none S.o3, fun n hn => ⟨x.none (S.o4 n hn).1, x.none (S.o4 n hn).2.1, x.none (S.o4 n hn).2.2⟩, fun p hp => x.none (S.o5 p hp), S.h1, S.h2, S.h3, S.h4, S.h5, S.d1, S.d2, S.d3⟩
theorem Srt.base' (S : Srt B H st dd n2 nds rd po nf) {a : Addr} {o : AO} (x : Ext H H') (hn : H a = none) (e : H' a = some o) : SrtN B H' st dd n2 nds rd po nf a o :=
  ⟨_, Ext.fresh (S.ext.none hn), S.ext.none hn, upd_self _ _ _, S.base x hn e⟩
theorem Srt.out' (S : Srt B H st dd n2 nds rd po nf) {a : Addr} {o o' : AO} (ha : B a = some o) (m : Mod H a H') (e : H' a = some o') : SrtO B H' st dd n2 nds rd po nf a (some o') :=
  ⟨_, Mod.upd _ _ _, upd_self _ _ _, S.out ha m e⟩
theorem Srt.drop' (S : Srt B H st dd n2 nds rd po nf) {a : Addr} {o : AO} (ha : B a = some o) (m : Mod H a H') : SrtO B H' st dd n2 nds rd po nf a none := by
  have ne : ∀ {b}, B b = none → b ≠ a := fun hb z => by rw [z, ha] at hb; cases hb
  have on : ∀ {b}, B b = none → (fun b => if b = a then none else B b : AH) b = none := fun {b} hb => by show (if b = a then none else B b) = none; rw [hb]; split <;> rfl
  refine ⟨fun b => if b = a then none else B b, fun b hb => if_neg hb, if_pos rfl, ⟨fun b ob hb => ?_, on S.o1, on S.o2, on S.o3, fun n hm => ⟨on (S.o4 n hm).1, on (S.o4 n hm).2.1, on (S.o4 n hm).2.2⟩, fun p hp => on (S.o5 p hp), m.get (ne S.o1) S.h1, m.get (ne S.o2) S.h2, S.h3.imp fun _ => m.get (ne S.o3),
    fun n hm => ⟨m.get (ne (S.o4 n hm).1) (S.h4 n hm).1, m.get (ne (S.o4 n hm).2.1) (S.h4 n hm).2.1, m.get (ne (S.o4 n hm).2.2) (S.h4 n hm).2.2⟩, fun p hp => ⟨m.get (ne (S.o5 p hp)) (S.h5 p hp).1, (S.h5 p hp).2⟩, S.d1, S.d2, S.d3⟩⟩
  have hb' : (if b = a then none else B b) = some ob := hb
  split at hb'
  · cases hb'
  · rename_i z; exact m.get z (S.ext.get hb')
theorem Mod.extB {B0 B B' : AH} {a : Addr} (x : Ext B0 B) (m : Mod B a B') (hn : B0 a = none) : Ext B0 B' := m.ext x hn
def dk (fr : List Fm) : List (Str × V) := fr.zipIdx.map fun p => (p.1.nm, V.int p.2)
theorem dk_append (fr : List Fm) (f : Fm) : dk (fr ++ [f]) = dk fr ++ [(f.nm, .int fr.length)] := by
  unfold dk; rw [List.zipIdx_append, List.map_append]; simp
theorem dk_names (fr : List Fm) : (dk fr).map (·.1) = fr.map (·.nm) := by
  unfold dk
  rw [List.map_map]
  have : ((fun x : Str × V => x.1) ∘ fun p : Fm × Nat => (p.1.nm, V.int p.2)) = (fun f : Fm => f.nm) ∘ Prod.fst := rfl
  rw [this, ← List.map_map, List.zipIdx_map_fst]
theorem dk_length (fr : List Fm) : (dk fr).length = fr.length := by unfold dk; simp
theorem dk_lookup {fr : List Fm} {x : Str} : (∃ i : Nat, (dk fr).lookup x = some (.int i)) ∨ (dk fr).lookup x = none := by
  cases h : (dk fr).lookup x with
  | none => exact .inr rfl
  | some v =>
    have := mem_of_lookup h
    unfold dk at this
    obtain ⟨p, _, e⟩ := List.mem_map.mp this
    cases e
    exact .inl ⟨_, rfl⟩
theorem lookup_none_iff {β : Type} : ∀ {l : List (Str × β)} {x : Str}, l.lookup x = none ↔ x ∉ l.map (·.1)
  | [], x => by simp
  | p :: l, x => by
    rw [List.lookup_cons, List.map_cons, List.mem_cons]
    cases h : (x == p.1)
    · have : x ≠ p.1 := by simpa using h
      simp only [lookup_none_iff (l := l) (x := x)]
      simp [this]
    · simp only [reduceCtorEq, false_iff, Classical.not_not]
      exact .inl (by simpa using h)
theorem putD_new {kvs : List (Str × V)} {k : Str} {x : V} (h : k ∉ kvs.map (·.1)) : putD kvs k x = kvs ++ [(k, x)] := by
  unfold putD
  rw [if_neg]
  intro z
  obtain ⟨p, hp, e⟩ := List.any_eq_true.mp z
  exact h (List.mem_map.mpr ⟨p, hp, by simpa using e⟩)
theorem dk_drop {fr : List Fm} {f : Fm} (h : ∀ g ∈ fr, g.nm ≠ f.nm) : (dk (fr ++ [f])).filter (fun kv => decide (kv.1 ≠ f.nm)) = dk fr := by
  rw [dk_append, List.filter_append]
  simp only [ne_eq, decide_not, List.filter_cons, decide_true, Bool.not_true, Bool.false_eq_true, if_false, List.filter_nil, List.append_nil]
  rw [List.filter_eq_self]
  intro p hp
  have : p.1 ∈ fr.map (·.nm) := by rw [← dk_names]; exact List.mem_map_of_mem hp
  obtain ⟨g, hg, e⟩ := List.mem_map.mp this
  have := h g hg
  rw [e] at this
  simpa using this
structure DfsB (B H : AH) (st dd n2 : Addr) (nds : List Nd) (rd : Option (Addr × List Str)) (po nf : Int) (sk ik se nd : Addr) (ep : Nat) (fr : List Fm) (seen : List Str) (B' : AH) : Prop where
  ext : Ext B B'
  S : Srt B' H st dd n2 nds rd po nf
  b1 : B sk = none
  b2 : B ik = none
  b3 : B se = none
  b4 : B nd = none
  b5 : ∀ f ∈ fr, B f.it = none
  ne : sk ≠ ik
  c1 : B' sk = some (.list (fr.map fun f => .str f.nm))
  c2 : B' ik = some (.list (fr.map fun f => .ref f.nx))
  c3 : B' se = some (.set seen)
  c4 : ∃ ep, B' nd = some (.dict (dk fr) ep)
  c5 : ∀ f ∈ fr, B' f.nx = some (.next f.it) ∧ B' f.it = some (.iter f.sa f.ix) ∧ ∃ n ∈ nds, n.nm = f.nm ∧ n.sa = f.sa
  c6 : H n2 = some (.dict (nds.map fun n => (n.nm, .ref n.ia)) ep)
  d1 : (fr.map (·.it)).Nodup
  d2 : (fr.map (·.nm)).Nodup
  d3 : fr.length ≤ seen.length
structure Vs (n2 sk ik se nd : Addr) (m : Map) : Prop where
  v1 : m (Str.ofString "n2i") = some (.ref n2)
  v2 : m (Str.ofString "stack") = some (.ref sk)
  v3 : m (Str.ofString "itstack") = some (.ref ik)
  v4 : m (Str.ofString "seen") = some (.ref se)
  v5 : m (Str.ofString "node2stacki") = some (.ref nd)
theorem Vs.node {n2 sk ik se nd : Addr} {m : Map} (v : Vs n2 sk ik se nd m) (x : V) : Vs n2 sk ik se nd (set m (Str.ofString "node") x) := ⟨v.v1, v.v2, v.v3, v.v4, v.v5⟩
end
theorem awE_Neg {c : Cx} {q : Md} {d : Nat} {A : Around} {env : Env} {m : Map} {H : AH} {P : V → AH → Prop} {X : Exc → AH → Prop} {k : Int} {n : Nat} {p1 pos : Pos} (h : P (.int (-k)) H) : awE c q d A env (.UnaryOp .USub (.Constant (.int k) n p1) pos) m H P X := by
  intro s F
  refine wpAny_UnaryOp (awT_then (awE_Const (P := fun x H' => x = .int k ∧ H' = H) (X := X) (k := .int k) rfl ⟨rfl, rfl⟩) F (fun x H₁ s₁ v ⟨hx, hH⟩ F₁ hv S => ?_) fun _ _ o => o)
  subst hx hH
  obtain ⟨t, rfl⟩ := hv
  exact PyProof.Rows.neg_int ⟨.int (-k), _, h, ⟨_, rfl⟩, F₁.rep.toks _, S.trans (.toks _ _ _)⟩
theorem sub_last {c : Cx} {q : Md} {d : Nat} {A : Around} {fl : Option Addr} {H : AH} {P : V → AH → Prop} {X : Exc → AH → Prop} {a : Addr} {vs : List V} {x : V} (ha : H a = some (.list (vs ++ [x]))) (hl : vs.length < 100000) (h : P x H) : SubG c q d A fl (.ref a) (.int (-1)) H P X :=
  ⟨"list", _, by simp [typeV, ha], slot_list_getitem.lookup, get_last ha hl h⟩
theorem awS_cut {c : Cx} {q : Md} {d : Nat} {A : Around} {env : Env} {m : Map} {H : AH} {P : Fl → Map → AH → Prop} {X : Exc → Map → AH → Prop} {st : Stmt} {rest : List Stmt} (J : Map → AH → Prop) (h : awS c q d A env st m H (fun f m' H' => match f with | .next => J m' H' | f => P f m' H') X) (k : ∀ m' H', J m' H' → awSs c q d A env rest m' H' P X) : awSs c q d A env (st :: rest) m H P X := by
  refine awSs_cons fun s S => wpAny_mono (h s S) (fun v s' o => ?_) fun _ _ o => o
  obtain ⟨g, m', H', a, b, r, F, z⟩ := o
  refine ⟨g, m', H', ?_, b, r, F, z⟩
  cases g with
  | next => exact k _ _ a
  | brk => exact a
  | cont => exact a
  | ret v => exact a
theorem awS_cutK {c : Cx} {q : Md} {d : Nat} {A : Around} {env : Env} {m : Map} {H : AH} {P : Fl → Map → AH → Prop} {X : Exc → Map → AH → Prop} {st : Stmt} {rest : List Stmt} (J : Map → AH → Prop)
    (h : ∀ Y : Map → AH → Prop, (∀ m' H', J m' H' → Y m' H') → ∀ K : Fl → Map → AH → Prop, (∀ m' H', Y m' H' → Go K .next m' H') → (∀ m' H', P .brk m' H' → Go K .brk m' H') → (∀ m' H', P .cont m' H' → Go K .cont m' H') → (∀ v m' H', P (.ret v) m' H' → Go K (.ret v) m' H') → awS c q d A env st m H (Go K) X)
    (k : ∀ m' H', J m' H' → awSs c q d A env rest m' H' P X) : awSs c q d A env (st :: rest) m H P X :=
  awS_cut J (h J (fun _ _ x => x) _ (fun _ _ x => x) (fun _ _ x => x) (fun _ _ x => x) (fun _ _ _ x => x)) k
inductive FcA (B : AH) (st dd n2 : Addr) (nds : List Nd) (rd : Option (Addr × List Str)) (po nf : Int) (sk ik se nd : Addr) (ep : Nat) (dn rest : List Str) (m' : Map) (H' : AH) : Prop
  | mk (seen : List Str) (B' : AH) (D : DfsB B H' st dd n2 nds rd po nf sk ik se nd ep [] seen B') (G : Gr (suOf nds) (nms nds) [] seen (TDone (suOf nds))) (h : ∀ z ∈ dn, z ∈ seen) (l : seen.length + left (nms nds) seen ≤ nds.length) (v : Vs n2 sk ik se nd m')
inductive FcB (B : AH) (st dd n2 : Addr) (nds : List Nd) (rd : Option (Addr × List Str)) (po nf : Int) (sk ik se nd : Addr) (ep : Nat) (dn : List Str) (y : Str) (k : Nat) (m2 : Map) (H2 : AH) : Prop
  | mk (fr : List Fm) (seen : List Str) (x : Str) (B2 : AH) (e : m2 (Str.ofString "node") = some (.str x)) (i : x ∈ nms nds) (D : DfsB B H2 st dd n2 nds rd po nf sk ik se nd ep fr seen B2) (G : Gr (suOf nds) (nms nds) fr seen (TAt (suOf nds) x)) (h : ∀ z ∈ dn, z ∈ seen) (o : y ∈ seen ∨ x = y) (l : seen.length + left (nms nds) seen ≤ nds.length) (r : left (nms nds) seen * 1001 + room (suOf nds) fr = k) (v : Vs n2 sk ik se nd m2)
inductive FcC (B : AH) (st dd n2 : Addr) (nds : List Nd) (rd : Option (Addr × List Str)) (po nf : Int) (sk ik se nd : Addr) (ep : Nat) (dn : List Str) (y : Str) (k : Nat) (m3 : Map) (H3 : AH) : Prop
  | mk (fr : List Fm) (seen : List Str) (B3 : AH) (D : DfsB B H3 st dd n2 nds rd po nf sk ik se nd ep fr seen B3) (G : Gr (suOf nds) (nms nds) fr seen (TDone (suOf nds))) (h : ∀ z ∈ dn, z ∈ seen) (o : y ∈ seen) (l : seen.length + left (nms nds) seen ≤ nds.length) (r : left (nms nds) seen * 1001 + room (suOf nds) fr ≤ k) (v : Vs n2 sk ik se nd m3)
inductive FcD (B : AH) (st dd n2 : Addr) (nds : List Nd) (rd : Option (Addr × List Str)) (po nf : Int) (sk ik se nd : Addr) (ep : Nat) (dn : List Str) (y : Str) (k : Nat) (j : Nat) (m4 : Map) (H4 : AH) : Prop
  | mk (fr : List Fm) (seen : List Str) (B4 : AH) (q : fr.length = j) (D : DfsB B H4 st dd n2 nds rd po nf sk ik se nd ep fr seen B4) (G : Gr (suOf nds) (nms nds) fr seen (TDone (suOf nds))) (h : ∀ z ∈ dn, z ∈ seen) (o : y ∈ seen) (l : seen.length + left (nms nds) seen ≤ nds.length) (r : left (nms nds) seen * 1001 + room (suOf nds) fr ≤ k) (v : Vs n2 sk ik se nd m4)
theorem find_cycle : ∀ {c : Cx} {d : Nat} {p : Program} {loose : List Str} {mg mb : Str → Option Value} {B H : AH} {P : V → AH → Prop} {X : Exc → AH → Prop} {st dd n2 : Addr} {nds : List Nd} {rd : Option (Addr × List Str)} {po nf : Int}
    (hprog : c.prog = PySem.Challenge.rw_om0166_01.row.prog) (G : Gd (KF c.w.params) p loose mg mb c.g) (S : Srt B H st dd n2 nds rd po nf) (hl : nds.length ≤ 900)
    (hsu : ∀ x ∈ nms nds, (suOf nds x).length ≤ 1000 ∧ ∀ y ∈ suOf nds x, y ∈ nms nds)
    (h0 : (∀ x ∈ nms nds, Acc (Edge (suOf nds)) x) → ∀ H', Srt B H' st dd n2 nds rd po nf → P .none H')
    (h1 : (∃ x ∈ nms nds, ¬ Acc (Edge (suOf nds)) x) → ∀ H' a v vs, Srt B H' st dd n2 nds rd po nf → H' a = some (.list (v :: vs)) → vs.length ≤ 2000 → P (.ref a) H'), callP c (d + 1) (.ref 292) [.ref st] [] H P X := by
  w_on
  k_fill
  intro c d p loose mg mb B H P X st dd n2 nds rd po nf hprog G S hl hsu h0 h1
  refine' enter (d := d) (binds := [(Str.ofString "self", .ref st)]) G ?ho ?hcd ?hb ?hk ?hn ?hd ?_ ?c1 ?c2 ?c3
  ((case ho => k_is); (case hcd => k_is); (case hk => rfl); (case hn => decide +kernel); (case hd => exact of_decide_eq_true rfl); (case c1 => rfl); (case c2 => rfl); (case c3 => rfl); try (case hb => first | exact bnd0 rfl | exact bnd1 (fun _ => rfl) | exact bnd2 (fun _ _ => rfl) | exact bnd3 (fun _ _ _ => rfl)))
  intro A L
  have s1 := S.h1
  have s2 := S.h2
  (refine awSs_AssignK (by first | exact .inl rfl | exact .inr ⟨rfl, rfl⟩) rfl fun Kz hz1 => ?_; refine awE_Attr rfl ?_; refine awE_Name (by first | rfl | assumption) ?_ rfl rfl; refine getAttr_inst (by assumption) (by assumption) (by assumption) (by k_is) (by k_is) (by k_is) (by k_is) rfl (by intro i h; cases h) ?_; apply_assumption; refine awSs_AssignK (by first | exact .inl rfl | exact .inr ⟨rfl, rfl⟩) rfl fun Kz hz1 => ?_; refine awE_ListX ?_; refine awL_nil ?_)
  refine ⟨Nat.zero_le _, fun sk H1 x1 n1 e1 => ?_⟩
  obtain ⟨B1, y1, b1, d1, S1⟩ := S.base' x1 n1 e1
  (apply_assumption; refine awSs_AssignK (by first | exact .inl rfl | exact .inr ⟨rfl, rfl⟩) rfl fun Kz hz1 => ?_; refine awE_ListX ?_; refine awL_nil ?_)
  refine ⟨Nat.zero_le _, fun ik H2 x2 n2' e2 => ?_⟩
  obtain ⟨B2, y2, b2, d2, S2⟩ := S1.base' x2 n2' e2
  (apply_assumption; refine awSs_AssignK (by first | exact .inl rfl | exact .inr ⟨rfl, rfl⟩) rfl fun Kz hz1 => ?_; refine awE_Call (by intro o n ap h; cases h) (fun _ => rfl) (by intro _ h; first | rfl | cases h) ?_; refine awE_Bltn (by assumption) rfl (by k_is) (by first | boot_by_name | rfl) (by decide) ?_ rfl; refine ⟨_, rfl, (by first | exact keepOk_type _ | exact keepOk_builtin _ | exact keepOk_K (by assumption) (by k_is)), ?_⟩; refine awArgs_nil ?_)
  refine call_set0X fun se H3 x3 n3 e3 => ?_
  obtain ⟨B3, y3, b3, d3, S3⟩ := S2.base' x3 n3 e3
  (apply_assumption; refine awSs_AssignK (by first | exact .inl rfl | exact .inr ⟨rfl, rfl⟩) rfl fun Kz hz1 => ?_; refine awE_Dict0X (by assumption) ?_)
  intro nd H4 x4 n4 e4
  obtain ⟨B4, y4, b4, d4, S4⟩ := S3.base' x4 n4 e4
  obtain ⟨ep, s3⟩ := S4.h3
  have D0 : DfsB B H4 st dd n2 nds rd po nf sk ik se nd ep [] [] B4 := by
    refine ⟨y1.trans (y2.trans (y3.trans y4)), S4, b1, y1.none b2, y1.none (y2.none b3), y1.none (y2.none (y3.none b4)), (fun f hf => nomatch hf), Ext.ne d1 b2, y4.get (y3.get (y2.get d1)), y4.get (y3.get d2), y4.get d3, ⟨0, d4⟩, (fun f hf => nomatch hf), s3, List.nodup_nil, List.nodup_nil, Nat.le_refl _⟩
  (apply_assumption; refine awSs_consK fun Kz hz1 hz2 hz3 hz4 => ?_; refine awS_For rfl (fun _ => rfl) (by first | (show Storable _ _; exact .inl rfl) | (show Storable _ _; exact .inr ⟨rfl, rfl⟩) | exact (Or.inl rfl : Storable _ _) | exact (Or.inr ⟨rfl, rfl⟩ : Storable _ _) | exact ⟨(Or.inl rfl : Storable _ _), (Or.inl rfl : Storable _ _)⟩) ?_; refine awE_Name (by first | rfl | assumption) ?_ rfl rfl)
  refine ⟨.keys n2 nds.length ep, (nms nds).map V.str, by simp [iterK, s3], ?_⟩
  have hkeys : ∀ {H' : AH}, H' n2 = some (.dict (nds.map fun n => (n.nm, .ref n.ia)) ep) → (IK.keys n2 nds.length ep).items H' = some ((nms nds).map V.str) := fun h => by simp [IK.items, h]
  refine forP_J V.str (FcA B st dd n2 nds rd po nf sk ik se nd ep) ?_ ?_ ⟨[], B4, D0, Gr.start _ _ _, (fun z hz => nomatch hz), ?_, rfl, rfl, rfl, rfl, rfl⟩
  · rintro m' H' ⟨seen, B', D, Gp, hdn, hlen, hv⟩
    refine ⟨hkeys D.c6, ?_⟩
    (apply_assumption; refine awSs_consK fun Kz hz1 hz2 hz3 hz4 => ?_; refine awS_Return ?_; refine awE_Const rfl ?_; apply_assumption)
    exact h0 (fun x hx => Gp.g3 x (hdn x hx) (fun f hf => nomatch hf)) H' (D.S.weak D.ext)
  · rintro dn y r m' H' hys ⟨seen, B', D, Gp, hdn, hlen, hv⟩
    refine ⟨hkeys D.c6, fun K hn hc _ hret => ⟨_, rfl, ?_⟩⟩
    obtain ⟨v1, v2, v3, v4, v5⟩ := id hv
    have k3 := D.S.ext.get D.c3
    (refine awSs_consK fun Kz hz1 hz2 hz3 hz4 => ?_; refine awS_If ?_; refine awB_Compare rfl ?_; refine awE_Name (by first | rfl | assumption) ?_ rfl rfl; refine awE_Name (by first | rfl | assumption) ?_ rfl rfl; refine in_set (by assumption) ?_; refine ⟨_, rfl, ?_⟩)
    cases hin : seen.contains y
    · (refine ite_f (by first | rfl | assumption) ?_; refine awSs_nil ?_; apply_assumption; refine awSs_consK fun Kz hz1 hz2 hz3 hz4 => ?_)
      refine awS_WhileK (FcB B st dd n2 nds rd po nf sk ik se nd ep dn y) (left (nms nds) seen * 1001) ⟨[], seen, y, B', rfl, (by rw [hys]; simp), D, Gp.empty, hdn, .inr rfl, hlen, rfl, hv.node _⟩ ?_
      rintro Y hY k m2 H2 ⟨fr, seen2, x, B2, hx, hx0, D2, G2, hdn2, hy2, hlen2, hk, hv2⟩ KW kw1 kw2 kw3 kw4
      obtain ⟨v1, v2, v3, v4, v5⟩ := id hv2
      have k3 := D2.S.ext.get D2.c3
      (refine awB_value (fun _ => rfl) ?_; refine awE_Const rfl ?_; refine ⟨_, rfl, ?_⟩; refine ite_t (by first | rfl | assumption) ?_)
      refine awS_cutK (FcC B st dd n2 nds rd po nf sk ik se nd ep dn y k) ?_ ?_
      · intro C hC KC kc1 kc2 kc3 kc4
        (refine awS_If ?_; refine awB_Compare rfl ?_; refine awE_Name (by first | rfl | assumption) ?_ rfl rfl; refine awE_Name (by first | rfl | assumption) ?_ rfl rfl; refine in_set (by assumption) ?_; refine ⟨_, rfl, ?_⟩)
        cases hin2 : seen2.contains x
        · have hns : x ∉ seen2 := by simpa using hin2
          (refine ite_f (by first | rfl | assumption) ?_; refine awSs_ExprK rfl rfl fun Kz hz1 => ?_; refine awE_Meth (few := true) rfl rfl rfl (fun _ => rfl) (by intro _ h; first | rfl | cases h) ?_; refine awE_Name (by first | rfl | assumption) ?_ rfl rfl; refine awM_bi (by first | rfl | exact typeV_list (by assumption) | exact typeV_dict (by assumption) | exact typeV_set (by assumption)) (by decide) F.plainAttrs_set F.slot_set_add F.type_set_add ⟨keepOk_builtin _, ?_⟩; refine awArgs_plain (fun _ _ h => nomatch h) ?_; refine awL_cons (fun _ _ h => nomatch h) ?_; refine awE_Name (by first | rfl | assumption) ?_ rfl rfl; refine awL_nil ?_; refine awCall_1 ?_)
          refine call_set_addX k3 (by omega) fun H3 m3 e3 => ?_
          rw [if_neg hns] at e3
          obtain ⟨B3, mB3, eB3, S3⟩ := D2.S.out' D2.c3 m3 e3
          have f1 := mB3.mv D2.c3 D2.c1
          have f2 := mB3.mv D2.c3 D2.c2
          obtain ⟨epd, f4⟩ := D2.c4
          replace f4 := mB3.mv D2.c3 f4
          have f5 : ∀ f ∈ fr, B3 f.nx = some (.next f.it) ∧ B3 f.it = some (.iter f.sa f.ix) := fun f hf => ⟨mB3.mv D2.c3 (D2.c5 f hf).1, mB3.mv D2.c3 (D2.c5 f hf).2.1⟩
          have f6 := m3.mv k3 D2.c6
          have fe : Ext B B3 := Mod.extB D2.ext mB3 D2.b3
          have t1 := S3.h1
          have t2 := S3.h2
          have t5 := S3.ext.get f2
          obtain ⟨n, hn, hnx⟩ := mem_nms hx0
          subst hnx
          obtain ⟨u1, u2, u3⟩ := S3.h4 n hn
          (apply_assumption; refine awSs_ExprK rfl rfl fun Kz hz1 => ?_; refine awE_Meth (few := true) rfl rfl rfl (fun _ => rfl) (by intro _ h; first | rfl | cases h) ?_; refine awE_Name (by first | rfl | assumption) ?_ rfl rfl; refine awM_bi (by first | rfl | exact typeV_list (by assumption) | exact typeV_dict (by assumption) | exact typeV_set (by assumption)) (by decide) F.plainAttrs_list F.slot_list_append F.type_list_append ⟨keepOk_builtin _, ?_⟩; refine awArgs_plain (fun _ _ h => nomatch h) ?_; refine awL_cons (fun _ _ h => nomatch h) ?_; refine awE_Attr rfl ?_; refine awE_Call (by intro o n ap h; cases h) (fun _ => rfl) (by intro _ h; first | rfl | cases h) ?_; refine awE_Bltn (by assumption) rfl (by k_is) (by first | boot_by_name | rfl) (by decide) ?_ rfl; refine ⟨_, rfl, (by first | exact keepOk_type _ | exact keepOk_builtin _ | exact keepOk_K (by assumption) (by k_is)), ?_⟩; refine awArgs_plain (fun _ _ h => nomatch h) ?_; refine awL_cons (fun _ _ h => nomatch h) ?_; refine awE_Attr rfl ?_; refine awE_Sub (by intro _ _ _ h; cases h) ?_; refine awE_Name (by first | rfl | assumption) ?_ rfl rfl; refine awE_Name (by first | rfl | assumption) ?_ rfl rfl)
          refine sub_dict f6 (by rw [nds_lookup, nds_find_of S3.d1 hn]; rfl) ?_
          (refine getAttr_slot (by assumption) (by assumption) (by assumption) (by k_is) (by k_is) (by k_is) (by k_is) (by k_is) (by k_is) rfl (by intro i h; cases h) ?_; refine awL_nil ?_)
          refine call_iter_l u3 fun it H4 x4 n4 e4 => ?_
          obtain ⟨B4, y4, b4, d4, S4⟩ := S3.base' x4 n4 e4
          skip
          refine get_next e4 fun nx H5 x5 n5 e5 => ?_
          obtain ⟨B5, y5, b5, d5, S5⟩ := S4.base' x5 n5 e5
          (refine awL_nil ?_; refine awCall_1 ?_)
          refine call_appendX (S5.ext.get (y5.get (y4.get f2))) ?_ fun H6 m6 e6 => ?_
          · have := D2.d3; simp; omega
          have e6' : H6 ik = some (.list ((fr ++ [Fm.mk n.nm nx it n.sa 0]).map fun f => .ref f.nx)) := by rw [e6, List.map_append]; rfl
          obtain ⟨B6, mB6, eB6, S6⟩ := S5.out' (y5.get (y4.get f2)) m6 e6'
          have z1 : B6 sk = _ := mB6.get D2.ne (y5.get (y4.get f1))
          have z3 : B6 se = _ := mB6.mv (y5.get (y4.get f2)) (y5.get (y4.get eB3))
          have z4 : B6 nd = _ := mB6.mv (y5.get (y4.get f2)) (y5.get (y4.get f4))
          have z5 : ∀ f ∈ fr, B6 f.nx = some (.next f.it) ∧ B6 f.it = some (.iter f.sa f.ix) := fun f hf => ⟨mB6.mv (y5.get (y4.get f2)) (y5.get (y4.get (f5 f hf).1)), mB6.mv (y5.get (y4.get f2)) (y5.get (y4.get (f5 f hf).2))⟩
          have z7 : B6 nx = some (.next it) := mB6.mv (y5.get (y4.get f2)) d5
          have z8 : B6 it = some (.iter n.sa 0) := mB6.mv (y5.get (y4.get f2)) (y5.get d4)
          have z6 : H6 n2 = _ := m6.mv (S5.ext.get (y5.get (y4.get f2))) (x5.get (x4.get f6))
          have ze : Ext B B6 := Mod.extB (fe.trans (y4.trans y5)) mB6 D2.b2
          have hnn : ∀ f ∈ fr, f.nm ≠ n.nm := fun f hf z => hns (by rw [← z]; exact G2.g1 f hf)
          have w1 := S6.ext.get z1
          (apply_assumption; refine awSs_consK fun Kz hz1 hz2 hz3 hz4 => ?_; refine awS_SetItem rfl rfl (by intro _ _ _ _ h; cases h) ?_; refine awE_Call (by intro o n ap h; cases h) (fun _ => rfl) (by intro _ h; first | rfl | cases h) ?_; refine awE_Bltn (by assumption) rfl (by k_is) (by first | boot_by_name | rfl) (by decide) ?_ rfl; refine ⟨_, rfl, (by first | exact keepOk_type _ | exact keepOk_builtin _ | exact keepOk_K (by assumption) (by k_is)), ?_⟩; refine awArgs_plain (fun _ _ h => nomatch h) ?_; refine awL_cons (fun _ _ h => nomatch h) ?_; refine awE_Name (by first | rfl | assumption) ?_ rfl rfl; refine awL_nil ?_)
          refine call_len_l w1 (by have := D2.d3; simp; omega) ?_
          (refine awE_Name (by first | rfl | assumption) ?_ rfl rfl; refine awE_Name (by first | rfl | assumption) ?_ rfl rfl)
          refine ⟨nd, _, epd, n.nm, rfl, rfl, S6.ext.get z4, by have := D2.d3; rw [dk_length]; omega, fun ep' => ?_⟩
          rw [putD_new (by rw [dk_names]; intro z; obtain ⟨f, hf, e⟩ := List.mem_map.mp z; exact hnn f hf e), List.length_map, ← dk_append fr (Fm.mk n.nm nx it n.sa 0)]
          have m7 : Mod H6 nd (upd H6 nd (.dict (dk (fr ++ [Fm.mk n.nm nx it n.sa 0])) ep')) := Mod.upd _ _ _
          have e7 := upd_self H6 nd (.dict (dk (fr ++ [Fm.mk n.nm nx it n.sa 0])) ep')
          generalize upd H6 nd (.dict (dk (fr ++ [Fm.mk n.nm nx it n.sa 0])) ep') = H7 at m7 e7 ⊢
          obtain ⟨B7, mB7, eB7, S7⟩ := S6.out' z4 m7 e7
          have q1 : B7 sk = _ := mB7.mv z4 z1
          have q6 : H7 n2 = _ := m7.get (fun z => by have := S6.o3; rw [z, z4] at this; cases this) z6
          have w2 := S7.ext.get q1
          (apply_assumption; refine awSs_ExprK rfl rfl fun Kz hz1 => ?_; refine awE_Meth (few := true) rfl rfl rfl (fun _ => rfl) (by intro _ h; first | rfl | cases h) ?_; refine awE_Name (by first | rfl | assumption) ?_ rfl rfl; refine awM_bi (by first | rfl | exact typeV_list (by assumption) | exact typeV_dict (by assumption) | exact typeV_set (by assumption)) (by decide) F.plainAttrs_list F.slot_list_append F.type_list_append ⟨keepOk_builtin _, ?_⟩; refine awArgs_plain (fun _ _ h => nomatch h) ?_; refine awL_cons (fun _ _ h => nomatch h) ?_; refine awE_Name (by first | rfl | assumption) ?_ rfl rfl; refine awL_nil ?_; refine awCall_1 ?_)
          refine call_appendX w2 (by have := D2.d3; simp; omega) fun H8 m8 e8 => ?_
          have e8' : H8 sk = some (.list ((fr ++ [Fm.mk n.nm nx it n.sa 0]).map fun f => .str f.nm)) := by rw [e8, List.map_append]; rfl
          obtain ⟨B8, mB8, eB8, S8⟩ := S7.out' q1 m8 e8'
          (apply_assumption; refine awSs_nil ?_; apply_assumption)
          have hleft := left_push hx0 hns
          refine hC _ _ ⟨fr ++ [Fm.mk n.nm nx it n.sa 0], seen2 ++ [n.nm], B8, ?_, G2.push hns hx0 rfl rfl, (fun z hz => List.mem_append_left _ (hdn2 z hz)), ?_, ?_, ?_, hv2⟩
          · refine ⟨Mod.extB (Mod.extB ze mB7 D2.b4) mB8 D2.b1, S8, D2.b1, D2.b2, D2.b3, D2.b4, fun f hf => ?_, D2.ne, eB8, mB8.get D2.ne.symm (mB7.mv z4 eB6), mB8.mv q1 (mB7.mv z4 z3), ⟨ep', mB8.mv q1 eB7⟩, fun f hf => ?_, m8.mv w2 q6, ?_, ?_, ?_⟩
            · rcases List.mem_append.mp hf with hf | hf
              · exact D2.b5 f hf
              · rw [List.mem_singleton.mp hf]; exact fe.none b4
            · rcases List.mem_append.mp hf with hf | hf
              · exact ⟨mB8.mv q1 (mB7.mv z4 (z5 f hf).1), mB8.mv q1 (mB7.mv z4 (z5 f hf).2), (D2.c5 f hf).2.2⟩
              · rw [List.mem_singleton.mp hf]; exact ⟨mB8.mv q1 (mB7.mv z4 z7), mB8.mv q1 (mB7.mv z4 z8), n, hn, rfl, rfl⟩
            · rw [List.map_append, List.nodup_append]
              refine ⟨D2.d1, by simp, fun a ha b hb => ?_⟩
              rw [List.map_singleton, List.mem_singleton] at hb; subst hb
              obtain ⟨f, hf, rfl⟩ := List.mem_map.mp ha
              exact Ext.ne (f5 f hf).2 b4
            · rw [List.map_append, List.nodup_append]
              refine ⟨D2.d2, by simp, fun a ha b hb => ?_⟩
              rw [List.map_singleton, List.mem_singleton] at hb; subst hb
              obtain ⟨f, hf, rfl⟩ := List.mem_map.mp ha
              exact hnn f hf
            · have := D2.d3; simp; omega
          · rcases hy2 with h | h
            · exact List.mem_append_left _ h
            · rw [← h]; simp
          · rw [List.length_append, List.length_singleton]; omega
          · have r1 : room (suOf nds) [Fm.mk n.nm nx it n.sa 0] ≤ 1000 := by
              have := (hsu n.nm hx0).1
              simp [room]; exact this
            rw [room_append]; omega
        · have hs2 : x ∈ seen2 := by simpa using hin2
          obtain ⟨epd, f4⟩ := D2.c4
          have k4 := D2.S.ext.get f4
          have k1 := D2.S.ext.get D2.c1
          (refine ite_t (by first | rfl | assumption) ?_; refine awSs_consK fun Kz hz1 hz2 hz3 hz4 => ?_; refine awS_If ?_; refine awB_Compare rfl ?_; refine awE_Name (by first | rfl | assumption) ?_ rfl rfl; refine awE_Name (by first | rfl | assumption) ?_ rfl rfl; refine in_dict (by assumption) ?_; refine ⟨_, rfl, ?_⟩)
          rcases dk_lookup (fr := fr) (x := x) with ⟨i, hi⟩ | hi
          · rw [hi]
            (refine ite_t (by first | rfl | assumption) ?_; refine awSs_consK fun Kz hz1 hz2 hz3 hz4 => ?_; refine awS_Return ?_; refine awE_BinOp ?_; refine awE_SliceX ?_; refine awE_Name (by first | rfl | assumption) ?_ rfl rfl; refine awPart_some ?_; refine awE_Sub (by intro _ _ _ h; cases h) ?_; refine awE_Name (by first | rfl | assumption) ?_ rfl rfl; refine awE_Name (by first | rfl | assumption) ?_ rfl rfl)
            refine sub_dict k4 hi ?_
            (refine awPart_none ?_)
            refine ⟨sk, _, some i, none, rfl, k1, by have := D2.d3; simp; omega, .int i, .none, fun a1 H3 x3 n3 e3 => ?_⟩
            (refine awE_ListX ?_; refine awL_cons (fun _ _ h => nomatch h) ?_; refine awE_Name (by first | rfl | assumption) ?_ rfl rfl; refine awL_nil ?_)
            refine ⟨Nat.le_of_ble_eq_true rfl, fun a2 H4 x4 n4 e4 => ?_⟩
            refine add_listsX (x4.get e3) e4 ?_ fun a3 H5 x5 n5 e5 => ?_
            · have := D2.d3
              simp [sliceV]; omega
            (apply_assumption; apply_assumption; apply_assumption; apply_assumption; apply_assumption)
            have hf : x ∈ fr.map (·.nm) := by
              rw [← dk_names]
              exact List.mem_map_of_mem (f := (·.1)) (mem_of_lookup hi)
            obtain ⟨f, hf, hfx⟩ := List.mem_map.mp hf
            have hlen5 : (sliceV (fr.map fun f => V.str f.nm) (some i) none).length ≤ 1000 := by
              have := D2.d3
              simp [sliceV]; omega
            generalize sliceV (fr.map fun f => V.str f.nm) (some i) none = l at e5 hlen5
            have SB := (((D2.S.more x3).more x4).more x5).weak D2.ext
            have hno := G2.ring hf hfx
            skip
            refine hret _ _ _ ?_
            (apply_assumption)
            cases l with
            | nil => exact h1 ⟨x, hx0, hno⟩ H5 a3 _ _ SB e5 (by simp)
            | cons v l => exact h1 ⟨x, hx0, hno⟩ H5 a3 _ _ SB e5 (by simp at hlen5 ⊢; omega)
          · rw [hi]
            (refine ite_f (by first | rfl | assumption) ?_; refine awSs_nil ?_; apply_assumption; refine awSs_nil ?_; apply_assumption)
            have hnf : ∀ f ∈ fr, f.nm ≠ x := fun f hf z => by
              have := lookup_none_iff.mp hi
              rw [dk_names] at this
              exact this (List.mem_map.mpr ⟨f, hf, z⟩)
            refine hC _ _ ⟨fr, seen2, B2, D2, G2.old hs2 hnf, hdn2, ?_, hlen2, Nat.le_of_eq hk, hv2⟩
            rcases hy2 with h | h
            · exact h
            · rw [← h]; exact hs2
      · rintro m3 H3 ⟨fr3, seen3, B3, D3, G3, hdn3, hy3, hlen3, hk3, hv3⟩
        (refine awSs_consK fun Kz hz1 hz2 hz3 hz4 => ?_)
        refine awS_WhileK (FcD B st dd n2 nds rd po nf sk ik se nd ep dn y k) fr3.length ⟨fr3, seen3, B3, rfl, D3, G3, hdn3, hy3, hlen3, hk3, hv3⟩ ?_
        rintro Z hZ j m4 H4 ⟨fr, seen, B4, hj, D, G4, hdn4, hy4, hlen4, hk4, hv4⟩ KV kv1 kv2 kv3 kv4
        obtain ⟨v1, v2, v3, v4, v5⟩ := id hv4
        have k1 := D.S.ext.get D.c1
        have hfl := D.d3
        (refine awB_value (fun _ => rfl) ?_; refine awE_Name (by first | rfl | assumption) ?_ rfl rfl)
        rcases List.eq_nil_or_concat fr with hfr | ⟨fr', f, hfr⟩
        · subst hfr
          refine ⟨false, truth_list k1 (by simp), ?_⟩
          (refine ite_f (by first | rfl | assumption) ?_; refine awSs_consK fun Kz hz1 hz2 hz3 hz4 => ?_; refine awS_Break ?_; apply_assumption; apply_assumption; apply_assumption; apply_assumption; refine awSs_nil ?_)
          exact hn _ _ ⟨seen, B4, D, G4.empty, fun z hz => by
            rcases List.mem_append.mp hz with hz | hz
            · exact hdn4 z hz
            · rw [List.mem_singleton.mp hz]; exact hy4, hlen4, hv4⟩
        · rw [List.concat_eq_append] at hfr
          subst hfr
          have hfl' : fr'.length + 1 ≤ seen.length := by simpa using hfl
          refine ⟨true, (truth_list k1 (by rw [List.length_map]; omega)).trans (by simp), ?_⟩
          obtain ⟨a1, a2, n, hn', a3, a4⟩ := D.c5 f (by simp)
          have k2 := D.S.ext.get D.c2
          rw [List.map_append] at k2
          (refine ite_t (by first | rfl | assumption) ?_; refine awSs_consK fun Kz hz1 hz2 hz3 hz4 => ?_)
          refine awS_TryE isExc_StopIteration notTuple_StopIteration isSubtype_stop ?_ ?_
          · intro A' m' H'
            (refine awE_Bltn (by assumption) rfl (by k_is) (by first | boot_by_name | rfl) (by decide) ?_ rfl)
            exact ⟨rfl, rfl⟩
          · refine awSs_cons (awS_Assign (.inl rfl) rfl (awE_CallNext (by intro o n ap h; cases h) ?_))
            (refine awE_Sub (by intro _ _ _ h; cases h) ?_; refine awE_Name (by first | rfl | assumption) ?_ rfl rfl)
            refine awE_Neg ?_
            refine sub_last k2 (by rw [List.length_map]; omega) ?_
            refine ⟨f.nx, f.it, f.sa, f.ix, (suOf nds n.nm).map V.str, rfl, D.S.ext.get a1, D.S.ext.get a2, ?_, ?_⟩
            · rw [← a4, suOf_of D.S.d1 hn']; exact (D.S.h4 n hn').2.2
            have itne : ∀ g ∈ fr', g.it ≠ f.it := fun g hg z => by
              have := D.d1
              rw [List.map_append, List.nodup_append] at this
              exact this.2.2 g.it (List.mem_map_of_mem hg) f.it (by simp) z
            have nmne : ∀ g ∈ fr', g.nm ≠ f.nm := fun g hg z => by
              have := D.d2
              rw [List.map_append, List.nodup_append] at this
              exact this.2.2 g.nm (List.mem_map_of_mem hg) f.nm (by simp) z
            have d1' : (fr'.map (·.it)).Nodup := by have := D.d1; rw [List.map_append, List.nodup_append] at this; exact this.1
            have d2' : (fr'.map (·.nm)).Nodup := by have := D.d2; rw [List.map_append, List.nodup_append] at this; exact this.1
            obtain ⟨epd, c4⟩ := D.c4
            rw [List.getElem?_map]
            cases hy' : (suOf nds n.nm)[f.ix]? with
            | some y' =>
              intro H5 m5 e5
              obtain ⟨B5, mB5, eB5, S5⟩ := D.S.out' a2 m5 e5
              (refine awSs_consK fun Kz hz1 hz2 hz3 hz4 => ?_; refine awS_Break ?_; apply_assumption; apply_assumption; apply_assumption; apply_assumption; refine awSs_nil ?_; apply_assumption)
              have hlt : f.ix < (suOf nds n.nm).length := (List.getElem?_eq_some_iff.mp hy').1
              refine ⟨left (nms nds) seen * 1001 + room (suOf nds) (fr' ++ [{ f with ix := f.ix + 1 }]), ?_, hY _ _ _ ⟨fr' ++ [{ f with ix := f.ix + 1 }], seen, y', B5, rfl, ?_, ?_, G4.next (by rw [← a3]; exact hy') rfl rfl, hdn4, .inl hy4, hlen4, rfl, hv4.node _⟩⟩
              · rw [room_append] at hk4 ⊢
                simp only [room, List.map_cons, List.map_nil, List.sum_cons, List.sum_nil, ← a3] at hk4 ⊢
                omega
              · have hnn : n.nm ∈ nms nds := List.mem_map_of_mem hn'
                exact (hsu n.nm hnn).2 y' (List.mem_of_getElem? hy')
              · refine ⟨Mod.extB D.ext mB5 (D.b5 f (by simp)), S5, D.b1, D.b2, D.b3, D.b4, fun g hg => ?_, D.ne, ?_, ?_, mB5.mv a2 D.c3, ⟨epd, ?_⟩, fun g hg => ?_, m5.mv (D.S.ext.get a2) D.c6, ?_, ?_, ?_⟩
                · rcases List.mem_append.mp hg with hg | hg
                  · exact D.b5 g (List.mem_append_left _ hg)
                  · rw [List.mem_singleton.mp hg]; exact D.b5 f (by simp)
                · rw [mB5.mv a2 D.c1]; simp
                · rw [mB5.mv a2 D.c2]; simp
                · rw [mB5.mv a2 c4, dk_append, dk_append]
                · rcases List.mem_append.mp hg with hg | hg
                  · obtain ⟨w1, w2, w3⟩ := D.c5 g (List.mem_append_left _ hg)
                    exact ⟨mB5.mv a2 w1, mB5.get (itne g hg) w2, w3⟩
                  · rw [List.mem_singleton.mp hg]; exact ⟨mB5.mv a2 a1, eB5, n, hn', a3, a4⟩
                · have := D.d1; rw [List.map_append] at this ⊢; exact this
                · have := D.d2; rw [List.map_append] at this ⊢; exact this
                · have := D.d3; simpa using this
            | none =>
              refine ⟨rfl, fun H5 m5 _ => ⟨rfl, fun e => ?_⟩⟩
              obtain ⟨B5, mB5, eB5, S5⟩ := D.S.drop' a2 m5
              have f1 := mB5.mv a2 D.c1
              have f2 := mB5.mv a2 D.c2
              have f4 := mB5.mv a2 c4
              have f3 := mB5.mv a2 D.c3
              have f6 := m5.mv (D.S.ext.get a2) D.c6
              have fe : Ext B B5 := fun b o hb => mB5.get (fun z => by rw [z, D.b5 f (by simp)] at hb; cases hb) (D.ext.get hb)
              rw [List.map_append] at f1 f2
              have k6 := S5.ext.get f1
              (refine awSs_consK fun Kz hz1 hz2 hz3 hz4 => ?_; refine awS_DelItem ?_; refine awE_Name (by first | rfl | assumption) ?_ rfl rfl; refine awE_Meth (few := true) rfl rfl rfl (fun _ => rfl) (by intro _ h; first | rfl | cases h) ?_; refine awE_Name (by first | rfl | assumption) ?_ rfl rfl; refine awM_bi (by first | rfl | exact typeV_list (by assumption) | exact typeV_dict (by assumption) | exact typeV_set (by assumption)) (by decide) F.plainAttrs_list F.slot_list_pop F.type_list_pop ⟨keepOk_builtin _, ?_⟩; refine awArgs_nil ?_; refine awCall_1 ?_)
              refine call_popX k6 (by rw [List.length_map]; omega) fun H6 m6 e6 => ?_
              obtain ⟨B6, mB6, eB6, S6⟩ := S5.out' f1 m6 e6
              have g2 := mB6.get D.ne.symm f2
              have g4 := mB6.mv f1 f4
              have g3 := mB6.mv f1 f3
              have g6 := m6.mv k6 f6
              have ge : Ext B B6 := Mod.extB fe mB6 D.b1
              have k7 := S6.ext.get g4
              refine ⟨nd, _, epd, f.nm, rfl, rfl, k7, by rw [dk_length, List.length_append]; simp; omega, ?_, fun ep' => ?_⟩
              · rw [dk_append, lookup_append]
                have : (dk fr').lookup f.nm = none := lookup_none_iff.mpr (by rw [dk_names]; intro z; obtain ⟨g, hg, e⟩ := List.mem_map.mp z; exact nmne g hg e)
                rw [this]; simp
              rw [dk_drop nmne]
              have m7 : Mod H6 nd (upd H6 nd (.dict (dk fr') ep')) := Mod.upd _ _ _
              have e7 := upd_self H6 nd (.dict (dk fr') ep')
              generalize upd H6 nd (.dict (dk fr') ep') = H7 at m7 e7 ⊢
              obtain ⟨B7, mB7, eB7, S7⟩ := S6.out' g4 m7 e7
              have q2 := mB7.mv g4 g2
              have k8 := S7.ext.get q2
              have q6 : H7 n2 = _ := m7.get (fun z => by have := S6.o3; rw [z, g4] at this; cases this) g6
              (apply_assumption; refine awSs_ExprK rfl rfl fun Kz hz1 => ?_; refine awE_Meth (few := true) rfl rfl rfl (fun _ => rfl) (by intro _ h; first | rfl | cases h) ?_; refine awE_Name (by first | rfl | assumption) ?_ rfl rfl; refine awM_bi (by first | rfl | exact typeV_list (by assumption) | exact typeV_dict (by assumption) | exact typeV_set (by assumption)) (by decide) F.plainAttrs_list F.slot_list_pop F.type_list_pop ⟨keepOk_builtin _, ?_⟩; refine awArgs_nil ?_; refine awCall_1 ?_)
              refine call_popX k8 (by rw [List.length_map]; omega) fun H8 m8 e8 => ?_
              obtain ⟨B8, mB8, eB8, S8⟩ := S7.out' q2 m8 e8
              (apply_assumption; refine awSs_nil ?_; apply_assumption; refine awSs_nil ?_; apply_assumption)
              refine ⟨fr'.length, by rw [← hj]; simp, hZ _ _ _ ⟨fr', seen, B8, rfl, ?_, G4.pop (by rw [← a3]; exact hy') nmne, hdn4, hy4, hlen4, ?_, hv4⟩⟩
              · refine ⟨Mod.extB (Mod.extB ge mB7 D.b4) mB8 D.b2, S8, D.b1, D.b2, D.b3, D.b4, fun g hg => D.b5 g (List.mem_append_left _ hg), D.ne, mB8.get D.ne (mB7.mv g4 eB6), eB8, mB8.mv q2 (mB7.mv g4 g3), ⟨ep', mB8.mv q2 eB7⟩, fun g hg => ?_, m8.mv k8 q6, d1', d2', by omega⟩
                obtain ⟨w1, w2, w3⟩ := D.c5 g (List.mem_append_left _ hg)
                exact ⟨mB8.mv q2 (mB7.mv g4 (mB6.mv f1 (mB5.mv a2 w1))), mB8.mv q2 (mB7.mv g4 (mB6.mv f1 (mB5.get (itne g hg) w2))), w3⟩
              · rw [room_append] at hk4; omega
    · (refine ite_t (by first | rfl | assumption) ?_; refine awSs_consK fun Kz hz1 hz2 hz3 hz4 => ?_; refine awS_Continue ?_; apply_assumption; apply_assumption)
      refine hc _ _ ⟨seen, B', D, Gp, fun z hz => ?_, hlen, hv.node _⟩
      rcases List.mem_append.mp hz with hz | hz
      · exact hdn z hz
      · rw [List.mem_singleton.mp hz]; simpa using hin
  · simp [left, List.filter_eq_self.mpr]
def rdy0 (nds : List Nd) : List Str := (nds.filter fun n => n.np == 0).map (·.nm)
theorem prepare : ∀ {c : Cx} {d : Nat} {p : Program} {loose : List Str} {mg mb : Str → Option Value} {B H : AH} {P : V → AH → Prop} {X : Exc → AH → Prop} {st dd n2 : Addr} {nds : List Nd} {po nf : Int}
    (hprog : c.prog = PySem.Challenge.rw_om0166_01.row.prog) (G : Gd (KF c.w.params) p loose mg mb c.g) (S : Srt B H st dd n2 nds none po nf) (hl : nds.length ≤ 900)
    (hsu : ∀ x ∈ nms nds, (suOf nds x).length ≤ 1000 ∧ ∀ y ∈ suOf nds x, y ∈ nms nds)
    (h0 : (∀ x ∈ nms nds, Acc (Edge (suOf nds)) x) → ∀ H' rl, Srt B H' st dd n2 nds (some (rl, rdy0 nds)) po nf → P .none H')
    (h1 : (∃ x ∈ nms nds, ¬ Acc (Edge (suOf nds)) x) → ∀ H' rl, Srt B H' st dd n2 nds (some (rl, rdy0 nds)) po nf → X (.own 220) H'), callP c (d + 2) (.ref 257) [.ref st] [] H P X := by
  w_on
  k_fill
  intro c d p loose mg mb B H P X st dd n2 nds po nf hprog G S hl hsu h0 h1
  refine' enter (d := d + 1) (binds := [(Str.ofString "self", .ref st)]) G ?ho ?hcd ?hb ?hk ?hn ?hd ?_ ?c1 ?c2 ?c3
  ((case ho => k_is); (case hcd => k_is); (case hk => rfl); (case hn => decide +kernel); (case hd => exact of_decide_eq_true rfl); (case c1 => rfl); (case c2 => rfl); (case c3 => rfl); try (case hb => first | exact bnd0 rfl | exact bnd1 (fun _ => rfl) | exact bnd2 (fun _ _ => rfl) | exact bnd3 (fun _ _ _ => rfl)))
  intro A L
  have s1 := S.h1
  have s2 := S.h2
  obtain ⟨ep, s3⟩ := S.h3
  (refine awSs_consK fun Kz hz1 hz2 hz3 hz4 => ?_; refine awS_If ?_; refine awB_Compare rfl ?_; refine awE_Attr rfl ?_; refine awE_Name (by first | rfl | assumption) ?_ rfl rfl; refine getAttr_inst (by assumption) (by assumption) (by assumption) (by k_is) (by k_is) (by k_is) (by k_is) rfl (by intro i h; cases h) ?_; refine awE_Const rfl ?_; refine isnot_none rfl ?_; refine ⟨_, rfl, ?_⟩; refine ite_f (by first | rfl | assumption) ?_; refine awSs_nil ?_; apply_assumption; refine awSs_consK fun Kz hz1 hz2 hz3 hz4 => ?_; refine awS_SetAttr rfl rfl ?_; refine awE_ListComp rfl (compOk_of rfl rfl (by decide +kernel) rfl rfl) (fun _ => rfl) ?_; refine awE_Meth (few := true) rfl rfl rfl (fun _ => rfl) (by intro _ h; first | rfl | cases h) ?_; refine awE_Attr rfl ?_; refine awE_Name (by first | rfl | assumption) ?_ rfl rfl; refine getAttr_inst (by assumption) (by assumption) (by assumption) (by k_is) (by k_is) (by k_is) (by k_is) rfl (by intro i h; cases h) ?_; refine awM_bi (by first | rfl | exact typeV_list (by assumption) | exact typeV_dict (by assumption) | exact typeV_set (by assumption)) (by decide) F.plainAttrs_dict F.slot_dict_values F.type_dict_values ⟨keepOk_builtin _, ?_⟩; refine awArgs_nil ?_; refine awCall_1 ?_; refine call_values (by assumption) ?_)
  refine ⟨.vals n2 nds.length ep, nds.map (fun n => V.ref n.ia), by simp [iterK, s3], fun C => ?_⟩
  refine compItems_J (fun n : Nd => V.ref n.ia) (fun n : Nd => if n.np == 0 then some (V.str n.nm) else none) (fun _ H' => H' = H) (fun m' H' e => by subst e; simp [IK.items, s3]) (by simp; omega) rfl ?_ ?_
  · rintro n hn m' H' acc K hacc rfl hk
    obtain ⟨u1, u2, u3⟩ := S.h4 n hn
    refine compTurn1 rfl ?_
    (refine awB_Compare rfl ?_; refine awE_Attr rfl ?_; refine awE_Name (by first | rfl | assumption) ?_ rfl rfl; refine getAttr_slot (by assumption) (by assumption) (by assumption) (by k_is) (by k_is) (by k_is) (by k_is) (by k_is) (by k_is) rfl (by intro i h; cases h) ?_; refine awE_Const rfl ?_; refine cmp_eq_int ?_; refine ⟨_, rfl, ?_⟩)
    cases hz : (n.np == 0)
    · rw [hz] at hk
      (refine ite_f (by first | rfl | assumption) ?_)
      simpa using hk _ _ rfl
    · rw [hz] at hk
      refine ite_t rfl ⟨hacc, ?_⟩
      (refine awE_Attr rfl ?_; refine awE_Name (by first | rfl | assumption) ?_ rfl rfl; refine getAttr_slot (by assumption) (by assumption) (by assumption) (by k_is) (by k_is) (by k_is) (by k_is) (by k_is) (by k_is) rfl (by intro i h; cases h) ?_)
      exact hk _ _ rfl
  · rintro m' H' e
    obtain rfl := e.symm
    rw [List.nil_append]
    intro rl hrl
    have hxs : nds.filterMap (fun n : Nd => if n.np == 0 then some (V.str n.nm) else none) = (rdy0 nds).map V.str := by
      unfold rdy0
      rw [List.map_map, ← List.filterMap_eq_map, List.filterMap_filter]
      rfl
    rw [hxs]
    have x1 : Ext H (upd H rl (.list ((rdy0 nds).map V.str))) := Ext.fresh hrl
    have e1 := upd_self H rl (.list ((rdy0 nds).map V.str))
    generalize upd H rl (.list ((rdy0 nds).map V.str)) = H1 at x1 e1 ⊢
    have S1 := S.more x1
    have t1 := S1.h1
    have t2 := S1.h2
    (refine awE_Name (by first | rfl | assumption) ?_ rfl rfl; refine set_inst_x (by assumption) (by assumption) (by assumption) (by k_is) (by k_is) (by k_is) (by k_is) (by first | decide | exact Nat.le_of_ble_eq_true rfl) ?_)
    intro H2 m2 e2
    have S2 := S1.ns (rd' := some (rl, rdy0 nds)) (po' := po) (nf' := nf) m2 e2 (fun p hp => by
      cases hp
      exact ⟨S.ext.none hrl, e1, fun n hn => Ext.ne (S.h4 n hn).2.2 hrl⟩)
    have u1 := S2.h1
    have u2 := S2.h2
    (apply_assumption; refine awSs_AssignK (by first | exact .inl rfl | exact .inr ⟨rfl, rfl⟩) rfl fun Kz hz1 => ?_; refine awE_Meth (few := true) rfl rfl rfl (fun _ => rfl) (by intro _ h; first | rfl | cases h) ?_; refine awE_Name (by first | rfl | assumption) ?_ rfl rfl; refine awM_inst (by assumption) (by assumption) (by assumption) (by k_is) (by k_is) (by k_is) rfl ⟨keepOk_K (by assumption) (by k_is), ?_⟩; refine awArgs_nil ?_; refine awCall_1 ?_)
    refine awCall_of (find_cycle hprog G S2 hl hsu (fun ha H3 S3 => ?_) fun hna H3 a v vs S3 e3 hvl => ?_)
    · (apply_assumption; refine awSs_consK fun Kz hz1 hz2 hz3 hz4 => ?_; refine awS_If ?_; refine awB_value (fun _ => rfl) ?_; refine awE_Name (by first | rfl | assumption) ?_ rfl rfl; refine ⟨_, rfl, ?_⟩; refine ite_f (by first | rfl | assumption) ?_; refine awSs_nil ?_; apply_assumption; refine awSs_nil ?_)
      exact h0 ha H3 rl S3
    · (apply_assumption; refine awSs_consK fun Kz hz1 hz2 hz3 hz4 => ?_; refine awS_If ?_; refine awB_value (fun _ => rfl) ?_; refine awE_Name (by first | rfl | assumption) ?_ rfl rfl)
      refine ⟨true, (truth_list e3 (by simp; omega)).trans (by simp), ?_⟩
      (refine ite_t (by first | rfl | assumption) ?_; refine awSs_consK fun Kz hz1 hz2 hz3 hz4 => ?_)
      refine' awS_RaiseOwn (newId := "ValueError.__new__") G rfl PySem.F.excBase_ValueError ?hk ?ex ?hx ?hp ?hd ?_
      case hk => rfl
      case ex => k_is
      case hx => k_exc
      case hp => rfl
      case hd => rfl
      (refine awArgs_plain (fun _ _ h => nomatch h) ?_; refine awL_cons (fun _ _ h => nomatch h) ?_; refine awE_JStr ?_; refine awE_Const rfl ?_; refine awL_cons (fun _ _ h => nomatch h) ?_; refine awE_Name (by first | rfl | assumption) ?_ rfl rfl; refine awL_nil ?_)
      exact ⟨rfl, by simp, h1 hna H3 rl S3⟩
theorem isSub_IndexError : isSubtype (.type "IndexError") (.type "IndexError") = pure true := by rw [isSubtype_type]; kernel_rfl
theorem awS_TryY {c : Cx} {q : Md} {d : Nat} {A : Around} {env : Env} {m : Map} {H : AH} {P : Fl → Map → AH → Prop} {X : Exc → Map → AH → Prop} {pos hpos : Pos} {body orelse suite : List Stmt} {b₀ : Stmt} {t : Expr} {T : String} (Y : Map → AH → Prop)
    (hexc : isSubtype (.type T) (.type "BaseException") = pure true) (hnt : isSubtype (.type ((Manifest.find? T).elim "type" fun x => x.metatype)) (.type "tuple") = pure false) (hsub : isSubtype (.type T) (.type T) = pure true)
    (ht : ∀ A' m' H', awE c .loose d A' env t m' H' (fun x H₁ => x = .imm (.type T) ∧ H₁ = H') fun _ _ => False)
    (h : awSs c q d A env body m H (fun f m' H' => match f with | .next => awSs c q d A env orelse m' H' P X | f => P f m' H') fun k m' H' => k.cls = .type T ∧ Y m' H')
    (hy : ∀ A' m' H', Y m' H' → awSs c .loose d A' env (b₀ :: suite) m' H' P X) :
    awS c q d A env (.Try body [.ExceptHandler (some t) none (b₀ :: suite) hpos] orelse [] pos) m H P X :=
  awS_TryE hexc hnt hsub ht fun s S => wpAny_mono (h s S) (fun _ _ o => o) fun v s' o => by
    obtain ⟨k, m', H', ⟨a, b⟩, r, R, F, z⟩ := o
    exact ⟨k, m', H', ⟨a, fun e => hy _ _ _ b⟩, r, R, F, z⟩
theorem sub_out {c : Cx} {q : Md} {d : Nat} {A : Around} {fl : Option Addr} {H : AH} {P : V → AH → Prop} {X : Exc → AH → Prop} {a : Addr} {vs : List V} {k : Int} (hq : q ≠ .loose) (ha : H a = some (.list vs)) (h0 : (vs.length : Int) ≤ k) (h1 : k < 100000) (h : X (match q with | .quiet => .b "IndexError" | _ => .ch "IndexError") H) : SubG c q d A fl (.ref a) (.int k) H P X :=
  ⟨"list", _, by simp [typeV, ha], slot_list_getitem.lookup, by
    have := get_out (c := c) (q := q) (d := d) (A := A) (fl := fl) (P := P) (i := k.toNat) hq ha (by omega) (by omega) h
    rwa [Int.toNat_of_nonneg (by omega)] at this⟩
abbrev LtS (x y : Str) : Prop := x.cps.toList < y.cps.toList
theorem ltS_irrefl (x : Str) : ¬ LtS x x := List.lt_irrefl _
theorem ltS_asymm {x y : Str} (h : LtS x y) : ¬ LtS y x := List.lt_asymm h
theorem ltS_ne {x y : Str} (h : LtS x y) : x ≠ y := fun z => ltS_irrefl y (by rw [z] at h; exact h)
theorem ltS_eq {x y : Str} (h1 : ¬ LtS x y) (h2 : ¬ LtS y x) : x = y := by
  have : x.cps.toList = y.cps.toList := List.le_antisymm h2 h1
  cases x; cases y
  simp at this
  rw [this]
def minus (xs ys : List Str) : List Str := xs.filter fun x => !ys.contains x
theorem minus_all {xs ys : List Str} (h : ∀ x ∈ xs, x ∉ ys) : minus xs ys = xs := by
  unfold minus
  rw [List.filter_eq_self]
  intro x hx
  simpa using h x hx
theorem minus_append (a b ys : List Str) : minus (a ++ b) ys = minus a ys ++ minus b ys := List.filter_append ..
theorem minus_in {x : Str} {ys : List Str} (h : x ∈ ys) : minus [x] ys = [] := by unfold minus; simp [h]
theorem minus_out {x : Str} {ys : List Str} (h : x ∉ ys) : minus [x] ys = [x] := by unfold minus; simp [h]
theorem minus_len (xs ys : List Str) : (minus xs ys).length ≤ xs.length := List.length_filter_le ..
structure Sld (H0 H : AH) (ex ac mi un : Addr) (xs ys p r p' r' : List Str) (m : Map) : Prop where
  ext : Ext H0 H
  m0 : H0 mi = none
  u0 : H0 un = none
  ne : mi ≠ un
  hx : xs = p ++ r
  hy : ys = p' ++ r'
  k1 : ∀ y ∈ r', y ∉ p
  k2 : ∀ x ∈ r, x ∉ p'
  hm : H mi = some (.list ((minus p ys).map V.str))
  hu : H un = some (.list ((minus p' xs).map V.str))
  vi : m (Str.ofString "i") = some (.int p.length)
  vj : m (Str.ofString "j") = some (.int p'.length)
  ve : m (Str.ofString "expected") = some (.ref ex)
  va : m (Str.ofString "actual") = some (.ref ac)
  vm : m (Str.ofString "missing") = some (.ref mi)
  vu : m (Str.ofString "unexpected") = some (.ref un)
section
variable {H0 H H3 : AH} {ex ac mi un : Addr} {xs ys p r p' r' : List Str} {m : Map} {e a : Str}
theorem Sld.setE (Z : Sld H0 H ex ac mi un xs ys p r p' r' m) (v : V) : Sld H0 H ex ac mi un xs ys p r p' r' (set m (Str.ofString "e") v) := ⟨Z.ext, Z.m0, Z.u0, Z.ne, Z.hx, Z.hy, Z.k1, Z.k2, Z.hm, Z.hu, Z.vi, Z.vj, Z.ve, Z.va, Z.vm, Z.vu⟩
theorem Sld.setA (Z : Sld H0 H ex ac mi un xs ys p r p' r' m) (v : V) : Sld H0 H ex ac mi un xs ys p r p' r' (set m (Str.ofString "a") v) := ⟨Z.ext, Z.m0, Z.u0, Z.ne, Z.hx, Z.hy, Z.k1, Z.k2, Z.hm, Z.hu, Z.vi, Z.vj, Z.ve, Z.va, Z.vm, Z.vu⟩
theorem lt_rest {p r : List Str} {e : Str} (h : (p ++ e :: r).Pairwise LtS) : ∀ y ∈ r, LtS e y := by
  rw [List.pairwise_append] at h
  exact (List.pairwise_cons.mp h.2.1).1
theorem Sld.left (Z : Sld H0 H ex ac mi un xs ys p (e :: r) p' (a :: r') m) (hys : ys.Pairwise LtS) (hlt : LtS e a) (M : Mod H mi H3) (e3 : H3 mi = some (.list ((minus p ys).map V.str ++ [.str e]))) : Sld H0 H3 ex ac mi un xs ys (p ++ [e]) r p' (a :: r') (set m (Str.ofString "i") (.int (p.length + 1))) := by
  have hr := lt_rest (by rw [← Z.hy]; exact hys)
  have ne : ∀ y ∈ a :: r', e ≠ y := fun y hy => by
    rcases List.mem_cons.mp hy with rfl | hy
    · exact ltS_ne hlt
    · exact ltS_ne (List.lt_trans hlt (hr y hy))
  have hout : e ∉ ys := by
    rw [Z.hy, List.mem_append]
    rintro (h | h)
    · exact Z.k2 e (by simp) h
    · exact ne e h rfl
  refine ⟨M.ext Z.ext Z.m0, Z.m0, Z.u0, Z.ne, by rw [Z.hx]; simp, Z.hy, fun y hy hp => ?_, fun x hx => Z.k2 x (List.mem_cons_of_mem _ hx), ?_, M.get Z.ne.symm Z.hu, ?_, Z.vj, Z.ve, Z.va, Z.vm, Z.vu⟩
  · rcases List.mem_append.mp hp with hp | hp
    · exact Z.k1 y hy hp
    · rw [List.mem_singleton] at hp; exact ne y hy hp.symm
  · rw [minus_append, minus_out hout, List.map_append]; exact e3
  · rw [List.length_append, List.length_singleton]; rfl
theorem Sld.right (Z : Sld H0 H ex ac mi un xs ys p (e :: r) p' (a :: r') m) (hxs : xs.Pairwise LtS) (hlt : LtS a e) (M : Mod H un H3) (e3 : H3 un = some (.list ((minus p' xs).map V.str ++ [.str a]))) : Sld H0 H3 ex ac mi un xs ys p (e :: r) (p' ++ [a]) r' (set m (Str.ofString "j") (.int (p'.length + 1))) := by
  have hr := lt_rest (by rw [← Z.hx]; exact hxs)
  have ne : ∀ y ∈ e :: r, a ≠ y := fun y hy => by
    rcases List.mem_cons.mp hy with rfl | hy
    · exact ltS_ne hlt
    · exact ltS_ne (List.lt_trans hlt (hr y hy))
  have hout : a ∉ xs := by
    rw [Z.hx, List.mem_append]
    rintro (h | h)
    · exact Z.k1 a (by simp) h
    · exact ne a h rfl
  refine ⟨M.ext Z.ext Z.u0, Z.m0, Z.u0, Z.ne, Z.hx, by rw [Z.hy]; simp, fun y hy => Z.k1 y (List.mem_cons_of_mem _ hy), fun y hy hp => ?_, M.get Z.ne Z.hm, ?_, Z.vi, ?_, Z.ve, Z.va, Z.vm, Z.vu⟩
  · rcases List.mem_append.mp hp with hp | hp
    · exact Z.k2 y hy hp
    · rw [List.mem_singleton] at hp; exact ne y hy hp.symm
  · rw [minus_append, minus_out hout, List.map_append]; exact e3
  · rw [List.length_append, List.length_singleton]; rfl
theorem Sld.both (Z : Sld H0 H ex ac mi un xs ys p (e :: r) p' (e :: r') m) (hxs : xs.Pairwise LtS) (hys : ys.Pairwise LtS) : Sld H0 H ex ac mi un xs ys (p ++ [e]) r (p' ++ [e]) r' (set (set m (Str.ofString "i") (.int (p.length + 1))) (Str.ofString "j") (.int (p'.length + 1))) := by
  have hr := lt_rest (by rw [← Z.hx]; exact hxs)
  have hr' := lt_rest (by rw [← Z.hy]; exact hys)
  refine ⟨Z.ext, Z.m0, Z.u0, Z.ne, by rw [Z.hx]; simp, by rw [Z.hy]; simp, fun y hy hp => ?_, fun y hy hp => ?_, ?_, ?_, ?_, ?_, Z.ve, Z.va, Z.vm, Z.vu⟩
  · rcases List.mem_append.mp hp with hp | hp
    · exact Z.k1 y (List.mem_cons_of_mem _ hy) hp
    · rw [List.mem_singleton] at hp; exact ltS_ne (hr' y hy) hp.symm
  · rcases List.mem_append.mp hp with hp | hp
    · exact Z.k2 y (List.mem_cons_of_mem _ hy) hp
    · rw [List.mem_singleton] at hp; exact ltS_ne (hr y hy) hp.symm
  · rw [minus_append, minus_in (by rw [Z.hy]; simp), List.append_nil]; exact Z.hm
  · rw [minus_append, minus_in (by rw [Z.hx]; simp), List.append_nil]; exact Z.hu
  · rw [List.length_append, List.length_singleton]; rfl
  · rw [List.length_append, List.length_singleton]; rfl
theorem Sld.fin (Z : Sld H0 H ex ac mi un xs ys p r p' r' m) (h : r = [] ∨ r' = []) : minus xs ys = minus p ys ++ r ∧ minus ys xs = minus p' xs ++ r' := by
  refine ⟨?_, ?_⟩
  · conv => lhs; rw [Z.hx]
    rw [minus_append, minus_all (xs := r)]
    intro x hx hy
    rw [Z.hy] at hy
    rcases List.mem_append.mp hy with hy | hy
    · exact Z.k2 x hx hy
    · rcases h with rfl | rfl
      · cases hx
      · cases hy
  · conv => lhs; rw [Z.hy]
    rw [minus_append, minus_all (xs := r')]
    intro x hx hy
    rw [Z.hx] at hy
    rcases List.mem_append.mp hy with hy | hy
    · exact Z.k1 x hx hy
    · rcases h with rfl | rfl
      · cases hy
      · cases hx
theorem at_mid {p r : List Str} {e : Str} : ((p ++ e :: r).map V.str)[((p.length : Nat) : Int).toNat]? = some (.str e) := by simp
theorem at_end {p : List Str} : (((p ++ []).map V.str).length : Int) ≤ (p.length : Int) := by simp
end
inductive SldJ (H0 : AH) (ex ac mi un : Addr) (xs ys : List Str) (n : Nat) (m : Map) (H : AH) : Prop
  | mk (p r p' r' : List Str) (Z : Sld H0 H ex ac mi un xs ys p r p' r' m) (e : n = r.length + r'.length)
inductive SldY (H0 : AH) (ex ac mi un : Addr) (xs ys : List Str) (m : Map) (H : AH) : Prop
  | mk (p r p' r' : List Str) (Z : Sld H0 H ex ac mi un xs ys p r p' r' m) (e : r = [] ∨ r' = [])
theorem sld : ∀ {c : Cx} {d : Nat} {p : Program} {loose : List Str} {mg mb : Str → Option Value} {H : AH} {P : V → AH → Prop} {X : Exc → AH → Prop} {ex ac : Addr} {xs ys : List Str}
    (hprog : c.prog = PySem.Challenge.rw_om0166_01.row.prog) (G : Gd (KF c.w.params) p loose mg mb c.g) (he : H ex = some (.list (xs.map V.str))) (ha : H ac = some (.list (ys.map V.str))) (hxs : xs.Pairwise LtS) (hys : ys.Pairwise LtS) (hxl : xs.length ≤ 1000) (hyl : ys.length ≤ 1000)
    (h : ∀ H' a b, Ext H H' → H a = none → H b = none → H' a = some (.list ((minus xs ys).map V.str)) → H' b = some (.list ((minus ys xs).map V.str)) → P (.tup [.ref a, .ref b]) H'), callP c (d + 1) (.ref 313) [.ref ex, .ref ac] [] H P X := by
  w_on
  k_fill
  intro c d p loose mg mb H P X ex ac xs ys hprog G he ha hxs hys hxl hyl h
  refine' enter (d := d) (binds := [(Str.ofString "expected", .ref ex), (Str.ofString "actual", .ref ac)]) G ?ho ?hcd ?hb ?hk ?hn ?hd ?_ ?c1 ?c2 ?c3
  ((case ho => k_is); (case hcd => k_is); (case hk => rfl); (case hn => decide +kernel); (case hd => exact of_decide_eq_true rfl); (case c1 => rfl); (case c2 => rfl); (case c3 => rfl); try (case hb => first | exact bnd0 rfl | exact bnd1 (fun _ => rfl) | exact bnd2 (fun _ _ => rfl) | exact bnd3 (fun _ _ _ => rfl)))
  intro A L
  (refine awSs_consK fun Kz hz1 hz2 hz3 hz4 => ?_; refine awS_Assign2 (by first | exact .inl rfl | exact .inr ⟨rfl, rfl⟩) (by first | exact .inl rfl | exact .inr ⟨rfl, rfl⟩) rfl rfl ?_; refine awE_Const rfl ?_; apply_assumption; refine awSs_AssignK (by first | exact .inl rfl | exact .inr ⟨rfl, rfl⟩) rfl fun Kz hz1 => ?_; refine awE_ListX ?_; refine awL_nil ?_)
  refine ⟨Nat.zero_le _, fun mi H1 x1 n1 e1 => ?_⟩
  (apply_assumption; refine awSs_AssignK (by first | exact .inl rfl | exact .inr ⟨rfl, rfl⟩) rfl fun Kz hz1 => ?_; refine awE_ListX ?_; refine awL_nil ?_)
  refine ⟨Nat.zero_le _, fun un H2 x2 n2 e2 => ?_⟩
  (apply_assumption; refine awSs_consK fun Kz hz1 hz2 hz3 hz4 => ?_)
  refine awS_WhileK (SldJ H ex ac mi un xs ys) (xs.length + ys.length) (⟨[], xs, [], ys, ⟨x1.trans x2, n1, x1.none n2, Ext.ne e1 n2, rfl, rfl, (fun _ _ z => nomatch z), (fun _ _ z => nomatch z), x2.get e1, e2, rfl, rfl, rfl, rfl, rfl, rfl⟩, rfl⟩) ?_
  rintro J hJ n m' H' ⟨p, r, p', r', Z, hn⟩ KW kw1 kw2 kw3 kw4
  (refine awB_value (fun _ => rfl) ?_; refine awE_Const rfl ?_; refine ⟨_, rfl, ?_⟩; refine ite_t (by first | rfl | assumption) ?_)
  (refine awSs_consK fun Kz hz1 hz2 hz3 hz4 => ?_)
  refine awS_TryY (SldY H ex ac mi un xs ys) PySem.F.isExc_IndexError PySem.F.notTuple_IndexError isSub_IndexError ?_ ?_ ?_
  · intro A' m' H'
    (refine awE_Bltn (by assumption) rfl (by k_is) (by first | boot_by_name | rfl) (by decide) ?_ rfl)
    exact ⟨rfl, rfl⟩
  · have b1 := congrArg List.length Z.hx
    have b2 := congrArg List.length Z.hy
    rw [List.length_append] at b1 b2
    obtain ⟨v1, v2, v3, v4, v5, v6⟩ : _ ∧ _ ∧ _ ∧ _ ∧ _ ∧ _ := ⟨Z.vi, Z.vj, Z.ve, Z.va, Z.vm, Z.vu⟩
    have k1 := Z.ext.get he
    have k2 := Z.ext.get ha
    (refine awSs_AssignK (by first | exact .inl rfl | exact .inr ⟨rfl, rfl⟩) rfl fun Kz hz1 => ?_; refine awE_Sub (by intro _ _ _ h; cases h) ?_; refine awE_Name (by first | rfl | assumption) ?_ rfl rfl; refine awE_Name (by first | rfl | assumption) ?_ rfl rfl)
    cases r with
    | nil =>
      refine sub_out nofun k1 (by rw [Z.hx]; exact at_end) (by omega) ⟨rfl, ⟨p, [], p', r', Z, .inl rfl⟩⟩
    | cons e r =>
      refine sub_list k1 (by omega) (by omega) (by rw [Z.hx]; exact at_mid) ?_
      have Z1 := Z.setE (.str e)
      (apply_assumption; refine awSs_AssignK (by first | exact .inl rfl | exact .inr ⟨rfl, rfl⟩) rfl fun Kz hz1 => ?_; refine awE_Sub (by intro _ _ _ h; cases h) ?_; refine awE_Name (by first | rfl | assumption) ?_ rfl rfl; refine awE_Name (by first | rfl | assumption) ?_ rfl rfl)
      cases r' with
      | nil => exact sub_out nofun k2 (by rw [Z.hy]; exact at_end) (by omega) ⟨rfl, ⟨p, e :: r, p', [], Z1, .inr rfl⟩⟩
      | cons a r' =>
        refine sub_list k2 (by omega) (by omega) (by rw [Z.hy]; exact at_mid) ?_
        have Z2 := Z1.setA (.str a)
        simp only [List.length_cons] at b1 b2 hn
        (apply_assumption; refine awSs_consK fun Kz hz1 hz2 hz3 hz4 => ?_; refine awS_If ?_; refine awB_Compare rfl ?_; refine awE_Name (by first | rfl | assumption) ?_ rfl rfl; refine awE_Name (by first | rfl | assumption) ?_ rfl rfl; refine cmp_lt_str ?_; refine ⟨_, rfl, ?_⟩)
        have k3 := Z2.hm
        have k4 := Z2.hu
        have l1 := minus_len p ys
        have l2 := minus_len p' xs
        cases hlt : decide (e.cps.toList < a.cps.toList)
        · have hlt' : ¬ LtS e a := by simpa using hlt
          (refine ite_f (by first | rfl | assumption) ?_; refine awSs_consK fun Kz hz1 hz2 hz3 hz4 => ?_; refine awS_If ?_; refine awB_Compare rfl ?_; refine awE_Name (by first | rfl | assumption) ?_ rfl rfl; refine awE_Name (by first | rfl | assumption) ?_ rfl rfl; refine cmp_gt_str ?_; refine ⟨_, rfl, ?_⟩)
          cases hgt : decide (a.cps.toList < e.cps.toList)
          · have hgt' : ¬ LtS a e := by simpa using hgt
            obtain rfl := ltS_eq hlt' hgt'
            (refine ite_f (by first | rfl | assumption) ?_; refine awSs_consK fun Kz hz1 hz2 hz3 hz4 => ?_; refine awS_AugName (by first | rfl | assumption) (by first | exact .inl rfl | exact .inr ⟨rfl, rfl⟩) rfl ?_; refine awE_Const rfl ?_; refine iadd_ints ?_; apply_assumption; refine awSs_consK fun Kz hz1 hz2 hz3 hz4 => ?_)
            have Z5 := Z2.both hxs hys
            have hcar : ∀ y ∈ r, (y == e) = false := fun y hy => by
              have := lt_rest (by rw [← Z.hx]; exact hxs) y hy
              simpa using (ltS_ne this).symm
            have hcar' : ∀ y ∈ r', (y == e) = false := fun y hy => by
              have := lt_rest (by rw [← Z.hy]; exact hys) y hy
              simpa using (ltS_ne this).symm
            have c1 : xs = (p ++ [e]) ++ r := by rw [Z.hx]; simp
            have c2 : ys = (p' ++ [e]) ++ r' := by rw [Z.hy]; simp
            have c3 : ((p.length : Nat) : Int) + 1 = ((p ++ [e]).length : Nat) := by simp
            have c4 : ((p'.length : Nat) : Int) + 1 = ((p' ++ [e]).length : Nat) := by simp
            rw [c3, c4] at Z5
            rw [c3]
            generalize hM : set (set (set m' (Str.ofString "e") (V.str e)) (Str.ofString "a") (V.str e)) (Str.ofString "i") (V.int ((p ++ [e]).length : Nat)) = M at Z5 ⊢
            have w1 : M (Str.ofString "expected") = some (.ref ex) := by rw [← hM]; exact v3
            have w2 : M (Str.ofString "actual") = some (.ref ac) := by rw [← hM]; exact v4
            have w3 : M (Str.ofString "i") = some (.int ((p ++ [e]).length : Nat)) := by rw [← hM]; rfl
            have w4 : M (Str.ofString "j") = some (.int (p'.length : Nat)) := by rw [← hM]; exact v2
            have w5 : M (Str.ofString "e") = some (.str e) := by rw [← hM]; rfl
            have w6 : M (Str.ofString "a") = some (.str e) := by rw [← hM]; rfl
            have b3 : (p ++ [e]).length ≤ 2000 := by simp; omega
            have b4 : (p' ++ [e]).length ≤ 2000 := by simp; omega
            refine awS_TryF ?_
            (refine awSs_consK fun Kz hz1 hz2 hz3 hz4 => ?_)
            refine awS_While0 ?_
            (refine awB_Compare rfl ?_; refine awE_Sub (by intro _ _ _ h; cases h) ?_; refine awE_Name (by first | rfl | assumption) ?_ rfl rfl; refine awE_Name (by first | rfl | assumption) ?_ rfl rfl)
            cases r with
            | nil =>
              refine sub_out nofun k1 (by rw [c1]; exact at_end) (by omega) ⟨rfl, fun ex' => ?_⟩
              (refine awSs_consK fun Kz hz1 hz2 hz3 hz4 => ?_; refine awS_AugName (by first | rfl | assumption) (by first | exact .inl rfl | exact .inr ⟨rfl, rfl⟩) rfl ?_; refine awE_Const rfl ?_; refine iadd_ints ?_; apply_assumption; refine awSs_consK fun Kz hz1 hz2 hz3 hz4 => ?_)
              rw [c4]
              refine awS_While0 ?_
              (refine awB_Compare rfl ?_; refine awE_Sub (by intro _ _ _ h; cases h) ?_; refine awE_Name (by first | rfl | assumption) ?_ rfl rfl; refine awE_Name (by first | rfl | assumption) ?_ rfl rfl)
              cases r' with
              | nil => exact sub_out nofun k2 (by rw [c2]; exact at_end) (by omega) ⟨rfl, ⟨_, [], _, [], Z5, .inl rfl⟩⟩
              | cons a2 r' =>
                refine sub_list k2 (by omega) (by omega) (by rw [c2]; exact at_mid) ?_
                have hne := hcar' a2 (by simp)
                (refine awE_Name (by first | rfl | assumption) ?_ rfl rfl; refine cmp_eq_str ?_; refine ⟨_, rfl, ?_⟩; refine ite_f (by first | rfl | assumption) ?_; refine awSs_nil ?_; apply_assumption; refine awSs_nil ?_)
                exact ⟨rfl, ⟨_, [], _, _, Z5, .inl rfl⟩⟩
            | cons e2 r =>
              refine sub_list k1 (by omega) (by omega) (by rw [c1]; exact at_mid) ?_
              have hne := hcar e2 (by simp)
              (refine awE_Name (by first | rfl | assumption) ?_ rfl rfl; refine cmp_eq_str ?_; refine ⟨_, rfl, ?_⟩; refine ite_f (by first | rfl | assumption) ?_; refine awSs_nil ?_; apply_assumption; refine awSs_nil ?_; refine awSs_consK fun Kz hz1 hz2 hz3 hz4 => ?_; refine awS_AugName (by first | rfl | assumption) (by first | exact .inl rfl | exact .inr ⟨rfl, rfl⟩) rfl ?_; refine awE_Const rfl ?_; refine iadd_ints ?_; apply_assumption; refine awSs_consK fun Kz hz1 hz2 hz3 hz4 => ?_)
              rw [c4]
              refine awS_While0 ?_
              (refine awB_Compare rfl ?_; refine awE_Sub (by intro _ _ _ h; cases h) ?_; refine awE_Name (by first | rfl | assumption) ?_ rfl rfl; refine awE_Name (by first | rfl | assumption) ?_ rfl rfl)
              cases r' with
              | nil => exact sub_out nofun k2 (by rw [c2]; exact at_end) (by omega) ⟨rfl, ⟨_, _, _, [], Z5, .inr rfl⟩⟩
              | cons a2 r' =>
                refine sub_list k2 (by omega) (by omega) (by rw [c2]; exact at_mid) ?_
                have hne := hcar' a2 (by simp)
                (refine awE_Name (by first | rfl | assumption) ?_ rfl rfl; refine cmp_eq_str ?_; refine ⟨_, rfl, ?_⟩; refine ite_f (by first | rfl | assumption) ?_; refine awSs_nil ?_; apply_assumption; refine awSs_nil ?_; apply_assumption; refine awSs_nil ?_; apply_assumption; refine awSs_nil ?_; apply_assumption; refine awSs_nil ?_; refine awSs_nil ?_; apply_assumption; refine awSs_nil ?_; apply_assumption)
                refine ⟨_, ?_, hJ _ _ _ ⟨_, _, _, _, Z5, rfl⟩⟩
                simp only [List.length_cons] at hn ⊢; omega
          · have hgt' : LtS a e := by simpa using hgt
            (refine ite_t (by first | rfl | assumption) ?_; refine awSs_ExprK rfl rfl fun Kz hz1 => ?_; refine awE_Meth (few := true) rfl rfl rfl (fun _ => rfl) (by intro _ h; first | rfl | cases h) ?_; refine awE_Name (by first | rfl | assumption) ?_ rfl rfl; refine awM_bi (by first | rfl | exact typeV_list (by assumption) | exact typeV_dict (by assumption) | exact typeV_set (by assumption)) (by decide) F.plainAttrs_list F.slot_list_append F.type_list_append ⟨keepOk_builtin _, ?_⟩; refine awArgs_plain (fun _ _ h => nomatch h) ?_; refine awL_cons (fun _ _ h => nomatch h) ?_; refine awE_Name (by first | rfl | assumption) ?_ rfl rfl; refine awL_nil ?_; refine awCall_1 ?_; refine call_append_x (by assumption) (by first | assumption | omega | decide | (simp only [List.length_map, List.length_append, List.length_cons, List.length_nil]; omega)) ?_)
            (try refine call_appendX k4 (by simp; omega) ?_)
            intro H3 m3 e3
            (apply_assumption; refine awSs_consK fun Kz hz1 hz2 hz3 hz4 => ?_; refine awS_AugName (by first | rfl | assumption) (by first | exact .inl rfl | exact .inr ⟨rfl, rfl⟩) rfl ?_; refine awE_Const rfl ?_; refine iadd_ints ?_; apply_assumption; refine awSs_consK fun Kz hz1 hz2 hz3 hz4 => ?_)
            have Z3 := Z2.right hxs hgt' m3 e3
            have q1 := Z3.ext.get ha
            have c4 : ((p'.length : Nat) : Int) + 1 = ((p' ++ [a]).length : Nat) := by simp
            rw [c4] at Z3 ⊢
            refine awS_While0 ?_
            (refine awB_Compare rfl ?_; refine awE_Sub (by intro _ _ _ h; cases h) ?_; refine awE_Name (by first | rfl | assumption) ?_ rfl rfl; refine awE_Name (by first | rfl | assumption) ?_ rfl rfl)
            cases r' with
            | nil => exact sub_out nofun q1 (by rw [Z3.hy]; exact at_end) (by simp; omega) ⟨rfl, ⟨p, e :: r, _, [], Z3, .inr rfl⟩⟩
            | cons a2 r' =>
              refine sub_list q1 (by omega) (by simp; omega) (by rw [Z3.hy]; exact at_mid) ?_
              have hne : (a2 == a) = false := by
                have := lt_rest (by rw [← Z.hy]; exact hys) a2 (by simp)
                simpa using (ltS_ne this).symm
              (refine awE_Name (by first | rfl | assumption) ?_ rfl rfl; refine cmp_eq_str ?_; refine ⟨_, rfl, ?_⟩; refine ite_f (by first | rfl | assumption) ?_; refine awSs_nil ?_; apply_assumption; refine awSs_nil ?_; apply_assumption; refine awSs_nil ?_; apply_assumption; refine awSs_nil ?_; refine awSs_nil ?_; apply_assumption; refine awSs_nil ?_; apply_assumption)
              refine ⟨_, ?_, hJ _ _ _ ⟨p, e :: r, _, a2 :: r', Z3, rfl⟩⟩
              simp only [List.length_cons] at hn ⊢; omega
        · have hlt' : LtS e a := by simpa using hlt
          (refine ite_t (by first | rfl | assumption) ?_; refine awSs_ExprK rfl rfl fun Kz hz1 => ?_; refine awE_Meth (few := true) rfl rfl rfl (fun _ => rfl) (by intro _ h; first | rfl | cases h) ?_; refine awE_Name (by first | rfl | assumption) ?_ rfl rfl; refine awM_bi (by first | rfl | exact typeV_list (by assumption) | exact typeV_dict (by assumption) | exact typeV_set (by assumption)) (by decide) F.plainAttrs_list F.slot_list_append F.type_list_append ⟨keepOk_builtin _, ?_⟩; refine awArgs_plain (fun _ _ h => nomatch h) ?_; refine awL_cons (fun _ _ h => nomatch h) ?_; refine awE_Name (by first | rfl | assumption) ?_ rfl rfl; refine awL_nil ?_; refine awCall_1 ?_; refine call_append_x (by assumption) (by first | assumption | omega | decide | (simp only [List.length_map, List.length_append, List.length_cons, List.length_nil]; omega)) ?_)
          (try refine call_appendX k3 (by simp; omega) ?_)
          intro H3 m3 e3
          (apply_assumption; refine awSs_consK fun Kz hz1 hz2 hz3 hz4 => ?_; refine awS_AugName (by first | rfl | assumption) (by first | exact .inl rfl | exact .inr ⟨rfl, rfl⟩) rfl ?_; refine awE_Const rfl ?_; refine iadd_ints ?_; apply_assumption; refine awSs_consK fun Kz hz1 hz2 hz3 hz4 => ?_)
          have Z3 := Z2.left hys hlt' m3 e3
          have q1 := Z3.ext.get he
          have c3 : ((p.length : Nat) : Int) + 1 = ((p ++ [e]).length : Nat) := by simp
          rw [c3] at Z3 ⊢
          refine awS_While0 ?_
          (refine awB_Compare rfl ?_; refine awE_Sub (by intro _ _ _ h; cases h) ?_; refine awE_Name (by first | rfl | assumption) ?_ rfl rfl; refine awE_Name (by first | rfl | assumption) ?_ rfl rfl)
          cases r with
          | nil => exact sub_out nofun q1 (by rw [Z3.hx]; exact at_end) (by simp; omega) ⟨rfl, ⟨_, [], p', a :: r', Z3, .inl rfl⟩⟩
          | cons e2 r =>
            refine sub_list q1 (by omega) (by simp; omega) (by rw [Z3.hx]; exact at_mid) ?_
            have hne : (e2 == e) = false := by
              have := lt_rest (by rw [← Z.hx]; exact hxs) e2 (by simp)
              simpa using (ltS_ne this).symm
            (refine awE_Name (by first | rfl | assumption) ?_ rfl rfl; refine cmp_eq_str ?_; refine ⟨_, rfl, ?_⟩; refine ite_f (by first | rfl | assumption) ?_; refine awSs_nil ?_; apply_assumption; refine awSs_nil ?_; apply_assumption; refine awSs_nil ?_; refine awSs_nil ?_; apply_assumption; refine awSs_nil ?_; apply_assumption)
            refine ⟨_, ?_, hJ _ _ _ ⟨_, e2 :: r, p', a :: r', Z3, rfl⟩⟩
            simp only [List.length_cons] at hn ⊢; omega
  · intro A' m2 H2 hy
    obtain ⟨p, r, p', r', Z, hr⟩ := hy
    obtain ⟨v1, v2, v3, v4, v5, v6⟩ : _ ∧ _ ∧ _ ∧ _ ∧ _ ∧ _ := ⟨Z.vi, Z.vj, Z.ve, Z.va, Z.vm, Z.vu⟩
    obtain ⟨f1, f2⟩ := Z.fin hr
    have b1 := congrArg List.length Z.hx
    have b2 := congrArg List.length Z.hy
    rw [List.length_append] at b1 b2
    have l1 := minus_len p ys
    have l2 := minus_len p' xs
    have hm := Z.hm
    (refine awSs_ExprK rfl rfl fun Kz hz1 => ?_; refine awE_Meth (few := true) rfl rfl rfl (fun _ => rfl) (by intro _ h; first | rfl | cases h) ?_; refine awE_Name (by first | rfl | assumption) ?_ rfl rfl; refine awM_bi (by first | rfl | exact typeV_list (by assumption) | exact typeV_dict (by assumption) | exact typeV_set (by assumption)) (by decide) F.plainAttrs_list F.slot_list_extend F.type_list_extend ⟨keepOk_builtin _, ?_⟩; refine awArgs_plain (fun _ _ h => nomatch h) ?_; refine awL_cons (fun _ _ h => nomatch h) ?_; refine awE_SliceX ?_; refine awE_Name (by first | rfl | assumption) ?_ rfl rfl; refine awPart_some ?_; refine awE_Name (by first | rfl | assumption) ?_ rfl rfl; refine awPart_none ?_)
    refine ⟨ex, _, some p.length, none, rfl, Z.ext.get he, by rw [List.length_map]; omega, .int _, .none, fun s1 H3 x3 n3 e3 => ?_⟩
    (refine awL_nil ?_; refine awCall_1 ?_)
    refine call_extendX (x3.get Z.hm) e3 (by simp [sliceV]; omega) fun H4 m4 e4 => ?_
    have e4' : H4 mi = some (.list ((minus xs ys).map V.str)) := by
      rw [e4, f1, List.map_append]
      simp only [sliceV, Option.getD_some, ← List.map_drop]
      rw [Z.hx, List.drop_left]
    have g1 := m4.get Z.ne.symm (x3.get Z.hu)
    have X4 : Ext H H4 := m4.ext (Z.ext.trans x3) Z.m0
    (apply_assumption; refine awSs_ExprK rfl rfl fun Kz hz1 => ?_; refine awE_Meth (few := true) rfl rfl rfl (fun _ => rfl) (by intro _ h; first | rfl | cases h) ?_; refine awE_Name (by first | rfl | assumption) ?_ rfl rfl; refine awM_bi (by first | rfl | exact typeV_list (by assumption) | exact typeV_dict (by assumption) | exact typeV_set (by assumption)) (by decide) F.plainAttrs_list F.slot_list_extend F.type_list_extend ⟨keepOk_builtin _, ?_⟩; refine awArgs_plain (fun _ _ h => nomatch h) ?_; refine awL_cons (fun _ _ h => nomatch h) ?_; refine awE_SliceX ?_; refine awE_Name (by first | rfl | assumption) ?_ rfl rfl; refine awPart_some ?_; refine awE_Name (by first | rfl | assumption) ?_ rfl rfl; refine awPart_none ?_)
    refine ⟨ac, _, some p'.length, none, rfl, X4.get ha, by rw [List.length_map]; omega, .int _, .none, fun s2 H5 x5 n5 e5 => ?_⟩
    (refine awL_nil ?_; refine awCall_1 ?_)
    refine call_extendX (x5.get g1) e5 (by simp [sliceV]; omega) fun H6 m6 e6 => ?_
    have e6' : H6 un = some (.list ((minus ys xs).map V.str)) := by
      rw [e6, f2, List.map_append]
      simp only [sliceV, Option.getD_some, ← List.map_drop]
      rw [Z.hy, List.drop_left]
    (apply_assumption; refine awSs_consK fun Kz hz1 hz2 hz3 hz4 => ?_; refine awS_Break ?_; apply_assumption; apply_assumption; apply_assumption; apply_assumption; refine awSs_consK fun Kz hz1 hz2 hz3 hz4 => ?_; refine awS_Return ?_; refine awE_Tuple ?_; refine awL_cons (fun _ _ h => nomatch h) ?_; refine awE_Name (by first | rfl | assumption) ?_ rfl rfl; refine awL_cons (fun _ _ h => nomatch h) ?_; refine awE_Name (by first | rfl | assumption) ?_ rfl rfl; refine awL_nil ?_)
    refine ⟨by simp, ?_⟩
    (apply_assumption)
    exact h H6 mi un (m6.ext (X4.trans x5) Z.u0) Z.m0 Z.u0 (m6.get Z.ne (x5.get e4')) e6'
def letr (k : Nat) : Str := ⟨#[97 + k]⟩
abbrev pairV (q : Str × Str) : V := .tup [.str q.1, .str q.2]
def arrowOf (x : Int) : Option (Str × Str) :=
  let n := x.fmod 108
  let l := (n.fdiv 6).fmod 6
  let r := n.fmod 6
  if 72 ≤ n ∨ r < l then some (letr l.toNat, letr r.toNat) else if l < r then some (letr r.toNat, letr l.toNat) else none
def padded (xs : List Int) : List Int := (xs.take 8 ++ [34, 33, 26, 20, 25, 12, 90, 1]).take 8
def arrowsOf (xs : List Int) : List (Str × Str) := (padded xs).filterMap arrowOf
theorem letter_at {k : Nat} (h : k < 6) : (Str.ofString "abcdef").cps[k]? = some (97 + k) := by
  match k, h with
  | 0, _ => decide +kernel
  | 1, _ => decide +kernel
  | 2, _ => decide +kernel
  | 3, _ => decide +kernel
  | 4, _ => decide +kernel
  | 5, _ => decide +kernel
  | k + 6, h => omega
def GL (c : Cx) (a : Addr) (vs : List V) : Prop := ∃ items : Array Value, c.g.IsList a items ∧ VRs c.g vs items.toList
theorem awE_SliceG {c : Cx} {q : Md} {d : Nat} {A : Around} {env : Env} {m : Map} {H : AH} {P : V → AH → Prop} {X : Exc → AH → Prop} {pos : Pos} {value : Expr} {lower upper : Option Expr} {pp : Pos}
    (h : awE c q d A env value m H (fun x H₁ => awPart c q d A env lower m H₁ (fun y H₂ => awPart c q d A env upper m H₂ (fun z H₃ => ∃ a vs lo hi, x = .ref a ∧ GL c a vs ∧ vs.length ≤ 100000 ∧ PartV y lo ∧ PartV z hi ∧ New H₃ (.list (sliceV vs lo hi)) P) X) X) X) : awE c q d A env (.Subscript value (.Slice lower upper none pp) pos) m H P X := by
  intro s F
  refine Slice_any (T := "list") list_getitem_lookup (awT_then h F (fun x H₁ s₁ v hp F₁ hv S => ?_) fun _ _ o => o)
  refine wpAny_Slice (wpAny_mono (hp.ok F₁) (fun vl s₂ hvl => ?_) fun _ _ o => o.from S)
  obtain ⟨y, H₂, hp₂, hy, R₂, S₂⟩ := hvl
  have F₂ := F₁.step R₂ S₂
  refine wpAny_mono (hp₂.ok F₂) (fun vu s₃ hvu => ?_) fun _ _ o => o.from (S.trans S₂)
  obtain ⟨z, H₃, ⟨a, vs, lo, hi, rfl, ⟨items, ⟨ob, ho, hoc, hod⟩, hr⟩, hl, hlo, hhi, hp₃⟩, hz, R₃, S₃⟩ := hvu
  cases hv
  have hs1 : items.size = vs.length := by rw [← Array.length_toList]; exact hr.length.symm
  have hL : s₃.heap.IsList a items := ⟨ob, R₃.keep _ _ ho, hoc, hod⟩
  have hy' := hy.mono (R₂.tk S₃)
  rw [evalPart_none]
  refine wpAny_pure ⟨(hL.push _).typeIs, wpAny_getItem_list_slice (hL.push _) (Heap.IsSliceOf.new ..) (hlo.part hy') (hhi.part hz) .none (by simp) ?_ (by rw [hs1]; exact size_le hl)⟩
  have R₄ := R₃.push0 { cls := .type "slice", data := .fields #[vl, vu, .none] } s₃.toks
  have S₄ := Step.push0 H₃ s₃ { cls := .type "slice", data := .fields #[vl, vu, .none] } s₃.toks
  have tk₄ := (TK.of_keeps R₃.keep).trans (R₃.tk S₄)
  refine OutE.from (S.trans (S₂.trans (S₃.trans S₄))) ?_
  exact OutE.newList (s := { s₃ with heap := s₃.heap.push { cls := .type "slice", data := .fields #[vl, vu, .none] }, toks := s₃.toks }) (t := s₃.toks) R₄ (by rw [slice_eq]; unfold sliceV; cases hi <;> first | exact (hr.mono tk₄).drop _ | exact ((hr.mono tk₄).take _).drop _) hp₃.use
theorem law_arrows : ∀ {c : Cx} {d : Nat} {p : Program} {loose : List Str} {mg mb : Str → Option Value} {H : AH} {P : V → AH → Prop} {X : Exc → AH → Prop} {sc : Addr} {xs : List Int}
    (hprog : c.prog = PySem.Challenge.rw_om0166_01.row.prog) (G : Gd (KF c.w.params) p loose mg mb c.g) (h3 : GL c sc (xs.map V.int)) (hal : xs.length ≤ 100000)
    (h : ∀ a H', Ext H H' → H a = none → H' a = some (.list ((arrowsOf xs).map pairV)) → P (.ref a) H'), callP c (d + 2) (.ref 320) [.ref sc] [] H P X := by
  w_on
  k_fill
  intro c d p loose mg mb H P X sc xs hprog G h3 hal h
  refine' enter (d := d + 1) (binds := [(Str.ofString "script", .ref sc)]) G ?ho ?hcd ?hb ?hk ?hn ?hd ?_ ?c1 ?c2 ?c3
  ((case ho => k_is); (case hcd => k_is); (case hk => rfl); (case hn => decide +kernel); (case hd => exact of_decide_eq_true rfl); (case c1 => rfl); (case c2 => rfl); (case c3 => rfl); try (case hb => first | exact bnd0 rfl | exact bnd1 (fun _ => rfl) | exact bnd2 (fun _ _ => rfl) | exact bnd3 (fun _ _ _ => rfl)))
  intro A L
  (refine awSs_AssignK (by first | exact .inl rfl | exact .inr ⟨rfl, rfl⟩) rfl fun Kz hz1 => ?_; refine awE_ListX ?_; refine awL_nil ?_)
  refine ⟨Nat.zero_le _, fun ar H1 x1 n1 e1 => ?_⟩
  (apply_assumption; refine awSs_consK fun Kz hz1 hz2 hz3 hz4 => ?_; refine awS_For rfl (fun _ => rfl) (by first | (show Storable _ _; exact .inl rfl) | (show Storable _ _; exact .inr ⟨rfl, rfl⟩) | exact (Or.inl rfl : Storable _ _) | exact (Or.inr ⟨rfl, rfl⟩ : Storable _ _) | exact ⟨(Or.inl rfl : Storable _ _), (Or.inl rfl : Storable _ _)⟩) ?_; refine awE_SliceX ?_; refine awE_BinOp ?_)
  refine awE_SliceG ?_
  (refine awE_Name (by first | rfl | assumption) ?_ rfl rfl; refine awPart_none ?_; refine awPart_some ?_; refine awE_Const rfl ?_)
  refine ⟨sc, xs.map V.int, none, some 8, rfl, h3, by simpa using hal, .none, .int 8, fun s2 H2 x2 n2 e2 => ?_⟩
  (refine awE_ListX ?_; refine awL_cons (fun _ _ h => nomatch h) ?_; refine awE_Const rfl ?_; refine awL_cons (fun _ _ h => nomatch h) ?_; refine awE_Const rfl ?_; refine awL_cons (fun _ _ h => nomatch h) ?_; refine awE_Const rfl ?_; refine awL_cons (fun _ _ h => nomatch h) ?_; refine awE_Const rfl ?_; refine awL_cons (fun _ _ h => nomatch h) ?_; refine awE_Const rfl ?_; refine awL_cons (fun _ _ h => nomatch h) ?_; refine awE_Const rfl ?_; refine awL_cons (fun _ _ h => nomatch h) ?_; refine awE_Const rfl ?_; refine awL_cons (fun _ _ h => nomatch h) ?_; refine awE_Const rfl ?_; refine awL_nil ?_)
  refine ⟨Nat.le_of_ble_eq_true rfl, fun s3 H3 x3 n3 e3 => ?_⟩
  have hs8 : (sliceV (xs.map V.int) none (some 8)).length ≤ 8 := by simp [sliceV]; omega
  refine add_listsX (x3.get e2) e3 (by simp; omega) fun s4 H4 x4 n4 e4 => ?_
  (refine awPart_none ?_; refine awPart_some ?_; refine awE_Const rfl ?_)
  refine ⟨s4, _, none, some 8, rfl, e4, by simp; omega, .none, .int 8, fun s5 H5 x5 n5 e5 => ?_⟩
  have hpad : sliceV (sliceV (xs.map V.int) none (some 8) ++ [V.int 34, V.int 33, V.int 26, V.int 20, V.int 25, V.int 12, V.int 90, V.int 1]) none (some 8) = (padded xs).map V.int := by
    simp [sliceV, padded, List.map_take]
  rw [hpad] at e5
  have a5 := x5.get (x4.get (x3.get (x2.get e1)))
  have X5 := x1.trans (x2.trans (x3.trans (x4.trans x5)))
  have ns : s5 ≠ ar := fun z => by
    have := (x2.trans (x3.trans x4)).get e1
    rw [← z, n5] at this; cases this
  have hpl : (padded xs).length ≤ 8 := by simp [padded]
  refine ⟨.list s5, (padded xs).map V.int, by simp [iterK, e5], ?_⟩
  refine forP_J V.int (fun dn rest m' H' => Ext H H' ∧ H' s5 = some (.list ((padded xs).map V.int)) ∧ H' ar = some (.list ((dn.filterMap arrowOf).map pairV)) ∧ m' (Str.ofString "arrows") = some (.ref ar)) ?_ ?_ ⟨X5, e5, a5, rfl⟩
  · rintro m' H' ⟨w1, w2, w3, w4⟩
    refine ⟨by simp [IK.items, w2], ?_⟩
    (apply_assumption; refine awSs_consK fun Kz hz1 hz2 hz3 hz4 => ?_; refine awS_Return ?_; refine awE_Name (by first | rfl | assumption) ?_ rfl rfl; apply_assumption)
    exact h ar H' w1 n1 w3
  · rintro dn x r m' H' hxs ⟨w1, w2, w3, w4⟩
    refine ⟨by simp [IK.items, w2], fun K hn _ _ _ => ⟨_, rfl, ?_⟩⟩
    have hdl : (dn.filterMap arrowOf).length ≤ 8 := Nat.le_trans (List.length_filterMap_le ..) (by have := congrArg List.length hxs; simp at this; omega)
    (refine awSs_AssignK (by first | exact .inl rfl | exact .inr ⟨rfl, rfl⟩) rfl fun Kz hz1 => ?_; refine awE_BinOp ?_; refine awE_Name (by first | rfl | assumption) ?_ rfl rfl; refine awE_Const rfl ?_; refine mod_ints (by decide) ?_; apply_assumption; refine awSs_AssignK (by first | exact .inl rfl | exact .inr ⟨rfl, rfl⟩) rfl fun Kz hz1 => ?_; refine awE_BinOp ?_; refine awE_BinOp ?_; refine awE_Name (by first | rfl | assumption) ?_ rfl rfl; refine awE_Const rfl ?_)
    have n0 : 0 ≤ x.fmod 108 := Int.fmod_nonneg_of_pos _ (by decide)
    have n1' : x.fmod 108 < 108 := Int.fmod_lt_of_pos _ (by decide)
    have hsnoc : (dn ++ [x]).filterMap arrowOf = dn.filterMap arrowOf ++ (arrowOf x).toList := by
      rw [List.filterMap_append]; simp only [List.filterMap_cons, List.filterMap_nil]
      cases arrowOf x <;> rfl
    have harr : arrowOf x = if 72 ≤ x.fmod 108 ∨ (x.fmod 108).fmod 6 < ((x.fmod 108).fdiv 6).fmod 6 then some (letr (((x.fmod 108).fdiv 6).fmod 6).toNat, letr ((x.fmod 108).fmod 6).toNat) else if ((x.fmod 108).fdiv 6).fmod 6 < (x.fmod 108).fmod 6 then some (letr ((x.fmod 108).fmod 6).toNat, letr (((x.fmod 108).fdiv 6).fmod 6).toNat) else none := rfl
    generalize x.fmod 108 = N at n0 n1' harr hz1 ⊢
    refine fdiv_ints (by omega) (by decide) (by decide) ?_
    (refine awE_Const rfl ?_; refine mod_ints (by decide) ?_; apply_assumption; refine awSs_AssignK (by first | exact .inl rfl | exact .inr ⟨rfl, rfl⟩) rfl fun Kz hz1 => ?_; refine awE_BinOp ?_; refine awE_Name (by first | rfl | assumption) ?_ rfl rfl; refine awE_Const rfl ?_; refine mod_ints (by decide) ?_; apply_assumption; refine awSs_consK fun Kz hz1 hz2 hz3 hz4 => ?_; refine awS_If ?_; refine awB_BoolOp ?_; refine awAll_Or_cons ?_; refine awB_Compare rfl ?_; refine awE_Name (by first | rfl | assumption) ?_ rfl rfl; refine awE_Const rfl ?_; refine cmp_ge_int ?_; refine ⟨_, rfl, ?_⟩)
    have l0 : 0 ≤ (N.fdiv 6).fmod 6 := Int.fmod_nonneg_of_pos _ (by decide)
    have l1 : (N.fdiv 6).fmod 6 < 6 := Int.fmod_lt_of_pos _ (by decide)
    have r0 : 0 ≤ N.fmod 6 := Int.fmod_nonneg_of_pos _ (by decide)
    have r1 : N.fmod 6 < 6 := Int.fmod_lt_of_pos _ (by decide)
    generalize (N.fdiv 6).fmod 6 = lf at l0 l1 harr ⊢
    generalize N.fmod 6 = rt at r0 r1 harr ⊢
    have cl : (Str.ofString "abcdef").cps[lf.toNat]? = some (97 + lf.toNat) := letter_at (by omega)
    have cr : (Str.ofString "abcdef").cps[rt.toNat]? = some (97 + rt.toNat) := letter_at (by omega)
    cases h72 : decide (72 ≤ N)
    · have g1 : ¬ 72 ≤ N := by simpa using h72
      (refine ite_f (by first | rfl | assumption) ?_; refine awAll_Or_cons ?_; refine awB_Compare rfl ?_; refine awE_Name (by first | rfl | assumption) ?_ rfl rfl; refine awE_Name (by first | rfl | assumption) ?_ rfl rfl; refine cmp_gt_int ?_; refine ⟨_, rfl, ?_⟩)
      cases hgt : decide (rt < lf)
      · have g2 : ¬ rt < lf := by simpa using hgt
        (refine ite_f (by first | rfl | assumption) ?_; refine awAll_Or_nil ?_; refine ite_f (by first | rfl | assumption) ?_; refine awSs_consK fun Kz hz1 hz2 hz3 hz4 => ?_; refine awS_If ?_; refine awB_Compare rfl ?_; refine awE_Name (by first | rfl | assumption) ?_ rfl rfl; refine awE_Name (by first | rfl | assumption) ?_ rfl rfl; refine cmp_lt_int ?_; refine ⟨_, rfl, ?_⟩)
        cases hlt : decide (lf < rt)
        · have g3 : ¬ lf < rt := by simpa using hlt
          (refine ite_f (by first | rfl | assumption) ?_; refine awSs_nil ?_; apply_assumption; refine awSs_nil ?_; apply_assumption; refine awSs_nil ?_)
          refine hn _ _ ⟨w1, w2, ?_, w4⟩
          rw [hsnoc, harr, if_neg (by omega), if_neg g3]
          simpa using w3
        · have g3 : lf < rt := by simpa using hlt
          (refine ite_t (by first | rfl | assumption) ?_; refine awSs_ExprK rfl rfl fun Kz hz1 => ?_; refine awE_Meth (few := true) rfl rfl rfl (fun _ => rfl) (by intro _ h; first | rfl | cases h) ?_; refine awE_Name (by first | rfl | assumption) ?_ rfl rfl; refine awM_bi (by first | rfl | exact typeV_list (by assumption) | exact typeV_dict (by assumption) | exact typeV_set (by assumption)) (by decide) F.plainAttrs_list F.slot_list_append F.type_list_append ⟨keepOk_builtin _, ?_⟩; refine awArgs_plain (fun _ _ h => nomatch h) ?_; refine awL_cons (fun _ _ h => nomatch h) ?_; refine awE_Tuple ?_; refine awL_cons (fun _ _ h => nomatch h) ?_; refine awE_Sub (by intro _ _ _ h; cases h) ?_; refine awE_Const rfl ?_; refine awE_Name (by first | rfl | assumption) ?_ rfl rfl)
          refine sub_str r0 (by omega) cr ?_
          (refine awL_cons (fun _ _ h => nomatch h) ?_; refine awE_Sub (by intro _ _ _ h; cases h) ?_; refine awE_Const rfl ?_; refine awE_Name (by first | rfl | assumption) ?_ rfl rfl)
          refine sub_str l0 (by omega) cl ?_
          (refine awL_nil ?_)
          refine ⟨by simp, ?_⟩
          (refine awL_nil ?_; refine awCall_1 ?_; refine call_append_x (by assumption) (by first | assumption | omega | decide | (simp only [List.length_map, List.length_append, List.length_cons, List.length_nil]; omega)) ?_)
          (try refine call_appendX w3 (by simp; omega) ?_)
          intro H2 m2 e2
          (apply_assumption; refine awSs_nil ?_; apply_assumption; refine awSs_nil ?_; apply_assumption; refine awSs_nil ?_)
          refine hn _ _ ⟨m2.ext w1 n1, m2.get (fun z => ns (by rw [← z])) w2, ?_, w4⟩
          rw [e2, hsnoc, harr, if_neg (by omega), if_pos g3]
          simp [letr]
      · have g2 : rt < lf := by simpa using hgt
        (refine ite_t (by first | rfl | assumption) ?_; refine ite_t (by first | rfl | assumption) ?_; refine awSs_ExprK rfl rfl fun Kz hz1 => ?_; refine awE_Meth (few := true) rfl rfl rfl (fun _ => rfl) (by intro _ h; first | rfl | cases h) ?_; refine awE_Name (by first | rfl | assumption) ?_ rfl rfl; refine awM_bi (by first | rfl | exact typeV_list (by assumption) | exact typeV_dict (by assumption) | exact typeV_set (by assumption)) (by decide) F.plainAttrs_list F.slot_list_append F.type_list_append ⟨keepOk_builtin _, ?_⟩; refine awArgs_plain (fun _ _ h => nomatch h) ?_; refine awL_cons (fun _ _ h => nomatch h) ?_; refine awE_Tuple ?_; refine awL_cons (fun _ _ h => nomatch h) ?_; refine awE_Sub (by intro _ _ _ h; cases h) ?_; refine awE_Const rfl ?_; refine awE_Name (by first | rfl | assumption) ?_ rfl rfl)
        refine sub_str l0 (by omega) cl ?_
        (refine awL_cons (fun _ _ h => nomatch h) ?_; refine awE_Sub (by intro _ _ _ h; cases h) ?_; refine awE_Const rfl ?_; refine awE_Name (by first | rfl | assumption) ?_ rfl rfl)
        refine sub_str r0 (by omega) cr ?_
        (refine awL_nil ?_)
        refine ⟨by simp, ?_⟩
        (refine awL_nil ?_; refine awCall_1 ?_; refine call_append_x (by assumption) (by first | assumption | omega | decide | (simp only [List.length_map, List.length_append, List.length_cons, List.length_nil]; omega)) ?_)
        (try refine call_appendX w3 (by simp; omega) ?_)
        intro H2 m2 e2
        (apply_assumption; refine awSs_nil ?_; apply_assumption; refine awSs_nil ?_)
        refine hn _ _ ⟨m2.ext w1 n1, m2.get (fun z => ns (by rw [← z])) w2, ?_, w4⟩
        rw [e2, hsnoc, harr, if_pos (by omega)]
        simp [letr]
    · have g1 : 72 ≤ N := by simpa using h72
      (refine ite_t (by first | rfl | assumption) ?_; refine ite_t (by first | rfl | assumption) ?_; refine awSs_ExprK rfl rfl fun Kz hz1 => ?_; refine awE_Meth (few := true) rfl rfl rfl (fun _ => rfl) (by intro _ h; first | rfl | cases h) ?_; refine awE_Name (by first | rfl | assumption) ?_ rfl rfl; refine awM_bi (by first | rfl | exact typeV_list (by assumption) | exact typeV_dict (by assumption) | exact typeV_set (by assumption)) (by decide) F.plainAttrs_list F.slot_list_append F.type_list_append ⟨keepOk_builtin _, ?_⟩; refine awArgs_plain (fun _ _ h => nomatch h) ?_; refine awL_cons (fun _ _ h => nomatch h) ?_; refine awE_Tuple ?_; refine awL_cons (fun _ _ h => nomatch h) ?_; refine awE_Sub (by intro _ _ _ h; cases h) ?_; refine awE_Const rfl ?_; refine awE_Name (by first | rfl | assumption) ?_ rfl rfl)
      refine sub_str l0 (by omega) cl ?_
      (refine awL_cons (fun _ _ h => nomatch h) ?_; refine awE_Sub (by intro _ _ _ h; cases h) ?_; refine awE_Const rfl ?_; refine awE_Name (by first | rfl | assumption) ?_ rfl rfl)
      refine sub_str r0 (by omega) cr ?_
      (refine awL_nil ?_)
      refine ⟨by simp, ?_⟩
      (refine awL_nil ?_; refine awCall_1 ?_; refine call_append_x (by assumption) (by first | assumption | omega | decide | (simp only [List.length_map, List.length_append, List.length_cons, List.length_nil]; omega)) ?_)
      (try refine call_appendX w3 (by simp; omega) ?_)
      intro H2 m2 e2
      (apply_assumption; refine awSs_nil ?_; apply_assumption; refine awSs_nil ?_)
      refine hn _ _ ⟨m2.ext w1 n1, m2.get (fun z => ns (by rw [← z])) w2, ?_, w4⟩
      rw [e2, hsnoc, harr, if_pos (by omega)]
      simp [letr]
theorem sorter_make : ∀ {c : Cx} {d : Nat} {p : Program} {loose : List Str} {mg mb : Str → Option Value} {H : AH} {P : V → AH → Prop} {X : Exc → AH → Prop}
    (hprog : c.prog = PySem.Challenge.rw_om0166_01.row.prog) (G : Gd (KF c.w.params) p loose mg mb c.g)
    (h : ∀ H' st dd n2, Srt H H' st dd n2 [] none 0 0 → P (.ref st) H'), callP c (d + 2) (.ref 302) [] [] H P X := by
  w_on
  k_fill
  intro c d p loose mg mb H P X hprog G h
  refine' call_make (d := d + 1) (ao := fun dd => .inst 302 dd) (fI := 238) G ?hm ?hi ?hf (fun _ => .inl rfl) ?_
  case hm => k_is
  case hi => k_is
  case hf => k_is
  intro dd a hne hdd ha
  refine sorter_init (d := d) hprog G (upd_self _ _ _) (by rw [upd_ne _ _ hne, upd_self]) fun H' n2 n1 k1 e1 e2 => ⟨rfl, ?_⟩
  have q1 : n2 ≠ a := fun z => by rw [z, upd_self] at n1; cases n1
  have q2 : n2 ≠ dd := fun z => by rw [z, upd_ne _ _ hne, upd_self] at n1; cases n1
  refine h H' a dd n2 ⟨fun b o hb => ?_, ha, hdd, by rw [upd_ne _ _ q1, upd_ne _ _ q2] at n1; exact n1, (fun n hn => nomatch hn), (fun p hp => nomatch hp), k1 a _ (upd_self _ _ _) hne.symm, e1, e2, (fun n hn => nomatch hn), (fun p hp => nomatch hp), List.nodup_nil, List.nodup_nil, List.nodup_nil⟩
  exact k1 b o (by rw [upd_ne _ _ (Ext.ne hb ha), upd_ne _ _ (Ext.ne hb hdd)]; exact hb) (Ext.ne hb hdd)
def lets : List Str := [letr 0, letr 1, letr 2, letr 3, letr 4, letr 5]
theorem signs_abc : signs (Str.ofString "abcdef") = lets.map V.str := by
  have : (Str.ofString "abcdef").cps.toList = [97, 98, 99, 100, 101, 102] := by decide +kernel
  unfold signs
  rw [this]
  rfl
theorem iter_abc (H : AH) : iterK H (.str (Str.ofString "abcdef")) = some (.fixed (lets.map V.str)) := by
  have : (Str.ofString "abcdef").cps.all (· < 128) = true := by decide +kernel
  simp only [iterK, this, if_true, signs_abc]
def afOf (ps : List (Str × Str)) (s : Str) : List Str := (ps.filter fun q => Txt.lower q.1 == Txt.lower s).map (·.2)
section
variable (af su : Str → List Str) (ls : List Str)
def Gn : Nat → List Str
  | 0 => ls
  | r + 1 => (Gn r).filter fun s => (af s).any fun t => (Gn r).contains t
def cnt (r : Nat) (s : Str) : Nat := (af s).countP fun t => (Gn af ls r).contains t
structure KInv (r : Nat) (np : Str → Int) (rdy : List Str) : Prop where
  nd : rdy.Nodup
  mem : ∀ s, s ∈ rdy ↔ s ∈ Gn af ls r ∧ s ∉ Gn af ls (r + 1)
  num : ∀ s ∈ Gn af ls r, np s = (cnt af ls r s : Int)
end
section
variable {af su : Str → List Str} {ls : List Str}
theorem Gn_succ {r : Nat} {s : Str} : s ∈ Gn af ls (r + 1) ↔ s ∈ Gn af ls r ∧ ∃ t ∈ af s, t ∈ Gn af ls r := by
  show s ∈ (Gn af ls r).filter _ ↔ _
  simp
theorem Gn_down {r : Nat} {s : Str} (h : s ∈ Gn af ls (r + 1)) : s ∈ Gn af ls r := (Gn_succ.mp h).1
theorem Gn_ls : ∀ {r : Nat} {s : Str}, s ∈ Gn af ls r → s ∈ ls
  | 0, _, h => h
  | r + 1, _, h => Gn_ls (Gn_down h)
theorem Gn_up : ∀ {r : Nat} {s t : Str}, s ∈ ls → t ∈ af s → t ∈ Gn af ls r → s ∈ Gn af ls (r + 1)
  | 0, s, t, hs, ht, hr => Gn_succ.mpr ⟨hs, t, ht, hr⟩
  | r + 1, s, t, hs, ht, hr => Gn_succ.mpr ⟨Gn_up hs ht (Gn_down hr), t, ht, hr⟩
theorem cnt_zero {r : Nat} {s : Str} (hs : s ∈ Gn af ls r) : cnt af ls r s = 0 ↔ s ∉ Gn af ls (r + 1) := by
  unfold cnt
  rw [List.countP_eq_zero, Gn_succ]
  constructor
  · rintro h ⟨_, t, ht, hg⟩; exact h t ht (by simpa using hg)
  · intro h t ht hg; exact h ⟨hs, t, ht, by simpa using hg⟩
theorem KInv.stop {r : Nat} {np : Str → Int} (K : KInv af ls r np []) : ∀ s ∈ Gn af ls r, s ∈ Gn af ls (r + 1) := fun s hs => Classical.byContradiction fun h => nomatch (K.mem s).mpr ⟨hs, h⟩
theorem KInv.less {r : Nat} {np : Str → Int} {t : Str} {rdy : List Str} (K : KInv af ls r np (t :: rdy)) : (Gn af ls (r + 1)).length < (Gn af ls r).length := by
  obtain ⟨h1, h2⟩ := (K.mem t).mp (by simp)
  refine Nat.lt_of_le_of_ne (List.length_filter_le ..) fun e => h2 ?_
  have := List.length_filter_eq_length_iff.mp e t h1
  exact List.mem_filter.mpr ⟨h1, this⟩
theorem fold_step {D : Str → Prop} : ∀ (l : List Str) (np : Str → Int) (rdy : List Str), rdy.Nodup → (∀ s, s ∈ rdy ↔ D s ∧ np s = 0) → (∀ s ∈ l, D s) → (∀ s, D s → (l.count s : Int) ≤ np s) →
    (l.foldl dStep (np, rdy)).2.Nodup ∧ (∀ s, s ∈ (l.foldl dStep (np, rdy)).2 ↔ D s ∧ (l.foldl dStep (np, rdy)).1 s = 0) ∧ ∀ s, (l.foldl dStep (np, rdy)).1 s = np s - l.count s
  | [], np, rdy, h1, h2, _, _ => ⟨h1, h2, fun s => by simp⟩
  | x :: l, np, rdy, h1, h2, h3, h4 => by
    rw [List.foldl_cons]
    have hx := h3 x (by simp)
    have hx1 := h4 x hx
    rw [List.count_cons_self] at hx1
    have hnx : x ∉ rdy := fun z => by have := ((h2 x).mp z).2; omega
    have key := fold_step (D := D) l (dStep (np, rdy) x).1 (dStep (np, rdy) x).2 ?_ ?_ (fun s hs => h3 s (by simp [hs])) ?_
    · refine ⟨key.1, key.2.1, fun s => ?_⟩
      rw [key.2.2 s]
      show (if s = x then np x - 1 else np s) - (l.count s : Int) = np s - ((x :: l).count s : Int)
      by_cases z : s = x
      · subst z; rw [if_pos rfl, List.count_cons_self]; omega
      · rw [if_neg z, List.count_cons_of_ne (fun w => z w.symm)]
    · unfold dStep; dsimp only
      split
      · rw [List.nodup_append]
        exact ⟨h1, by simp, fun a ha b hb => by rw [List.mem_singleton.mp hb]; exact fun w => hnx (by rw [← w]; exact ha)⟩
      · exact h1
    · intro s
      show s ∈ (if np x - 1 = 0 then rdy ++ [x] else rdy) ↔ D s ∧ (if s = x then np x - 1 else np s) = 0
      by_cases z : s = x
      · subst z
        rw [if_pos rfl]
        by_cases w : np s - 1 = 0
        · rw [if_pos w]; simp [hx, w]
        · rw [if_neg w]; simp [hnx, w]
      · rw [if_neg z]
        by_cases w : np x - 1 = 0
        · rw [if_pos w, List.mem_append, List.mem_singleton, h2 s]
          simp [z]
        · rw [if_neg w, h2 s]
    · intro s hs
      show (l.count s : Int) ≤ (if s = x then np x - 1 else np s)
      by_cases z : s = x
      · subst z; rw [if_pos rfl]; omega
      · rw [if_neg z]
        have := h4 s hs
        rw [List.count_cons_of_ne (fun w => z w.symm)] at this
        exact this
theorem countP_drop {p : Str → Bool} {t : Str} (hp : p t = true) : ∀ (l : List Str), l.countP p = (l.countP fun x => p x && !(x == t)) + l.count t
  | [] => rfl
  | x :: l => by
    rw [List.countP_cons, List.countP_cons, List.count_cons, countP_drop hp l]
    by_cases z : x = t
    · subst z; simp [hp]; omega
    · have : (x == t) = false := by simpa using z
      rw [this]; simp; omega
theorem kdone {r : Nat} {np : Str → Int} {rdy : List Str} (hls : ls.Nodup) (haf : ∀ s ∈ ls, ∀ t ∈ af s, t ∈ ls) (hsu : ∀ t ∈ ls, ∀ s ∈ su t, s ∈ ls) (hcnt : ∀ s ∈ ls, ∀ t ∈ ls, (su t).count s = (af s).count t) (K : KInv af ls r np rdy) :
    ∀ (k : Nat) (dn rest : List Str), dn.length = k → rdy = dn ++ rest →
      (dAll su (fun z => if z ∈ rdy then -1 else np z, []) dn).2.Nodup ∧
      (∀ s, s ∈ (dAll su (fun z => if z ∈ rdy then -1 else np z, []) dn).2 ↔ s ∈ Gn af ls (r + 1) ∧ (dAll su (fun z => if z ∈ rdy then -1 else np z, []) dn).1 s = 0) ∧
      (∀ s ∈ Gn af ls (r + 1), (dAll su (fun z => if z ∈ rdy then -1 else np z, []) dn).1 s = ((af s).countP fun t => (Gn af ls r).contains t && !dn.contains t : Nat)) ∧
      ∀ t ∈ rest, (dAll su (fun z => if z ∈ rdy then -1 else np z, []) dn).1 t = -1 := by
  intro k
  have notin : ∀ s ∈ Gn af ls (r + 1), s ∉ rdy := fun s hs z => ((K.mem s).mp z).2 hs
  induction k with
  | zero =>
    intro dn rest hk hr
    obtain rfl := List.length_eq_zero_iff.mp hk
    rw [List.nil_append] at hr
    refine ⟨List.nodup_nil, fun s => ⟨(fun h => nomatch h), fun ⟨h1, h2⟩ => ?_⟩, fun s hs => ?_, fun t ht => ?_⟩
    · have h2' : (if s ∈ rdy then -1 else np s) = (0 : Int) := h2
      rw [if_neg (notin s h1), K.num s (Gn_down h1)] at h2'
      exact absurd h1 ((cnt_zero (Gn_down h1)).mp (by omega))
    · show (if s ∈ rdy then -1 else np s) = _
      rw [if_neg (notin s hs), K.num s (Gn_down hs)]
      simp [cnt]
    · show (if t ∈ rdy then -1 else np t) = _
      rw [if_pos (by rw [hr]; exact ht)]
  | succ k ih =>
    intro dn rest hk hr
    rcases List.eq_nil_or_concat dn with rfl | ⟨dn', t, rfl⟩
    · simp at hk
    rw [List.concat_eq_append] at hr hk ⊢
    obtain ⟨i1, i2, i3, i4⟩ := ih dn' (t :: rest) (by simpa using hk) (by rw [hr]; simp)
    have hst : dAll su (fun z => if z ∈ rdy then -1 else np z, []) (dn' ++ [t]) = (su t).foldl dStep (fun z => if z = t then -2 else (dAll su (fun z => if z ∈ rdy then -1 else np z, []) dn').1 z, (dAll su (fun z => if z ∈ rdy then -1 else np z, []) dn').2) := by
      unfold dAll; rw [List.foldl_append]; rfl
    rw [hst]
    generalize dAll su (fun z => if z ∈ rdy then -1 else np z, []) dn' = st at i1 i2 i3 i4
    have htr : t ∈ rdy := by rw [hr]; simp
    obtain ⟨t1, t2⟩ := (K.mem t).mp htr
    have htl := Gn_ls t1
    have ndr : (dn' ++ t :: rest).Nodup := by have := K.nd; rw [hr] at this; simpa using this
    rw [List.nodup_append] at ndr
    have htd : t ∉ dn' := fun z => ndr.2.2 t z t (by simp) rfl
    have hD : ∀ s ∈ su t, s ∈ Gn af ls (r + 1) := fun s hs => by
      have hsl := hsu t htl s hs
      have h1 : 0 < (su t).count s := List.count_pos_iff.mpr hs
      rw [hcnt s hsl t htl] at h1
      exact Gn_up hsl (List.count_pos_iff.mp h1) t1
    have hdrop : ∀ s, ((af s).countP fun x => (Gn af ls r).contains x && !dn'.contains x) = ((af s).countP fun x => (Gn af ls r).contains x && !(dn' ++ [t]).contains x) + (af s).count t := fun s => by
      rw [countP_drop (p := fun x => (Gn af ls r).contains x && !dn'.contains x) (t := t) (by simp [t1, htd])]
      congr 1
      refine List.countP_congr fun x _ => ?_
      simp [and_assoc]
    have key := fold_step (D := fun s => s ∈ Gn af ls (r + 1)) (su t) (fun z => if z = t then -2 else st.1 z) st.2 i1 ?_ hD ?_
    · refine ⟨key.1, key.2.1, fun s hs => ?_, fun t' ht' => ?_⟩
      · rw [key.2.2 s]
        have hst' : s ≠ t := fun z => t2 (by rw [← z]; exact hs)
        rw [if_neg hst', i3 s hs, hdrop s, hcnt s (Gn_ls hs) t htl]
        omega
      · rw [key.2.2 t']
        have h1 : t' ≠ t := fun z => by
          have := (List.nodup_cons.mp ndr.2.1).1
          exact this (by rw [← z]; exact ht')
        have h2 : (su t).count t' = 0 := List.count_eq_zero.mpr fun z => notin t' (hD t' z) (by rw [hr]; simp [ht'])
        rw [if_neg h1, h2, i4 t' (by simp [ht'])]; simp
    · intro s
      rw [i2 s]
      constructor
      · rintro ⟨a, b⟩
        exact ⟨a, by rw [if_neg (fun z => t2 (by rw [← z]; exact a))]; exact b⟩
      · rintro ⟨a, b⟩
        rw [if_neg (fun z => t2 (by rw [← z]; exact a))] at b
        exact ⟨a, b⟩
    · intro s hs
      rw [if_neg (fun z => t2 (by rw [← z]; exact hs)), i3 s hs, hdrop s, hcnt s (Gn_ls hs) t htl]
      omega
theorem KInv.round {r : Nat} {np : Str → Int} {rdy : List Str} (hls : ls.Nodup) (haf : ∀ s ∈ ls, ∀ t ∈ af s, t ∈ ls) (hsu : ∀ t ∈ ls, ∀ s ∈ su t, s ∈ ls) (hcnt : ∀ s ∈ ls, ∀ t ∈ ls, (su t).count s = (af s).count t) (K : KInv af ls r np rdy) :
    KInv af ls (r + 1) (dAll su (fun z => if z ∈ rdy then -1 else np z, []) rdy).1 (dAll su (fun z => if z ∈ rdy then -1 else np z, []) rdy).2 := by
  obtain ⟨i1, i2, i3, _⟩ := kdone hls haf hsu hcnt K rdy.length rdy [] rfl (by simp)
  have e : ∀ s, ((af s).countP fun t => (Gn af ls r).contains t && !rdy.contains t) = cnt af ls (r + 1) s := fun s => by
    unfold cnt
    refine List.countP_congr fun t _ => ?_
    simp only [Bool.and_eq_true, List.contains_iff_mem, Bool.not_eq_true', ← Bool.not_eq_true, K.mem t]
    constructor
    · rintro ⟨a, b⟩
      exact Classical.byContradiction fun c => b ⟨a, c⟩
    · exact fun a => ⟨Gn_down a, fun b => b.2 a⟩
  refine ⟨i1, fun s => ?_, fun s hs => by rw [i3 s hs, e s]⟩
  rw [i2 s]
  constructor
  · rintro ⟨a, b⟩
    rw [i3 s a, e s] at b
    exact ⟨a, (cnt_zero a).mp (by omega)⟩
  · rintro ⟨a, b⟩
    refine ⟨a, ?_⟩
    rw [i3 s a, e s, (cnt_zero a).mpr b]; rfl
end
theorem nodup_sub_len {α : Type} [DecidableEq α] : ∀ {l m : List α}, l.Nodup → (∀ x ∈ l, x ∈ m) → l.length ≤ m.length
  | [], m, _, _ => Nat.zero_le _
  | a :: l, m, h, hm => by
    have h1 := List.nodup_cons.mp h
    have ha := hm a (by simp)
    have := nodup_sub_len (l := l) (m := m.erase a) h1.2 fun x hx => (List.mem_erase_of_ne (fun z => h1.1 (by rw [← z]; exact hx))).mpr (hm x (by simp [hx]))
    rw [List.length_erase_of_mem ha] at this
    have hp : 0 < m.length := List.length_pos_of_mem ha
    simp only [List.length_cons]; omega
structure KRounds (af : Str → List Str) (ls : List Str) (rs : List (List Str)) : Prop where
  rd : ∀ i g, rs[i]? = some g → g ≠ [] ∧ g.Nodup ∧ ∀ s, s ∈ g ↔ s ∈ Gn af ls i ∧ s ∉ Gn af ls (i + 1)
  stop : ∀ s ∈ Gn af ls rs.length, s ∈ Gn af ls (rs.length + 1)
structure GrpAt (H : AH) (ro : Addr) (ags : List (Addr × List Str)) : Prop where
  l : H ro = some (.list (ags.map fun p => .ref p.1))
  g : ∀ p ∈ ags, H p.1 = some (.list (p.2.map V.str))
  n : ∀ p ∈ ags, p.1 ≠ ro
theorem HeadAt.more {H H' : AH} {st : Addr} {ps : List (Str × Str)} (h : HeadAt H st ps) (x : Ext H H') : HeadAt H' st ps := by
  obtain ⟨dd, l, a, b, c⟩ := h
  exact ⟨dd, l, x.get a, x.get b, x.get c⟩
theorem lets_nodup : lets.Nodup := by decide +kernel
structure Told (ps : List (Str × Str)) (dn : List Str) (nds : List Nd) : Prop where
  nm : ∀ z, z ∈ nms nds → z ∈ lets
  al : ∀ z ∈ dn, z ∈ nms nds
  len : nds.length ≤ dn.length * 101
  np : ∀ z, npOf nds z = if z ∈ dn then ((afOf ps z).length : Int) else 0
  su : ∀ s t, (suOf nds t).count s = if s ∈ dn then (afOf ps s).count t else 0
  sl : ∀ z, (suOf nds z).length ≤ dn.length * 100
theorem afOf_len (ps : List (Str × Str)) (s : Str) : (afOf ps s).length ≤ ps.length := by unfold afOf; rw [List.length_map]; exact List.length_filter_le ..
theorem Told.next {ps : List (Str × Str)} {dn : List Str} {nds nds' : List Nd} {x : Str} (T : Told ps dn nds) (hx : x ∉ dn) (hxl : x ∈ lets) (hpl : ps.length ≤ 100) (haf : ∀ t ∈ afOf ps x, t ∈ lets) (h1 : ∀ z, z ∈ nms nds' ↔ z ∈ nms nds ∨ z = x ∨ z ∈ afOf ps x) (h2 : nds'.length ≤ nds.length + 1 + (afOf ps x).length) (h3 : ∀ z, npOf nds' z = npOf nds z + if z = x then ((afOf ps x).length : Int) else 0) (h4 : ∀ z, suOf nds' z = suOf nds z ++ List.replicate ((afOf ps x).count z) x) : Told ps (dn ++ [x]) nds' := by
  have hal := afOf_len ps x
  refine ⟨fun z hz => ?_, fun z hz => ?_, ?_, fun z => ?_, fun s t => ?_, fun z => ?_⟩
  · rcases (h1 z).mp hz with h | rfl | h
    · exact T.nm z h
    · exact hxl
    · exact haf z h
  · rcases List.mem_append.mp hz with h | h
    · exact (h1 z).mpr (.inl (T.al z h))
    · exact (h1 z).mpr (.inr (.inl (List.mem_singleton.mp h)))
  · have := T.len
    simp only [List.length_append, List.length_singleton]; omega
  · rw [h3, T.np]
    by_cases z1 : z = x
    · subst z1; simp [hx]
    · simp [z1]
  · rw [h4, List.count_append, T.su, List.count_replicate]
    by_cases z1 : s = x
    · subst z1; simp [hx]
    · have : (x == s) = false := by simpa using fun w => z1 w.symm
      simp [z1, this]
  · rw [h4, List.length_append, List.length_replicate]
    have := T.sl z
    have h5 := List.count_le_length (a := z) (l := afOf ps x)
    simp only [List.length_append, List.length_singleton]; omega
theorem mem_rdy0 {nds : List Nd} (hd : (nds.map (·.nm)).Nodup) {s : Str} : s ∈ rdy0 nds ↔ s ∈ nms nds ∧ npOf nds s = 0 := by
  unfold rdy0
  constructor
  · intro h
    obtain ⟨n, hn, rfl⟩ := List.mem_map.mp h
    obtain ⟨a, b⟩ := List.mem_filter.mp hn
    exact ⟨List.mem_map_of_mem a, by rw [npOf_of hd a]; simpa using b⟩
  · rintro ⟨h, e⟩
    obtain ⟨n, hn, rfl⟩ := List.mem_map.mp h
    rw [npOf_of hd hn] at e
    exact List.mem_map.mpr ⟨n, List.mem_filter.mpr ⟨hn, by simpa using e⟩, rfl⟩
inductive HandJ (ps : List (Str × Str)) (H : AH) (st dd n2 : Addr) (nds : List Nd) (rl ro : Addr) (b : Bool) (k : Nat) (m4 : Map) (H4 : AH) : Prop
  | mk (B4 : AH) (nds4 : List Nd) (rdy : List Str) (po : Int) (ags : List (Addr × List Str)) (e : k = (Gn (afOf ps) lets ags.length).length) (l : ags.length + (Gn (afOf ps) lets ags.length).length ≤ 6) (q : shp nds4 = shp nds) (K : KInv (afOf ps) lets ags.length (npOf nds4) rdy) (S : Srt B4 H4 st dd n2 nds4 (some (rl, rdy)) po po) (E : Ext H B4) (G : GrpAt B4 ro ags)
      (g : ∀ i g, (ags.map (·.2))[i]? = some g → g ≠ [] ∧ g.Nodup ∧ ∀ s, s ∈ g ↔ s ∈ Gn (afOf ps) lets i ∧ s ∉ Gn (afOf ps) lets (i + 1)) (w1 : m4 (Str.ofString "ringed") = some (.bool b)) (w2 : m4 (Str.ofString "sorter") = some (.ref st)) (w3 : m4 (Str.ofString "rounds") = some (.ref ro))
theorem law_handed : ∀ {c : Cx} {d : Nat} {p : Program} {loose : List Str} {mg mb : Str → Option Value} {H : AH} {P : V → AH → Prop} {X : Exc → AH → Prop} {stp : Addr} {ps : List (Str × Str)}
    (hprog : c.prog = PySem.Challenge.rw_om0166_01.row.prog) (G : Gd (KF c.w.params) p loose mg mb c.g) (HA : HeadAt H stp ps) (hcl : ∀ s ∈ lets, s.length ≤ 1000 ∧ Clean (KF c.w.params) 48 (Txt.lower s)) (hps : ∀ q ∈ ps, q.1.length ≤ 1000) (hpl : ps.length ≤ 100) (haf : ∀ s ∈ lets, ∀ t ∈ afOf ps s, t ∈ lets)
    (h : ∀ H' ro ags b, Ext H H' → GrpAt H' ro ags → (b = true ↔ ∃ x ∈ lets, ¬ Acc (fun y x => y ∈ lets ∧ x ∈ afOf ps y) x) → KRounds (afOf ps) lets (ags.map (·.2)) → P (.tup [.bool b, .ref ro]) H'), callP c (d + 5) (.ref 334) [.ref stp] [] H P X := by
  w_on
  k_fill
  intro c d p loose mg mb H P X stp ps hprog G HA hcl hps hpl haf h
  refine' enter (d := d + 4) (binds := [(Str.ofString "steps", .ref stp)]) G ?ho ?hcd ?hb ?hk ?hn ?hd ?_ ?c1 ?c2 ?c3
  ((case ho => k_is); (case hcd => k_is); (case hk => rfl); (case hn => decide +kernel); (case hd => exact of_decide_eq_true rfl); (case c1 => rfl); (case c2 => rfl); (case c3 => rfl); try (case hb => first | exact bnd0 rfl | exact bnd1 (fun _ => rfl) | exact bnd2 (fun _ _ => rfl) | exact bnd3 (fun _ _ _ => rfl)))
  intro A L
  (refine awSs_AssignK (by first | exact .inl rfl | exact .inr ⟨rfl, rfl⟩) rfl fun Kz hz1 => ?_; refine awE_Call (by intro o n ap h; cases h) (fun _ => rfl) (by intro _ h; first | rfl | cases h) ?_; refine awE_Glob (by assumption) rfl (by k_is) ?_ rfl; refine ⟨_, rfl, (by first | exact keepOk_type _ | exact keepOk_builtin _ | exact keepOk_K (by assumption) (by k_is)), ?_⟩; refine awArgs_nil ?_)
  refine awCall_of (sorter_make (d := d + 2) hprog G fun H1 st dd n2 S1 => ?_)
  (apply_assumption; refine awSs_consK fun Kz hz1 hz2 hz3 hz4 => ?_; refine awS_For rfl (fun _ => rfl) (by first | (show Storable _ _; exact .inl rfl) | (show Storable _ _; exact .inr ⟨rfl, rfl⟩) | exact (Or.inl rfl : Storable _ _) | exact (Or.inr ⟨rfl, rfl⟩ : Storable _ _) | exact ⟨(Or.inl rfl : Storable _ _), (Or.inl rfl : Storable _ _)⟩) ?_; refine awE_Const rfl ?_)
  refine ⟨_, lets.map V.str, iter_abc _, ?_⟩
  refine forP_J V.str (fun dn rest m' H' => ∃ nds, Srt H H' st dd n2 nds none 0 0 ∧ Told ps dn nds ∧ m' (Str.ofString "sorter") = some (.ref st) ∧ m' (Str.ofString "steps") = some (.ref stp)) ?_ ?_ ⟨[], S1, ⟨(fun _ z => nomatch z), (fun _ z => nomatch z), Nat.le_refl _, fun z => by simp [npOf], fun s t => by simp [suOf], fun z => by simp [suOf]⟩, rfl, rfl⟩
  · rintro m' H' ⟨nds, S, T, w1, w2⟩
    refine ⟨rfl, ?_⟩
    have hnd : ∀ z, z ∈ nms nds ↔ z ∈ lets := fun z => ⟨T.nm z, T.al z⟩
    have hlen := T.len
    have hl6 : lets.length = 6 := rfl
    have hsul : ∀ x ∈ nms nds, (suOf nds x).length ≤ 1000 ∧ ∀ y ∈ suOf nds x, y ∈ nms nds := fun x hx => by
      refine ⟨by have := T.sl x; omega, fun y hy => ?_⟩
      have := List.count_pos_iff.mpr hy
      rw [T.su] at this
      split at this
      · rename_i z; exact (hnd y).mpr z
      · omega
    have hedge : Edge (suOf nds) = fun y x => y ∈ lets ∧ x ∈ afOf ps y := by
      funext y x
      refine propext ?_
      show y ∈ suOf nds x ↔ _
      rw [← List.count_pos_iff, T.su]
      by_cases z : y ∈ lets
      · rw [if_pos z, List.count_pos_iff]; simp [z]
      · rw [if_neg z]; simp [z]
    have hacc : (∃ x ∈ nms nds, ¬ Acc (Edge (suOf nds)) x) ↔ ∃ x ∈ lets, ¬ Acc (fun y x => y ∈ lets ∧ x ∈ afOf ps y) x := by
      rw [hedge]
      exact ⟨fun ⟨x, a, b⟩ => ⟨x, (hnd x).mp a, b⟩, fun ⟨x, a, b⟩ => ⟨x, (hnd x).mpr a, b⟩⟩
    have s1 := S.h1
    have s2 := S.h2
    (apply_assumption; refine awSs_AssignK (by first | exact .inl rfl | exact .inr ⟨rfl, rfl⟩) rfl fun Kz hz1 => ?_; refine awE_Const rfl ?_; apply_assumption)
    refine awS_cutK (fun m2 H2 => ∃ rl b, m2 (Str.ofString "ringed") = some (.bool b) ∧ m2 (Str.ofString "sorter") = some (.ref st) ∧ (b = true ↔ ∃ x ∈ lets, ¬ Acc (fun y x => y ∈ lets ∧ x ∈ afOf ps y) x) ∧ Srt H H2 st dd n2 nds (some (rl, rdy0 nds)) 0 0) ?_ ?_
    · intro C hC KC kc1 kc2 kc3 kc4
      refine' awS_TryO (newId := "ValueError.__new__") (C := 220) (bm := [.type "ValueError", .type "Exception", .type "BaseException", .type "object"]) G ?hk ?ex ?hx ?hb ?hd ?_
      case hk => rfl
      case ex => k_is
      case hx => k_exc
      case hb => rfl
      case hd => rfl
      (refine awSs_ExprK rfl rfl fun Kz hz1 => ?_; refine awE_Meth (few := true) rfl rfl rfl (fun _ => rfl) (by intro _ h; first | rfl | cases h) ?_; refine awE_Name (by first | rfl | assumption) ?_ rfl rfl; refine awM_inst (by assumption) (by assumption) (by assumption) (by k_is) (by k_is) (by k_is) rfl ⟨keepOk_K (by assumption) (by k_is), ?_⟩; refine awArgs_nil ?_; refine awCall_1 ?_)
      refine awCall_of (prepare (d := d + 2) hprog G S (by omega) hsul (fun ha H2 rl S2 => ?_) fun hna H2 rl S2 => ?_)
      · (apply_assumption; refine awSs_nil ?_; refine awSs_nil ?_; apply_assumption)
        refine hC _ _ ⟨rl, false, rfl, w1, ⟨(fun z => nomatch z), fun z => ?_⟩, S2⟩
        obtain ⟨x, hx1, hx2⟩ := hacc.mpr z
        exact absurd (ha x hx1) hx2
      · refine ⟨rfl, fun e => ?_⟩
        (refine awSs_AssignK (by first | exact .inl rfl | exact .inr ⟨rfl, rfl⟩) rfl fun Kz hz1 => ?_; refine awE_Const rfl ?_; apply_assumption; refine awSs_nil ?_; apply_assumption)
        exact hC _ _ ⟨rl, true, rfl, w1, ⟨fun _ => hacc.mp hna, fun _ => rfl⟩, S2⟩
    · rintro m2 H2 ⟨rl, b, u1, u2, ub, S2⟩
      (refine awSs_AssignK (by first | exact .inl rfl | exact .inr ⟨rfl, rfl⟩) rfl fun Kz hz1 => ?_; refine awE_ListX ?_; refine awL_nil ?_)
      refine ⟨Nat.zero_le _, fun ro H3 x3 n3 e3 => ?_⟩
      obtain ⟨B3, y3, b3, d3, S3⟩ := S2.base' x3 n3 e3
      have K0 : KInv (afOf ps) lets 0 (npOf nds) (rdy0 nds) := by
        have hnpl : ∀ s ∈ lets, npOf nds s = (cnt (afOf ps) lets 0 s : Int) := fun s hs => by
          rw [T.np, if_pos hs]
          unfold cnt
          congr 1
          refine (List.countP_eq_length.mpr fun t ht => ?_).symm
          simpa [Gn] using haf s hs t ht
        refine ⟨?_, fun s => ?_, hnpl⟩
        · unfold rdy0
          exact (List.Sublist.map _ (List.filter_sublist ..)).nodup S2.d1
        · rw [mem_rdy0 S2.d1, hnd]
          constructor
          · rintro ⟨a, b⟩
            exact ⟨a, (cnt_zero (af := afOf ps) (ls := lets) (r := 0) a).mp (by rw [hnpl s a] at b; omega)⟩
          · rintro ⟨a, b⟩
            exact ⟨a, by rw [hnpl s a, (cnt_zero (af := afOf ps) (ls := lets) (r := 0) a).mpr b]; rfl⟩
      (apply_assumption; refine awSs_consK fun Kz hz1 hz2 hz3 hz4 => ?_)
      refine awS_WhileK (HandJ ps H st dd n2 nds rl ro b) _ ⟨B3, nds, rdy0 nds, 0, [], rfl, Nat.le_refl _, rfl, K0, S3, y3, ⟨d3, (fun _ z => nomatch z), (fun _ z => nomatch z)⟩, (fun i g z => by simp at z), u1, u2, rfl⟩ ?_
      rintro Y hY k m4 H4 ⟨B4, nds4, rdy, po, ags, hk, hk6, q1, K4, S4, E4, GA, hg, w3, w4, w5⟩ KW kw1 kw2 kw3 kw4
      have t1 := S4.h1
      have t2 := S4.h2
      have hrl : rdy.length ≤ 6 := nodup_sub_len K4.nd (m := lets) fun s hs => Gn_ls ((K4.mem s).mp hs).1
      have hrn : ∀ s ∈ rdy, s ∈ nms nds4 := fun s hs => by rw [shp_nms q1, hnd]; exact Gn_ls ((K4.mem s).mp hs).1
      have hon : H ro = none := S2.ext.none n3
      (refine awB_value (fun _ => rfl) ?_; refine awE_Meth (few := true) rfl rfl rfl (fun _ => rfl) (by intro _ h; first | rfl | cases h) ?_; refine awE_Name (by first | rfl | assumption) ?_ rfl rfl; refine awM_inst (by assumption) (by assumption) (by assumption) (by k_is) (by k_is) (by k_is) rfl ⟨keepOk_K (by assumption) (by k_is), ?_⟩; refine awArgs_nil ?_; refine awCall_1 ?_)
      refine awCall_of (is_active (d := d + 3) hprog G S4 (by omega) ?_)
      rw [show (decide (po < po) || !rdy.isEmpty) = !rdy.isEmpty by simp]
      cases rdy with
      | nil =>
        (refine ⟨_, rfl, ?_⟩; refine ite_f (by first | rfl | assumption) ?_; refine awSs_nil ?_; apply_assumption; refine awSs_consK fun Kz hz1 hz2 hz3 hz4 => ?_; refine awS_Return ?_; refine awE_Tuple ?_; refine awL_cons (fun _ _ h => nomatch h) ?_; refine awE_Name (by first | rfl | assumption) ?_ rfl rfl; refine awL_cons (fun _ _ h => nomatch h) ?_; refine awE_Name (by first | rfl | assumption) ?_ rfl rfl; refine awL_nil ?_)
        refine ⟨by simp, ?_⟩
        (apply_assumption)
        exact h H4 ro ags b (E4.trans S4.ext) ⟨S4.ext.get GA.l, fun p hp => S4.ext.get (GA.g p hp), GA.n⟩ ub ⟨hg, by rw [List.length_map]; exact K4.stop⟩
      | cons y0 rdy0' =>
        generalize hrdy : y0 :: rdy0' = rdy at *
        have hne : (!rdy.isEmpty) = true := by rw [← hrdy]; rfl
        (refine ⟨_, rfl, ?_⟩; refine ite_t (by first | rfl | assumption) ?_; refine awSs_AssignK (by first | exact .inl rfl | exact .inr ⟨rfl, rfl⟩) rfl fun Kz hz1 => ?_; refine awE_Meth (few := true) rfl rfl rfl (fun _ => rfl) (by intro _ h; first | rfl | cases h) ?_; refine awE_Name (by first | rfl | assumption) ?_ rfl rfl; refine awM_inst (by assumption) (by assumption) (by assumption) (by k_is) (by k_is) (by k_is) rfl ⟨keepOk_K (by assumption) (by k_is), ?_⟩; refine awArgs_nil ?_; refine awCall_1 ?_)
        refine awCall_of (get_ready (d := d + 3) hprog G S4 hrn (by omega) fun H5 nds5 S5 v1 v2 => ?_)
        have q5 : shp nds5 = shp nds := v1.trans q1
        have hsu5 : suOf nds5 = suOf nds := funext fun z => shp_su q5 z
        have hnp5 : npOf nds5 = fun z => if z ∈ rdy then -1 else npOf nds4 z := funext v2
        have hnm5 : nms nds5 = nms nds := shp_nms q5
        have c1 : ∀ t ∈ lets, ∀ s ∈ suOf nds t, s ∈ lets := fun t ht s hs => (hnd s).mp ((hsul t ((hnd t).mpr ht)).2 s hs)
        have c2 : ∀ s ∈ lets, ∀ t ∈ lets, (suOf nds t).count s = (afOf ps s).count t := fun s hs t _ => by rw [T.su, if_pos hs]
        have t1 := S5.h1
        have t2 := S5.h2
        (apply_assumption)
        refine awSs_consK fun K_ hk1 hk2 hk3 hk4 => awS_Expr rfl rfl (awE_MethS G rfl rfl rfl rfl rfl ?_)
        (refine awE_Name (by first | rfl | assumption) ?_ rfl rfl)
        refine ⟨st, 302, dd, 285, _, rfl, t1, t2, ?e1, ?e2, ?e3, ?e4, ?e5, ?e6, ?e7, ?e8, rfl, ?_⟩
        case e1 => k_is
        case e2 => k_is
        case e3 => k_is
        case e4 => k_is
        case e5 => k_is
        case e6 => k_is
        case e7 => k_is
        case e8 => decide +kernel
        refine awArgs_lone ?_
        (refine awE_Name (by first | rfl | assumption) ?_ rfl rfl; refine ⟨_, rfl, ?_⟩)
        refine ⟨by rw [List.length_map]; omega, ?_⟩
        refine sdone (d := d + 3) hprog G S5 ?_ (by simp) (by omega) ?_ fun H6 nds6 S6 z1 z2 => ?_
        · intro t ht
          have htl : t ∈ lets := Gn_ls ((K4.mem t).mp ht).1
          rw [hnm5, hsu5]
          exact ⟨(hnd t).mpr htl, hsul t ((hnd t).mpr htl)⟩
        · intro dn2 t r2 hr2
          rw [hsu5, hnp5]
          exact (kdone lets_nodup haf c1 c2 K4 dn2.length dn2 (t :: r2) rfl hr2).2.2.2 t (by simp)
        have KN := K4.round lets_nodup haf c1 c2
        rw [hsu5, hnp5] at S6 z2
        have hnp6 : npOf nds6 = _ := funext z2
        rw [← hnp6] at KN
        have k6 := S6.ext.get GA.l
        (apply_assumption; refine awSs_ExprK rfl rfl fun Kz hz1 => ?_; refine awE_Meth (few := true) rfl rfl rfl (fun _ => rfl) (by intro _ h; first | rfl | cases h) ?_; refine awE_Name (by first | rfl | assumption) ?_ rfl rfl; refine awM_bi (by first | rfl | exact typeV_list (by assumption) | exact typeV_dict (by assumption) | exact typeV_set (by assumption)) (by decide) F.plainAttrs_list F.slot_list_append F.type_list_append ⟨keepOk_builtin _, ?_⟩; refine awArgs_plain (fun _ _ h => nomatch h) ?_; refine awL_cons (fun _ _ h => nomatch h) ?_; refine awE_Call (by intro o n ap h; cases h) (fun _ => rfl) (by intro _ h; first | rfl | cases h) ?_; refine awE_Bltn (by assumption) rfl (by k_is) (by first | boot_by_name | rfl) (by decide) ?_ rfl; refine ⟨_, rfl, (by first | exact keepOk_type _ | exact keepOk_builtin _ | exact keepOk_K (by assumption) (by k_is)), ?_⟩; refine awArgs_plain (fun _ _ h => nomatch h) ?_; refine awL_cons (fun _ _ h => nomatch h) ?_; refine awE_Name (by first | rfl | assumption) ?_ rfl rfl; refine awL_nil ?_)
        refine call_list_tX (vs := rdy.map V.str) (by rw [List.length_map]; omega) fun a H7 x7 n7 e7 => ?_
        obtain ⟨B7, y7, b7, d7, S7⟩ := S6.base' x7 n7 e7
        have k7 := S7.ext.get (y7.get GA.l)
        (refine awL_nil ?_; refine awCall_1 ?_; refine call_append_x (by assumption) (by first | assumption | omega | decide | (simp only [List.length_map, List.length_append, List.length_cons, List.length_nil]; omega)) ?_)
        (try refine call_appendX k7 (by rw [List.length_map]; omega) ?_)
        intro H8 m8 e8
        obtain ⟨B8, mB8, eB8, S8⟩ := S7.out' (y7.get GA.l) m8 e8
        (apply_assumption; refine awSs_nil ?_; apply_assumption)
        refine ⟨(Gn (afOf ps) lets (ags ++ [(a, rdy)]).length).length, ?_, hY _ _ _ ⟨B8, nds6, _, _, ags ++ [(a, rdy)], rfl, ?_, z1.trans q5, by rw [List.length_append]; exact KN, S8, ?_, ?_, ?_, w3, w4, w5⟩⟩
        · rw [hk, List.length_append]; rw [← hrdy] at K4; exact K4.less
        · rw [List.length_append, List.length_singleton]
          have : (Gn (afOf ps) lets (ags.length + 1)).length < (Gn (afOf ps) lets ags.length).length := by rw [← hrdy] at K4; exact K4.less
          omega
        · exact mB8.ext (E4.trans y7) hon
        · refine ⟨by rw [eB8, List.map_append]; rfl, fun p hp => ?_, fun p hp => ?_⟩
          · rcases List.mem_append.mp hp with hp | hp
            · exact mB8.get (GA.n p hp) (y7.get (GA.g p hp))
            · rw [List.mem_singleton.mp hp]; exact mB8.get (fun z => by have := GA.l; rw [← z, b7] at this; cases this) d7
          · rcases List.mem_append.mp hp with hp | hp
            · exact GA.n p hp
            · rw [List.mem_singleton.mp hp]; exact fun z => by have := GA.l; rw [← z, b7] at this; cases this
        · intro i g hi
          rw [List.map_append] at hi
          by_cases hlt : i < ags.length
          · rw [List.getElem?_append_left (by simpa using hlt)] at hi
            exact hg i g hi
          · rw [List.getElem?_append_right (by simpa using hlt)] at hi
            simp only [List.map_cons, List.map_nil, List.length_map] at hi
            have hi0 : i - ags.length = 0 := by
              have := (List.getElem?_eq_some_iff.mp hi).1
              simpa using this
            rw [hi0] at hi
            simp only [List.getElem?_cons_zero, Option.some.injEq] at hi
            have hil : i = ags.length := by omega
            subst hi hil
            exact ⟨by rw [← hrdy]; simp, K4.nd, K4.mem⟩
  · rintro dn x r m' H' hys ⟨nds, S, T, w1, w2⟩
    refine ⟨rfl, fun K hn _ _ _ => ⟨_, rfl, ?_⟩⟩
    have hxl : x ∈ lets := by rw [hys]; simp
    have hdl : dn.length ≤ 5 := by have := congrArg List.length hys; simp [lets] at this; omega
    have hxd : x ∉ dn := fun z => by
      have := lets_nodup
      rw [hys, List.nodup_append] at this
      exact this.2.2 x z x (by simp) rfl
    have s1 := S.h1
    have s2 := S.h2
    refine awSs_consK fun K_ hk1 hk2 hk3 hk4 => awS_Expr rfl rfl (awE_MethS G rfl rfl rfl rfl rfl ?_)
    (refine awE_Name (by first | rfl | assumption) ?_ rfl rfl)
    refine ⟨st, 302, dd, 252, _, rfl, s1, s2, ?e1, ?e2, ?e3, ?e4, ?e5, ?e6, ?e7, ?e8, rfl, ?_⟩
    case e1 => k_is
    case e2 => k_is
    case e3 => k_is
    case e4 => k_is
    case e5 => k_is
    case e6 => k_is
    case e7 => k_is
    case e8 => decide +kernel
    (refine awArgs_plain (fun _ _ h => nomatch h) ?_; refine awL_cons (fun _ _ h => nomatch h) ?_; refine awE_Name (by first | rfl | assumption) ?_ rfl rfl)
    refine awL_star ?_
    have HA' := HA.more S.ext
    obtain ⟨hdd, hl, g1, g2, g3⟩ := id HA'
    (refine awE_Meth (few := true) rfl rfl rfl (fun _ => rfl) (by intro _ h; first | rfl | cases h) ?_; refine awE_Name (by first | rfl | assumption) ?_ rfl rfl; refine awM_inst (by assumption) (by assumption) (by assumption) (by k_is) (by k_is) (by k_is) rfl ⟨keepOk_K (by assumption) (by k_is), ?_⟩; refine awArgs_plain (fun _ _ h => nomatch h) ?_; refine awL_cons (fun _ _ h => nomatch h) ?_; refine awE_Name (by first | rfl | assumption) ?_ rfl rfl; refine awL_nil ?_; refine awCall_1 ?_)
    refine awCall_of (get_all (d := d + 2) hprog G HA' (hcl x hxl).1 (hcl x hxl).2 hps (by omega) fun a hna => ?_)
    have x1 : Ext H' (upd H' a (.list ((afOf ps x).map V.str))) := Ext.fresh hna
    have e1 : (upd H' a (.list ((afOf ps x).map V.str))) a = some (.list ((afOf ps x).map V.str)) := upd_self _ _ _
    have hrw : ((ps.filter fun q => Txt.lower q.1 == Txt.lower x).map fun q => V.str q.2) = (afOf ps x).map V.str := by unfold afOf; rw [List.map_map]; rfl
    rw [hrw]
    generalize upd H' a (.list ((afOf ps x).map V.str)) = H2 at x1 e1 ⊢
    have S2 := S.more x1
    have hal := afOf_len ps x
    refine ⟨(afOf ps x).map V.str, by simp [starV, e1], by rw [List.length_map]; omega, ?_⟩
    (refine awL_nil ?_)
    rw [List.append_nil]
    have hlen := T.len
    refine sadd (d := d) hprog G S2 (by omega) (fun z => by have := T.sl z; omega) fun H3 nds3 S3 a1 a2 a3 a4 => ?_
    (apply_assumption; refine awSs_nil ?_)
    exact hn _ _ ⟨nds3, S3, T.next hxd hxl hpl (haf x hxl) a1 a2 a3 a4, w1, w2⟩
def longer (ar : List (Str × Str)) (going : List Str) : List Str := going.filter fun s => ar.any fun q => q.1 == s && going.contains q.2
def dueG (ar : List (Str × Str)) : Nat → List Str
  | 0 => lets
  | n + 1 => longer ar (dueG ar n)
def stopped (ar : List (Str × Str)) (r : Nat) : List Str := (dueG ar r).filter fun s => !(dueG ar (r + 1)).contains s
def dueR (ar : List (Str × Str)) (n : Nat) : List (List Str) := (List.range n).filterMap fun r => if stopped ar r = [] then none else some (stopped ar r)
theorem dueG_len (ar : List (Str × Str)) : ∀ n, (dueG ar n).length ≤ 6
  | 0 => Nat.le_refl _
  | n + 1 => Nat.le_trans (List.length_filter_le ..) (dueG_len ar n)
theorem EqG.to {H : AH} {n : Nat} {x y : V} {b b' : Bool} (h : EqG H n x y b) (e : b = b') : EqG H n x y b' := e ▸ h
theorem eqG_nil {H : AH} {a b : Addr} {xs : List V} (ha : H a = some (.list xs)) (hb : H b = some (.list [])) : EqG H 1 (.ref a) (.ref b) xs.isEmpty :=
  EqG.to (.list 0 a b xs [] (fun _ => true) ha hb (fun z => by rw [z, hb] at ha; cases ha; rfl) fun j x y _ h => nomatch h) (by cases xs <;> rfl)
theorem cmp_ne_empty {c : Cx} {q : Md} {d : Nat} {A : Around} {fl : Option Addr} {H : AH} {P : V → AH → Prop} {X : Exc → AH → Prop} {a b : Addr} {xs : List V} (ha : H a = some (.list xs)) (hb : H b = some (.list [])) (h : P (.bool (!xs.isEmpty)) H) : awO c q d A fl (fun vs => compareOp .NotEq (vs.getD 0 .none) (vs.getD 1 .none)) [.ref a, .ref b] H P X := by
  exact cmp_neG rfl (by decide) (eqG_nil ha hb) h
theorem cmp_eq_empty {c : Cx} {q : Md} {d : Nat} {A : Around} {fl : Option Addr} {H : AH} {P : V → AH → Prop} {X : Exc → AH → Prop} {a b : Addr} {xs : List V} (ha : H a = some (.list xs)) (hb : H b = some (.list [])) (h : P (.bool xs.isEmpty) H) : awO c q d A fl (fun vs => compareOp .Eq (vs.getD 0 .none) (vs.getD 1 .none)) [.ref a, .ref b] H P X := by
  exact cmp_eqG rfl (by decide) (eqG_nil ha hb) h
theorem fm_isEmpty {α β : Type} {p : α → Bool} {g : α → β} : ∀ {l : List α}, (l.filterMap fun x => if p x then some (g x) else none).isEmpty = !(l.any p)
  | [] => rfl
  | x :: l => by
    rw [List.filterMap_cons, List.any_cons]
    cases h : p x
    · simp only [Bool.false_eq_true, if_false, Bool.false_or]; exact fm_isEmpty
    · simp
theorem fm_filter {α β : Type} {p : α → Bool} {g : α → β} {l : List α} : (l.filterMap fun x => if p x then some (g x) else none) = (l.filter p).map g := by
  rw [← List.filterMap_eq_map, List.filterMap_filter]
  rfl
inductive DueJ (H : AH) (ra ro : Addr) (ar : List (Str × Str)) (dn rest : List Nat) (m' : Map) (H' : AH) : Prop
  | mk (gg : Addr) (ags : List (Addr × List Str)) (w1 : Ext H H') (w2 : H' ro = some (.list (ags.map fun p : Addr × List Str => .ref p.1))) (w3 : ∀ p ∈ ags, H' p.1 = some (.list (p.2.map V.str)) ∧ p.1 ≠ ro) (wn : gg ≠ ro) (w4 : H' gg = some (.list ((dueG ar dn.length).map V.str))) (w5 : ags.map (·.2) = dueR ar dn.length) (w6 : dn = List.range dn.length)
      (w7 : m' (Str.ofString "arrows") = some (.ref ra)) (w8 : m' (Str.ofString "rounds") = some (.ref ro)) (w9 : m' (Str.ofString "going") = some (.ref gg))
theorem law_due : ∀ {c : Cx} {d : Nat} {p : Program} {loose : List Str} {mg mb : Str → Option Value} {H : AH} {P : V → AH → Prop} {X : Exc → AH → Prop} {ra : Addr} {ar : List (Str × Str)}
    (hprog : c.prog = PySem.Challenge.rw_om0166_01.row.prog) (G : Gd (KF c.w.params) p loose mg mb c.g) (h3 : H ra = some (.list (ar.map pairV))) (hal : ar.length ≤ 100)
    (h : ∀ H' ro (ags : List (Addr × List Str)), Ext H H' → H' ro = some (.list (ags.map fun p : Addr × List Str => .ref p.1)) → (∀ p ∈ ags, H' p.1 = some (.list (p.2.map V.str))) → ags.map (·.2) = dueR ar 6 → P (.tup [.bool (!(dueG ar 6).isEmpty), .ref ro]) H'), callP c (d + 2) (.ref 339) [.ref ra] [] H P X := by
  w_on
  k_fill
  intro c d p loose mg mb H P X ra ar hprog G h3 hal h
  refine' enter (d := d + 1) (binds := [(Str.ofString "arrows", .ref ra)]) G ?ho ?hcd ?hb ?hk ?hn ?hd ?_ ?c1 ?c2 ?c3
  ((case ho => k_is); (case hcd => k_is); (case hk => rfl); (case hn => decide +kernel); (case hd => exact of_decide_eq_true rfl); (case c1 => rfl); (case c2 => rfl); (case c3 => rfl); try (case hb => first | exact bnd0 rfl | exact bnd1 (fun _ => rfl) | exact bnd2 (fun _ _ => rfl) | exact bnd3 (fun _ _ _ => rfl)))
  intro A L
  (refine awSs_AssignK (by first | exact .inl rfl | exact .inr ⟨rfl, rfl⟩) rfl fun Kz hz1 => ?_; refine awE_ListX ?_; refine awL_nil ?_)
  refine ⟨Nat.zero_le _, fun ro H1 x1 n1 e1 => ?_⟩
  (apply_assumption; refine awSs_AssignK (by first | exact .inl rfl | exact .inr ⟨rfl, rfl⟩) rfl fun Kz hz1 => ?_; refine awE_Call (by intro o n ap h; cases h) (fun _ => rfl) (by intro _ h; first | rfl | cases h) ?_; refine awE_Bltn (by assumption) rfl (by k_is) (by first | boot_by_name | rfl) (by decide) ?_ rfl; refine ⟨_, rfl, (by first | exact keepOk_type _ | exact keepOk_builtin _ | exact keepOk_K (by assumption) (by k_is)), ?_⟩; refine awArgs_plain (fun _ _ h => nomatch h) ?_; refine awL_cons (fun _ _ h => nomatch h) ?_; refine awE_Const rfl ?_; refine awL_nil ?_)
  refine call_list_sX rfl (by decide +kernel) fun go H2 x2 n2 e2 => ?_
  have hsg : signsV (Str.ofString "abcdef") = lets.map V.str := signs_abc
  rw [hsg] at e2
  (apply_assumption; refine awSs_consK fun Kz hz1 hz2 hz3 hz4 => ?_; refine awS_For rfl (fun _ => rfl) (by first | (show Storable _ _; exact .inl rfl) | (show Storable _ _; exact .inr ⟨rfl, rfl⟩) | exact (Or.inl rfl : Storable _ _) | exact (Or.inr ⟨rfl, rfl⟩ : Storable _ _) | exact ⟨(Or.inl rfl : Storable _ _), (Or.inl rfl : Storable _ _)⟩) ?_; refine awE_Call (by intro o n ap h; cases h) (fun _ => rfl) (by intro _ h; first | rfl | cases h) ?_; refine awE_Bltn (by assumption) rfl (by k_is) (by first | boot_by_name | rfl) (by decide) ?_ rfl; refine ⟨_, rfl, (by first | exact keepOk_type _ | exact keepOk_builtin _ | exact keepOk_K (by assumption) (by k_is)), ?_⟩; refine awArgs_plain (fun _ _ h => nomatch h) ?_; refine awL_cons (fun _ _ h => nomatch h) ?_; refine awE_Const rfl ?_; refine awL_nil ?_)
  refine call_range (n := 6) (by decide) ?_
  skip
  refine ⟨.fixed (upTo 6), (List.range 6).map fun (k : Nat) => V.int k, rfl, ?_⟩
  refine forP_J (fun k : Nat => V.int k) (DueJ H ra ro ar) ?_ ?_ ⟨go, [], x1.trans x2, x2.get e1, (fun _ z => nomatch z), fun z => (by rw [z, e1] at n2; cases n2), e2, rfl, rfl, rfl, rfl, rfl⟩
  · rintro m' H' ⟨gg, ags, w1, w2, w3, wn, w4, w5, w6, w7, w8, w9⟩
    refine ⟨rfl, ?_⟩
    have hend : (List.range 6).length = 6 := rfl
    (apply_assumption; refine awSs_consK fun Kz hz1 hz2 hz3 hz4 => ?_; refine awS_Return ?_; refine awE_Tuple ?_; refine awL_cons (fun _ _ h => nomatch h) ?_; refine awE_Compare rfl ?_; refine awE_Name (by first | rfl | assumption) ?_ rfl rfl; refine awE_ListX ?_; refine awL_nil ?_)
    refine ⟨Nat.zero_le _, fun em H3 x3 n3 e3 => ?_⟩
    refine cmp_ne_empty (x3.get w4) e3 ?_
    (refine awL_cons (fun _ _ h => nomatch h) ?_; refine awE_Name (by first | rfl | assumption) ?_ rfl rfl; refine awL_nil ?_)
    refine ⟨by simp, ?_⟩
    have he : ((dueG ar (List.range 6).length).map V.str).isEmpty = (dueG ar 6).isEmpty := by
      rw [hend]; cases dueG ar 6 <;> rfl
    rw [he]
    (apply_assumption)
    exact h H3 ro ags (w1.trans x3) (x3.get w2) (fun p hp => x3.get (w3 p hp).1) (by rw [w5, hend])
  · rintro dn y r m' H' hys ⟨gg, ags, w1, w2, w3, wn, w4, w5, w6, w7, w8, w9⟩
    refine ⟨rfl, fun K hn _ _ _ => ⟨_, rfl, ?_⟩⟩
    have hr3 := w1.get h3
    generalize hGn : dueG ar dn.length = going at w4
    have hgl : going.length ≤ 6 := by rw [← hGn]; exact dueG_len ar _
    (refine awSs_AssignK (by first | exact .inl rfl | exact .inr ⟨rfl, rfl⟩) rfl fun Kz hz1 => ?_; refine awE_ListComp rfl (compOk_of rfl rfl (by decide +kernel) rfl rfl) (fun _ => rfl) ?_; refine awE_Name (by first | rfl | assumption) ?_ rfl rfl)
    refine ⟨.list gg, going.map V.str, by simp [iterK, w4], fun C => ?_⟩
    refine compItems_J V.str (fun s : Str => if (ar.any fun q => q.1 == s && going.contains q.2) then some (V.str s) else none) (fun m2 H2 => Ext H' H2 ∧ m2 (Str.ofString "arrows") = some (.ref ra) ∧ m2 (Str.ofString "going") = some (.ref gg)) (fun m2 H2 hj => by simp [IK.items, hj.1.get w4]) (by simp; omega) ⟨Ext.refl _, w7, w9⟩ ?_ ?_
    · rintro s hs m2 H2 acc K2 hacc ⟨j1, j2, j3⟩ hk2
      refine compTurn1 rfl ?_
      have r4 := j1.get w4
      have r3 := j1.get hr3
      (refine awB_Compare rfl ?_; refine awE_ListComp rfl (compOk_of rfl rfl (by decide +kernel) rfl rfl) (fun _ => rfl) ?_; refine awE_Name (by first | rfl | assumption) ?_ rfl rfl)
      refine ⟨.list ra, ar.map pairV, by simp [iterK, r3], fun C2 => ?_⟩
      refine compItems_J pairV (fun q : Str × Str => if (q.1 == s && going.contains q.2) then some (V.str q.1) else none) (fun m3 H3 => H3 = H2 ∧ m3 (Str.ofString "state") = some (.str s) ∧ m3 (Str.ofString "going") = some (.ref gg)) (fun m3 H3 hj => by simp [IK.items, hj.1, r3]) (by simp; omega) ⟨rfl, rfl, j3⟩ ?_ ?_
      · rintro q hq m3 H3 acc3 K3 hacc3 ⟨l1, l2, l3⟩ hk3
        subst l1
        refine compTurn1 rfl ?_
        (refine awB_BoolOp ?_; refine awAll_And_cons ?_; refine awB_Compare rfl ?_; refine awE_Name (by first | rfl | assumption) ?_ rfl rfl; refine awE_Name (by first | rfl | assumption) ?_ rfl rfl; refine cmp_eq_str ?_; refine ⟨_, rfl, ?_⟩)
        cases hqs : (q.1 == s)
        · rw [hqs] at hk3
          (refine ite_f (by first | rfl | assumption) ?_; refine ite_f (by first | rfl | assumption) ?_)
          simpa using hk3 (set (set m3 (Str.ofString "left") (.str q.1)) (Str.ofString "reached") (.str q.2)) _ ⟨rfl, l2, l3⟩
        · rw [hqs] at hk3
          show awAll _ _ _ _ _ _ _ _ _ _ _
          (refine awAll_And_cons ?_; refine awB_Compare rfl ?_; refine awE_Name (by first | rfl | assumption) ?_ rfl rfl; refine awE_Name (by first | rfl | assumption) ?_ rfl rfl; refine in_strs (by assumption) ?_; refine ⟨_, rfl, ?_⟩)
          cases hqg : going.contains q.2
          · rw [hqg] at hk3
            (refine ite_f (by first | rfl | assumption) ?_; refine ite_f (by first | rfl | assumption) ?_)
            simpa using hk3 (set (set m3 (Str.ofString "left") (.str q.1)) (Str.ofString "reached") (.str q.2)) _ ⟨rfl, l2, l3⟩
          · rw [hqg] at hk3
            (refine ite_t (by first | rfl | assumption) ?_; refine awAll_And_nil ?_; refine ite_t (by first | rfl | assumption) ?_)
            refine ⟨hacc3, ?_⟩
            (refine awE_Name (by first | rfl | assumption) ?_ rfl rfl)
            exact hk3 (set (set m3 (Str.ofString "left") (.str q.1)) (Str.ofString "reached") (.str q.2)) _ ⟨rfl, l2, l3⟩
      · rintro m3 H3 ⟨l1, l2, l3⟩
        obtain rfl := l1.symm
        intro b hb
        rw [List.nil_append]
        have x5 : Ext H2 (upd H2 b (.list (ar.filterMap fun q : Str × Str => if (q.1 == s && going.contains q.2) then some (V.str q.1) else none))) := Ext.fresh hb
        have e5 := upd_self H2 b (.list (ar.filterMap fun q : Str × Str => if (q.1 == s && going.contains q.2) then some (V.str q.1) else none))
        generalize upd H2 b (.list (ar.filterMap fun q : Str × Str => if (q.1 == s && going.contains q.2) then some (V.str q.1) else none)) = H5 at x5 e5 ⊢
        (refine awE_ListX ?_; refine awL_nil ?_)
        refine ⟨Nat.zero_le _, fun em H6 x6 n6 e6 => ?_⟩
        refine cmp_ne_empty (x6.get e5) e6 ?_
        rw [fm_isEmpty (p := fun q : Str × Str => q.1 == s && going.contains q.2) (g := fun q : Str × Str => V.str q.1), Bool.not_not]
        (refine ⟨_, rfl, ?_⟩)
        cases hany : ar.any fun q => q.1 == s && going.contains q.2
        · rw [hany] at hk2
          (refine ite_f (by first | rfl | assumption) ?_)
          simpa using hk2 (set m2 (Str.ofString "state") (.str s)) _ ⟨j1.trans (x5.trans x6), j2, j3⟩
        · rw [hany] at hk2
          refine ite_t rfl ⟨hacc, ?_⟩
          (refine awE_Name (by first | rfl | assumption) ?_ rfl rfl)
          exact hk2 (set m2 (Str.ofString "state") (.str s)) _ ⟨j1.trans (x5.trans x6), j2, j3⟩
    · rintro m2 H2 ⟨j1, j2, j3⟩
      rw [List.nil_append, fm_filter (p := fun s : Str => ar.any fun q => q.1 == s && going.contains q.2) (g := V.str)]
      show ∀ a, _
      intro lo hlo
      have hlong : going.filter (fun s : Str => ar.any fun q => q.1 == s && going.contains q.2) = longer ar going := rfl
      rw [hlong]
      have x5 : Ext H2 (upd H2 lo (.list ((longer ar going).map V.str))) := Ext.fresh hlo
      have e5 := upd_self H2 lo (.list ((longer ar going).map V.str))
      generalize upd H2 lo (.list ((longer ar going).map V.str)) = H5 at x5 e5 ⊢
      have r4 := x5.get (j1.get w4)
      have X5 := w1.trans (j1.trans x5)
      have g5 : H5 ro = _ := x5.get (j1.get w2)
      (apply_assumption; refine awSs_consK fun Kz hz1 hz2 hz3 hz4 => ?_; refine awS_AssignComp rfl (by first | exact .inl rfl | exact .inr ⟨rfl, rfl⟩) rfl (compOk_of rfl rfl (by decide +kernel) rfl rfl) (fun _ => rfl) ?_; refine awE_Name (by first | rfl | assumption) ?_ rfl rfl)
      refine ⟨.list gg, going.map V.str, by simp [iterK, r4], fun C2 => ?_⟩
      refine compItems_J V.str (fun s : Str => if (!(longer ar going).contains s) then some (V.str s) else none) (fun m3 H3 => H3 = H5 ∧ m3 (Str.ofString "longer") = some (.ref lo)) (fun m3 H3 hj => by simp [IK.items, hj.1, r4]) (by simp; omega) ⟨rfl, rfl⟩ ?_ ?_
      · rintro s hs m3 H3 acc3 K3 hacc3 ⟨l1, l2⟩ hk3
        subst l1
        refine compTurn1 rfl ?_
        (refine awB_Compare rfl ?_; refine awE_Name (by first | rfl | assumption) ?_ rfl rfl; refine awE_Name (by first | rfl | assumption) ?_ rfl rfl; refine notin_strs (by assumption) ?_; refine ⟨_, rfl, ?_⟩)
        cases hc : (longer ar going).contains s
        · rw [hc] at hk3
          refine ite_t rfl ⟨hacc3, ?_⟩
          (refine awE_Name (by first | rfl | assumption) ?_ rfl rfl)
          exact hk3 (set m3 (Str.ofString "state") (.str s)) _ ⟨rfl, l2⟩
        · rw [hc] at hk3
          (refine ite_f (by first | rfl | assumption) ?_)
          simpa using hk3 (set m3 (Str.ofString "state") (.str s)) _ ⟨rfl, l2⟩
      · rintro m3 H3 ⟨l1, l2⟩
        obtain rfl := l1.symm
        rw [List.nil_append, fm_filter (p := fun s : Str => !(longer ar going).contains s) (g := V.str)]
        show ∀ a, _
        intro so hso
        have hst : going.filter (fun s : Str => !(longer ar going).contains s) = stopped ar dn.length := by unfold stopped; rw [← hGn]; rfl
        rw [hst]
        have x6 : Ext H5 (upd H5 so (.list ((stopped ar dn.length).map V.str))) := Ext.fresh hso
        have e6 := upd_self H5 so (.list ((stopped ar dn.length).map V.str))
        generalize upd H5 so (.list ((stopped ar dn.length).map V.str)) = H6 at x6 e6 ⊢
        have g6 : H6 ro = _ := x6.get g5
        have hnx : dn ++ [y] = List.range (dn.length + 1) := by
          have h6 : List.range 6 = dn ++ y :: r := hys
          have : (dn ++ [y]) = (List.range 6).take (dn.length + 1) := by
            rw [h6, List.take_append, List.take_of_length_le (by omega)]
            simp
          rw [this, List.take_range]
          congr 1
          have := congrArg List.length h6
          simp at this; omega
        have hG1 : dueG ar (dn ++ [y]).length = longer ar going := by
          rw [List.length_append, List.length_singleton, ← hGn]; rfl
        have hR1 : dueR ar (dn ++ [y]).length = dueR ar dn.length ++ (if stopped ar dn.length = [] then none else some (stopped ar dn.length)).toList := by
          rw [List.length_append, List.length_singleton]
          unfold dueR
          rw [List.range_succ, List.filterMap_append]
          simp only [List.filterMap_cons, List.filterMap_nil]
          cases (if stopped ar dn.length = [] then none else some (stopped ar dn.length)) <;> rfl
        have nso : so ≠ ro := fun z => by rw [z, g5] at hso; cases hso
        have nlo : lo ≠ ro := fun z => by rw [z, j1.get w2] at hlo; cases hlo
        have hagl : ags.length ≤ 6 := by
          have := congrArg List.length w5
          rw [List.length_map] at this
          rw [this]
          have h6 := congrArg List.length hys
          simp at h6
          refine Nat.le_trans (List.length_filterMap_le ..) ?_
          simp; omega
        (apply_assumption; refine awSs_consK fun Kz hz1 hz2 hz3 hz4 => ?_; refine awS_If ?_; refine awB_Compare rfl ?_; refine awE_Name (by first | rfl | assumption) ?_ rfl rfl; refine awE_ListX ?_; refine awL_nil ?_)
        refine ⟨Nat.zero_le _, fun em H7 x7 n7 e7 => ?_⟩
        refine cmp_ne_empty (x7.get e6) e7 ?_
        (refine ⟨_, rfl, ?_⟩)
        have g7 := x7.get g6
        cases hse : stopped ar dn.length with
        | nil =>
          (refine ite_f (by first | rfl | assumption) ?_; refine awSs_nil ?_; apply_assumption; refine awSs_AssignK (by first | exact .inl rfl | exact .inr ⟨rfl, rfl⟩) rfl fun Kz hz1 => ?_; refine awE_Name (by first | rfl | assumption) ?_ rfl rfl; apply_assumption; refine awSs_nil ?_)
          refine hn _ _ ⟨lo, ags, X5.trans (x6.trans x7), g7, fun p hp => ⟨x7.get (x6.get (x5.get (j1.get (w3 p hp).1))), (w3 p hp).2⟩, nlo, ?_, ?_, by rw [List.length_append, List.length_singleton]; exact hnx, w7, w8, rfl⟩
          · rw [hG1]; exact x7.get (x6.get e5)
          · rw [hR1, hse]; simpa using w5
        | cons s0 sr =>
          (refine ite_t (by first | rfl | assumption) ?_; refine awSs_ExprK rfl rfl fun Kz hz1 => ?_; refine awE_Meth (few := true) rfl rfl rfl (fun _ => rfl) (by intro _ h; first | rfl | cases h) ?_; refine awE_Name (by first | rfl | assumption) ?_ rfl rfl; refine awM_bi (by first | rfl | exact typeV_list (by assumption) | exact typeV_dict (by assumption) | exact typeV_set (by assumption)) (by decide) F.plainAttrs_list F.slot_list_append F.type_list_append ⟨keepOk_builtin _, ?_⟩; refine awArgs_plain (fun _ _ h => nomatch h) ?_; refine awL_cons (fun _ _ h => nomatch h) ?_; refine awE_Name (by first | rfl | assumption) ?_ rfl rfl; refine awL_nil ?_; refine awCall_1 ?_; refine call_append_x (by assumption) (by first | assumption | omega | decide | (simp only [List.length_map, List.length_append, List.length_cons, List.length_nil]; omega)) ?_)
          intro H8 m8 e8
          (apply_assumption; refine awSs_nil ?_; apply_assumption; refine awSs_AssignK (by first | exact .inl rfl | exact .inr ⟨rfl, rfl⟩) rfl fun Kz hz1 => ?_; refine awE_Name (by first | rfl | assumption) ?_ rfl rfl; apply_assumption; refine awSs_nil ?_)
          refine hn _ _ ⟨lo, ags ++ [(so, s0 :: sr)], m8.ext (X5.trans (x6.trans x7)) n1, by rw [e8, List.map_append]; rfl, fun p hp => ?_, nlo, ?_, ?_, by rw [List.length_append, List.length_singleton]; exact hnx, w7, w8, rfl⟩
          · rcases List.mem_append.mp hp with hp | hp
            · exact ⟨m8.get (w3 p hp).2 (x7.get (x6.get (x5.get (j1.get (w3 p hp).1)))), (w3 p hp).2⟩
            · rw [List.mem_singleton.mp hp, ← hse]; exact ⟨m8.get nso (x7.get e6), nso⟩
          · rw [hG1]; exact m8.get nlo (x7.get (x6.get e5))
          · rw [hR1, hse, List.map_append, w5]; rfl
inductive Rch (ar : List (Str × Str)) (a : Str) : Str → Prop
  | refl : Rch ar a a
  | step {b c : Str} : Rch ar a b → (b, c) ∈ ar → Rch ar a c
inductive EndJ (H : AH) (ra fo : Addr) (ar : List (Str × Str)) (s0 : Str) (k : Nat) (m' : Map) (H' : AH) : Prop
  | mk (found : List Str) (pl : Nat) (e : k = 6 - pl) (l : pl ≤ found.length) (w1 : Ext H H') (w2 : H' fo = some (.list (found.map V.str))) (w3 : found.Nodup) (w4 : ∀ s ∈ found, s ∈ lets ∧ Rch ar s0 s) (w5 : s0 ∈ found) (w6 : ∀ i x, i < pl → found[i]? = some x → ∀ q ∈ ar, q.1 = x → q.2 ∈ found) (w7 : m' (Str.ofString "arrows") = some (.ref ra)) (w8 : m' (Str.ofString "found") = some (.ref fo)) (w9 : m' (Str.ofString "place") = some (.int pl))
inductive EndF (H : AH) (ra fo : Addr) (ar : List (Str × Str)) (s0 : Str) (found : List Str) (x : Str) (pl : Nat) (dn rest : List (Str × Str)) (m2 : Map) (H2 : AH) : Prop
  | mk (found2 : List Str) (y1 : Ext H H2) (y2 : H2 fo = some (.list (found2.map V.str))) (y3 : found2.Nodup) (y4 : ∀ s ∈ found2, s ∈ lets ∧ Rch ar s0 s) (y5 : ∃ ex, found2 = found ++ ex) (y6 : ∀ q ∈ dn, q.1 = x → q.2 ∈ found2) (y7 : m2 (Str.ofString "arrows") = some (.ref ra)) (y8 : m2 (Str.ofString "found") = some (.ref fo)) (y9 : m2 (Str.ofString "place") = some (.int pl))
theorem law_ends : ∀ {c : Cx} {d : Nat} {p : Program} {loose : List Str} {mg mb : Str → Option Value} {H : AH} {P : V → AH → Prop} {X : Exc → AH → Prop} {ra : Addr} {ar : List (Str × Str)} {s0 : Str}
    (hprog : c.prog = PySem.Challenge.rw_om0166_01.row.prog) (G : Gd (KF c.w.params) p loose mg mb c.g) (h3 : H ra = some (.list (ar.map pairV))) (hal : ar.length ≤ 100) (hs0 : s0 ∈ lets) (har : ∀ q ∈ ar, q.2 ∈ lets)
    (h : ∀ H' a (es : List Str), Ext H H' → H' a = some (.list (es.map V.str)) → es.Nodup → (∀ s, s ∈ es ↔ Rch ar s0 s ∧ ∀ q ∈ ar, q.1 ≠ s) → P (.ref a) H'), callP c (d + 2) (.ref 344) [.ref ra, .str s0] [] H P X := by
  w_on
  k_fill
  intro c d p loose mg mb H P X ra ar s0 hprog G h3 hal hs0 har h
  refine' enter (d := d + 1) (binds := [(Str.ofString "arrows", .ref ra), (Str.ofString "start", .str s0)]) G ?ho ?hcd ?hb ?hk ?hn ?hd ?_ ?c1 ?c2 ?c3
  ((case ho => k_is); (case hcd => k_is); (case hk => rfl); (case hn => decide +kernel); (case hd => exact of_decide_eq_true rfl); (case c1 => rfl); (case c2 => rfl); (case c3 => rfl); try (case hb => first | exact bnd0 rfl | exact bnd1 (fun _ => rfl) | exact bnd2 (fun _ _ => rfl) | exact bnd3 (fun _ _ _ => rfl)))
  intro A L
  (refine awSs_AssignK (by first | exact .inl rfl | exact .inr ⟨rfl, rfl⟩) rfl fun Kz hz1 => ?_; refine awE_ListX ?_; refine awL_cons (fun _ _ h => nomatch h) ?_; refine awE_Name (by first | rfl | assumption) ?_ rfl rfl; refine awL_nil ?_)
  refine ⟨Nat.le_of_ble_eq_true rfl, fun fo H1 x1 n1 e1 => ?_⟩
  (apply_assumption; refine awSs_AssignK (by first | exact .inl rfl | exact .inr ⟨rfl, rfl⟩) rfl fun Kz hz1 => ?_; refine awE_Const rfl ?_; apply_assumption; refine awSs_consK fun Kz hz1 hz2 hz3 hz4 => ?_)
  refine awS_WhileK (EndJ H ra fo ar s0) 6 ⟨[s0], 0, rfl, Nat.zero_le _, x1, e1, by simp, fun s hs => (by rw [List.mem_singleton.mp hs]; exact ⟨hs0, .refl⟩), by simp, (fun i x hi => absurd hi (Nat.not_lt_zero _)), rfl, rfl, rfl⟩ ?_
  rintro Y hY k m' H' ⟨found, pl, hk, hpl, w1, w2, w3, w4, w5, w6, w7, w8, w9⟩ KW kw1 kw2 kw3 kw4
  have hfl : found.length ≤ 6 := nodup_sub_len w3 (m := lets) fun s hs => (w4 s hs).1
  have hr3 := w1.get h3
  (refine awB_Compare rfl ?_; refine awE_Name (by first | rfl | assumption) ?_ rfl rfl; refine awE_Call (by intro o n ap h; cases h) (fun _ => rfl) (by intro _ h; first | rfl | cases h) ?_; refine awE_Bltn (by assumption) rfl (by k_is) (by first | boot_by_name | rfl) (by decide) ?_ rfl; refine ⟨_, rfl, (by first | exact keepOk_type _ | exact keepOk_builtin _ | exact keepOk_K (by assumption) (by k_is)), ?_⟩; refine awArgs_plain (fun _ _ h => nomatch h) ?_; refine awL_cons (fun _ _ h => nomatch h) ?_; refine awE_Name (by first | rfl | assumption) ?_ rfl rfl; refine awL_nil ?_)
  refine call_len_l w2 (by rw [List.length_map]; omega) ?_
  rw [List.length_map]
  (refine cmp_lt_int ?_; refine ⟨_, rfl, ?_⟩)
  cases hlt : decide ((pl : Int) < (found.length : Int))
  · have hpe : pl = found.length := by
      have : ¬ (pl : Int) < (found.length : Int) := by simpa using hlt
      omega
    (refine ite_f (by first | rfl | assumption) ?_; refine awSs_nil ?_; apply_assumption; refine awSs_consK fun Kz hz1 hz2 hz3 hz4 => ?_; refine awS_Return ?_; refine awE_ListComp rfl (compOk_of rfl rfl (by decide +kernel) rfl rfl) (fun _ => rfl) ?_; refine awE_Name (by first | rfl | assumption) ?_ rfl rfl)
    refine ⟨.list fo, found.map V.str, by simp [iterK, w2], fun C => ?_⟩
    refine compItems_J V.str (fun s : Str => if !(ar.any fun q => q.1 == s) then some (V.str s) else none) (fun m2 H2 => Ext H' H2 ∧ m2 (Str.ofString "arrows") = some (.ref ra)) (fun m2 H2 hj => by simp [IK.items, hj.1.get w2]) (by simp; omega) ⟨Ext.refl _, w7⟩ ?_ ?_
    · rintro s hs m2 H2 acc K2 hacc ⟨j1, j2⟩ hk2
      refine compTurn1 rfl ?_
      have r3 := j1.get hr3
      (refine awB_Compare rfl ?_; refine awE_ListComp rfl (compOk_of rfl rfl (by decide +kernel) rfl rfl) (fun _ => rfl) ?_; refine awE_Name (by first | rfl | assumption) ?_ rfl rfl)
      refine ⟨.list ra, ar.map pairV, by simp [iterK, r3], fun C2 => ?_⟩
      refine compItems_J pairV (fun q : Str × Str => if (q.1 == s) then some (V.str q.1) else none) (fun m3 H3 => H3 = H2 ∧ m3 (Str.ofString "state") = some (.str s)) (fun m3 H3 hj => by simp [IK.items, hj.1, r3]) (by simp; omega) ⟨rfl, rfl⟩ ?_ ?_
      · rintro q hq m3 H3 acc3 K3 hacc3 ⟨l1, l2⟩ hk3
        subst l1
        refine compTurn1 rfl ?_
        (refine awB_Compare rfl ?_; refine awE_Name (by first | rfl | assumption) ?_ rfl rfl; refine awE_Name (by first | rfl | assumption) ?_ rfl rfl; refine cmp_eq_str ?_; refine ⟨_, rfl, ?_⟩)
        cases hqs : (q.1 == s)
        · rw [hqs] at hk3
          (refine ite_f (by first | rfl | assumption) ?_)
          simpa using hk3 (set (set m3 (Str.ofString "left") (.str q.1)) (Str.ofString "reached") (.str q.2)) _ ⟨rfl, l2⟩
        · rw [hqs] at hk3
          (refine ite_t (by first | rfl | assumption) ?_)
          refine ⟨hacc3, ?_⟩
          (refine awE_Name (by first | rfl | assumption) ?_ rfl rfl)
          exact hk3 (set (set m3 (Str.ofString "left") (.str q.1)) (Str.ofString "reached") (.str q.2)) _ ⟨rfl, l2⟩
      · rintro m3 H3 ⟨l1, l2⟩
        obtain rfl := l1.symm
        intro b hb
        rw [List.nil_append]
        have x5 : Ext H2 (upd H2 b (.list (ar.filterMap fun q : Str × Str => if (q.1 == s) then some (V.str q.1) else none))) := Ext.fresh hb
        have e5 := upd_self H2 b (.list (ar.filterMap fun q : Str × Str => if (q.1 == s) then some (V.str q.1) else none))
        generalize upd H2 b (.list (ar.filterMap fun q : Str × Str => if (q.1 == s) then some (V.str q.1) else none)) = H5 at x5 e5 ⊢
        (refine awE_ListX ?_; refine awL_nil ?_)
        refine ⟨Nat.zero_le _, fun em H6 x6 n6 e6 => ?_⟩
        refine cmp_eq_empty (x6.get e5) e6 ?_
        rw [fm_isEmpty (p := fun q : Str × Str => q.1 == s) (g := fun q : Str × Str => V.str q.1)]
        (refine ⟨_, rfl, ?_⟩)
        cases hany : !(ar.any fun q => q.1 == s)
        · rw [hany] at hk2
          (refine ite_f (by first | rfl | assumption) ?_)
          simpa using hk2 (set m2 (Str.ofString "state") (.str s)) _ ⟨j1.trans (x5.trans x6), j2⟩
        · rw [hany] at hk2
          (refine ite_t (by first | rfl | assumption) ?_)
          refine ⟨hacc, ?_⟩
          (refine awE_Name (by first | rfl | assumption) ?_ rfl rfl)
          exact hk2 (set m2 (Str.ofString "state") (.str s)) _ ⟨j1.trans (x5.trans x6), j2⟩
    · rintro m2 H2 ⟨j1, j2⟩
      rw [List.nil_append, fm_filter (p := fun s : Str => !(ar.any fun q => q.1 == s)) (g := V.str)]
      show ∀ a, _
      intro a ha
      (apply_assumption)
      refine h _ a (found.filter fun s => !(ar.any fun q => q.1 == s)) (w1.trans (j1.trans (Ext.fresh ha))) (upd_self _ _ _) (w3.filter _) fun s => ?_
      have hclosed : ∀ s, Rch ar s0 s → s ∈ found := fun s hs => by
        induction hs with
        | refl => exact w5
        | step hb hq ih =>
          obtain ⟨i, hi, e⟩ := List.mem_iff_getElem.mp ih
          exact w6 i _ (by omega) (by rw [List.getElem?_eq_getElem hi, e]) _ hq rfl
      rw [List.mem_filter]
      constructor
      · rintro ⟨a, b⟩
        refine ⟨(w4 s a).2, fun q hq z => ?_⟩
        have : ar.any (fun q => q.1 == s) = true := List.any_eq_true.mpr ⟨q, hq, by simpa using z⟩
        rw [this] at b; cases b
      · rintro ⟨a, b⟩
        refine ⟨hclosed s a, ?_⟩
        rw [Bool.not_eq_true']
        rw [List.any_eq_false]
        intro q hq; simpa using b q hq
  · have hpl' : pl < found.length := by
      have : (pl : Int) < (found.length : Int) := by simpa using hlt
      omega
    have hx0 : found[pl]? = some found[pl] := List.getElem?_eq_getElem hpl'
    generalize found[pl] = x at hx0
    have hxr : Rch ar s0 x := (w4 x (List.mem_of_getElem? hx0)).2
    (refine ite_t (by first | rfl | assumption) ?_; refine awSs_consK fun Kz hz1 hz2 hz3 hz4 => ?_; refine awS_For rfl (fun _ => rfl) (by first | (show Storable _ _; exact .inl rfl) | (show Storable _ _; exact .inr ⟨rfl, rfl⟩) | exact (Or.inl rfl : Storable _ _) | exact (Or.inr ⟨rfl, rfl⟩ : Storable _ _) | exact ⟨(Or.inl rfl : Storable _ _), (Or.inl rfl : Storable _ _)⟩) ?_; refine awE_Name (by first | rfl | assumption) ?_ rfl rfl)
    refine ⟨.list ra, ar.map pairV, by simp [iterK, hr3], ?_⟩
    refine forP_J pairV (EndF H ra fo ar s0 found x pl) ?_ ?_ ⟨found, w1, w2, w3, w4, ⟨[], by simp⟩, (fun _ z => nomatch z), w7, w8, w9⟩
    · rintro m2 H2 ⟨found2, y1, y2, y3, y4, ⟨ex, y5⟩, y6, y7, y8, y9⟩
      refine ⟨by simp [IK.items, y1.get h3], ?_⟩
      (apply_assumption; refine awSs_consK fun Kz hz1 hz2 hz3 hz4 => ?_; refine awS_AugName (by first | rfl | assumption) (by first | exact .inl rfl | exact .inr ⟨rfl, rfl⟩) rfl ?_; refine awE_Const rfl ?_; refine iadd_ints ?_; apply_assumption; refine awSs_nil ?_; apply_assumption)
      refine ⟨6 - (pl + 1), by omega, hY _ _ _ ⟨found2, pl + 1, rfl, by rw [y5, List.length_append]; omega, y1, y2, y3, y4, by rw [y5]; simp [w5], fun i z hi hz q hq hqz => ?_, y7, y8, by rfl⟩⟩
      by_cases hip : i = pl
      · subst hip
        rw [y5, List.getElem?_append_left hpl', hx0] at hz
        cases hz
        exact y6 q hq hqz
      · have hip' : i < pl := by omega
        rw [y5, List.getElem?_append_left (by omega)] at hz
        rw [y5]
        exact List.mem_append_left _ (w6 i z hip' hz q hq hqz)
    · rintro dn q r m2 H2 har2 ⟨found2, y1, y2, y3, y4, ⟨ex, y5⟩, y6, y7, y8, y9⟩
      refine ⟨by simp [IK.items, y1.get h3], fun K hn _ _ _ => ⟨_, rfl, ?_⟩⟩
      have hfl2 : found2.length ≤ 6 := nodup_sub_len y3 (m := lets) fun s hs => (y4 s hs).1
      have hx2 : (found2.map V.str)[((pl : Nat) : Int).toNat]? = some (.str x) := by
        rw [Int.toNat_natCast, List.getElem?_map, y5, List.getElem?_append_left hpl', hx0]; rfl
      have hqr : q ∈ ar := by rw [har2]; simp
      (refine awSs_consK fun Kz hz1 hz2 hz3 hz4 => ?_; refine awS_If ?_; refine awB_BoolOp ?_; refine awAll_And_cons ?_; refine awB_Compare rfl ?_; refine awE_Name (by first | rfl | assumption) ?_ rfl rfl; refine awE_Sub (by intro _ _ _ h; cases h) ?_; refine awE_Name (by first | rfl | assumption) ?_ rfl rfl; refine awE_Name (by first | rfl | assumption) ?_ rfl rfl)
      refine sub_list y2 (by omega) (by omega) hx2 ?_
      (refine cmp_eq_str ?_; refine ⟨_, rfl, ?_⟩)
      have snoc : ∀ {f3 : List Str}, (∀ s ∈ found2, s ∈ f3) → (q.1 = x → q.2 ∈ f3) → ∀ q' ∈ dn ++ [q], q'.1 = x → q'.2 ∈ f3 := fun h1 h2 q' hq' z => by
        rcases List.mem_append.mp hq' with hq' | hq'
        · exact h1 _ (y6 q' hq' z)
        · rw [List.mem_singleton] at hq'; subst hq'; exact h2 z
      cases hqx : (q.1 == x)
      · have hqx' : q.1 ≠ x := by simpa using hqx
        (refine ite_f (by first | rfl | assumption) ?_; refine ite_f (by first | rfl | assumption) ?_; refine awSs_nil ?_; apply_assumption; refine awSs_nil ?_)
        exact hn _ _ ⟨found2, y1, y2, y3, y4, ⟨ex, y5⟩, snoc (fun s hs => hs) (fun z => absurd z hqx'), y7, y8, y9⟩
      · have hqx' : q.1 = x := by simpa using hqx
        show awAll _ _ _ _ _ _ _ _ _ _ _
        (refine awAll_And_cons ?_; refine awB_Compare rfl ?_; refine awE_Name (by first | rfl | assumption) ?_ rfl rfl; refine awE_Name (by first | rfl | assumption) ?_ rfl rfl; refine notin_strs (by assumption) ?_; refine ⟨_, rfl, ?_⟩)
        cases hqf : found2.contains q.2
        · have hqf' : q.2 ∉ found2 := by simpa using hqf
          (refine ite_t (by first | rfl | assumption) ?_; refine awAll_And_nil ?_; refine ite_t (by first | rfl | assumption) ?_; refine awSs_ExprK rfl rfl fun Kz hz1 => ?_; refine awE_Meth (few := true) rfl rfl rfl (fun _ => rfl) (by intro _ h; first | rfl | cases h) ?_; refine awE_Name (by first | rfl | assumption) ?_ rfl rfl; refine awM_bi (by first | rfl | exact typeV_list (by assumption) | exact typeV_dict (by assumption) | exact typeV_set (by assumption)) (by decide) F.plainAttrs_list F.slot_list_append F.type_list_append ⟨keepOk_builtin _, ?_⟩; refine awArgs_plain (fun _ _ h => nomatch h) ?_; refine awL_cons (fun _ _ h => nomatch h) ?_; refine awE_Name (by first | rfl | assumption) ?_ rfl rfl; refine awL_nil ?_; refine awCall_1 ?_; refine call_append_x (by assumption) (by first | assumption | omega | decide | (simp only [List.length_map, List.length_append, List.length_cons, List.length_nil]; omega)) ?_)
          (try refine call_appendX y2 (by rw [List.length_map]; omega) ?_)
          intro H3 m3 e3
          (apply_assumption; refine awSs_nil ?_; apply_assumption; refine awSs_nil ?_)
          refine hn _ _ ⟨found2 ++ [q.2], m3.ext y1 n1, by rw [e3, List.map_append]; rfl, ?_, fun s hs => ?_, ⟨ex ++ [q.2], by rw [y5]; simp⟩, snoc (fun s hs => List.mem_append_left _ hs) (fun _ => by simp), y7, y8, y9⟩
          · rw [List.nodup_append]
            exact ⟨y3, by simp, fun a ha b hb => by rw [List.mem_singleton.mp hb]; exact fun z => hqf' (by rw [← z]; exact ha)⟩
          · rcases List.mem_append.mp hs with hs | hs
            · exact y4 s hs
            · rw [List.mem_singleton.mp hs]
              exact ⟨har q hqr, .step hxr (by rw [← hqx']; exact hqr)⟩
        · have hqf' : q.2 ∈ found2 := by simpa using hqf
          (refine ite_f (by first | rfl | assumption) ?_; refine ite_f (by first | rfl | assumption) ?_; refine awSs_nil ?_; apply_assumption; refine awSs_nil ?_)
          exact hn _ _ ⟨found2, y1, y2, y3, y4, ⟨ex, y5⟩, snoc (fun s hs => hs) (fun _ => hqf'), y7, y8, y9⟩
theorem Rch.head {ar : List (Str × Str)} {a b c : Str} (h : (a, b) ∈ ar) (r : Rch ar b c) : Rch ar a c := by
  induction r with
  | refl => exact .step .refl h
  | step _ hq ih => exact .step ih hq
theorem Rch.cases_head {ar : List (Str × Str)} {a c : Str} (r : Rch ar a c) : c = a ∨ ∃ b, (a, b) ∈ ar ∧ Rch ar b c := by
  induction r with
  | refl => exact .inl rfl
  | step _ hq ih =>
    rcases ih with rfl | ⟨b, h1, h2⟩
    · exact .inr ⟨_, hq, .refl⟩
    · exact .inr ⟨b, h1, .step h2 hq⟩
open Classical in
noncomputable def rowOf (ar : List (Str × Str)) (s : Str) : List Str := lets.filter fun o => decide (Rch ar s o)
theorem mem_row {ar : List (Str × Str)} {s o : Str} : o ∈ rowOf ar s ↔ o ∈ lets ∧ Rch ar s o := by unfold rowOf; rw [List.mem_filter]; simp
theorem row_len (ar : List (Str × Str)) (s : Str) : (rowOf ar s).length ≤ 6 := List.length_filter_le ..
theorem lets_sorted : lets.Pairwise LtS := by
  decide +kernel
theorem row_sorted (ar : List (Str × Str)) (s : Str) : (rowOf ar s).Pairwise LtS := lets_sorted.filter _
structure RchAt (H : AH) (rd : Addr) (ar : List (Str × Str)) (sas : List (Str × Addr)) : Prop where
  d : ∃ ep, H rd = some (.dict (sas.map fun p => (p.1, .ref p.2)) ep)
  l : ∀ p ∈ sas, H p.2 = some (.list ((rowOf ar p.1).map V.str))
theorem RchAt.more {H H' : AH} {rd : Addr} {ar : List (Str × Str)} {sas : List (Str × Addr)} (h : RchAt H rd ar sas) (x : Ext H H') : RchAt H' rd ar sas := ⟨h.d.imp fun _ => x.get, fun p hp => x.get (h.l p hp)⟩
theorem sas_lookup {sas : List (Str × Addr)} {t : Str} (h : t ∈ sas.map (·.1)) : ∃ p ∈ sas, p.1 = t ∧ (sas.map fun p => (p.1, V.ref p.2)).lookup t = some (.ref p.2) := by
  induction sas with
  | nil => cases h
  | cons p r ih =>
    rw [List.map_cons, List.lookup_cons]
    cases e : (t == p.1)
    · have : t ≠ p.1 := by simpa using e
      rw [List.map_cons, List.mem_cons] at h
      obtain ⟨p', a, b, c⟩ := ih (h.resolve_left this)
      exact ⟨p', List.mem_cons_of_mem _ a, b, c⟩
    · exact ⟨p, by simp, (by simpa using e : t = p.1).symm, rfl⟩
inductive ReachJ (H : AH) (rd stp : Addr) (ar : List (Str × Str)) (dn rest : List Str) (m' : Map) (H' : AH) : Prop
  | mk (sas : List (Str × Addr)) (w1 : Ext H H') (w2 : sas.map (·.1) = dn) (w3 : RchAt H' rd ar sas) (w4 : m' (Str.ofString "steps") = some (.ref stp)) (w5 : m' (Str.ofString "reach") = some (.ref rd))
inductive HeldJ (H' : AH) (stp rd a he : Addr) (ps ar : List (Str × Str)) (s : Str) (dn2 rest2 : List Str) (m2 : Map) (H4 : AH) : Prop
  | mk (held : List Str) (w1 : Ext H' H4) (w2 : H4 a = some (.list ((afOf ps s).map V.str))) (w3 : H4 he = some (.list (held.map V.str))) (w4 : ∀ o, o ∈ held ↔ o = s ∨ ∃ t ∈ dn2, o ∈ rowOf ar t) (w5 : held.length ≤ 1 + 6 * dn2.length)
      (w6 : m2 (Str.ofString "steps") = some (.ref stp)) (w7 : m2 (Str.ofString "reach") = some (.ref rd)) (w8 : m2 (Str.ofString "held") = some (.ref he)) (w9 : m2 (Str.ofString "state") = some (.str s))
theorem law_reach : ∀ {c : Cx} {d : Nat} {p : Program} {loose : List Str} {mg mb : Str → Option Value} {H : AH} {P : V → AH → Prop} {X : Exc → AH → Prop} {stp ha : Addr} {ps ar : List (Str × Str)} {hs : List Str}
    (hprog : c.prog = PySem.Challenge.rw_om0166_01.row.prog) (G : Gd (KF c.w.params) p loose mg mb c.g) (HA : HeadAt H stp ps) (hcl : ∀ s ∈ lets, s.length ≤ 1000 ∧ Clean (KF c.w.params) 48 (Txt.lower s)) (hps : ∀ q ∈ ps, q.1.length ≤ 1000) (hpl : ps.length ≤ 100)
    (hha : H ha = some (.list (hs.map V.str))) (hnd : hs.Nodup) (hhl : ∀ s ∈ hs, s ∈ lets) (haf : ∀ s ∈ lets, ∀ t, t ∈ afOf ps s ↔ (s, t) ∈ ar) (htop : ∀ dn s r, hs = dn ++ s :: r → ∀ t ∈ afOf ps s, t ∈ dn)
    (h : ∀ H' rd sas, Ext H H' → sas.map (·.1) = hs → RchAt H' rd ar sas → P (.ref rd) H'), callP c (d + 4) (.ref 349) [.ref stp, .ref ha] [] H P X := by
  w_on
  k_fill
  intro c d p loose mg mb H P X stp ha ps ar hs hprog G HA hcl hps hpl hha hnd hhl haf htop h
  refine' enter (d := d + 3) (binds := [(Str.ofString "steps", .ref stp), (Str.ofString "handed", .ref ha)]) G ?ho ?hcd ?hb ?hk ?hn ?hd ?_ ?c1 ?c2 ?c3
  ((case ho => k_is); (case hcd => k_is); (case hk => rfl); (case hn => decide +kernel); (case hd => exact of_decide_eq_true rfl); (case c1 => rfl); (case c2 => rfl); (case c3 => rfl); try (case hb => first | exact bnd0 rfl | exact bnd1 (fun _ => rfl) | exact bnd2 (fun _ _ => rfl) | exact bnd3 (fun _ _ _ => rfl)))
  intro A L
  (refine awSs_AssignK (by first | exact .inl rfl | exact .inr ⟨rfl, rfl⟩) rfl fun Kz hz1 => ?_; refine awE_Dict0X (by assumption) ?_)
  intro rd H1 x1 n1 e1
  (apply_assumption; refine awSs_consK fun Kz hz1 hz2 hz3 hz4 => ?_; refine awS_For rfl (fun _ => rfl) (by first | (show Storable _ _; exact .inl rfl) | (show Storable _ _; exact .inr ⟨rfl, rfl⟩) | exact (Or.inl rfl : Storable _ _) | exact (Or.inr ⟨rfl, rfl⟩ : Storable _ _) | exact ⟨(Or.inl rfl : Storable _ _), (Or.inl rfl : Storable _ _)⟩) ?_; refine awE_Name (by first | rfl | assumption) ?_ rfl rfl)
  refine ⟨.list ha, hs.map V.str, by simp [iterK, x1.get hha], ?_⟩
  have hsl : hs.length ≤ 6 := nodup_sub_len hnd (m := lets) hhl
  refine forP_J V.str (ReachJ H rd stp ar) ?_ ?_ ⟨[], x1, rfl, ⟨⟨0, e1⟩, (fun _ z => nomatch z)⟩, rfl, rfl⟩
  · rintro m' H' ⟨sas, w1, w2, w3, w4, w5⟩
    refine ⟨by simp [IK.items, w1.get hha], ?_⟩
    (apply_assumption; refine awSs_consK fun Kz hz1 hz2 hz3 hz4 => ?_; refine awS_Return ?_; refine awE_Name (by first | rfl | assumption) ?_ rfl rfl; apply_assumption)
    exact h H' rd sas w1 w2 w3
  · rintro dn s r m' H' hsd ⟨sas, w1, w2, w3, w4, w5⟩
    refine ⟨by simp [IK.items, w1.get hha], fun K hn _ _ _ => ⟨_, rfl, ?_⟩⟩
    have hsl' : s ∈ lets := hhl s (by rw [hsd]; simp)
    have htd := htop dn s r hsd
    have hsn : s ∉ dn := fun z => by
      rw [hsd, List.nodup_append] at hnd
      exact hnd.2.2 s z s (by simp) rfl
    (refine awSs_AssignK (by first | exact .inl rfl | exact .inr ⟨rfl, rfl⟩) rfl fun Kz hz1 => ?_; refine awE_ListX ?_; refine awL_cons (fun _ _ h => nomatch h) ?_; refine awE_Name (by first | rfl | assumption) ?_ rfl rfl; refine awL_nil ?_)
    refine ⟨Nat.le_of_ble_eq_true rfl, fun he H2 x2 n2 e2 => ?_⟩
    have HA' := HA.more (w1.trans x2)
    obtain ⟨hdd, hl, g1, g2, g3⟩ := id HA'
    (apply_assumption; refine awSs_consK fun Kz hz1 hz2 hz3 hz4 => ?_; refine awS_For rfl (fun _ => rfl) (by first | (show Storable _ _; exact .inl rfl) | (show Storable _ _; exact .inr ⟨rfl, rfl⟩) | exact (Or.inl rfl : Storable _ _) | exact (Or.inr ⟨rfl, rfl⟩ : Storable _ _) | exact ⟨(Or.inl rfl : Storable _ _), (Or.inl rfl : Storable _ _)⟩) ?_; refine awE_Meth (few := true) rfl rfl rfl (fun _ => rfl) (by intro _ h; first | rfl | cases h) ?_; refine awE_Name (by first | rfl | assumption) ?_ rfl rfl; refine awM_inst (by assumption) (by assumption) (by assumption) (by k_is) (by k_is) (by k_is) rfl ⟨keepOk_K (by assumption) (by k_is), ?_⟩; refine awArgs_plain (fun _ _ h => nomatch h) ?_; refine awL_cons (fun _ _ h => nomatch h) ?_; refine awE_Name (by first | rfl | assumption) ?_ rfl rfl; refine awL_nil ?_; refine awCall_1 ?_)
    refine awCall_of (get_all (d := d + 1) hprog G HA' (hcl s hsl').1 (hcl s hsl').2 hps (by omega) fun a hna => ?_)
    have x3 : Ext H2 (upd H2 a (.list ((afOf ps s).map V.str))) := Ext.fresh hna
    have e3 : (upd H2 a (.list ((afOf ps s).map V.str))) a = some (.list ((afOf ps s).map V.str)) := upd_self _ _ _
    have hrw : ((ps.filter fun q => Txt.lower q.1 == Txt.lower s).map fun q => V.str q.2) = (afOf ps s).map V.str := by unfold afOf; rw [List.map_map]; rfl
    rw [hrw]
    generalize upd H2 a (.list ((afOf ps s).map V.str)) = H3 at x3 e3 ⊢
    have hal := afOf_len ps s
    refine ⟨.list a, (afOf ps s).map V.str, by simp [iterK, e3], ?_⟩
    have nah : a ≠ he := fun z => by rw [z, e2] at hna; cases hna
    refine forP_J V.str (HeldJ H' stp rd a he ps ar s) ?_ ?_ ⟨[s], x2.trans x3, e3, x3.get e2, fun o => by simp, Nat.le_refl _, w4, w5, rfl, rfl⟩
    · rintro m2 H4 ⟨held, y1, y2, y3, y4, y5, y6, y7, y8, y9⟩
      refine ⟨by simp [IK.items, y2], ?_⟩
      (apply_assumption; refine awSs_consK fun Kz hz1 hz2 hz3 hz4 => ?_; refine awS_SetItem rfl rfl (by intro _ _ _ _ h; cases h) ?_; refine awE_ListComp rfl (compOk_of rfl rfl (by decide +kernel) rfl rfl) (fun _ => rfl) ?_; refine awE_Const rfl ?_)
      refine ⟨_, lets.map V.str, iter_abc _, fun C => ?_⟩
      refine compItems_J V.str (fun o : Str => if held.contains o then some (V.str o) else none) (fun m5 H5 => H5 = H4 ∧ m5 (Str.ofString "held") = some (.ref he)) (fun m5 H5 hj => rfl) (Nat.le_of_ble_eq_true rfl) ⟨rfl, y8⟩ ?_ ?_
      · rintro o ho m5 H5 acc K5 hacc ⟨l1, l2⟩ hk
        subst l1
        refine compTurn1 rfl ?_
        (refine awB_Compare rfl ?_; refine awE_Name (by first | rfl | assumption) ?_ rfl rfl; refine awE_Name (by first | rfl | assumption) ?_ rfl rfl; refine in_strs (by assumption) ?_; refine ⟨_, rfl, ?_⟩)
        cases hc : held.contains o
        · rw [hc] at hk
          (refine ite_f (by first | rfl | assumption) ?_)
          simpa using hk (set m5 (Str.ofString "one") (.str o)) _ ⟨rfl, l2⟩
        · rw [hc] at hk
          (refine ite_t (by first | rfl | assumption) ?_)
          refine ⟨hacc, ?_⟩
          (refine awE_Name (by first | rfl | assumption) ?_ rfl rfl)
          exact hk (set m5 (Str.ofString "one") (.str o)) _ ⟨rfl, l2⟩
      · rintro m5 H5 ⟨l1, l2⟩
        obtain rfl := l1.symm
        rw [List.nil_append, fm_filter (p := fun o : Str => held.contains o) (g := V.str)]
        show ∀ a, _
        intro b hb
        have hfil : lets.filter (fun o : Str => held.contains o) = rowOf ar s := by
          unfold rowOf
          refine List.filter_congr fun o ho => ?_
          rw [Bool.eq_iff_iff, List.contains_iff_mem, y4]
          simp only [decide_eq_true_eq]
          constructor
          · rintro (h | ⟨t, h1, h2⟩)
            · rw [h]; exact .refl
            · exact .head ((haf s hsl' t).mp h1) (mem_row.mp h2).2
          · intro hr
            rcases hr.cases_head with h | ⟨t, h1, h2⟩
            · exact .inl h
            · exact .inr ⟨t, (haf s hsl' t).mpr h1, mem_row.mpr ⟨ho, h2⟩⟩
        rw [hfil]
        have x6 : Ext H4 (upd H4 b (.list ((rowOf ar s).map V.str))) := Ext.fresh hb
        have e6 := upd_self H4 b (.list ((rowOf ar s).map V.str))
        generalize upd H4 b (.list ((rowOf ar s).map V.str)) = H6 at x6 e6 ⊢
        have R6 := w3.more (y1.trans x6)
        obtain ⟨ep, rd1⟩ := R6.d
        have hsasl : sas.length ≤ 6 := by
          have h1 := congrArg List.length w2
          have h2 := congrArg List.length hsd
          simp at h1 h2; omega
        (refine awE_Name (by first | rfl | assumption) ?_ rfl rfl; refine awE_Name (by first | rfl | assumption) ?_ rfl rfl)
        refine ⟨rd, _, ep, s, rfl, rfl, rd1, by simp; omega, fun ep' => ?_⟩
        have hpd : putD (sas.map fun p => (p.1, V.ref p.2)) s (.ref b) = (sas ++ [(s, b)]).map fun p => (p.1, V.ref p.2) := by
          rw [putD_new, List.map_append]
          · rfl
          · rw [List.map_map]
            show s ∉ sas.map (·.1)
            rw [w2]; exact hsn
        rw [hpd]
        have mm : Mod H6 rd (upd H6 rd (.dict ((sas ++ [(s, b)]).map fun p => (p.1, V.ref p.2)) ep')) := Mod.upd _ _ _
        have me := upd_self H6 rd (.dict ((sas ++ [(s, b)]).map fun p => (p.1, V.ref p.2)) ep')
        generalize upd H6 rd (.dict ((sas ++ [(s, b)]).map fun p => (p.1, V.ref p.2)) ep') = H7 at mm me ⊢
        (apply_assumption; refine awSs_nil ?_)
        refine hn _ _ ⟨sas ++ [(s, b)], mm.ext (w1.trans (y1.trans x6)) n1, by rw [List.map_append, w2]; rfl, ⟨⟨ep', me⟩, fun p hp => ?_⟩, y6, y7⟩
        rcases List.mem_append.mp hp with hp | hp
        · exact mm.mv rd1 (R6.l p hp)
        · rw [List.mem_singleton.mp hp]; exact mm.mv rd1 e6
    · rintro dn2 t r2 m2 H4 hafd ⟨held, y1, y2, y3, y4, y5, y6, y7, y8, y9⟩
      refine ⟨by simp [IK.items, y2], fun K2 hn2 _ _ _ => ⟨_, rfl, ?_⟩⟩
      obtain ⟨⟨ep, rd1⟩, rl1⟩ := w3.more y1
      obtain ⟨p0, hp0, hp1, hp2⟩ := sas_lookup (sas := sas) (t := t) (by rw [w2]; exact htd t (by rw [hafd]; simp))
      have hrow := rl1 p0 hp0
      rw [hp1] at hrow
      have hd2 : dn2.length ≤ 100 := by have := congrArg List.length hafd; simp at this; omega
      have hrl := row_len ar t
      (refine awSs_ExprK rfl rfl fun Kz hz1 => ?_; refine awE_Meth (few := true) rfl rfl rfl (fun _ => rfl) (by intro _ h; first | rfl | cases h) ?_; refine awE_Name (by first | rfl | assumption) ?_ rfl rfl; refine awM_bi (by first | rfl | exact typeV_list (by assumption) | exact typeV_dict (by assumption) | exact typeV_set (by assumption)) (by decide) F.plainAttrs_list F.slot_list_extend F.type_list_extend ⟨keepOk_builtin _, ?_⟩; refine awArgs_plain (fun _ _ h => nomatch h) ?_; refine awL_cons (fun _ _ h => nomatch h) ?_; refine awE_Sub (by intro _ _ _ h; cases h) ?_; refine awE_Name (by first | rfl | assumption) ?_ rfl rfl; refine awE_Name (by first | rfl | assumption) ?_ rfl rfl)
      refine sub_dict rd1 hp2 ?_
      (refine awL_nil ?_; refine awCall_1 ?_)
      refine call_extendX y3 hrow (by simp; omega) fun H5 m5 e5 => ?_
      (apply_assumption; refine awSs_nil ?_)
      refine hn2 _ _ ⟨held ++ rowOf ar t, m5.ext y1 n2, m5.get nah y2, by rw [e5, List.map_append], fun o => ?_, ?_, y6, y7, y8, y9⟩
      · rw [List.mem_append, y4]
        constructor
        · rintro ((h | ⟨t', h1, h2⟩) | h)
          · exact .inl h
          · exact .inr ⟨t', List.mem_append_left _ h1, h2⟩
          · exact .inr ⟨t, by simp, h⟩
        · rintro (h | ⟨t', h1, h2⟩)
          · exact .inl (.inl h)
          · rcases List.mem_append.mp h1 with h1 | h1
            · exact .inl (.inr ⟨t', h1, h2⟩)
            · rw [List.mem_singleton] at h1; subst h1; exact .inr h2
      · simp only [List.length_append, List.length_singleton]; omega
def Meet (ar : List (Str × Str)) (t u : Str) : Prop := ∃ o, o ∈ rowOf ar t ∧ o ∈ rowOf ar u
theorem Meet.symm {ar : List (Str × Str)} {t u : Str} (h : Meet ar t u) : Meet ar u t := h.imp fun _ ⟨a, b⟩ => ⟨b, a⟩
theorem minus_full {xs ys : List Str} : ((minus xs ys).length : Int) = (xs.length : Int) ↔ ¬ ∃ o, o ∈ xs ∧ o ∈ ys := by
  rw [Int.natCast_inj]
  unfold minus
  rw [List.length_filter_eq_length_iff]
  constructor
  · rintro h ⟨o, h1, h2⟩
    have := h o h1
    simp [h2] at this
  · intro h o ho
    have : o ∉ ys := fun z => h ⟨o, ho, z⟩
    simpa using this
theorem law_next_meet : ∀ {c : Cx} {d : Nat} {p : Program} {loose : List Str} {mg mb : Str → Option Value} {H : AH} {P : V → AH → Prop} {X : Exc → AH → Prop} {stp rd : Addr} {ps ar : List (Str × Str)} {s : Str} {sas : List (Str × Addr)}
    (hprog : c.prog = PySem.Challenge.rw_om0166_01.row.prog) (G : Gd (KF c.w.params) p loose mg mb c.g) (HA : HeadAt H stp ps) (hcl : s.length ≤ 1000 ∧ Clean (KF c.w.params) 48 (Txt.lower s)) (hps : ∀ q ∈ ps, q.1.length ≤ 1000) (hpl : ps.length ≤ 100)
    (R : RchAt H rd ar sas) (hin : ∀ t ∈ afOf ps s, t ∈ lets ∧ t ∈ sas.map (·.1))
    (h : ∀ H' b, Ext H H' → (b = true ↔ ∀ t ∈ afOf ps s, ∀ u ∈ afOf ps s, Meet ar t u) → P (.bool b) H'), callP c (d + 4) (.ref 356) [.ref stp, .ref rd, .str s] [] H P X := by
  w_on
  k_fill
  intro c d p loose mg mb H P X stp rd ps ar s sas hprog G HA hcl hps hpl R hin h
  refine' enter (d := d + 3) (binds := [(Str.ofString "steps", .ref stp), (Str.ofString "reach", .ref rd), (Str.ofString "state", .str s)]) G ?ho ?hcd ?hb ?hk ?hn ?hd ?_ ?c1 ?c2 ?c3
  ((case ho => k_is); (case hcd => k_is); (case hk => rfl); (case hn => decide +kernel); (case hd => exact of_decide_eq_true rfl); (case c1 => rfl); (case c2 => rfl); (case c3 => rfl); try (case hb => first | exact bnd0 rfl | exact bnd1 (fun _ => rfl) | exact bnd2 (fun _ _ => rfl) | exact bnd3 (fun _ _ _ => rfl)))
  intro A L
  obtain ⟨hdd, hl, g1, g2, g3⟩ := id HA
  (refine awSs_AssignK (by first | exact .inl rfl | exact .inr ⟨rfl, rfl⟩) rfl fun Kz hz1 => ?_; refine awE_Meth (few := true) rfl rfl rfl (fun _ => rfl) (by intro _ h; first | rfl | cases h) ?_; refine awE_Name (by first | rfl | assumption) ?_ rfl rfl; refine awM_inst (by assumption) (by assumption) (by assumption) (by k_is) (by k_is) (by k_is) rfl ⟨keepOk_K (by assumption) (by k_is), ?_⟩; refine awArgs_plain (fun _ _ h => nomatch h) ?_; refine awL_cons (fun _ _ h => nomatch h) ?_; refine awE_Name (by first | rfl | assumption) ?_ rfl rfl; refine awL_nil ?_; refine awCall_1 ?_)
  refine awCall_of (get_all (d := d + 1) hprog G HA hcl.1 hcl.2 hps (by omega) fun a hna => ?_)
  have x3 : Ext H (upd H a (.list ((afOf ps s).map V.str))) := Ext.fresh hna
  have e3 : (upd H a (.list ((afOf ps s).map V.str))) a = some (.list ((afOf ps s).map V.str)) := upd_self _ _ _
  have hrw : ((ps.filter fun q => Txt.lower q.1 == Txt.lower s).map fun q => V.str q.2) = (afOf ps s).map V.str := by unfold afOf; rw [List.map_map]; rfl
  rw [hrw]
  generalize upd H a (.list ((afOf ps s).map V.str)) = H3 at x3 e3 ⊢
  have hal := afOf_len ps s
  generalize hAF : afOf ps s = af at *
  (apply_assumption; refine awSs_consK fun Kz hz1 hz2 hz3 hz4 => ?_; refine awS_For rfl (fun _ => rfl) (by first | (show Storable _ _; exact .inl rfl) | (show Storable _ _; exact .inr ⟨rfl, rfl⟩) | exact (Or.inl rfl : Storable _ _) | exact (Or.inr ⟨rfl, rfl⟩ : Storable _ _) | exact ⟨(Or.inl rfl : Storable _ _), (Or.inl rfl : Storable _ _)⟩) ?_; refine awE_Call (by intro o n ap h; cases h) (fun _ => rfl) (by intro _ h; first | rfl | cases h) ?_; refine awE_Bltn (by assumption) rfl (by k_is) (by first | boot_by_name | rfl) (by decide) ?_ rfl; refine ⟨_, rfl, (by first | exact keepOk_type _ | exact keepOk_builtin _ | exact keepOk_K (by assumption) (by k_is)), ?_⟩; refine awArgs_plain (fun _ _ h => nomatch h) ?_; refine awL_cons (fun _ _ h => nomatch h) ?_; refine awE_Call (by intro o n ap h; cases h) (fun _ => rfl) (by intro _ h; first | rfl | cases h) ?_; refine awE_Bltn (by assumption) rfl (by k_is) (by first | boot_by_name | rfl) (by decide) ?_ rfl; refine ⟨_, rfl, (by first | exact keepOk_type _ | exact keepOk_builtin _ | exact keepOk_K (by assumption) (by k_is)), ?_⟩; refine awArgs_plain (fun _ _ h => nomatch h) ?_; refine awL_cons (fun _ _ h => nomatch h) ?_; refine awE_Name (by first | rfl | assumption) ?_ rfl rfl; refine awL_nil ?_)
  refine call_len_l e3 (by rw [List.length_map]; omega) ?_
  rw [List.length_map]
  (refine awL_nil ?_)
  refine call_range (n := af.length) (by omega) ?_
  skip
  refine ⟨.fixed (upTo af.length), (List.range af.length).map fun (k : Nat) => V.int k, rfl, ?_⟩
  refine forP_J (fun k : Nat => V.int k) (fun dn rest m' H' => Ext H3 H' ∧ (∀ i ∈ dn, ∀ j, j < i → ∀ t u, af[i]? = some t → af[j]? = some u → Meet ar t u) ∧ m' (Str.ofString "reach") = some (.ref rd) ∧ m' (Str.ofString "after") = some (.ref a)) ?_ ?_ ⟨Ext.refl _, (fun _ z => nomatch z), rfl, rfl⟩
  · rintro m' H' ⟨w1, w2, w3, w4⟩
    refine ⟨rfl, ?_⟩
    (apply_assumption; refine awSs_consK fun Kz hz1 hz2 hz3 hz4 => ?_; refine awS_Return ?_; refine awE_Const rfl ?_; apply_assumption)
    refine h H' true (x3.trans w1) ⟨fun _ t ht u hu => ?_, fun _ => rfl⟩
    obtain ⟨i, hi, ei⟩ := List.mem_iff_getElem.mp ht
    obtain ⟨j, hj, ej⟩ := List.mem_iff_getElem.mp hu
    have ei' : af[i]? = some t := by rw [List.getElem?_eq_getElem hi, ei]
    have ej' : af[j]? = some u := by rw [List.getElem?_eq_getElem hj, ej]
    rcases Nat.lt_trichotomy i j with hlt | heq | hgt
    · exact (w2 j (List.mem_range.mpr hj) i hlt u t ej' ei').symm
    · subst heq
      rw [ei'] at ej'; cases ej'
      have hl := (hin t ht).1
      exact ⟨t, mem_row.mpr ⟨hl, .refl⟩, mem_row.mpr ⟨hl, .refl⟩⟩
    · exact w2 i (List.mem_range.mpr hi) j hgt t u ei' ej'
  · rintro dn i r m' H' hds ⟨w1, w2, w3, w4⟩
    refine ⟨rfl, fun K hn _ _ hret => ⟨_, rfl, ?_⟩⟩
    have hi : i < af.length := List.mem_range.mp (by rw [hds]; simp)
    have hti : af[i]? = some af[i] := List.getElem?_eq_getElem hi
    generalize af[i] = ti at hti
    have htim := List.mem_of_getElem? hti
    (refine awSs_consK fun Kz hz1 hz2 hz3 hz4 => ?_; refine awS_For rfl (fun _ => rfl) (by first | (show Storable _ _; exact .inl rfl) | (show Storable _ _; exact .inr ⟨rfl, rfl⟩) | exact (Or.inl rfl : Storable _ _) | exact (Or.inr ⟨rfl, rfl⟩ : Storable _ _) | exact ⟨(Or.inl rfl : Storable _ _), (Or.inl rfl : Storable _ _)⟩) ?_; refine awE_Call (by intro o n ap h; cases h) (fun _ => rfl) (by intro _ h; first | rfl | cases h) ?_; refine awE_Bltn (by assumption) rfl (by k_is) (by first | boot_by_name | rfl) (by decide) ?_ rfl; refine ⟨_, rfl, (by first | exact keepOk_type _ | exact keepOk_builtin _ | exact keepOk_K (by assumption) (by k_is)), ?_⟩; refine awArgs_plain (fun _ _ h => nomatch h) ?_; refine awL_cons (fun _ _ h => nomatch h) ?_; refine awE_Name (by first | rfl | assumption) ?_ rfl rfl; refine awL_nil ?_)
    refine call_range (n := i) (by omega) ?_
    skip
    refine ⟨.fixed (upTo i), (List.range i).map fun (k : Nat) => V.int k, rfl, ?_⟩
    refine forP_J (fun k : Nat => V.int k) (fun dn2 rest2 m2 H2 => Ext H3 H2 ∧ (∀ j ∈ dn2, ∀ u, af[j]? = some u → Meet ar ti u) ∧ m2 (Str.ofString "reach") = some (.ref rd) ∧ m2 (Str.ofString "after") = some (.ref a) ∧ m2 (Str.ofString "second") = some (.int i)) ?_ ?_ ⟨w1, (fun _ z => nomatch z), w3, w4, rfl⟩
    · rintro m2 H2 ⟨y1, y2, y3, y4, y5⟩
      refine ⟨rfl, ?_⟩
      (apply_assumption; refine awSs_nil ?_)
      refine hn _ _ ⟨y1, fun i' hi' j hj t u ht hu => ?_, y3, y4⟩
      rcases List.mem_append.mp hi' with hi' | hi'
      · exact w2 i' hi' j hj t u ht hu
      · rw [List.mem_singleton] at hi'; subst hi'
        rw [hti] at ht; cases ht
        exact y2 j (List.mem_range.mpr hj) u hu
    · rintro dn2 j r2 m2 H2 hds2 ⟨y1, y2, y3, y4, y5⟩
      refine ⟨rfl, fun K2 hn2 _ _ hret2 => ⟨_, rfl, ?_⟩⟩
      have hj : j < i := List.mem_range.mp (by rw [hds2]; simp)
      have htj : af[j]? = some af[j] := List.getElem?_eq_getElem (by omega)
      generalize af[j] = tj at htj
      have htjm := List.mem_of_getElem? htj
      obtain ⟨⟨ep, rd1⟩, rl1⟩ := R.more (x3.trans y1)
      obtain ⟨pi, hpi, hpi1, hpi2⟩ := sas_lookup (hin ti htim).2
      obtain ⟨pj, hpj, hpj1, hpj2⟩ := sas_lookup (hin tj htjm).2
      have rowi := rl1 pi hpi
      have rowj := rl1 pj hpj
      rw [hpi1] at rowi
      rw [hpj1] at rowj
      have la := y1.get e3
      have hi' : (af.map V.str)[((i : Nat) : Int).toNat]? = some (.str ti) := by rw [Int.toNat_natCast, List.getElem?_map, hti]; rfl
      have hj' : (af.map V.str)[((j : Nat) : Int).toNat]? = some (.str tj) := by rw [Int.toNat_natCast, List.getElem?_map, htj]; rfl
      (refine awSs_AssignK (by first | exact .inl rfl | exact .inr ⟨rfl, rfl⟩) rfl fun Kz hz1 => ?_; refine awE_Sub (by intro _ _ _ h; cases h) ?_; refine awE_Call (by intro o n ap h; cases h) (fun _ => rfl) (by intro _ h; first | rfl | cases h) ?_; refine awE_Glob (by assumption) rfl (by k_is) ?_ rfl; refine ⟨_, rfl, (by first | exact keepOk_type _ | exact keepOk_builtin _ | exact keepOk_K (by assumption) (by k_is)), ?_⟩; refine awArgs_plain (fun _ _ h => nomatch h) ?_; refine awL_cons (fun _ _ h => nomatch h) ?_; refine awE_Sub (by intro _ _ _ h; cases h) ?_; refine awE_Name (by first | rfl | assumption) ?_ rfl rfl; refine awE_Sub (by intro _ _ _ h; cases h) ?_; refine awE_Name (by first | rfl | assumption) ?_ rfl rfl; refine awE_Name (by first | rfl | assumption) ?_ rfl rfl)
      refine sub_list la (by omega) (by omega) hj' ?_
      refine sub_dict rd1 hpj2 ?_
      (refine awL_cons (fun _ _ h => nomatch h) ?_; refine awE_Sub (by intro _ _ _ h; cases h) ?_; refine awE_Name (by first | rfl | assumption) ?_ rfl rfl; refine awE_Sub (by intro _ _ _ h; cases h) ?_; refine awE_Name (by first | rfl | assumption) ?_ rfl rfl; refine awE_Name (by first | rfl | assumption) ?_ rfl rfl)
      refine sub_list la (by omega) (by omega) hi' ?_
      refine sub_dict rd1 hpi2 ?_
      (refine awL_nil ?_)
      refine awCall_of (sld (d := d + 2) hprog G rowj rowi (row_sorted _ _) (row_sorted _ _) (Nat.le_trans (row_len _ _) (by decide)) (Nat.le_trans (row_len _ _) (by decide)) fun H5 ma ub x5 n5 n6 e5 e6 => ?_)
      have hml := Nat.le_trans (minus_len (rowOf ar tj) (rowOf ar ti)) (row_len _ _)
      have hrl := row_len ar tj
      (refine awE_Const rfl ?_; refine sub_tup (by decide) (by decide) rfl ?_; apply_assumption; refine awSs_consK fun Kz hz1 hz2 hz3 hz4 => ?_; refine awS_If ?_; refine awB_Compare rfl ?_; refine awE_Call (by intro o n ap h; cases h) (fun _ => rfl) (by intro _ h; first | rfl | cases h) ?_; refine awE_Bltn (by assumption) rfl (by k_is) (by first | boot_by_name | rfl) (by decide) ?_ rfl; refine ⟨_, rfl, (by first | exact keepOk_type _ | exact keepOk_builtin _ | exact keepOk_K (by assumption) (by k_is)), ?_⟩; refine awArgs_plain (fun _ _ h => nomatch h) ?_; refine awL_cons (fun _ _ h => nomatch h) ?_; refine awE_Name (by first | rfl | assumption) ?_ rfl rfl; refine awL_nil ?_)
      refine call_len_l e5 (by rw [List.length_map]; omega) ?_
      rw [List.length_map]
      have la5 := x5.get la
      (refine awE_Call (by intro o n ap h; cases h) (fun _ => rfl) (by intro _ h; first | rfl | cases h) ?_; refine awE_Bltn (by assumption) rfl (by k_is) (by first | boot_by_name | rfl) (by decide) ?_ rfl; refine ⟨_, rfl, (by first | exact keepOk_type _ | exact keepOk_builtin _ | exact keepOk_K (by assumption) (by k_is)), ?_⟩; refine awArgs_plain (fun _ _ h => nomatch h) ?_; refine awL_cons (fun _ _ h => nomatch h) ?_; refine awE_Sub (by intro _ _ _ h; cases h) ?_; refine awE_Name (by first | rfl | assumption) ?_ rfl rfl; refine awE_Sub (by intro _ _ _ h; cases h) ?_; refine awE_Name (by first | rfl | assumption) ?_ rfl rfl; refine awE_Name (by first | rfl | assumption) ?_ rfl rfl)
      refine sub_list la5 (by omega) (by omega) hj' ?_
      refine sub_dict (x5.get rd1) hpj2 ?_
      (refine awL_nil ?_)
      refine call_len_l (x5.get rowj) (by rw [List.length_map]; omega) ?_
      rw [List.length_map]
      (refine cmp_eq_int ?_; refine ⟨_, rfl, ?_⟩)
      cases hc : (((minus (rowOf ar tj) (rowOf ar ti)).length : Int) == ((rowOf ar tj).length : Int))
      · have hne : ¬ ((minus (rowOf ar tj) (rowOf ar ti)).length : Int) = ((rowOf ar tj).length : Int) := by simpa using hc
        have hmt : Meet ar tj ti := Classical.not_not.mp fun z => hne (minus_full.mpr z)
        (refine ite_f (by first | rfl | assumption) ?_; refine awSs_nil ?_; apply_assumption; refine awSs_nil ?_)
        refine hn2 _ _ ⟨y1.trans x5, fun j' hj' u hu => ?_, y3, y4, y5⟩
        rcases List.mem_append.mp hj' with hj' | hj'
        · exact y2 j' hj' u hu
        · rw [List.mem_singleton] at hj'; subst hj'
          rw [htj] at hu; cases hu
          exact hmt.symm
      · have heq : ((minus (rowOf ar tj) (rowOf ar ti)).length : Int) = ((rowOf ar tj).length : Int) := by simpa using hc
        (refine ite_t (by first | rfl | assumption) ?_; refine awSs_consK fun Kz hz1 hz2 hz3 hz4 => ?_; refine awS_Return ?_; refine awE_Const rfl ?_; apply_assumption; apply_assumption)
        refine hret2 _ _ _ ?_
        (apply_assumption)
        refine hret _ _ _ ?_
        (apply_assumption)
        exact h _ false (x3.trans (y1.trans x5)) ⟨(fun z => nomatch z), fun z => absurd (z tj htjm ti htim) (minus_full.mp heq)⟩
def LM (ps ar : List (Str × Str)) (s : Str) : Prop := ∀ t ∈ afOf ps s, ∀ u ∈ afOf ps s, Meet ar t u
open Classical in
noncomputable def tornOf (ps ar : List (Str × Str)) (hs : List Str) : List Str := hs.filter fun s => decide (¬ LM ps ar s)
theorem mem_torn {ps ar : List (Str × Str)} {hs : List Str} {s : Str} : s ∈ tornOf ps ar hs ↔ s ∈ hs ∧ ¬ LM ps ar s := by unfold tornOf; rw [List.mem_filter]; simp
theorem law_agree : ∀ {c : Cx} {d : Nat} {p : Program} {loose : List Str} {mg mb : Str → Option Value} {H : AH} {P : V → AH → Prop} {X : Exc → AH → Prop} {ra stp ha : Addr} {ps ar : List (Str × Str)} {hs : List Str}
    (hprog : c.prog = PySem.Challenge.rw_om0166_01.row.prog) (G : Gd (KF c.w.params) p loose mg mb c.g) (HA : HeadAt H stp ps) (hcl : ∀ s ∈ lets, s.length ≤ 1000 ∧ Clean (KF c.w.params) 48 (Txt.lower s)) (hps : ∀ q ∈ ps, q.1.length ≤ 1000) (hps2 : ∀ q ∈ ps, q.2 ∈ lets) (hpl : ps.length ≤ 100)
    (h3 : H ra = some (.list (ar.map pairV))) (hal : ar.length ≤ 100) (har : ∀ q ∈ ar, q.2 ∈ lets) (hha : H ha = some (.list (hs.map V.str))) (hnd : hs.Nodup) (hhl : ∀ s ∈ hs, s ∈ lets) (haf : ∀ s ∈ lets, ∀ t, t ∈ afOf ps s ↔ (s, t) ∈ ar) (htop : ∀ dn s r, hs = dn ++ s :: r → ∀ t ∈ afOf ps s, t ∈ dn)
    (hled : ∀ s ∈ hs, ∃ n y, ledTo ps n s = some y ∧ Rch ar s y ∧ ∀ q ∈ ar, q.1 ≠ y)
    (hnew : ∀ s ∈ hs, ∀ es : List Str, es.Nodup → (∀ x, x ∈ es ↔ Rch ar s x ∧ ∀ q ∈ ar, q.1 ≠ x) → (es.length = 1 ↔ ∀ o ∈ rowOf ar s, o ∉ tornOf ps ar hs))
    (h : ∀ H', Ext H H' → P (.bool true) H'), callP c (d + 5) (.ref 368) [.ref ra, .ref stp, .ref ha] [] H P X := by
  w_on
  k_fill
  intro c d p loose mg mb H P X ra stp ha ps ar hs hprog G HA hcl hps hps2 hpl h3 hal har hha hnd hhl haf htop hled hnew h
  refine' enter (d := d + 4) (binds := [(Str.ofString "arrows", .ref ra), (Str.ofString "steps", .ref stp), (Str.ofString "handed", .ref ha)]) G ?ho ?hcd ?hb ?hk ?hn ?hd ?_ ?c1 ?c2 ?c3
  ((case ho => k_is); (case hcd => k_is); (case hk => rfl); (case hn => decide +kernel); (case hd => exact of_decide_eq_true rfl); (case c1 => rfl); (case c2 => rfl); (case c3 => rfl); try (case hb => first | exact bnd0 rfl | exact bnd1 (fun _ => rfl) | exact bnd2 (fun _ _ => rfl) | exact bnd3 (fun _ _ _ => rfl)))
  intro A L
  (refine awSs_AssignK (by first | exact .inl rfl | exact .inr ⟨rfl, rfl⟩) rfl fun Kz hz1 => ?_; refine awE_Call (by intro o n ap h; cases h) (fun _ => rfl) (by intro _ h; first | rfl | cases h) ?_; refine awE_Glob (by assumption) rfl (by k_is) ?_ rfl; refine ⟨_, rfl, (by first | exact keepOk_type _ | exact keepOk_builtin _ | exact keepOk_K (by assumption) (by k_is)), ?_⟩; refine awArgs_plain (fun _ _ h => nomatch h) ?_; refine awL_cons (fun _ _ h => nomatch h) ?_; refine awE_Name (by first | rfl | assumption) ?_ rfl rfl; refine awL_cons (fun _ _ h => nomatch h) ?_; refine awE_Name (by first | rfl | assumption) ?_ rfl rfl; refine awL_nil ?_)
  refine awCall_of (law_reach (d := d) hprog G HA hcl hps hpl hha hnd hhl haf htop fun H1 rd sas x1 hsas R1 => ?_)
  have hsl : hs.length ≤ 6 := nodup_sub_len hnd (m := lets) hhl
  have hin : ∀ s ∈ hs, ∀ t ∈ afOf ps s, t ∈ lets ∧ t ∈ sas.map (·.1) := fun s hs' t ht => by
    obtain ⟨l, r, e⟩ := List.append_of_mem hs'
    have := htop l s r e t ht
    have hm : t ∈ hs := by rw [e]; exact List.mem_append_left _ this
    exact ⟨hhl t hm, by rw [hsas]; exact hm⟩
  (apply_assumption; refine awSs_AssignK (by first | exact .inl rfl | exact .inr ⟨rfl, rfl⟩) rfl fun Kz hz1 => ?_; refine awE_ListComp rfl (compOk_of rfl rfl (by decide +kernel) rfl rfl) (fun _ => rfl) ?_; refine awE_Name (by first | rfl | assumption) ?_ rfl rfl)
  refine ⟨.list ha, hs.map V.str, by simp [iterK, x1.get hha], fun C => ?_⟩
  refine compItems_J V.str (fun s : Str => open Classical in if decide (¬ LM ps ar s) then some (V.str s) else none) (fun m2 H2 => Ext H1 H2 ∧ m2 (Str.ofString "steps") = some (.ref stp) ∧ m2 (Str.ofString "reach") = some (.ref rd)) (fun m2 H2 hj => by simp [IK.items, hj.1.get (x1.get hha)]) (by simp; omega) ⟨Ext.refl _, rfl, rfl⟩ ?_ ?_
  · rintro s hs' m2 H2 acc K2 hacc ⟨j1, j2, j3⟩ hk2
    refine compTurn1 rfl ?_
    (refine awB_Not ?_; refine awB_value (fun _ => rfl) ?_; refine awE_Call (by intro o n ap h; cases h) (fun _ => rfl) (by intro _ h; first | rfl | cases h) ?_; refine awE_Glob (by assumption) rfl (by k_is) ?_ rfl; refine ⟨_, rfl, (by first | exact keepOk_type _ | exact keepOk_builtin _ | exact keepOk_K (by assumption) (by k_is)), ?_⟩; refine awArgs_plain (fun _ _ h => nomatch h) ?_; refine awL_cons (fun _ _ h => nomatch h) ?_; refine awE_Name (by first | rfl | assumption) ?_ rfl rfl; refine awL_cons (fun _ _ h => nomatch h) ?_; refine awE_Name (by first | rfl | assumption) ?_ rfl rfl; refine awL_cons (fun _ _ h => nomatch h) ?_; refine awE_Name (by first | rfl | assumption) ?_ rfl rfl; refine awL_nil ?_)
    refine awCall_of (law_next_meet (d := d) hprog G (HA.more (x1.trans j1)) (hcl s (hhl s hs')) hps hpl (R1.more j1) (hin s hs') fun H3 b x3 hb => ?_)
    (refine ⟨_, rfl, ?_⟩)
    cases b
    · have hno : ¬ LM ps ar s := fun z => nomatch hb.mpr z
      have hd1 : (open Classical in decide (¬ LM ps ar s)) = true := by simpa using hno
      rw [hd1] at hk2
      (refine ite_t (by first | rfl | assumption) ?_)
      refine ⟨hacc, ?_⟩
      (refine awE_Name (by first | rfl | assumption) ?_ rfl rfl)
      exact hk2 (set m2 (Str.ofString "one") (.str s)) _ ⟨j1.trans x3, j2, j3⟩
    · have hyes : LM ps ar s := hb.mp rfl
      have hd1 : (open Classical in decide (¬ LM ps ar s)) = false := by simpa using hyes
      rw [hd1] at hk2
      (refine ite_f (by first | rfl | assumption) ?_)
      simpa using hk2 (set m2 (Str.ofString "one") (.str s)) _ ⟨j1.trans x3, j2, j3⟩
  · rintro m2 H2 ⟨j1, j2, j3⟩
    rw [List.nil_append, fm_filter (p := fun s : Str => open Classical in decide (¬ LM ps ar s)) (g := V.str)]
    show ∀ a, _
    intro to hto
    have ht : hs.filter (fun s : Str => open Classical in decide (¬ LM ps ar s)) = tornOf ps ar hs := rfl
    rw [ht]
    have x6 : Ext H2 (upd H2 to (.list ((tornOf ps ar hs).map V.str))) := Ext.fresh hto
    have e6 := upd_self H2 to (.list ((tornOf ps ar hs).map V.str))
    generalize upd H2 to (.list ((tornOf ps ar hs).map V.str)) = H6 at x6 e6 ⊢
    have X6 := x1.trans (j1.trans x6)
    (apply_assumption; refine awSs_consK fun Kz hz1 hz2 hz3 hz4 => ?_; refine awS_For rfl (fun _ => rfl) (by first | (show Storable _ _; exact .inl rfl) | (show Storable _ _; exact .inr ⟨rfl, rfl⟩) | exact (Or.inl rfl : Storable _ _) | exact (Or.inr ⟨rfl, rfl⟩ : Storable _ _) | exact ⟨(Or.inl rfl : Storable _ _), (Or.inl rfl : Storable _ _)⟩) ?_; refine awE_Name (by first | rfl | assumption) ?_ rfl rfl)
    refine ⟨.list ha, hs.map V.str, by simp [iterK, X6.get hha], ?_⟩
    refine forP_J V.str (fun dn rest m' H' => Ext H6 H' ∧ m' (Str.ofString "arrows") = some (.ref ra) ∧ m' (Str.ofString "steps") = some (.ref stp) ∧ m' (Str.ofString "reach") = some (.ref rd) ∧ m' (Str.ofString "torn") = some (.ref to)) ?_ ?_ ⟨Ext.refl _, rfl, rfl, rfl, rfl⟩
    · rintro m' H' ⟨w1, w2, w3, w4, w5⟩
      refine ⟨by simp [IK.items, w1.get (X6.get hha)], ?_⟩
      (apply_assumption; refine awSs_consK fun Kz hz1 hz2 hz3 hz4 => ?_; refine awS_Return ?_; refine awE_Const rfl ?_; apply_assumption)
      exact h H' (X6.trans w1)
    · rintro dn s r m' H' hsd ⟨w1, w2, w3, w4, w5⟩
      refine ⟨by simp [IK.items, w1.get (X6.get hha)], fun K hn _ _ hret => ⟨_, rfl, ?_⟩⟩
      have hsm : s ∈ hs := by rw [hsd]; simp
      obtain ⟨n, y, hl1, hl2, hl3⟩ := hled s hsm
      (refine awSs_AssignK (by first | exact .inl rfl | exact .inr ⟨rfl, rfl⟩) rfl fun Kz hz1 => ?_; refine awE_Call (by intro o n ap h; cases h) (fun _ => rfl) (by intro _ h; first | rfl | cases h) ?_; refine awE_Glob (by assumption) rfl (by k_is) ?_ rfl; refine ⟨_, rfl, (by first | exact keepOk_type _ | exact keepOk_builtin _ | exact keepOk_K (by assumption) (by k_is)), ?_⟩; refine awArgs_plain (fun _ _ h => nomatch h) ?_; refine awL_cons (fun _ _ h => nomatch h) ?_; refine awE_Name (by first | rfl | assumption) ?_ rfl rfl; refine awL_cons (fun _ _ h => nomatch h) ?_; refine awE_Name (by first | rfl | assumption) ?_ rfl rfl; refine awL_nil ?_)
      refine awCall_of (law_ends (d := d + 2) hprog G (w1.get (X6.get h3)) hal (hhl s hsm) har fun H7 ea es x7 e7 hes1 hes2 => ?_)
      (apply_assumption; refine awSs_consK fun Kz hz1 hz2 hz3 hz4 => ?_; refine awS_If ?_; refine awB_Compare rfl ?_; refine awE_Call (by intro o n ap h; cases h) (fun _ => rfl) (by intro _ h; first | rfl | cases h) ?_; refine awE_Glob (by assumption) rfl (by k_is) ?_ rfl; refine ⟨_, rfl, (by first | exact keepOk_type _ | exact keepOk_builtin _ | exact keepOk_K (by assumption) (by k_is)), ?_⟩; refine awArgs_plain (fun _ _ h => nomatch h) ?_; refine awL_cons (fun _ _ h => nomatch h) ?_; refine awE_Name (by first | rfl | assumption) ?_ rfl rfl; refine awL_cons (fun _ _ h => nomatch h) ?_; refine awE_Name (by first | rfl | assumption) ?_ rfl rfl; refine awL_nil ?_)
      refine awCall_of (law_led (d := d + 1) (ok := fun z => z ∈ lets) hprog G (HA.more (X6.trans (w1.trans x7))) hps (hhl s hsm) hps2 hcl hl1 ?_)
      have hye : es.contains y = true := by simpa using (hes2 y).mpr ⟨hl2, hl3⟩
      (refine awE_Name (by first | rfl | assumption) ?_ rfl rfl; refine notin_strs (by assumption) ?_; refine ⟨_, rfl, ?_⟩)
      rw [hye]
      have hesl : es.length ≤ 1000 := by
        have : es.length ≤ lets.length := nodup_sub_len hes1 fun z hz => by
          have hr := ((hes2 z).mp hz).1
          cases hr with
          | refl => exact hhl s hsm
          | step _ hq => exact har _ hq
        exact Nat.le_trans this (by decide)
      (refine ite_f (by first | rfl | assumption) ?_; refine awSs_nil ?_; apply_assumption; refine awSs_consK fun Kz hz1 hz2 hz3 hz4 => ?_; refine awS_If ?_; refine awB_Compare rfl ?_; refine awE_Compare rfl ?_; refine awE_Call (by intro o n ap h; cases h) (fun _ => rfl) (by intro _ h; first | rfl | cases h) ?_; refine awE_Bltn (by assumption) rfl (by k_is) (by first | boot_by_name | rfl) (by decide) ?_ rfl; refine ⟨_, rfl, (by first | exact keepOk_type _ | exact keepOk_builtin _ | exact keepOk_K (by assumption) (by k_is)), ?_⟩; refine awArgs_plain (fun _ _ h => nomatch h) ?_; refine awL_cons (fun _ _ h => nomatch h) ?_; refine awE_Name (by first | rfl | assumption) ?_ rfl rfl; refine awL_nil ?_)
      refine call_len_l e7 (by rw [List.length_map]; omega) ?_
      rw [List.length_map]
      obtain ⟨⟨ep, rd1⟩, rl1⟩ := R1.more (j1.trans (x6.trans (w1.trans x7)))
      obtain ⟨p0, hp0, hp1, hp2⟩ := sas_lookup (sas := sas) (t := s) (by rw [hsas]; exact hsm)
      have hrow := rl1 p0 hp0
      rw [hp1] at hrow
      have hto7 := x7.get (w1.get e6)
      have hrl := row_len ar s
      (refine awE_Const rfl ?_; refine cmp_eq_int ?_; refine awE_Compare rfl ?_; refine awE_ListComp rfl (compOk_of rfl rfl (by decide +kernel) rfl rfl) (fun _ => rfl) ?_; refine awE_Sub (by intro _ _ _ h; cases h) ?_; refine awE_Name (by first | rfl | assumption) ?_ rfl rfl; refine awE_Name (by first | rfl | assumption) ?_ rfl rfl)
      refine sub_dict rd1 hp2 ?_
      refine ⟨.list p0.2, (rowOf ar s).map V.str, by simp [iterK, hrow], fun C2 => ?_⟩
      refine compItems_J V.str (fun o : Str => if (tornOf ps ar hs).contains o then some (V.str o) else none) (fun m3 H3 => H3 = H7 ∧ m3 (Str.ofString "torn") = some (.ref to)) (fun m3 H3 hj => by simp [IK.items, hj.1, hrow]) (by simp; omega) ⟨rfl, w5⟩ ?_ ?_
      · rintro o ho m3 H3 acc3 K3 hacc3 ⟨l1, l2⟩ hk3
        subst l1
        refine compTurn1 rfl ?_
        (refine awB_Compare rfl ?_; refine awE_Name (by first | rfl | assumption) ?_ rfl rfl; refine awE_Name (by first | rfl | assumption) ?_ rfl rfl; refine in_strs (by assumption) ?_; refine ⟨_, rfl, ?_⟩)
        cases hc : (tornOf ps ar hs).contains o
        · rw [hc] at hk3
          (refine ite_f (by first | rfl | assumption) ?_)
          simpa using hk3 (set m3 (Str.ofString "one") (.str o)) _ ⟨rfl, l2⟩
        · rw [hc] at hk3
          (refine ite_t (by first | rfl | assumption) ?_)
          refine ⟨hacc3, ?_⟩
          (refine awE_Name (by first | rfl | assumption) ?_ rfl rfl)
          exact hk3 (set m3 (Str.ofString "one") (.str o)) _ ⟨rfl, l2⟩
      · rintro m3 H3 ⟨l1, l2⟩
        obtain rfl := l1.symm
        intro b hb
        rw [List.nil_append]
        have x8 : Ext H7 (upd H7 b (.list ((rowOf ar s).filterMap fun o : Str => if (tornOf ps ar hs).contains o then some (V.str o) else none))) := Ext.fresh hb
        have e8 := upd_self H7 b (.list ((rowOf ar s).filterMap fun o : Str => if (tornOf ps ar hs).contains o then some (V.str o) else none))
        generalize upd H7 b (.list ((rowOf ar s).filterMap fun o : Str => if (tornOf ps ar hs).contains o then some (V.str o) else none)) = H8 at x8 e8 ⊢
        (refine awE_ListX ?_; refine awL_nil ?_)
        refine ⟨Nat.zero_le _, fun em H9 x9 n9 e9 => ?_⟩
        refine cmp_eq_empty (x9.get e8) e9 ?_
        rw [fm_isEmpty (p := fun o : Str => (tornOf ps ar hs).contains o) (g := V.str)]
        refine cmp_ne_bool ?_
        have hbb : ((es.length : Int) == 1) = !((rowOf ar s).any fun o => (tornOf ps ar hs).contains o) := by
          rw [Bool.eq_iff_iff, Bool.not_eq_true', List.any_eq_false]
          rw [beq_iff_eq]
          have := hnew s hsm es hes1 hes2
          constructor
          · intro z o ho hc
            exact this.mp (by omega) o ho (by simpa using hc)
          · intro z
            have := this.mpr fun o ho hc => z o ho (by simpa using hc)
            omega
        rw [hbb, bne_self_eq_false]
        (refine ⟨_, rfl, ?_⟩; refine ite_f (by first | rfl | assumption) ?_; refine awSs_nil ?_; apply_assumption; refine awSs_nil ?_)
        exact hn _ _ ⟨w1.trans (x7.trans (x8.trans x9)), w2, w3, w4, w5⟩
def InL (ar : List (Str × Str)) : Prop := ∀ q ∈ ar, q.1 ∈ lets ∧ q.2 ∈ lets
def afA (ar : List (Str × Str)) (s : Str) : List Str := (ar.filter fun q => q.1 == s).map (·.2)
theorem lu_letter : ∀ s ∈ lets, Txt.lower (Txt.upper s) = s ∧ Txt.lower s = s := by decide +kernel
section
variable {ar : List (Str × Str)}
theorem mem_afA {s t : Str} : t ∈ afA ar s ↔ (s, t) ∈ ar := by
  unfold afA
  simp only [List.mem_map, List.mem_filter, beq_iff_eq]
  constructor
  · rintro ⟨⟨a, b⟩, ⟨h, rfl⟩, rfl⟩; exact h
  · exact fun h => ⟨(s, t), ⟨h, rfl⟩, rfl⟩
theorem heads_filter (h : InL ar) {s : Str} (hs : s ∈ lets) : (headsOf ar).filter (fun q => Txt.lower q.1 == Txt.lower s) = headsOf (ar.filter fun q => q.1 == s) := by
  unfold headsOf
  rw [List.filter_map]
  congr 1
  refine List.filter_congr fun q hq => ?_
  show (Txt.lower (Txt.upper q.1) == Txt.lower s) = _
  rw [(lu_letter q.1 (h q hq).1).1, (lu_letter s hs).2]
theorem afOf_eq (h : InL ar) {s : Str} (hs : s ∈ lets) : afOf (headsOf ar) s = afA ar s := by
  unfold afOf
  rw [heads_filter h hs]
  unfold headsOf afA
  rw [List.map_map]; rfl
theorem firstOf_eq (h : InL ar) {s : Str} (hs : s ∈ lets) : firstOf (headsOf ar) s = (afA ar s).head? := by
  unfold firstOf
  rw [← List.head?_filter, heads_filter h hs]
  unfold headsOf afA
  cases ar.filter (fun q => q.1 == s) <;> rfl
theorem Gn_due (h : InL ar) : ∀ r, Gn (afOf (headsOf ar)) lets r = dueG ar r
  | 0 => rfl
  | r + 1 => by
    show (Gn (afOf (headsOf ar)) lets r).filter _ = longer ar (dueG ar r)
    rw [Gn_due h r]
    unfold longer
    refine List.filter_congr fun s hs => ?_
    have hsl : s ∈ lets := by rw [← Gn_due h r] at hs; exact Gn_ls hs
    rw [afOf_eq h hsl]
    unfold afA
    rw [List.any_map, List.any_filter]
    rfl
end
section
variable {af : Str → List Str} {ls : List Str}
theorem Gn_mono {i j : Nat} (h : i ≤ j) {s : Str} (hs : s ∈ Gn af ls j) : s ∈ Gn af ls i := by
  induction h with
  | refl => exact hs
  | step _ ih => exact ih (Gn_down hs)
theorem last_of {α : Type} {R : α → α → Prop} (ht : ∀ a b c, R a b → R b c → R a c) : ∀ (l : List α), l ≠ [] → (∀ a ∈ l, ¬ R a a) → ∃ m ∈ l, ∀ y ∈ l, ¬ R m y
  | [a], _, hi => ⟨a, by simp, fun y hy => by rw [List.mem_singleton.mp hy]; exact hi a (by simp)⟩
  | a :: b :: l, _, hi => by
    obtain ⟨m, hm, hmax⟩ := last_of ht (b :: l) (by simp) fun x hx => hi x (List.mem_cons_of_mem _ hx)
    by_cases h : R m a
    · refine ⟨a, by simp, fun y hy hay => ?_⟩
      rcases List.mem_cons.mp hy with rfl | hy
      · exact hi y (by simp) hay
      · exact hmax y hy (ht _ _ _ h hay)
    · refine ⟨m, List.mem_cons_of_mem _ hm, fun y hy hmy => ?_⟩
      rcases List.mem_cons.mp hy with rfl | hy
      · exact h hmy
      · exact hmax y hy hmy
inductive Plus {α : Type} (r : α → α → Prop) : α → α → Prop
  | one {a b : α} : r a b → Plus r a b
  | more {a b c : α} : Plus r a b → r b c → Plus r a c
theorem Plus.trans {α : Type} {r : α → α → Prop} {a b c : α} (x : Plus r a b) (y : Plus r b c) : Plus r a c := by
  induction y with
  | one h => exact .more x h
  | more _ h ih => exact .more ih h
theorem acc_irrefl {α : Type} {r : α → α → Prop} {x : α} (h : Acc r x) : ¬ Plus r x x :=
  acc_no_ring (C := fun z => Plus r z z) (fun z hz => by
    cases hz with
    | one h => exact ⟨z, .one h, h⟩
    | more hp h => exact ⟨_, Plus.trans (.one h) hp, h⟩) h
theorem ring_iff (hls : ls.length = 6) (haf : ∀ s ∈ ls, ∀ t ∈ af s, t ∈ ls) : (∃ x ∈ ls, ¬ Acc (fun y x => y ∈ ls ∧ x ∈ af y) x) ↔ Gn af ls 6 ≠ [] := by
  constructor
  · rintro ⟨x, hx, hna⟩
    have key : ∀ n, ∃ s ∈ Gn af ls n, ¬ Acc (fun y x => y ∈ ls ∧ x ∈ af y) s := by
      intro n
      induction n with
      | zero => exact ⟨x, hx, hna⟩
      | succ n ih =>
        obtain ⟨s, hs, hn⟩ := ih
        have : ∃ y, (y ∈ ls ∧ s ∈ af y) ∧ ¬ Acc (fun y x => y ∈ ls ∧ x ∈ af y) y := Classical.byContradiction fun c =>
          hn (Acc.intro _ fun y hy => Classical.byContradiction fun c2 => c ⟨y, hy, c2⟩)
        obtain ⟨y, ⟨h1, h2⟩, h3⟩ := this
        exact ⟨y, Gn_up h1 h2 hs, h3⟩
    obtain ⟨s, hs, _⟩ := key 6
    exact List.ne_nil_of_mem hs
  · intro hne
    refine Classical.byContradiction fun hall => ?_
    have hacc : ∀ x ∈ ls, Acc (fun y x => y ∈ ls ∧ x ∈ af y) x := fun x hx => Classical.byContradiction fun c => hall ⟨x, hx, c⟩
    have hst : ∃ r, r < 6 ∧ (Gn af ls (r + 1)).length = (Gn af ls r).length := Classical.byContradiction fun c => by
      have hlt : ∀ r, r < 6 → (Gn af ls (r + 1)).length < (Gn af ls r).length := fun r hr => Nat.lt_of_le_of_ne (List.length_filter_le ..) fun e => c ⟨r, hr, e⟩
      have h0 : (Gn af ls 0).length = 6 := hls
      have h1 := hlt 0 (by omega)
      have h2 := hlt 1 (by omega)
      have h3 := hlt 2 (by omega)
      have h4 := hlt 3 (by omega)
      have h5 := hlt 4 (by omega)
      have h6 := hlt 5 (by omega)
      have : (Gn af ls 6).length = 0 := by
        have e1 : (Gn af ls (0 + 1)).length = (Gn af ls 1).length := rfl
        have e2 : (Gn af ls (1 + 1)).length = (Gn af ls 2).length := rfl
        have e3 : (Gn af ls (2 + 1)).length = (Gn af ls 3).length := rfl
        have e4 : (Gn af ls (3 + 1)).length = (Gn af ls 4).length := rfl
        have e5 : (Gn af ls (4 + 1)).length = (Gn af ls 5).length := rfl
        have e6 : (Gn af ls (5 + 1)).length = (Gn af ls 6).length := rfl
        omega
      exact hne (List.length_eq_zero_iff.mp this)
    obtain ⟨r, hr, hrl⟩ := hst
    have hall2 : ∀ s ∈ Gn af ls r, s ∈ Gn af ls (r + 1) := fun s hs => List.mem_filter.mpr ⟨hs, List.length_filter_eq_length_iff.mp hrl s hs⟩
    have hner : Gn af ls r ≠ [] := by
      obtain ⟨s, hs⟩ := List.exists_mem_of_ne_nil _ hne
      exact List.ne_nil_of_mem (Gn_mono (Nat.le_of_lt hr) hs)
    obtain ⟨m, hm, hmax⟩ := last_of (R := Plus fun y x => y ∈ ls ∧ x ∈ af y) (fun a b c => Plus.trans) (Gn af ls r) hner fun a ha => acc_irrefl (hacc a (Gn_ls ha))
    obtain ⟨_, t, ht, hg⟩ := Gn_succ.mp (hall2 m hm)
    exact hmax t hg (.one ⟨Gn_ls hm, ht⟩)
end
theorem ltS_trans {x y z : Str} (a : LtS x y) (b : LtS y z) : LtS x z := List.lt_trans a b
theorem sorted_ext : ∀ {l m : List Str}, l.Pairwise LtS → m.Pairwise LtS → (∀ x, x ∈ l ↔ x ∈ m) → l = m
  | [], [], _, _, _ => rfl
  | [], b :: m, _, _, h => absurd ((h b).mpr (by simp)) (by simp)
  | a :: l, [], _, _, h => absurd ((h a).mp (by simp)) (by simp)
  | a :: l, b :: m, hl, hm, h => by
    have h1 := List.pairwise_cons.mp hl
    have h2 := List.pairwise_cons.mp hm
    have hab : a = b := by
      rcases List.mem_cons.mp ((h a).mp (by simp)) with e | e
      · exact e
      · rcases List.mem_cons.mp ((h b).mpr (by simp)) with e' | e'
        · exact e'.symm
        · exact absurd (h1.1 b e') (ltS_asymm (h2.1 a e))
    subst hab
    congr 1
    refine sorted_ext h1.2 h2.2 fun x => ?_
    constructor
    · intro hx
      rcases List.mem_cons.mp ((h x).mp (by simp [hx])) with e | e
      · subst e; exact absurd (h1.1 x hx) (ltS_irrefl x)
      · exact e
    · intro hx
      rcases List.mem_cons.mp ((h x).mpr (by simp [hx])) with e | e
      · subst e; exact absurd (h2.1 x hx) (ltS_irrefl x)
      · exact e
theorem risingS_pw : ∀ (p : Str) (l : List Str), risingS p l = true → (p :: l).Nodup → (p :: l).Pairwise LtS
  | p, [], _, _ => by simp
  | p, x :: r, h, hn => by
    have h' : (!ltCps x.cps.toList p.cps.toList && risingS x r) = true := h
    rw [Bool.and_eq_true] at h'
    have hnx := List.nodup_cons.mp hn
    have ih := risingS_pw x r h'.2 hnx.2
    have hpx : LtS p x := by
      have h1 : ¬ LtS x p := by
        have := h'.1
        rw [ltCps_eq] at this
        simpa using this
      exact Classical.byContradiction fun c => hnx.1 (by rw [ltS_eq c h1]; simp)
    refine List.pairwise_cons.mpr ⟨fun y hy => ?_, ih⟩
    rcases List.mem_cons.mp hy with rfl | hy
    · exact hpx
    · exact ltS_trans hpx ((List.pairwise_cons.mp ih).1 y hy)
theorem sortedS_pw {l : List Str} (h : sortedS l = true) (hn : l.Nodup) : l.Pairwise LtS := by
  cases l with
  | nil => exact .nil
  | cons p r => exact risingS_pw p r h hn
theorem dueG_sub (ar : List (Str × Str)) : ∀ r, List.Sublist (dueG ar r) lets
  | 0 => List.Sublist.refl _
  | r + 1 => (List.filter_sublist ..).trans (dueG_sub ar r)
theorem stopped_sorted (ar : List (Str × Str)) (r : Nat) : (stopped ar r).Pairwise LtS := (lets_sorted.sublist (dueG_sub ar r)).filter _
theorem mem_stopped {ar : List (Str × Str)} {r : Nat} {s : Str} : s ∈ stopped ar r ↔ s ∈ dueG ar r ∧ s ∉ dueG ar (r + 1) := by
  unfold stopped
  rw [List.mem_filter]
  simp
theorem fm_congr {α β : Type} {f g : α → Option β} : ∀ {l : List α}, (∀ x ∈ l, f x = g x) → l.filterMap f = l.filterMap g
  | [], _ => rfl
  | x :: l, h => by rw [List.filterMap_cons, List.filterMap_cons, h x (by simp), fm_congr (l := l) fun y hy => h y (by simp [hy])]
section
variable {ar : List (Str × Str)} {rs : List (List Str)}
structure RdOf (ar : List (Str × Str)) (rs : List (List Str)) : Prop where
  rd : ∀ i g, rs[i]? = some g → g ≠ [] ∧ g.Nodup ∧ ∀ s, s ∈ g ↔ s ∈ dueG ar i ∧ s ∉ dueG ar (i + 1)
  stop : ∀ s ∈ dueG ar rs.length, s ∈ dueG ar (rs.length + 1)
theorem RdOf.of (h : InL ar) (K : KRounds (afOf (headsOf ar)) lets rs) : RdOf ar rs :=
  ⟨fun i g hi => by have := K.rd i g hi; rw [Gn_due h, Gn_due h] at this; exact this, by have := K.stop; rw [Gn_due h, Gn_due h] at this; exact this⟩
theorem due_down {r : Nat} {s : Str} (h : s ∈ dueG ar (r + 1)) : s ∈ dueG ar r := (List.mem_filter.mp h).1
theorem due_up {r : Nat} {s t : Str} (hs : s ∈ lets) (ht : (s, t) ∈ ar) (h : t ∈ dueG ar r) : s ∈ dueG ar (r + 1) := by
  induction r with
  | zero => exact List.mem_filter.mpr ⟨hs, List.any_eq_true.mpr ⟨(s, t), ht, by simpa using h⟩⟩
  | succ r ih => exact List.mem_filter.mpr ⟨ih (due_down h), List.any_eq_true.mpr ⟨(s, t), ht, by simpa using h⟩⟩
theorem due_next {r : Nat} {s : Str} (h : s ∈ dueG ar (r + 1)) : ∃ t, (s, t) ∈ ar ∧ t ∈ dueG ar r := by
  obtain ⟨q, hq, e⟩ := List.any_eq_true.mp (List.mem_filter.mp h).2
  rw [Bool.and_eq_true, beq_iff_eq, List.contains_iff_mem] at e
  exact ⟨q.2, by rw [← e.1]; exact hq, e.2⟩
theorem due_mono {i j : Nat} (h : i ≤ j) {s : Str} (hs : s ∈ dueG ar j) : s ∈ dueG ar i := by
  induction h with
  | refl => exact hs
  | step _ ih => exact ih (due_down hs)
theorem due_ls {r : Nat} {s : Str} (h : s ∈ dueG ar r) : s ∈ lets := (dueG_sub ar r).subset h
theorem RdOf.stay (K : RdOf ar rs) : ∀ k s, s ∈ dueG ar rs.length → s ∈ dueG ar (rs.length + k)
  | 0, s, hs => hs
  | k + 1, s, hs => by
    obtain ⟨t, ht, hg⟩ := due_next (K.stop s hs)
    exact due_up (due_ls hs) ht (K.stay k t hg)
theorem RdOf.len (K : RdOf ar rs) : ∀ n, n ≤ rs.length → (dueG ar n).length + n ≤ 6
  | 0, _ => Nat.le_refl _
  | n + 1, h => by
    have ih := K.len n (by omega)
    have hn : rs[n]? = some rs[n] := List.getElem?_eq_getElem (by omega)
    obtain ⟨h1, _, h3⟩ := K.rd n _ hn
    obtain ⟨s, hs⟩ := List.exists_mem_of_ne_nil _ h1
    obtain ⟨a, b⟩ := (h3 s).mp hs
    have : (dueG ar (n + 1)).length < (dueG ar n).length := Nat.lt_of_le_of_ne (List.length_filter_le ..) fun e => b (List.mem_filter.mpr ⟨a, List.length_filter_eq_length_iff.mp e s a⟩)
    omega
theorem RdOf.due (K : RdOf ar rs) : dueR ar 6 = (List.range rs.length).map (stopped ar) := by
  have hl := K.len rs.length (Nat.le_refl _)
  have h1 : ∀ i, i < rs.length → stopped ar i ≠ [] := fun i hi => by
    obtain ⟨a, _, c⟩ := K.rd i _ (List.getElem?_eq_getElem hi)
    obtain ⟨s, hs⟩ := List.exists_mem_of_ne_nil _ a
    exact List.ne_nil_of_mem (mem_stopped.mpr ((c s).mp hs))
  have h2 : ∀ i, rs.length ≤ i → stopped ar i = [] := fun i hi => by
    refine List.eq_nil_iff_forall_not_mem.mpr fun s hs => ?_
    obtain ⟨a, b⟩ := mem_stopped.mp hs
    have := K.stay (i + 1 - rs.length) s (due_mono hi a)
    rw [show rs.length + (i + 1 - rs.length) = i + 1 by omega] at this
    exact b this
  unfold dueR
  rw [show 6 = rs.length + (6 - rs.length) by omega, List.range_add, List.filterMap_append]
  have e1 : (List.range rs.length).filterMap (fun r => if stopped ar r = [] then none else some (stopped ar r)) = (List.range rs.length).map (stopped ar) := by
    rw [← List.filterMap_eq_map]
    refine fm_congr fun i hi => ?_
    rw [if_neg (h1 i (List.mem_range.mp hi))]; rfl
  have e2 : ((List.range (6 - rs.length)).map (rs.length + ·)).filterMap (fun r => if stopped ar r = [] then none else some (stopped ar r)) = [] := by
    rw [List.filterMap_eq_nil_iff]
    intro i hi
    obtain ⟨k, _, rfl⟩ := List.mem_map.mp hi
    rw [if_pos (h2 _ (by omega))]
  rw [e1, e2, List.append_nil]
theorem RdOf.sorted (K : RdOf ar rs) {ss : List (List Str)} (hlen : ss.length = rs.length) (h : ∀ (i : Nat) (g g' : List Str), rs[i]? = some g → ss[i]? = some g' → g'.Perm g ∧ sortedS g' = true) : ss = dueR ar 6 := by
  rw [K.due]
  refine List.ext_getElem? fun i => ?_
  by_cases hi : i < rs.length
  · have hr := List.getElem?_eq_getElem hi
    have hs := List.getElem?_eq_getElem (show i < ss.length by omega)
    obtain ⟨p1, p2⟩ := h i _ _ hr hs
    obtain ⟨_, k2, k3⟩ := K.rd i _ hr
    rw [hs, List.getElem?_map, List.getElem?_range hi, Option.map_some]
    congr 1
    refine sorted_ext (sortedS_pw p2 (p1.nodup_iff.mpr k2)) (stopped_sorted ar i) fun x => ?_
    rw [p1.mem_iff, k3, mem_stopped]
  · rw [List.getElem?_eq_none (by omega), List.getElem?_eq_none (by simp; omega)]
theorem RdOf.mem (K : RdOf ar rs) {s : Str} : s ∈ rs.flatten ↔ s ∈ lets ∧ s ∉ dueG ar rs.length := by
  rw [List.mem_flatten]
  constructor
  · rintro ⟨g, hg, hs⟩
    obtain ⟨i, hi, e⟩ := List.mem_iff_getElem.mp hg
    obtain ⟨_, _, k3⟩ := K.rd i g (by rw [List.getElem?_eq_getElem hi, e])
    obtain ⟨a, b⟩ := (k3 s).mp hs
    exact ⟨due_ls a, fun c => b (due_mono hi c)⟩
  · rintro ⟨a, b⟩
    have : ∃ i, i < rs.length ∧ s ∈ dueG ar i ∧ s ∉ dueG ar (i + 1) := by
      refine Classical.byContradiction fun c => b ?_
      have key : ∀ n, n ≤ rs.length → s ∈ dueG ar n := by
        intro n
        induction n with
        | zero => exact fun _ => a
        | succ n ih => exact fun hn => Classical.byContradiction fun d => c ⟨n, hn, ih (by omega), d⟩
      exact key _ (Nat.le_refl _)
    obtain ⟨i, hi, h1, h2⟩ := this
    have hr := List.getElem?_eq_getElem hi
    exact ⟨rs[i], List.getElem_mem hi, ((K.rd i _ hr).2.2 s).mpr ⟨h1, h2⟩⟩
theorem RdOf.nodup (K : RdOf ar rs) : rs.flatten.Nodup := by
  rw [List.nodup_iff_pairwise_ne, List.pairwise_flatten]
  refine ⟨fun g hg => ?_, ?_⟩
  · obtain ⟨i, hi, e⟩ := List.mem_iff_getElem.mp hg
    exact (K.rd i g (by rw [List.getElem?_eq_getElem hi, e])).2.1
  · rw [List.pairwise_iff_getElem]
    intro i j hi hj hij x hx y hy hxy
    subst hxy
    have h1 := ((K.rd i _ (List.getElem?_eq_getElem hi)).2.2 x).mp hx
    have h2 := ((K.rd j _ (List.getElem?_eq_getElem hj)).2.2 x).mp hy
    exact h1.2 (due_mono hij h2.1)
theorem before {l1 l2 dn r : List Str} {s : Str} (h : l1 ++ l2 = dn ++ s :: r) (hs : s ∉ l1) : ∀ t ∈ l1, t ∈ dn := by
  rcases List.append_eq_append_iff.mp h with ⟨a, h1, h2⟩ | ⟨a, h1, h2⟩
  · intro t ht; rw [h1]; exact List.mem_append_left _ ht
  · cases a with
    | nil => intro t ht; rw [h1, List.append_nil] at ht; exact ht
    | cons b a =>
      rw [List.cons_append, List.cons.injEq] at h2
      obtain ⟨rfl, _⟩ := h2
      exact absurd (by rw [h1]; simp) hs
theorem RdOf.top (h : InL ar) (K : RdOf ar rs) : ∀ dn s r, rs.flatten = dn ++ s :: r → ∀ t ∈ afOf (headsOf ar) s, t ∈ dn := by
  intro dn s r hf t ht
  have hsm : s ∈ rs.flatten := by rw [hf]; simp
  obtain ⟨hsl, _⟩ := K.mem.mp hsm
  rw [afOf_eq h hsl, mem_afA] at ht
  obtain ⟨g, hg, hsg⟩ := List.mem_flatten.mp hsm
  obtain ⟨i, hi, e⟩ := List.mem_iff_getElem.mp hg
  have hr : rs[i]? = some g := by rw [List.getElem?_eq_getElem hi, e]
  obtain ⟨k1, k2⟩ := ((K.rd i g hr).2.2 s).mp hsg
  have htl := (h _ ht).2
  have hti : t ∉ dueG ar i := fun c => k2 (due_up hsl ht c)
  have hsplit : rs.flatten = (rs.take i).flatten ++ (rs.drop i).flatten := by rw [← List.flatten_append, List.take_append_drop]
  have Ki : t ∈ (rs.take i).flatten := by
    have : ∃ j, j < i ∧ t ∈ dueG ar j ∧ t ∉ dueG ar (j + 1) := by
      refine Classical.byContradiction fun c => hti ?_
      have key : ∀ n, n ≤ i → t ∈ dueG ar n := by
        intro n
        induction n with
        | zero => exact fun _ => htl
        | succ n ih => exact fun hn => Classical.byContradiction fun d => c ⟨n, hn, ih (by omega), d⟩
      exact key _ (Nat.le_refl _)
    obtain ⟨j, hj, h1, h2⟩ := this
    have hrj := List.getElem?_eq_getElem (show j < rs.length by omega)
    refine List.mem_flatten.mpr ⟨rs[j], ?_, ((K.rd j _ hrj).2.2 t).mpr ⟨h1, h2⟩⟩
    exact List.mem_take_iff_getElem.mpr ⟨j, by omega, rfl⟩
  refine before (l2 := (rs.drop i).flatten) (by rw [← hsplit]; exact hf) (fun c => ?_) t Ki
  obtain ⟨g', hg', hsg'⟩ := List.mem_flatten.mp c
  obtain ⟨j, hj, e'⟩ := List.mem_take_iff_getElem.mp hg'
  have hrj : rs[j]? = some g' := by rw [List.getElem?_eq_getElem (by omega), e']
  have := ((K.rd j g' hrj).2.2 s).mp hsg'
  exact this.2 (due_mono (show j + 1 ≤ i by omega) k1)
end
section
variable {ar : List (Str × Str)} {rs : List (List Str)}
def EndOf (ar : List (Str × Str)) (s y : Str) : Prop := Rch ar s y ∧ ∀ q ∈ ar, q.1 ≠ y
theorem led_to (h : InL ar) : ∀ i s, s ∈ lets → s ∉ dueG ar i → ∃ n y, ledTo (headsOf ar) n s = some y ∧ EndOf ar s y
  | 0, s, hs, hn => absurd hs hn
  | i + 1, s, hs, hn => by
    cases hf : (afA ar s).head? with
    | none =>
      refine ⟨1, s, ?_, .refl, fun q hq z => ?_⟩
      · unfold ledTo
        rw [firstOf_eq h hs, hf]
      · rw [List.head?_eq_none_iff] at hf
        have : q.2 ∈ afA ar s := mem_afA.mpr (by rw [← z]; exact hq)
        rw [hf] at this; cases this
    | some t =>
      have ht : (s, t) ∈ ar := mem_afA.mp (List.mem_of_head? hf)
      obtain ⟨n, y, h1, h2, h3⟩ := led_to h i t (h _ ht).2 fun c => hn (due_up hs ht c)
      refine ⟨n + 1, y, ?_, .head ht h2, h3⟩
      show (match firstOf (headsOf ar) s with | none => some s | some y => ledTo (headsOf ar) n y) = some y
      rw [firstOf_eq h hs, hf]
      exact h1
theorem rch_lets (h : InL ar) {s o : Str} (hs : s ∈ lets) (r : Rch ar s o) : o ∈ lets := by
  cases r with
  | refl => exact hs
  | step _ hq => exact (h _ hq).2
theorem rch_fin (h : InL ar) (K : RdOf ar rs) {s o : Str} (hs : s ∈ lets) (hn : s ∉ dueG ar rs.length) (r : Rch ar s o) : o ∉ dueG ar rs.length := by
  induction r with
  | refl => exact hn
  | step hb hq ih => exact fun c => ih (due_down (due_up (h _ hq).1 hq c))
theorem one_end (h : InL ar) : ∀ i s, s ∈ lets → s ∉ dueG ar i → (∀ o, o ∈ lets → Rch ar s o → LM (headsOf ar) ar o) → ∀ e1 e2, EndOf ar s e1 → EndOf ar s e2 → e1 = e2
  | 0, s, hs, hn, _, _, _, _, _ => absurd hs hn
  | i + 1, s, hs, hn, hlm, e1, e2, h1, h2 => by
    rcases h1.1.cases_head with r1 | ⟨b1, q1, r1⟩
    · rcases h2.1.cases_head with r2 | ⟨b2, q2, r2⟩
      · rw [r1, r2]
      · exact absurd r1.symm (h1.2 _ q2)
    · rcases h2.1.cases_head with r2 | ⟨b2, q2, r2⟩
      · exact absurd r2.symm (h2.2 _ q1)
      · have m1 : b1 ∈ afOf (headsOf ar) s := by rw [afOf_eq h hs]; exact mem_afA.mpr q1
        have m2 : b2 ∈ afOf (headsOf ar) s := by rw [afOf_eq h hs]; exact mem_afA.mpr q2
        obtain ⟨o, o1, o2⟩ := hlm s hs .refl b1 m1 b2 m2
        have n1 : b1 ∉ dueG ar i := fun c => hn (due_up hs q1 c)
        have n2 : b2 ∉ dueG ar i := fun c => hn (due_up hs q2 c)
        obtain ⟨ol, ro1⟩ := mem_row.mp o1
        obtain ⟨_, ro2⟩ := mem_row.mp o2
        have trans : ∀ {a b c : Str}, Rch ar a b → Rch ar b c → Rch ar a c := fun {a b c} x y => by
          induction y with
          | refl => exact x
          | step _ hq ih => exact .step ih hq
        have no : o ∉ dueG ar i := by
          have key : ∀ {a b : Str}, Rch ar a b → a ∉ dueG ar i → b ∉ dueG ar i := fun {a b} x ha => by
            induction x with
            | refl => exact ha
            | step _ hq ih => exact fun c => ih (due_down (due_up (h _ hq).1 hq c))
          exact key ro1 n1
        obtain ⟨_, y, _, hy⟩ := led_to h i o ol no
        have a1 := one_end h i b1 (h _ q1).2 n1 (fun o' hl hr => hlm o' hl (.head q1 hr)) e1 y ⟨r1, h1.2⟩ ⟨trans ro1 hy.1, hy.2⟩
        have a2 := one_end h i b2 (h _ q2).2 n2 (fun o' hl hr => hlm o' hl (.head q2 hr)) e2 y ⟨r2, h2.2⟩ ⟨trans ro2 hy.1, hy.2⟩
        rw [a1, a2]
theorem rch_trans {a b c : Str} (x : Rch ar a b) (y : Rch ar b c) : Rch ar a c := by
  induction y with
  | refl => exact x
  | step _ hq ih => exact .step ih hq
theorem newman (h : InL ar) (K : RdOf ar rs) : ∀ s ∈ rs.flatten, ∀ es : List Str, es.Nodup → (∀ x, x ∈ es ↔ Rch ar s x ∧ ∀ q ∈ ar, q.1 ≠ x) → (es.length = 1 ↔ ∀ o ∈ rowOf ar s, o ∉ tornOf (headsOf ar) ar rs.flatten) := by
  intro s hs es hes1 hes2
  obtain ⟨hsl, hsn⟩ := K.mem.mp hs
  constructor
  · intro hlen o ho hto
    obtain ⟨hol, hor⟩ := mem_row.mp ho
    refine (mem_torn.mp hto).2 fun t ht u hu => ?_
    obtain ⟨e, rfl⟩ : ∃ e, es = [e] := List.length_eq_one_iff.mp hlen
    have key : ∀ t ∈ afOf (headsOf ar) o, e ∈ rowOf ar t := fun t ht => by
      rw [afOf_eq h hol, mem_afA] at ht
      have htl := (h _ ht).2
      have hst : Rch ar s t := .step hor ht
      obtain ⟨_, y, _, hy⟩ := led_to h _ t htl (rch_fin h K hsl hsn hst)
      have : y ∈ [e] := (hes2 y).mpr ⟨rch_trans hst hy.1, hy.2⟩
      rw [List.mem_singleton] at this; subst this
      exact mem_row.mpr ⟨rch_lets h htl hy.1, hy.1⟩
    exact ⟨e, key t ht, key u hu⟩
  · intro hno
    have hlm : ∀ o, o ∈ lets → Rch ar s o → LM (headsOf ar) ar o := fun o hol hor => Classical.byContradiction fun c =>
      hno o (mem_row.mpr ⟨hol, hor⟩) (mem_torn.mpr ⟨K.mem.mpr ⟨hol, rch_fin h K hsl hsn hor⟩, c⟩)
    obtain ⟨_, y, _, hy⟩ := led_to h _ s hsl hsn
    have hyes : y ∈ es := (hes2 y).mpr hy
    have hall : ∀ x ∈ es, x = y := fun x hx => one_end h _ s hsl hsn hlm x y ((hes2 x).mp hx) hy
    match es, hes1, hyes, hall with
    | [a], _, _, _ => rfl
    | a :: b :: l, hn, _, ha =>
      have := (List.nodup_cons.mp hn).1
      exact absurd (by rw [ha a (by simp), ← ha b (by simp)]; simp) this
end
theorem letr_mem {k : Nat} (h : k < 6) : letr k ∈ lets := by
  match k, h with
  | 0, _ => simp [lets]
  | 1, _ => simp [lets]
  | 2, _ => simp [lets]
  | 3, _ => simp [lets]
  | 4, _ => simp [lets]
  | 5, _ => simp [lets]
  | k + 6, h => omega
theorem arrows_in (xs : List Int) : InL (arrowsOf xs) := by
  intro q hq
  obtain ⟨x, _, hx⟩ := List.mem_filterMap.mp hq
  have l0 : 0 ≤ ((x.fmod 108).fdiv 6).fmod 6 := Int.fmod_nonneg_of_pos _ (by decide)
  have l1 : ((x.fmod 108).fdiv 6).fmod 6 < 6 := Int.fmod_lt_of_pos _ (by decide)
  have r0 : 0 ≤ (x.fmod 108).fmod 6 := Int.fmod_nonneg_of_pos _ (by decide)
  have r1 : (x.fmod 108).fmod 6 < 6 := Int.fmod_lt_of_pos _ (by decide)
  unfold arrowOf at hx
  dsimp only at hx
  have a1 := letr_mem (k := (((x.fmod 108).fdiv 6).fmod 6).toNat) (by omega)
  have a2 := letr_mem (k := ((x.fmod 108).fmod 6).toNat) (by omega)
  split at hx
  · cases hx; exact ⟨a1, a2⟩
  · split at hx
    · cases hx; exact ⟨a2, a1⟩
    · cases hx
theorem arrows_len (xs : List Int) : (arrowsOf xs).length ≤ 8 := Nat.le_trans (List.length_filterMap_le ..) (by simp [padded])
theorem compItems_acc {α : Type} {st : AH → Prop} {turn : V → Map → AH → List V → (Map → AH → List V → Prop) → Prop} (g : α → V) {xs : List α} (J : List α → List α → Map → AH → List V → Prop) (hst : ∀ dn r m H acc, J dn r m H acc → st H)
    (ht : ∀ dn x r m H acc (K : Map → AH → List V → Prop), xs = dn ++ x :: r → J dn (x :: r) m H acc → (∀ m' H' acc', J (dn ++ [x]) r m' H' acc' → K m' H' acc') → turn (g x) m H acc K)
    {m : Map} {H : AH} {acc : List V} {K : Map → AH → List V → Prop} (hj : J [] xs m H acc) (hk : ∀ m' H' acc', J xs [] m' H' acc' → K m' H' acc') : compItems st turn (xs.map g) m H acc K := by
  have key : ∀ (r dn : List α) (m : Map) (H : AH) (acc : List V), xs = dn ++ r → J dn r m H acc → compItems st turn (r.map g) m H acc K := by
    intro r
    induction r with
    | nil => intro dn m H acc e hj; rw [List.append_nil] at e; subst e; exact ⟨hst _ _ _ _ _ hj, hk _ _ _ hj⟩
    | cons x r ih => exact fun dn m H acc e hj => ⟨hst _ _ _ _ _ hj, ht dn x r m H acc _ e hj fun m' H' acc' h' => ih (dn ++ [x]) m' H' acc' (by rw [e]; simp) h'⟩
  exact key xs [] m H acc rfl hj
theorem upto_tt {a b : Nat} (h : a = b) : upto (fun _ => true) a b = true := h ▸ upto_true fun _ _ => rfl
theorem eqG_strs {H : AH} {n : Nat} {a b : Addr} {g : List Str} (ha : H a = some (.list (g.map V.str))) (hb : H b = some (.list (g.map V.str))) : EqG H (n + 1) (.ref a) (.ref b) true :=
  EqG.to (.list n a b _ _ (fun _ => true) ha hb (fun _ => upto_tt rfl) fun j x y h1 h2 => by
    cases h1.symm.trans h2
    obtain ⟨s, _, rfl⟩ := List.mem_map.mp (List.mem_of_getElem? h1)
    exact EqG.to (.str n s s) (beq_self_eq_true s)) (upto_tt rfl)
theorem eqG_told {H : AH} {b : Bool} {r1 r2 : Addr} {as bs : List (Addr × List Str)} (h1 : H r1 = some (.list (as.map fun p => .ref p.1))) (h2 : H r2 = some (.list (bs.map fun p => .ref p.1))) (e : as.map (·.2) = bs.map (·.2)) (ha : ∀ p ∈ as, H p.1 = some (.list (p.2.map V.str))) (hb : ∀ p ∈ bs, H p.1 = some (.list (p.2.map V.str))) :
    EqG H 3 (.tup [.bool b, .ref r1]) (.tup [.bool b, .ref r2]) true := by
  have hl : as.length = bs.length := by simpa using congrArg List.length e
  have h3 : EqG H 2 (.ref r1) (.ref r2) true := by
    have hL : upto (fun _ => true) (as.map fun p => V.ref p.1).length (bs.map fun p => V.ref p.1).length = true := upto_tt (by rw [List.length_map, List.length_map, hl])
    refine EqG.to (.list 1 r1 r2 _ _ (fun _ => true) h1 h2 (fun _ => hL) fun j x y e1 e2 => ?_) hL
    rw [List.getElem?_map] at e1 e2
    obtain ⟨p, hp, rfl⟩ := Option.map_eq_some_iff.mp e1
    obtain ⟨p', hp', rfl⟩ := Option.map_eq_some_iff.mp e2
    have ej := congrArg (·[j]?) e
    simp only [List.getElem?_map, hp, hp', Option.map_some, Option.some.injEq] at ej
    exact eqG_strs (n := 0) (ha p (List.mem_of_getElem? hp)) (ej ▸ hb p' (List.mem_of_getElem? hp'))
  refine .tup 2 _ _ (fun _ => true) fun j x y e1 e2 => ?_
  match j, e1, e2 with
  | 0, e1, e2 => cases e1; cases e2; exact EqG.to (.bool 2 b b) (beq_self_eq_true b)
  | 1, e1, e2 => cases e1; cases e2; exact h3
  | j + 2, e1, e2 => cases e1
theorem compTurn2 {c : Cx} {q : Md} {d : Nat} {A : Around} {env : Env} {elt target iter t2 it2 : Expr} {ifs2 : List Expr} {x : V} {m m₁ : Map} {H : AH} {acc : List V} {K : Map → AH → List V → Prop} {k k2 : Int} (hm : asgV target x m = some m₁)
    (h : awE c q d A env it2 m₁ H (fun v H₂ => ∃ ik xs, iterK H₂ v = some ik ∧ compItems (fun H => ik.items H = some xs) (compTurnP c q d A env elt [⟨t2, it2, ifs2, k2⟩]) xs m₁ H₂ acc K) noX) : compTurnP c q d A env elt [⟨target, iter, [], k⟩, ⟨t2, it2, ifs2, k2⟩] x m H acc K := ⟨m₁, hm, h⟩
theorem law_all : ∀ {c : Cx} {d : Nat} {p : Program} {loose : List Str} {mg mb : Str → Option Value} {H : AH} {P : V → AH → Prop} {X : Exc → AH → Prop} {sc : Addr} {xs : List Int}
    (hprog : c.prog = PySem.Challenge.rw_om0166_01.row.prog) (G : Gd (KF c.w.params) p loose mg mb c.g) (hcl : ∀ s ∈ lets, Clean (KF c.w.params) 48 s ∧ Clean (KF c.w.params) 48 (Txt.upper s) ∧ Clean (KF c.w.params) 53 s)
    (h3 : GL c sc (xs.map V.int)) (hal : xs.length ≤ 100000)
    (h : ∀ H', P (.bool true) H'), callP c (d + 6) (.ref 373) [.ref sc] [] H P X := by
  w_on
  k_fill
  intro c d p loose mg mb H P X sc xs hprog G hcl h3 hal h
  refine' enter (d := d + 5) (binds := [(Str.ofString "script", .ref sc)]) G ?ho ?hcd ?hb ?hk ?hn ?hd ?_ ?c1 ?c2 ?c3
  ((case ho => k_is); (case hcd => k_is); (case hk => rfl); (case hn => decide +kernel); (case hd => exact of_decide_eq_true rfl); (case c1 => rfl); (case c2 => rfl); (case c3 => rfl); try (case hb => first | exact bnd0 rfl | exact bnd1 (fun _ => rfl) | exact bnd2 (fun _ _ => rfl) | exact bnd3 (fun _ _ _ => rfl)))
  intro A L
  have hl1 : ∀ s ∈ lets, s.length = 1 ∧ (Txt.upper s).length = 1 := by decide +kernel
  have hcl2 : ∀ s ∈ lets, s.length ≤ 1000 ∧ Clean (KF c.w.params) 48 (Txt.lower s) := fun s hs => ⟨by have := (hl1 s hs).1; omega, by rw [(lu_letter s hs).2]; exact (hcl s hs).1⟩
  have hin := arrows_in xs
  have hlen := arrows_len xs
  (refine awSs_AssignK (by first | exact .inl rfl | exact .inr ⟨rfl, rfl⟩) rfl fun Kz hz1 => ?_; refine awE_Call (by intro o n ap h; cases h) (fun _ => rfl) (by intro _ h; first | rfl | cases h) ?_; refine awE_Glob (by assumption) rfl (by k_is) ?_ rfl; refine ⟨_, rfl, (by first | exact keepOk_type _ | exact keepOk_builtin _ | exact keepOk_K (by assumption) (by k_is)), ?_⟩; refine awArgs_plain (fun _ _ h => nomatch h) ?_; refine awL_cons (fun _ _ h => nomatch h) ?_; refine awE_Name (by first | rfl | assumption) ?_ rfl rfl; refine awL_nil ?_)
  refine awCall_of (law_arrows (d := d + 3) hprog G h3 hal fun ra H1 x1 n1 e1 => ?_)
  generalize arrowsOf xs = ar at hin hlen e1
  (apply_assumption; refine awSs_AssignK (by first | exact .inl rfl | exact .inr ⟨rfl, rfl⟩) rfl fun Kz hz1 => ?_; refine awE_Call (by intro o n ap h; cases h) (fun _ => rfl) (by intro _ h; first | rfl | cases h) ?_; refine awE_Glob (by assumption) rfl (by k_is) ?_ rfl; refine ⟨_, rfl, (by first | exact keepOk_type _ | exact keepOk_builtin _ | exact keepOk_K (by assumption) (by k_is)), ?_⟩; refine awArgs_plain (fun _ _ h => nomatch h) ?_; refine awL_cons (fun _ _ h => nomatch h) ?_; refine awE_Name (by first | rfl | assumption) ?_ rfl rfl; refine awL_nil ?_)
  refine awCall_of (law_steps (d := d + 1) hprog G e1 (by omega) (fun q hq => ⟨by have := (hl1 q.1 (hin q hq).1).1; omega, by have := (hl1 q.2 (hin q hq).2).1; omega, (hcl q.1 (hin q hq).1).2.1, (hcl q.2 (hin q hq).2).2.2⟩) fun stp H2 y2 n2 HA => ?_)
  have x2 : Ext H1 H2 := Ext.of_keep y2
  have hps : ∀ q ∈ headsOf ar, q.1.length ≤ 1000 := fun q hq => by
    obtain ⟨q', hq', rfl⟩ := List.mem_map.mp hq
    have := (hl1 q'.1 (hin q' hq').1).2
    show (Txt.upper q'.1).length ≤ 1000
    omega
  have hpl : (headsOf ar).length ≤ 100 := by unfold headsOf; rw [List.length_map]; omega
  have haf : ∀ s ∈ lets, ∀ t ∈ afOf (headsOf ar) s, t ∈ lets := fun s hs t ht => by
    rw [afOf_eq hin hs, mem_afA] at ht
    exact (hin _ ht).2
  (apply_assumption; refine awSs_AssignK (by first | exact .inl rfl | exact .inr ⟨rfl, rfl⟩) rfl fun Kz hz1 => ?_; refine awE_Call (by intro o n ap h; cases h) (fun _ => rfl) (by intro _ h; first | rfl | cases h) ?_; refine awE_Glob (by assumption) rfl (by k_is) ?_ rfl; refine ⟨_, rfl, (by first | exact keepOk_type _ | exact keepOk_builtin _ | exact keepOk_K (by assumption) (by k_is)), ?_⟩; refine awArgs_plain (fun _ _ h => nomatch h) ?_; refine awL_cons (fun _ _ h => nomatch h) ?_; refine awE_Name (by first | rfl | assumption) ?_ rfl rfl; refine awL_nil ?_)
  refine awCall_of (law_handed (d := d) hprog G HA hcl2 hps hpl haf fun H3 ro ags b x3 GA hb KR => ?_)
  have K : RdOf ar (ags.map (·.2)) := RdOf.of hin KR
  have hbb : b = !(dueG ar 6).isEmpty := by
    rw [Bool.eq_iff_iff, hb, ring_iff (by rfl) haf, Gn_due hin]
    cases dueG ar 6 <;> simp
  have hagl : ags.length ≤ 6 := by have := K.len _ (Nat.le_refl _); rw [List.length_map] at this; omega
  have hgl : ∀ p ∈ ags, p.2.length ≤ 6 := fun p hp => by
    obtain ⟨i, hi, e⟩ := List.mem_iff_getElem.mp hp
    obtain ⟨_, k2, k3⟩ := K.rd i p.2 (by rw [List.getElem?_map, List.getElem?_eq_getElem hi, e]; rfl)
    exact nodup_sub_len k2 (m := lets) fun s hs => due_ls ((k3 s).mp hs).1
  (apply_assumption; refine awSs_consK fun Kz hz1 hz2 hz3 hz4 => ?_; refine awS_If ?_; refine awB_Compare rfl ?_; refine awE_Tuple ?_; refine awL_cons (fun _ _ h => nomatch h) ?_; refine awE_Sub (by intro _ _ _ h; cases h) ?_; refine awE_Name (by first | rfl | assumption) ?_ rfl rfl; refine awE_Const rfl ?_; refine sub_tup (by decide) (by decide) rfl ?_; refine awL_cons (fun _ _ h => nomatch h) ?_; refine awE_ListComp rfl (compOk_of rfl rfl (by decide +kernel) rfl rfl) (fun _ => rfl) ?_; refine awE_Sub (by intro _ _ _ h; cases h) ?_; refine awE_Name (by first | rfl | assumption) ?_ rfl rfl; refine awE_Const rfl ?_; refine sub_tup (by decide) (by decide) rfl ?_)
  refine ⟨.list ro, ags.map (fun p => V.ref p.1), by simp [iterK, GA.l], fun C => ?_⟩
  refine compItems_acc (fun p : Addr × List Str => V.ref p.1) (fun dn r m4 H4 acc => Ext H3 H4 ∧ ∃ bs : List (Addr × List Str), acc = bs.map (fun p => V.ref p.1) ∧ (∀ p ∈ bs, H4 p.1 = some (.list (p.2.map V.str))) ∧ bs.length = dn.length ∧ ∀ (i : Nat) (g g' : List Str), (dn.map (·.2))[i]? = some g → (bs.map (·.2))[i]? = some g' → g'.Perm g ∧ sortedS g' = true) (fun dn r m4 H4 acc hj => by simp [IK.items, hj.1.get GA.l]) ?_ ⟨Ext.refl _, [], rfl, (fun _ z => nomatch z), rfl, (fun i g g' z => by simp at z)⟩ ?_
  · rintro dn q r m4 H4 acc K4 hag ⟨j1, bs, j2, j3, j4, j5⟩ hk4
    have hqm : q ∈ ags := by rw [hag]; simp
    have hq := j1.get (GA.g q hqm)
    refine compTurn0 rfl ⟨by have := congrArg List.length hag; simp at this; rw [j2, List.length_map]; omega, ?_⟩
    (refine awE_Call (by intro o n ap h; cases h) (fun _ => rfl) (by intro _ h; first | rfl | cases h) ?_; refine awE_Bltn (by assumption) rfl (by k_is) (by first | boot_by_name | rfl) (by decide) ?_ rfl; refine ⟨_, rfl, (by first | exact keepOk_type _ | exact keepOk_builtin _ | exact keepOk_K (by assumption) (by k_is)), ?_⟩; refine awArgs_plain (fun _ _ h => nomatch h) ?_; refine awL_cons (fun _ _ h => nomatch h) ?_; refine awE_Name (by first | rfl | assumption) ?_ rfl rfl; refine awL_nil ?_)
    refine call_sorted_strs hq (by have := hgl q hqm; omega) fun ss hp hs a H5 x5 n5 e5 => ?_
    refine hk4 _ _ _ ⟨j1.trans x5, bs ++ [(a, ss)], by rw [j2, List.map_append]; rfl, fun p hp' => ?_, by simp [j4], fun i g g' hi hi' => ?_⟩
    · rcases List.mem_append.mp hp' with hp' | hp'
      · exact x5.get (j3 p hp')
      · rw [List.mem_singleton.mp hp']; exact e5
    · rw [List.map_append] at hi hi'
      by_cases hlt : i < dn.length
      · rw [List.getElem?_append_left (by simpa using hlt)] at hi
        rw [List.getElem?_append_left (by simpa [j4] using hlt)] at hi'
        exact j5 i g g' hi hi'
      · rw [List.getElem?_append_right (by simpa using hlt)] at hi
        rw [List.getElem?_append_right (by simpa [j4] using hlt)] at hi'
        simp only [List.map_cons, List.map_nil, List.length_map, j4] at hi hi'
        have hi0 : i - dn.length = 0 := by
          have := (List.getElem?_eq_some_iff.mp hi).1
          simpa using this
        rw [hi0] at hi hi'
        simp only [List.getElem?_cons_zero, Option.some.injEq] at hi hi'
        subst hi hi'
        exact ⟨hp, hs⟩
  · rintro m4 H4 acc ⟨j1, bs, j2, j3, j4, j5⟩
    intro sl hsl
    have x6 : Ext H4 (upd H4 sl (.list acc)) := Ext.fresh hsl
    have e6 := upd_self H4 sl (.list acc)
    generalize upd H4 sl (.list acc) = H6 at x6 e6 ⊢
    rw [j2] at e6
    have hbs : bs.map (·.2) = dueR ar 6 := K.sorted (by rw [List.length_map, List.length_map, j4]) j5
    have X6 := x3.trans (j1.trans x6)
    (refine awL_nil ?_)
    refine ⟨Nat.le_of_ble_eq_true rfl, ?_⟩
    (refine awE_Call (by intro o n ap h; cases h) (fun _ => rfl) (by intro _ h; first | rfl | cases h) ?_; refine awE_Glob (by assumption) rfl (by k_is) ?_ rfl; refine ⟨_, rfl, (by first | exact keepOk_type _ | exact keepOk_builtin _ | exact keepOk_K (by assumption) (by k_is)), ?_⟩; refine awArgs_plain (fun _ _ h => nomatch h) ?_; refine awL_cons (fun _ _ h => nomatch h) ?_; refine awE_Name (by first | rfl | assumption) ?_ rfl rfl; refine awL_nil ?_)
    refine awCall_of (law_due (d := d + 3) hprog G (X6.get (x2.get e1)) (by omega) fun H7 rd as x7 e7 g7 h7 => ?_)
    rw [← hbb]
    refine cmp_neG (b := true) rfl (n := 3) (by decide) (eqG_told (x7.get e6) e7 (by rw [hbs, h7]) (fun p hp => x7.get (x6.get (j3 p hp))) g7) ?_
    have ho7 := x7.get (x6.get (j1.get GA.l))
    have hg7 : ∀ p ∈ ags, H7 p.1 = some (.list (p.2.map V.str)) := fun p hp => x7.get (x6.get (j1.get (GA.g p hp)))
    (refine ⟨_, rfl, ?_⟩; refine ite_f (by first | rfl | assumption) ?_; refine awSs_nil ?_; apply_assumption; refine awSs_consK fun Kz hz1 hz2 hz3 hz4 => ?_; refine awS_Return ?_; refine awE_Call (by intro o n ap h; cases h) (fun _ => rfl) (by intro _ h; first | rfl | cases h) ?_; refine awE_Glob (by assumption) rfl (by k_is) ?_ rfl; refine ⟨_, rfl, (by first | exact keepOk_type _ | exact keepOk_builtin _ | exact keepOk_K (by assumption) (by k_is)), ?_⟩; refine awArgs_plain (fun _ _ h => nomatch h) ?_; refine awL_cons (fun _ _ h => nomatch h) ?_; refine awE_Name (by first | rfl | assumption) ?_ rfl rfl; refine awL_cons (fun _ _ h => nomatch h) ?_; refine awE_Name (by first | rfl | assumption) ?_ rfl rfl; refine awL_cons (fun _ _ h => nomatch h) ?_; refine awE_ListComp rfl (compOk_of rfl rfl (by decide +kernel) rfl rfl) (fun _ => rfl) ?_; refine awE_Sub (by intro _ _ _ h; cases h) ?_; refine awE_Name (by first | rfl | assumption) ?_ rfl rfl; refine awE_Const rfl ?_; refine sub_tup (by decide) (by decide) rfl ?_)
    refine ⟨.list ro, ags.map (fun p => V.ref p.1), by simp [iterK, ho7], fun C2 => ?_⟩
    refine compItems_acc (fun p : Addr × List Str => V.ref p.1) (fun dn r m8 H8 acc => H8 = H7 ∧ acc = ((dn.map (·.2)).flatten).map V.str ∧ acc.length ≤ 6 * dn.length) (fun dn r m8 H8 acc hj => by simp [IK.items, hj.1, ho7]) ?_ ⟨rfl, rfl, Nat.zero_le _⟩ ?_
    · rintro dn q r m8 H8 acc8 K8 hag ⟨l1, l2, l3⟩ hk8
      obtain rfl := l1.symm
      have hqm : q ∈ ags := by rw [hag]; simp
      have hq := hg7 q hqm
      have hql := hgl q hqm
      have hdl : dn.length ≤ 6 := by have := congrArg List.length hag; simp at this; omega
      refine compTurn2 rfl ?_
      (refine awE_Name (by first | rfl | assumption) ?_ rfl rfl)
      refine ⟨.list q.1, q.2.map V.str, by simp [iterK, hq], ?_⟩
      refine compItems_J V.str (fun s => some (V.str s)) (fun m9 H9 => H9 = H7) (fun m9 H9 hj => by simp [IK.items, hj, hq]) (by omega) rfl ?_ ?_
      · rintro s hs m9 H9 acc9 K9 hacc9 l9 hk9
        subst l9
        refine compTurn0 rfl ⟨hacc9, ?_⟩
        (refine awE_Name (by first | rfl | assumption) ?_ rfl rfl)
        exact hk9 _ _ rfl
      · rintro m9 H9 l9
        refine hk8 _ _ _ ⟨l9, ?_, ?_⟩
        · rw [l2, List.map_append, List.flatten_append, List.map_append, List.filterMap_eq_map']
          simp
        · rw [List.length_append, List.length_append, List.filterMap_eq_map', List.length_map, List.length_singleton]
          omega
    · rintro m8 H8 acc8 ⟨l1, l2, l3⟩
      obtain rfl := l1.symm
      show ∀ a, _
      intro ha hha
      have x9 : Ext H7 (upd H7 ha (.list acc8)) := Ext.fresh hha
      have e9 := upd_self H7 ha (.list acc8)
      generalize upd H7 ha (.list acc8) = H9 at x9 e9 ⊢
      rw [l2] at e9
      have X9 := X6.trans (x7.trans x9)
      (refine awL_nil ?_)
      refine awCall_of (law_agree (d := d) hprog G (HA.more X9) hcl2 hps (fun q hq => by
          obtain ⟨q', hq', rfl⟩ := List.mem_map.mp hq
          exact (hin q' hq').2) hpl ((x2.trans X9).get e1) (by omega) (fun q hq => (hin q hq).2) e9 K.nodup (fun s hs => (K.mem.mp hs).1) (fun s hs t => by rw [afOf_eq hin hs, mem_afA]) (K.top hin) (fun s hs => by
          obtain ⟨n, y, a, b⟩ := led_to hin _ s (K.mem.mp hs).1 (K.mem.mp hs).2
          exact ⟨n, y, a, b.1, b.2⟩) (newman hin K) fun H10 x10 => ?_)
      (apply_assumption)
      exact h H10
theorem ints_vrs {h : Heap} : ∀ {vals : List Value} {ns : List Int}, IntsAre vals ns → VRs h (ns.map V.int) vals := by
  intro vals ns hI
  induction hI with
  | nil => exact rfl
  | cons n t r ih => exact ⟨_, _, rfl, ⟨t, rfl⟩, ih⟩
theorem clean_all (q : Params) : ∀ s ∈ lets, Clean (KF q) 48 s ∧ Clean (KF q) 48 (Txt.upper s) ∧ Clean (KF q) 53 s := by
  intro s hs
  simp only [lets, List.mem_cons, List.not_mem_nil, or_false] at hs
  rcases hs with rfl | rfl | rfl | rfl | rfl | rfl
  all_goals (refine ⟨?_, ?_, ?_⟩ <;> (intro S t0 tk; kernel_rfl))
theorem fin : PySem.Challenge.rw_om0166_01.Holds := by
  refine hdW _ _ rfl rfl rfl ?hp ?_
  case hp => w_witness2
  w_on
  k_fill
  intro w s₀ s₁ mg mb G Y fa o pm cd doc dV kV ho hd hcd hD hmg hg args vals as hpre hlay hrd hwl hlo
  have KX := kIn_of Y
  refine Ground.open G ?_
  intro T B D TE TW
  wrow_args hpre hlay hrd hwl hlo
  rename_i w7 w6 w5 sc vs as' hL ra w1 r0 hI hr hcond _
  have TR := topRead_of T
  have hfa : mg (Str.ofString "law") = some (.ref 373) := mg_of KX TR.g (by kernel_rfl)
  have hfe : fa = 373 := by
    have h2 : mg (Str.ofString "law") = some (.ref fa) := hmg
    rw [hfa] at h2; cases h2; rfl
  subst hfe
  have B0 : BRep ⟨PySem.Challenge.rw_om0166_01.row.prog, w, s₁.heap, (s₁.os, s₁.drawn)⟩ .quiet 6 callerA (fun _ => none) s₁ :=
    ⟨⟨fun _ _ e => e, hg, rfl, (fun _ _ e => by cases e), (fun _ _ e => by cases e)⟩, ⟨by decide, by decide, fun _ => rfl, (fun z => by cases z), [], rfl, trivial, fun _ z => nomatch z⟩⟩
  have Gd0 : Gd (KF w.params) _ _ mg mb s₁.heap := ⟨KX, TR, ⟨373, o, by decide, ho⟩⟩
  have key := law_all (c := ⟨PySem.Challenge.rw_om0166_01.row.prog, w, s₁.heap, (s₁.os, s₁.drawn)⟩) (d := 0) (H := fun _ => none) (P := fun x _ => x = .bool true) (X := fun _ _ => False) (sc := sc) rfl Gd0 (clean_all _) ⟨vs.toArray, hL, ints_vrs hI⟩ (by omega) fun _ => rfl
  show wpAny _ _ (call (.ref 373) [.ref sc]) _ _ _
  refine wpAny_call (codeAny_mono (key callerA s₁ [.ref sc] [] B0 ⟨_, _, rfl, rfl, rfl⟩ kwR_nil) fun r s' o => ?_)
  cases r with
  | error e => obtain ⟨_, _, z, _⟩ := o; exact z.elim
  | ok f =>
    cases f with
    | ret v =>
      obtain ⟨x, H', rfl, hv, R, _⟩ := o
      cases hv
      refine ⟨.inl ⟨.bool true, .bool true, [], rfl, fun cls => ?_, .bool true, ?_, fun _ => ⟨List.nodup_nil, fun a ha => nomatch ha⟩⟩, .of_keep R.keep, congrArg Prod.fst R.os, .of_eq R.gens⟩
      · rfl
      · first | wrow_post | rfl
    | next => exact o.elim
    | brk => exact o.elim
    | cont => exact o.elim
end Mine
theorem PySem.Challenge.cw_om0166_01_holds : PySem.Challenge.rw_om0166_01.Holds := by
  exact Mine.fin
