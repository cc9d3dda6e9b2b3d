import PyProof.Rows.All
import Wide.All
import OpenK.AllK
import Wide.FinOn
import Lean
import PySem.Challenge.RW_om0166_02
open PySem PySem.W PySem.Spec PySem.Calls PyProof.Rows
set_option Elab.async false
set_option maxRecDepth 1000000
set_option maxHeartbeats 0
set_option linter.unusedVariables false
set_option linter.all false
set_option genSizeOf false
set_option genInjectivity false
namespace Mine
open PySem.Challenge
open List (mem_singleton length_append length_map mem_append mem_map map_append mem_cons_self mem_cons length_cons mem_filter mem_map_of_mem map_cons map_map contains_iff_mem mem_append_left mem_cons_of_mem nodup_append nil_append length_filter_le getElem?_eq_getElem mem_of_getElem? length_nil length_singleton mem_append_right lookup_cons nodup_cons filter_cons nodup_nil getElem?_map all_eq_true mem_range any_eq_true flatMap_cons find?_cons size_toArray append_nil pairwise_cons count_eq_zero filterMap_eq_map' mem_filterMap pairwise_map any_cons map_congr_left find?_eq_none map_singleton append_inj' count_cons filter_sublist getElem?_of_mem)
open Nat (le_trans zero_le le_refl le_of_lt lt_of_lt_of_le lt_of_le_of_lt le_of_eq le_succ lt_of_succ_lt_succ lt_trans ne_of_lt not_lt_zero zero_add lt_of_le_of_ne ne_of_gt add_comm add_right_comm le_of_lt_succ le_sub_one_of_lt le_antisymm)
theorem sj0_ {α : Type u} {a b : α} (h : some a = some b) : a = b := Option.some.inj h
theorem nl0_ {n m : Nat} (h : Nat.ble n m = true) : n ≤ m := Nat.le_of_ble_eq_true h
theorem hide {g : Prop} (h : ∀ P : Prop, (g -> P) -> P) : g := h g id

inductive qta (p : Value -> Prop) (q : List Value -> Prop) (ws : List Value) : Prop
 | mk (y : Value) (ys : List Value) (e : ws = y :: ys) (a : p y) (b : q ys)
inductive V where
 | none | bool (b : Bool) | int (i : Int) | str (x : Str) | ref (a : Addr) | tup (vs : List V) | imm (v : Value)
 | rng (n : Nat) | vals (d : Addr)

mutual
def VR (h : Heap) : V -> Value -> Prop
 | .none, v => v = .none
 | .bool b, v => v = .bool b
 | .int i, v => ∃ t, v = .int i t
 | .str x, v => ∃ t, v = .str x t
 | .ref a, v => v = .ref a
 | .imm u, v => v = u
 | .tup vs, v => ∃ a ws, v = .ref a ∧ h.IsTuple a ws ∧ VRs h vs ws.toList
 | .rng n, v => ∃ a t u w, v = .ref a ∧ IsRange h a 0 n 1 t u w ∧ n < 1000000
 | .vals d, v => ∃ a, v = .ref a ∧ h.IsValuesView a d
def VRs (h : Heap) : List V -> List Value -> Prop
 | [], ws => ws = []
 | x :: xs, ws => qta (VR h x) (VRs h xs) ws
end

set_option genInjectivity true in
inductive AO where
 | list (vs : List V)
 | dict (kvs : List (Str × V)) (ep : Nat)
 | inst (c d : Addr)
 | ns (fs : List (Str × V))
 | slots (c d : Addr) (fs : List (Option V))
 | set (xs : List Str)
 | iter (l : Addr) (i : Nat)
 | next (it : Addr)

abbrev AH := Addr -> Option AO
abbrev Map := Str -> Option V

structure Cx where
 prog : Program
 w : World
 g : Heap
 os : OsState × Drawn

abbrev Cx.M (c : Cx) : Model := model c.prog c.w

def OptR (h : Heap) : Option V -> Option Value -> Prop
 | none, y => y = none
 | some x, y => ∃ v, y = some v ∧ VR h x v

def OR (c : Cx) (h : Heap) (a : Addr) : AO -> Prop
 | .list vs => ∃ items n, h.get? a = some (listOf items n) ∧ VRs h vs items.toList
 | .dict kvs ep => ∃ ys, h.DictAt (strKind c.prog c.w) a ys ep ∧ ys.map (·.1) = kvs.map (·.1) ∧ VRs h (kvs.map (·.2)) (ys.map (·.2)) ∧ (a == sysModules) = false
 | .inst k d => h.get? a = some (instObj k d)
 | .ns fs => ∃ es n, h.get? a = some (dictOf es n) ∧ Paired (fun f e => (∃ t, e.key = Value.str f.1 t) ∧ VR h f.2 e.val) fs es
 | .slots k d fs => ∃ sl, h.get? a = some { cls := .ref k, dict := some d, data := .plain, slots := sl } ∧ Paired (OptR h) fs sl.toList
 | .set xs => ∃ S, h.SetOf (strKind c.prog c.w) a S xs.length ∧ (∀ x, S x = true ↔ x ∈ xs) ∧ xs.Nodup
 | .iter l i => h.get? a = some { cls := .type "list_iterator", data := .fields #[.ref l, .int i 0] }
 | .next it => h.get? a = some { cls := .type "method-wrapper", data := .fields #[.builtin "list_iterator.__next__", .ref it] }

def Kp (o o' : Obj) : Prop := o' = o ∨ ((∃ es n, o.data = .dict es n) ∧ ∃ sl, o' = { o with slots := sl })
theorem Kp.refl (o : Obj) : Kp o o := .inl rfl
theorem Kp.trans {a b c : Obj} (x : Kp a b) (y : Kp b c) : Kp a c := by
 rcases x with rfl | ⟨⟨es, n, hd⟩, sl, rfl⟩
 . exact y
 . rcases y with rfl | ⟨_, sl', rfl⟩
   . exact .inr ⟨⟨es, n, hd⟩, sl, rfl⟩
   . exact .inr ⟨⟨es, n, hd⟩, sl', rfl⟩
theorem Kp.data {a b : Obj} (x : Kp a b) : b.data = a.data ∧ b.cls = a.cls ∧ b.dict = a.dict := by
 rcases x with rfl | ⟨_, sl, rfl⟩ <;> exact ⟨rfl, rfl, rfl⟩
theorem Kp.eq {a b : Obj} (x : Kp a b) (h : ∀ es n, a.data ≠ .dict es n) : b = a := by
 rcases x with rfl | ⟨⟨es, n, hd⟩, _⟩
 . rfl
 . exact absurd hd (h es n)

structure Rep (c : Cx) (H : AH) (s : Shared) : Prop where
 keep : ∀ b o, c.g.get? b = some o -> s.heap.get? b = some o
 gens : s.gens = #[]
 os : (s.os, s.drawn) = c.os
 at_ : ∀ a o, H a = some o -> OR c s.heap a o
 new : ∀ a o, H a = some o -> c.g.get? a = none

structure Step (H : AH) (s : Shared) (H' : AH) (s' : Shared) : Prop where
 kept : ∀ b o, s.heap.get? b = some o -> H b = none -> ∃ o', s'.heap.get? b = some o' ∧ Kp o o'
 new : ∀ b o, H' b = some o -> H b = none -> s.heap.get? b = none
 alive : ∀ b o, s.heap.get? b = some o -> ∃ o', s'.heap.get? b = some o'

theorem Step.refl (H : AH) (s : Shared) : Step H s H s := ⟨fun b o e _ => ⟨o, e, .refl o⟩, (fun b o e n => by rw [n] at e; exact nomatch e), fun b o e => ⟨o, e⟩⟩
theorem Step.free {H H' : AH} {s s' : Shared} (x : Step H s H' s') {b : Addr} {ob : Obj} (hb : H b = none) (hlt : s.heap.get? b = some ob) : H' b = none := by
 cases e : H' b with
 | none => rfl
 | some o => rw [x.new b o e hb] at hlt; exact nomatch hlt
theorem Step.old {H H' : AH} {s s' : Shared} (x : Step H s H' s') {b : Addr} (h : s'.heap.get? b = none) : s.heap.get? b = none := by
 cases e : s.heap.get? b with
 | none => rfl
 | some o => obtain ⟨o', e'⟩ := x.alive b o e; rw [h] at e'; exact nomatch e'
theorem Step.trans {HJ HW HY : AH} {sJ sW sY : Shared} (x : Step HJ sJ HW sW) (y : Step HW sW HY sY) : Step HJ sJ HY sY := by
 refine ⟨fun b o e n => ?_, fun b o e n => ?_, fun b o e => ?_⟩
 . obtain ⟨o', e', k⟩ := x.kept b o e n; obtain ⟨o'', e'', k'⟩ := y.kept b o' e' (x.free n e); exact ⟨o'', e'', k.trans k'⟩
 . cases e2 : HW b with
   | none => exact x.old (y.new b o e e2)
   | some o2 => exact x.new b o2 e2 n
 . obtain ⟨o', e'⟩ := x.alive b o e; exact y.alive b o' e'
theorem Step.of_keeps {H H' : AH} {s s' : Shared} (k : ∀ b o, s.heap.get? b = some o -> s'.heap.get? b = some o) (hn : ∀ b o, H' b = some o -> H b = none -> s.heap.get? b = none) : Step H s H' s' :=
 ⟨fun b o e _ => ⟨o, k b o e, .refl o⟩, hn, fun b o e => ⟨o, k b o e⟩⟩

def qb0 : Value -> Bool
 | .type n => n == "tuple" || n == "range" || n == "dict_values"
 | _ => false
def qkw : Data -> Bool
 | .seq _ _ => true
 | .fields _ => true
 | _ => false
def TK (h h' : Heap) : Prop := ∀ a o, h.get? a = some o -> qb0 o.cls = true -> qkw o.data = true -> h'.get? a = some o
theorem TK.refl (h : Heap) : TK h h := fun _ _ x _ _ => x
theorem TK.trans {a b c : Heap} (x : TK a b) (y : TK b c) : TK a c := fun t o z h1 h2 => y t o (x t o z h1 h2) h1 h2
theorem TK.of_keeps {h h' : Heap} (k : ∀ b o, h.get? b = some o -> h'.get? b = some o) : TK h h' := fun a o e _ _ => k a o e
theorem TK.tup {h h' : Heap} (k : TK h h') {a : Addr} {ws : Array Value} : h.IsTuple a ws -> h'.IsTuple a ws := fun ⟨o, e, hc, n, hd⟩ => ⟨o, k a o e (by rw [hc]; rfl) (by rw [hd]; rfl), hc, n, hd⟩
theorem TK.range {h h' : Heap} (k : TK h h') {r : Addr} {a b c : Int} {t u v : Tok} (x : IsRange h r a b c t u v) : IsRange h' r a b c t u v := k r _ x rfl rfl
theorem TK.values {h h' : Heap} (k : TK h h') {a d : Addr} : h.IsValuesView a d -> h'.IsValuesView a d := fun ⟨o, e, hc, hd⟩ => ⟨o, k a o e (by rw [hc]; rfl) (by rw [hd]; rfl), hc, hd⟩
theorem qhv {d : Data} (h : qkw d = true) : ∀ es n, d ≠ .dict es n := fun es n q => by rw [q] at h; exact nomatch h

mutual
theorem VR.mono {h h' : Heap} (k : TK h h') : ∀ {x : V} {v : Value}, VR h x v -> VR h' x v
 | .none, _, e => e
 | .bool _, _, e => e
 | .int _, _, e => e
 | .str _, _, e => e
 | .ref _, _, e => e
 | .imm _, _, e => e
 | .tup vs, _, e => by
   obtain ⟨a, ws, e1, e2, e3⟩ := e; exact ⟨a, ws, e1, k.tup e2, VRs.mono k e3⟩
 | .rng n, _, e => by
   obtain ⟨a, t, u, w, e1, e2, e3⟩ := e; exact ⟨a, t, u, w, e1, k.range e2, e3⟩
 | .vals d, _, e => by
   obtain ⟨a, e1, e2⟩ := e; exact ⟨a, e1, k.values e2⟩
theorem VRs.mono {h h' : Heap} (k : TK h h') : ∀ {xs : List V} {vs : List Value}, VRs h xs vs -> VRs h' xs vs
 | [], _, e => e
 | x :: xs, _, e => by
   obtain ⟨y, ys, rfl, e1, e2⟩ := e; exact ⟨y, ys, rfl, VR.mono k e1, VRs.mono k e2⟩
end

theorem VRs.length {h : Heap} : ∀ {xs : List V} {vs : List Value}, VRs h xs vs -> xs.length = vs.length := by
 intro xs
 induction xs with
 | nil =>
   intro _ e; obtain rfl := e; rfl
 | cons x xs ih =>
   intro _ e; obtain ⟨y, ys, rfl, _, b⟩ := e; simp [ih b]
theorem VRs.append {h : Heap} : ∀ {xs : List V} {vs : List Value} {ys : List V} {us : List Value}, VRs h xs vs -> VRs h ys us -> VRs h (xs ++ ys) (vs ++ us) := by
 intro xs
 induction xs with
 | nil =>
   intro _ _ _ e f; obtain rfl := e; exact f
 | cons x xs ih =>
   intro _ _ _ e f; obtain ⟨y, ys', rfl, a, b⟩ := e; exact ⟨y, _, rfl, a, ih b f⟩
theorem VRs.get {h : Heap} : ∀ {xs : List V} {vs : List Value}, VRs h xs vs -> ∀ {i : Nat} {x : V}, xs[i]? = some x -> ∃ v, vs[i]? = some v ∧ VR h x v := by
 intro xs
 induction xs with
 | nil => exact fun _ _ _ h => nomatch h
 | cons x xs ih =>
   intro vs e i x' hx; obtain ⟨y, ys, rfl, a, b⟩ := e; cases i with
   | zero => obtain rfl := sj0_ hx; exact ⟨y, rfl, a⟩
   | succ i => exact ih b hx
theorem VRs.get' {h : Heap} : ∀ {xs : List V} {vs : List Value}, VRs h xs vs -> ∀ {i : Nat} {v : Value}, vs[i]? = some v -> ∃ x, xs[i]? = some x ∧ VR h x v := by
 intro xs
 induction xs with
 | nil => intro vs e i v h; obtain rfl := e; exact nomatch h
 | cons x xs ih =>
   intro vs e i v hx; obtain ⟨y, ys, rfl, a, b⟩ := e; cases i with
   | zero => obtain rfl := sj0_ hx; exact ⟨x, rfl, a⟩
   | succ i => exact ih b hx
theorem VRs.split {h : Heap} : ∀ {xs : List V} {vs : List Value} {ys : List V}, VRs h (xs ++ ys) vs -> ∃ us ws, vs = us ++ ws ∧ VRs h xs us ∧ VRs h ys ws := by
 intro xs
 induction xs with
 | nil =>
   intro vs ys e; exact ⟨[], vs, rfl, rfl, e⟩
 | cons x xs ih =>
   intro _ ys e; obtain ⟨y, ys', rfl, a, b⟩ := e; obtain ⟨us, ws, rfl, c, d⟩ := ih b; exact ⟨y :: us, ws, rfl, ⟨y, us, rfl, a, c⟩, d⟩

theorem qdp {α β : Type} {F F' : α -> β -> Prop} (hf : ∀ a b, F a b -> F' a b) : ∀ {lJ : List α} {lW : List β}, Paired F lJ lW -> Paired F' lJ lW := by
 intro lJ lW h
 induction h with
 | nil => exact .nil
 | cons h _ ih => exact .cons (hf _ _ h) ih
theorem OptR.mono {h h' : Heap} (k : TK h h') {x : Option V} {y : Option Value} (e : OptR h x y) : OptR h' x y := by
 cases x with
 | none => exact e
 | some x => obtain ⟨v, rfl, b⟩ := e; exact ⟨v, rfl, b.mono k⟩

theorem OR.mono {c : Cx} {h h' : Heap} {a : Addr} (k : TK h h') (ho : h'.get? a = h.get? a) : ∀ {o : AO}, OR c h a o -> OR c h' a o := by
 intro o z; refine hide fun Pz bkz => ?_; cases o with
 | list vs => obtain ⟨items, n, e, r⟩ := z; exact bkz ⟨items, n, ho.trans e, r.mono k⟩
 | dict kvs ep => obtain ⟨ys, ⟨o, es, e, r⟩, hk, hv, hs⟩ := z; exact bkz ⟨ys, ⟨o, es, ho.trans e, r⟩, hk, hv.mono k, hs⟩
 | inst _ _ => exact bkz (ho.trans z)
 | ns fs => obtain ⟨es, n, e, r⟩ := z; exact bkz ⟨es, n, ho.trans e, qdp (fun _ _ z => ⟨z.1, z.2.mono k⟩) r⟩
 | slots _ _ _ => obtain ⟨sl, e, r⟩ := z; exact bkz ⟨sl, ho.trans e, qdp (fun _ _ x => x.mono k) r⟩
 | set xs => obtain ⟨S, e, r⟩ := z; exact bkz ⟨S, by unfold Heap.SetOf at e ⊢; simpa only [ho] using e, r⟩
 | iter _ _ => exact bkz (ho.trans z)
 | next _ => exact bkz (ho.trans z)

theorem OR.there {c : Cx} {h : Heap} {a : Addr} : ∀ {o : AO}, OR c h a o -> ∃ ob, h.get? a = some ob ∧ qb0 ob.cls = false := by
 intro o z; refine hide fun Pz bkz => ?_; cases o with
 | list _ => obtain ⟨_, _, e, _⟩ := z; exact bkz ⟨_, e, rfl⟩
 | dict _ _ => obtain ⟨_, ⟨o, _, e, x, _⟩, _⟩ := z; exact bkz ⟨o, e, by rw [x.1]; rfl⟩
 | inst _ _ => exact bkz ⟨_, z, rfl⟩
 | ns _ => obtain ⟨_, _, e, _⟩ := z; exact bkz ⟨_, e, rfl⟩
 | slots _ _ _ => obtain ⟨_, e, _⟩ := z; exact bkz ⟨_, e, rfl⟩
 | set _ => obtain ⟨_, ⟨o, _, _, _, e, q, _⟩, _⟩ := z; exact bkz ⟨o, e, by rw [q.1]; rfl⟩
 | iter _ _ => exact bkz ⟨_, z, rfl⟩
 | next _ => exact bkz ⟨_, z, rfl⟩

def upd (H : AH) (a : Addr) (o : AO) : AH := fun b => if b = a then some o else H b
theorem qai (H : AH) (a : Addr) (o : AO) : upd H a o a = some o := if_pos rfl
theorem qa5 (H : AH) {a b : Addr} (o : AO) (h : b ≠ a) : upd H a o b = H b := if_neg h

theorem Rep.there {c : Cx} {H : AH} {s : Shared} (R : Rep c H s) {a : Addr} {o : AO} (e : H a = some o) : ∃ ob, s.heap.get? a = some ob ∧ qb0 ob.cls = false := (R.at_ a o e).there
theorem Rep.lt {c : Cx} {H : AH} {s : Shared} (R : Rep c H s) {a : Addr} {o : AO} (e : H a = some o) : a < s.heap.objs.size := by
 obtain ⟨_, x, _⟩ := R.there e; exact Heap.lt_size x
theorem Rep.free {c : Cx} {H : AH} {s : Shared} (R : Rep c H s) {a : Addr} (h : s.heap.objs.size ≤ a) : H a = none := by
 cases e : H a with
 | none => rfl
 | some o => exact absurd (R.lt e) (Nat.not_lt.mpr h)
theorem Rep.imm {c : Cx} {H : AH} {s : Shared} (R : Rep c H s) {a : Addr} {o : Obj} (e : s.heap.get? a = some o) (hc : qb0 o.cls = true) : H a = none := by
 cases z : H a with
 | none => rfl
 | some ao =>
   obtain ⟨ob, e', hne⟩ := R.there z; rw [e] at e'; obtain rfl := sj0_ e'; rw [hc] at hne; exact nomatch hne
theorem Rep.tk {c : Cx} {H H' : AH} {s s' : Shared} (R : Rep c H s) (x : Step H s H' s') : TK s.heap s'.heap := by
 intro a o e hc hd; obtain ⟨o', e', k⟩ := x.kept a o e (R.imm e hc); rw [k.eq (qhv hd)] at e'; exact e'
theorem Rep.silent {c : Cx} {H : AH} {s s' : Shared} (R : Rep c H s) (k : ∀ b o, s.heap.get? b = some o -> s'.heap.get? b = some o) (hg : s'.gens = s.gens) (ho : (s'.os, s'.drawn) = (s.os, s.drawn)) : Rep c H s' :=
 ⟨fun b o e => k b o (R.keep b o e), hg.trans R.gens, ho.trans R.os, fun a o e => by
   obtain ⟨ob, x, _⟩ := R.there e; exact (R.at_ a o e).mono (TK.of_keeps k) ((k _ _ x).trans x.symm), R.new⟩
theorem Step.silent {H : AH} {s s' : Shared} (k : ∀ b o, s.heap.get? b = some o -> s'.heap.get? b = some o) : Step H s H s' :=
 .of_keeps k (fun b o e n => by rw [n] at e; exact nomatch e)
theorem Rep.toks {c : Cx} {H : AH} {s : Shared} (R : Rep c H s) (t : Nat) : Rep c H { s with toks := t } := R.silent (fun _ _ e => e) rfl rfl
theorem Step.toks (H : AH) (s : Shared) (t : Nat) : Step H s H { s with toks := t } := .silent (fun _ _ e => e)
theorem Rep.push0 {c : Cx} {H : AH} {s : Shared} (R : Rep c H s) (o : Obj) (t : Nat) : Rep c H { s with heap := s.heap.push o, toks := t } := R.silent (fun _ _ e => Heap.get?_push_of_some _ e) rfl rfl
theorem Step.push0 (H : AH) (s : Shared) (o : Obj) (t : Nat) : Step H s H { s with heap := s.heap.push o, toks := t } := .silent (fun _ _ e => Heap.get?_push_of_some _ e)
theorem Rep.add {c : Cx} {H : AH} {s : Shared} (R : Rep c H s) {a : Addr} {ao : AO} (ha : c.g.get? a = none) (h : OR c s.heap a ao) : Rep c (upd H a ao) s := by
 refine ⟨R.keep, R.gens, R.os, fun b x e => ?_, fun b x e => ?_⟩
 . unfold upd at e; split at e
   . rename_i q; obtain rfl := sj0_ e; subst q; exact h
   . exact R.at_ b x e
 . unfold upd at e; split at e
   . rename_i q; subst q; exact ha
   . exact R.new b x e
theorem Step.add {H H' : AH} {s s' : Shared} (x : Step H s H' s') {a : Addr} {ao : AO} (ha : H a = none -> s.heap.get? a = none) : Step H s (upd H' a ao) s' :=
 ⟨x.kept, fun b o e n => by
   unfold upd at e; split at e
   . rename_i q; subst q; exact ha n
   . exact x.new b o e n, x.alive⟩
theorem Rep.fresh {c : Cx} {H : AH} {s : Shared} (R : Rep c H s) {a : Addr} (h : s.heap.get? a = none) : H a = none := by
 cases e : H a with
 | none => rfl
 | some o => obtain ⟨_, x, _⟩ := R.there e; rw [h] at x; exact nomatch x
theorem Rep.gnone {c : Cx} {H : AH} {s : Shared} (R : Rep c H s) {a : Addr} (h : s.heap.get? a = none) : c.g.get? a = none := by
 cases e : c.g.get? a with
 | none => rfl
 | some o => rw [R.keep a o e] at h; exact nomatch h
theorem get?_size (h : Heap) : h.get? h.objs.size = none := Heap.get?_none_of_le (le_refl _)
theorem Rep.push {c : Cx} {H : AH} {s : Shared} (R : Rep c H s) (o : Obj) (t : Nat) (ao : AO) (h : OR c (s.heap.push o) s.heap.objs.size ao) : Rep c (upd H s.heap.objs.size ao) { s with heap := s.heap.push o, toks := t } :=
 (R.push0 o t).add (R.gnone (get?_size _)) h
theorem Step.push (H : AH) (s : Shared) (o : Obj) (t : Nat) (ao : AO) : Step H s (upd H s.heap.objs.size ao) { s with heap := s.heap.push o, toks := t } :=
 (Step.push0 H s o t).add fun _ => get?_size _
theorem Rep.put {c : Cx} {H : AH} {s : Shared} (R : Rep c H s) {a : Addr} {o ao : AO} {h' : Heap} {t : Nat} (e : H a = some o) (hs : ∀ b o, b ≠ a -> s.heap.get? b = some o -> h'.get? b = some o) (h : OR c h' a ao) : Rep c (upd H a ao) { s with heap := h', toks := t } := by
 have tk : TK s.heap h' := by
   intro b ob e1 hc hd; refine hs b _ (fun q => ?_) e1; subst q; rw [R.imm e1 hc] at e; exact nomatch e
 refine ⟨fun b x q => hs b _ (fun z => ?_) (R.keep b x q), R.gens, R.os, fun b x q => ?_, fun b x q => ?_⟩
 . subst z; rw [R.new _ _ e] at q; exact nomatch q
 . unfold upd at q; split at q
   . rename_i z; obtain rfl := sj0_ q; subst z; exact h
   . rename_i z; obtain ⟨o2, e2, _⟩ := R.there q; exact (R.at_ b x q).mono tk ((hs b _ z e2).trans e2.symm)
 . unfold upd at q; split at q
   . rename_i z; subst z; exact R.new _ _ e
   . exact R.new b x q
theorem Step.put {c : Cx} {H : AH} {s : Shared} {a : Addr} {o ao : AO} {h' : Heap} {t : Nat} (e : H a = some o) (hs : ∀ b o, b ≠ a -> s.heap.get? b = some o -> h'.get? b = some o) (h : OR c h' a ao) : Step H s (upd H a ao) { s with heap := h', toks := t } := by
 refine ⟨fun b ob q n => ⟨ob, hs b _ (fun z => ?_) q, .refl _⟩, fun b ob q n => ?_, fun b ob q => ?_⟩
 . subst z; rw [n] at e; exact nomatch e
 . unfold upd at q; split at q
   . rename_i z; subst z; rw [n] at e; exact nomatch e
   . rw [n] at q; exact nomatch q
 . by_cases z : b = a
   . subst z; obtain ⟨o2, e2, _⟩ := h.there; exact ⟨o2, e2⟩
   . exact ⟨ob, hs b _ z q⟩
theorem Rep.less {c : Cx} {H H' : AH} {s : Shared} (R : Rep c H s) (h : ∀ a o, H' a = some o -> H a = some o) : Rep c H' s :=
 ⟨R.keep, R.gens, R.os, fun a o e => R.at_ a o (h a o e), fun a o e => R.new a o (h a o e)⟩
theorem qat {α β : Type} [BEq α] [LawfulBEq α] : ∀ {l : List (α × β)} {x : α} {k : β}, l.lookup x = some k -> (x, k) ∈ l := by
 intro l
 induction l with
 | nil =>
   intro _ _ h; simp at h
 | cons pz r ih =>
   obtain ⟨y, b⟩ := pz; intro x k h; rw [lookup_cons] at h; split at h
   . rename_i q; obtain rfl := sj0_ h; rw [beq_iff_eq.mp q]; exact mem_cons_self ..
   . exact mem_cons_of_mem _ (ih h)
structure qaz (c : Cx) (env : Env) (m : Map) (H : AH) (h : Heap) : Prop where
 kind : env.scope.kind = .function
 glob : env.globals = mainGlobals
 bltn : env.builtins = builtinsNs
 loc : ∃ mO, h.Ns env.locals mO ∧ ∀ x v, m x = some v -> env.kindOf x = some .local -> ∃ u, mO x = some u ∧ VR h v u
 cel : ∀ x v, m x = some v -> env.kindOf x ≠ some .local -> (env.kindOf x = some .cell ∨ env.kindOf x = some .free) ∧ ∃ k u, env.cells.lookup x = some k ∧ h.IsCell k (some u) ∧ VR h v u
 free : H env.locals = none
 low : c.g.get? env.locals = none
 cfree : ∀ k ∈ env.cells, H k.2 = none ∧ (∃ vO, h.IsCell k.2 vO) ∧ c.g.get? k.2 = none
 nd : (env.cells.map (·.2)).Nodup

theorem qaz.step {c : Cx} {env : Env} {m : Map} {H H' : AH} {s s' : Shared} (F : qaz c env m H s.heap) (R : Rep c H s) (x : Step H s H' s') : qaz c env m H' s'.heap := by
 have tk := R.tk x; refine hide fun Pz bkz => ?_; obtain ⟨mO, ⟨oL, es, ep, hL, hLd, hr⟩, hm⟩ := F.loc; obtain ⟨oL', hL', k⟩ := x.kept _ _ hL F.free; refine bkz ?_; refine ⟨F.kind, F.glob, F.bltn, ⟨mO, ⟨oL', es, ep, hL', k.data.1.trans hLd, hr⟩, fun y v e hk => ?_⟩, fun y v e hk => ?_, x.free F.free hL, F.low, (fun k hk => ?_), F.nd⟩
 . obtain ⟨u, a, b⟩ := hm y v e hk; exact ⟨u, a, b.mono tk⟩
 . refine hide fun Pz bkz => ?_; obtain ⟨hk', k, u, a, ⟨ok, ek, dk⟩, b⟩ := F.cel y v e hk; have hH := (F.cfree (y, k) (qat a)).1; obtain ⟨ok', ek', kk⟩ := x.kept _ _ ek hH; refine bkz ?_; exact ⟨hk', k, u, a, ⟨ok', ek', kk.data.1.trans dk⟩, b.mono tk⟩
 . refine hide fun Pz bkz => ?_; obtain ⟨a, ⟨vO, o, e, b⟩, d⟩ := F.cfree k hk; obtain ⟨o', e', kk⟩ := x.kept _ _ e a; refine bkz ?_; exact ⟨x.free a e, ⟨vO, o', e', kk.data.1.trans b⟩, d⟩

inductive Md where
 | quiet | held | loose
structure Ok (c : Cx) (q : Md) (d : Nat) (A : Around) (H : AH) (h : Heap) : Prop where
 depth : A.depth + 5 * d ≤ 900
 units : A.units + 50 * d ≤ 9000
 quiet : q = .quiet -> A.handled = none
 hnd : q = .held -> ∃ a ob vs, A.handled = some (.ref a) ∧ H a = none ∧ h.get? a = some ob ∧ ob.data = .fields vs ∧ vs[2]? = some .none
 stack : ∃ l, A.frames = some l ∧ h.FunFrames c.g l ∧ ∀ e ∈ l, ∀ L, e.frame = some L -> H L = none ∧ ∃ o es n, h.get? L = some o ∧ o.data = .dict es n
theorem qem {c : Cx} {H H' : AH} {h h' : Heap} : ∀ {l : List Env} (k : ∀ e ∈ l, ∀ L, e.frame = some L -> ∀ o, h.get? L = some o -> H L = none -> ∃ o', h'.get? L = some o' ∧ Kp o o') (hn : ∀ b o, H b = none -> h.get? b = some o -> H' b = none),
   h.FunFrames c.g l -> (∀ e ∈ l, ∀ L, e.frame = some L -> H L = none ∧ ∃ o es n, h.get? L = some o ∧ o.data = .dict es n) -> h'.FunFrames c.g l ∧ ∀ e ∈ l, ∀ L, e.frame = some L -> H' L = none ∧ ∃ o es n, h'.get? L = some o ∧ o.data = .dict es n
 := by
 intro l
 induction l with
 | nil => exact fun _ _ _ _ => ⟨trivial, fun _ h => nomatch h⟩
 | cons e l ih0 =>
   intro k hn hz hH; refine hide fun Pz bkz => ?_; obtain ⟨hk, ⟨L, o, hf, hn', ho, hd⟩, r⟩ := hz; have ih := ih0 (fun e' he => k e' (.tail _ he)) hn r fun e' he => hH e' (.tail _ he); obtain ⟨hL, oW, es, n, hoW, hd₂⟩ := hH e (.head _) L hf; rw [ho] at hoW; obtain rfl := sj0_ hoW; obtain ⟨o', ho', k'⟩ := k e (.head _) L hf o ho hL; refine bkz ?_; refine ⟨⟨hk, ⟨L, o', hf, hn', ho', fun vs q => hd vs (k'.data.1.symm.trans q)⟩, ih.1⟩, fun e' he L' hf' => ?_⟩; rcases mem_cons.mp he with rfl | he
   . rw [hf] at hf'; obtain rfl := sj0_ hf'; exact ⟨hn _ _ hL ho, o', es, n, ho', k'.data.1.trans hd₂⟩
   . exact ih.2 e' he L' hf'
theorem Ok.step {c : Cx} {q : Md} {d : Nat} {A : Around} {H H' : AH} {s s' : Shared} (O : Ok c q d A H s.heap) (x : Step H s H' s') : Ok c q d A H' s'.heap := by
 obtain ⟨l, a, b, e⟩ := O.stack; obtain ⟨b', e'⟩ := qem (fun _ _ b _ o ho hH => x.kept b o ho hH) (fun b o hb hlt => x.free hb hlt) b e; refine ⟨O.depth, O.units, O.quiet, fun hq => ?_, l, a, b', e'⟩; refine hide fun Pz bkz => ?_; obtain ⟨a, ob, vs, h1, h2, h3, h4, h5⟩ := O.hnd hq; obtain ⟨o', e', k⟩ := x.kept a ob h3 h2; refine bkz ?_; exact ⟨a, o', vs, h1, x.free h2 h3, e', k.data.1.trans h4, h5⟩

structure BRep (c : Cx) (q : Md) (d : Nat) (A : Around) (H : AH) (s : Shared) : Prop where
 rep : Rep c H s
 ok : Ok c q d A H s.heap
theorem BRep.step {c : Cx} {q : Md} {d : Nat} {A : Around} {H H' : AH} {s s' : Shared} (B : BRep c q d A H s) (R : Rep c H' s') (x : Step H s H' s') : BRep c q d A H' s' := ⟨R, B.ok.step x⟩
structure FRep (c : Cx) (q : Md) (d : Nat) (A : Around) (env : Env) (m : Map) (H : AH) (s : Shared) : Prop extends BRep c q d A H s where
 fr : qaz c env m H s.heap
theorem FRep.step {c : Cx} {q : Md} {d : Nat} {A : Around} {env : Env} {m : Map} {H H' : AH} {s s' : Shared} (F : FRep c q d A env m H s) (R : Rep c H' s') (x : Step H s H' s') : FRep c q d A env m H' s' :=
 ⟨F.toBRep.step R x, F.fr.step F.rep x⟩

inductive Exc where
 | b (n : String)
 | own (a : Addr)
 | ch (n : String)
def Exc.cls : Exc -> Value
 | .b n => .type n
 | .own a => .ref a
 | .ch n => .type n
def Exc.plain : Exc -> Bool
 | .ch _ => false
 | _ => true
inductive TbR (fl : Option Addr) (h₀ : Heap) (H : AH) (h : Heap) (e : Addr) (tb : Value) : Prop
 | mk (T : Addr) (oT : Obj) (ts : Array Value) (a : tb = .ref T) (b : T ≠ e) (c : h₀.get? T = none) (d : H T = none) (f : h.get? T = some oT) (g : qb0 oT.cls = false ∧ oT.data = .fields ts) (r : ts[3]? = some .none ∨ ∃ L, fl = some L ∧ ts[3]? = some (rawInt L))
inductive ExcR (fl : Option Addr) (h₀ : Heap) (H : AH) (h : Heap) (k : Exc) (ex : Value) : Prop
 | mk (e : Addr) (ob : Obj) (vs : Array Value) (tb : Value) (a : ex = .ref e) (b : h₀.get? e = none) (c : H e = none) (d : h.get? e = some ob) (f : ob.cls = k.cls ∧ qb0 k.cls = false ∧ (k.plain = true -> vs[2]? = some .none)) (g : ob.data = .fields vs) (i : vs[1]? = some tb) (j : tb = .none ∨ TbR fl h₀ H h e tb)

inductive OutE (c : Cx) (H : AH) (s : Shared) (P : V -> AH -> Prop) (v : Value) (s' : Shared) : Prop
 | mk (x : V) (H' : AH) (a : P x H') (b : VR s'.heap x v) (r : Rep c H' s') (z : Step H s H' s')
inductive OutX (c : Cx) (fl : Option Addr) (H : AH) (s : Shared) (X : Exc -> AH -> Prop) (ex : Value) (s' : Shared) : Prop
 | mk (k : Exc) (H' : AH) (a : X k H') (b : ExcR fl s.heap H' s'.heap k ex) (r : Rep c H' s') (z : Step H s H' s')
theorem OutE.from {c : Cx} {H HJ : AH} {s sJ : Shared} {P : V -> AH -> Prop} (x : Step H s HJ sJ) {v : Value} {s' : Shared} (o : OutE c HJ sJ P v s') : OutE c H s P v s' := by
 obtain ⟨y, H', a, b, r, z⟩ := o; exact ⟨y, H', a, b, r, x.trans z⟩
theorem ExcR.from {fl : Option Addr} {h₀ h₁ : Heap} {H : AH} {h : Heap} {k : Exc} {ex : Value} (hold : ∀ b, h₁.get? b = none -> h₀.get? b = none) (x : ExcR fl h₁ H h k ex) : ExcR fl h₀ H h k ex := by
 obtain ⟨e, ob, vs, tb, a, b, c, d, f, g, i, j⟩ := x; refine ⟨e, ob, vs, tb, a, hold e b, c, d, f, g, i, j.imp id ?_⟩; rintro ⟨T, oT, ts, a, b, n, hH, hT, hd, r⟩; exact ⟨T, oT, ts, a, b, hold T n, hH, hT, hd, r⟩
theorem OutX.from {c : Cx} {fl : Option Addr} {H HJ : AH} {s sJ : Shared} {X : Exc -> AH -> Prop} (x : Step H s HJ sJ) {v : Value} {s' : Shared} (o : OutX c fl HJ sJ X v s') : OutX c fl H s X v s' := by
 obtain ⟨y, H', a, b, r, z⟩ := o; exact ⟨y, H', a, b.from fun _ h => x.old h, r, x.trans z⟩
theorem OutE.mono {c : Cx} {H : AH} {s : Shared} {P P' : V -> AH -> Prop} (h : ∀ x H', P x H' -> P' x H') {v : Value} {s' : Shared} (o : OutE c H s P v s') : OutE c H s P' v s' := by
 obtain ⟨y, H', a, b, r, z⟩ := o; exact ⟨y, H', h _ _ a, b, r, z⟩
abbrev awT (c : Cx) (A : Around) (fl : Option Addr) (t : Sem Value) (H : AH) (P : V -> AH -> Prop) (X : Exc -> AH -> Prop) (s : Shared) : Prop := wpAny c.M A t (OutE c H s P) (OutX c fl H s X) s
theorem awT.from {c : Cx} {A : Around} {fl : Option Addr} {t : Sem Value} {H HJ : AH} {s sJ : Shared} {P : V -> AH -> Prop} {X : Exc -> AH -> Prop} (x : Step H s HJ sJ) (h : awT c A fl t HJ P X sJ) : wpAny c.M A t (OutE c H s P) (OutX c fl H s X) sJ :=
 wpAny_mono h (fun _ _ => OutE.from x) fun _ _ => OutX.from x
def awE (c : Cx) (q : Md) (d : Nat) (A : Around) (env : Env) (e : Expr) (m : Map) (H : AH) (P : V -> AH -> Prop) (X : Exc -> AH -> Prop) : Prop :=
 ∀ s, FRep c q d A env m H s -> awT c A env.frame (eval e env) H P X s
def awO (c : Cx) (q : Md) (d : Nat) (A : Around) (fl : Option Addr) (t : List Value -> Sem Value) (xs : List V) (H : AH) (P : V -> AH -> Prop) (X : Exc -> AH -> Prop) : Prop :=
 ∀ s vs, BRep c q d A H s -> VRs s.heap xs vs -> awT c A fl (t vs) H P X s
structure Gd (K : Frag) (p : Program) (loose : List Str) (mg mb : Str -> Option Value) (h : Heap) : Prop where
 X : K.In h
 T : TopRead p loose mg mb h
 sm : ∃ b o, sysModules < b ∧ h.get? b = some o
theorem Gd.notSm {K : Frag} {p : Program} {loose : List Str} {mg mb : Str -> Option Value} {g h : Heap} (G : Gd K p loose mg mb g) (k : ∀ b o, g.get? b = some o -> h.get? b = some o) : (h.objs.size == sysModules) = false := by
 obtain ⟨b, o, hb, e⟩ := G.sm; exact beq_eq_false_iff_ne.mpr (ne_of_gt (lt_trans hb (Heap.lt_size (k b o e))))
abbrev toV : Value -> V
 | .none => .none
 | .bool b => .bool b
 | .int i _ => .int i
 | .str x _ => .str x
 | .ref a => .ref a
 | v => .imm v
theorem VR.toV (h : Heap) (v : Value) : VR h (toV v) v := by
 cases v <;> first | exact rfl | exact ⟨_, rfl⟩

section
variable {c : Cx} {q : Md} {d : Nat} {A : Around} {env : Env} {m : Map} {H : AH} {P : V -> AH -> Prop} {X : Exc -> AH -> Prop} {pos : Pos}
 {K : Frag} {p : Program} {loose : List Str} {mg mb : Str -> Option Value}

theorem OutE.here {s : Shared} {x : V} {v : Value} (R : Rep c H s) (hv : VR s.heap x v) (h : P x H) : OutE c H s P v s := ⟨x, H, h, hv, R, .refl _ _⟩
theorem OutE.tok {s : Shared} {x : V} {v : Value} {t : Nat} (R : Rep c H s) (hv : VR s.heap x v) (h : P x H) : OutE c H s P v { s with toks := t } := ⟨x, H, h, hv, R.toks t, .toks _ _ _⟩

theorem qp8 {x : Str} {v : V} (hm : m x = some v) (h : P v H) (hd : (x == ("__debug__" : Str)) = false) (hc : (x == ("__classdict__" : Str)) = false) : awE c q d A env (.Name x pos) m H P X := by
 intro s F; by_cases hk : env.kindOf x = some .local
 . obtain ⟨mO, hn, hm'⟩ := F.fr.loc; obtain ⟨u, hu, hv⟩ := hm' x v hm hk; exact wpAny_Name (wpAny_loadName_local F.fr.kind hk hn hu (.here F.rep hv h)) hd
 . obtain ⟨hk', k, u, hl, hcell, hv⟩ := F.fr.cel x v hm hk; rcases hk' with hk' | hk'
   . exact wpAny_Name (wpAny_loadName_cell F.fr.kind hk' hl hcell (.here F.rep hv h)) hd
   . exact wpAny_Name (wpAny_loadName_free F.fr.kind hk' hl hcell (.here F.rep hv h) hc) hd
theorem qa4 {x : Str} {v : Value} (G : Gd K p loose mg mb c.g) (hk : env.kindOf x = some .globalImplicit) (e : nsIn K mainGlobals x = some (some v)) (h : P (toV v) H) (hd : (x == ("__debug__" : Str)) = false) : awE c q d A env (.Name x pos) m H P X := by
 intro s F; refine Name_function_global F.fr.kind hk (loadGlobal_global (mg := mg) ?_ (mg_of G.X G.T.g e) (.here F.rep (.toV _ _) h)) hd; rw [F.fr.glob]; exact G.T.g.keeps F.rep.keep
theorem qax {x : Str} {v : Value} (G : Gd K p loose mg mb c.g) (hk : env.kindOf x = some .globalImplicit) (e : nsIn K mainGlobals x = some none) (hv : bootBuiltins x = some v) (hn : x ≠ "__name__") (h : P (toV v) H) (hd : (x == ("__debug__" : Str)) = false) : awE c q d A env (.Name x pos) m H P X := by
 intro s F; refine Name_function_global F.fr.kind hk (loadGlobal_builtin (mg := mg) (mb := mb) ?_ (mg_none_of G.X G.T.g e) ?_ ((G.T.builtins x hn).trans hv) (.here F.rep (.toV _ _) h)) hd
 . rw [F.fr.glob]; exact G.T.g.keeps F.rep.keep
 . rw [F.fr.bltn]; exact G.T.b.keeps F.rep.keep

def qrg : Const -> Option V
 | .none => some .none
 | .bool b => some (.bool b)
 | .int i => some (.int i)
 | .str x => some (.str x)
 | _ => none
theorem qad {k : Const} {n : Nat} {v : V} (hk : qrg k = some v) (h : P v H) : awE c q d A env (.Constant k n pos) m H P X := by
 intro s F; cases k <;> (first | (obtain rfl := sj0_ hk) | cases hk)
 . exact wpAny_Constant_none (.here (x := .none) F.rep rfl h)
 . exact wpAny_Constant_bool (.here (x := .bool _) F.rep rfl h)
 . exact wpAny_Constant_int (.tok (x := .int _) F.rep ⟨_, rfl⟩ h)
 . exact wpAny_Constant_str (.tok (x := .str _) F.rep ⟨_, rfl⟩ h)

theorem qaj {e : Expr} {PJ : V -> AH -> Prop} (h : awE c q d A env e m H PJ X) {s : Shared} (F : FRep c q d A env m H s) {Q : Value -> Shared -> Prop} {E : Value -> Shared -> Prop}
   (k : ∀ x HJ sJ v, PJ x HJ -> FRep c q d A env m HJ sJ -> VR sJ.heap x v -> Step H s HJ sJ -> Q v sJ) (hE : ∀ v s', OutX c env.frame H s X v s' -> E v s') : wpAny c.M A (eval e env) Q E s :=
 wpAny_mono (h s F) (fun v sJ zp0 => by obtain ⟨x, HJ, hp, hv, R, S⟩ := zp0; exact k x HJ sJ v hp (F.step R S) hv S) hE
theorem qka {l r : Expr} {op : Value -> Value -> Sem Value} (h : awE c q d A env l m H (fun x HJ => awE c q d A env r m HJ (fun y HW => awO c q d A env.frame (fun vs => op (vs.getD 0 .none) (vs.getD 1 .none)) [x, y] HW P X) X) X)
   {s : Shared} (F : FRep c q d A env m H s) : wpAny c.M A (eval l env) (fun a sJ => wpAny c.M A (eval r env) (fun b sW => wpAny c.M A (op a b) (OutE c H s P) (OutX c env.frame H s X) sW) (OutX c env.frame H s X) sJ) (OutX c env.frame H s X) s :=
 qaj h F (fun x HJ sJ v hp F₁ hv S => qaj hp F₁ (fun y HW sW u hq FW hu SW => awT.from (S.trans SW) (hq sW [v, u] FW.toBRep ⟨v, [u], rfl, hv.mono (F₁.rep.tk SW), u, [], rfl, hu, rfl⟩)) fun _ _ => OutX.from S) fun _ _ o => o
theorem qnl {l r : Expr} {op : Operator} (h : awE c q d A env l m H (fun x HJ => awE c q d A env r m HJ (fun y HW => awO c q d A env.frame (fun vs => binaryOp op (vs.getD 0 .none) (vs.getD 1 .none)) [x, y] HW P X) X) X) : awE c q d A env (.BinOp l op r pos) m H P X :=
 fun _ F => wpAny_BinOp (qka h F)
theorem qj9 {l r : Expr} {op : CmpOp} (hb : behindInMarks op r = false) (h : awE c q d A env l m H (fun x HJ => awE c q d A env r m HJ (fun y HW => awO c q d A env.frame (fun vs => compareOp op (vs.getD 0 .none) (vs.getD 1 .none)) [x, y] HW P X) X) X) : awE c q d A env (.Compare l [op] [r] pos) m H P X :=
 fun _ F => wpAny_Compare1 (qka h F) hb

inductive OutB (c : Cx) (H : AH) (s : Shared) (P : Bool -> AH -> Prop) (b : Bool) (s' : Shared) : Prop
 | mk (H' : AH) (a : P b H') (r : Rep c H' s') (z : Step H s H' s')
theorem OutB.from {HJ : AH} {s sJ : Shared} {P : Bool -> AH -> Prop} (x : Step H s HJ sJ) {b : Bool} {s' : Shared} (o : OutB c HJ sJ P b s') : OutB c H s P b s' := by
 obtain ⟨H', a, r, z⟩ := o; exact ⟨H', a, r, x.trans z⟩
def awB (c : Cx) (q : Md) (d : Nat) (A : Around) (env : Env) (e : Expr) (m : Map) (H : AH) (P : Bool -> AH -> Prop) (X : Exc -> AH -> Prop) : Prop :=
 ∀ s, FRep c q d A env m H s -> wpAny c.M A (isTrue e env (eval e env)) (OutB c H s P) (OutX c env.frame H s X) s
def qe8 (H : AH) : V -> Option Bool
 | .none => some false
 | .bool b => some b
 | .ref a => match H a with
   | some (.list vs) => if vs.length < 2 ^ 60 then some (!vs.isEmpty) else none
   | _ => none
 | _ => none
theorem qiq {x : V} {v : Value} {b : Bool} {s : Shared} {P : Bool -> AH -> Prop} {E : Value -> Shared -> Prop} (B : BRep c q d A H s) (hv : VR s.heap x v) (e : qe8 H x = some b) (h : P b H) : wpAny c.M A (truthy v) (OutB c H s P) E s := by
 cases x with
 | none => obtain rfl := sj0_ e; obtain rfl := hv; exact wpAny_pure ⟨H, h, B.rep, .refl _ _⟩
 | bool b' => obtain rfl := sj0_ e; obtain rfl := hv; exact wpAny_pure ⟨H, h, B.rep, .refl _ _⟩
 | ref a =>
   obtain rfl := hv; simp only [qe8] at e; split at e
   . rename_i vs ha; split at e
     . rename_i hlen; obtain rfl := sj0_ e; refine hide fun Pz bkz => ?_; obtain ⟨items, n, hl, hr⟩ := B.rep.at_ _ _ ha; refine bkz ?_; have hs : items.size = vs.length := by rw [← Array.length_toList]; exact hr.length.symm
       refine wpAny_truthy_list (items := items) ⟨_, hl, rfl, n, rfl⟩ (by (refine (Eq.symm hs) ▸ ?_); lia) ⟨H, ?_, B.rep.toks _, .toks _ _ _⟩; have : (!items.isEmpty) = !vs.isEmpty := by
         congr 1; cases vs with
         | nil => simp at hs; simp [hs]
         | cons a l => cases hi : items.isEmpty
                       . rfl
                       . simp at hi; rw [hi] at hs; simp at hs
       (refine (Eq.symm this) ▸ ?_); exact h
     . cases e
   . cases e
 | _ => cases e
theorem qj7 {l r : Expr} {op : CmpOp} {P : Bool -> AH -> Prop} (hb : behindInMarks op r = false)
   (h : awE c q d A env l m H (fun x HJ => awE c q d A env r m HJ (fun y HW => awO c q d A env.frame (fun vs => compareOp op (vs.getD 0 .none) (vs.getD 1 .none)) [x, y] HW (fun z HY => ∃ b, qe8 HY z = some b ∧ P b HY) X) X) X) : awB c q d A env (.Compare l [op] [r] pos) m H P X := by
 intro s F; refine wpAny_isTrue_Compare1 (wpAny_mono (qka h F) (fun v sJ h₁ => wpAny_mono h₁ (fun u sW hW => wpAny_mono hW (fun z sY h₃ => ?_) fun _ _ e => e) fun _ _ e => e) fun _ _ e => e) hb; refine hide fun Pz bkz => ?_; obtain ⟨x, H', ⟨b, hb, hp⟩, hv, R, S⟩ := h₃; refine bkz ?_; exact wpAny_mono (qiq (E := OutX c env.frame H s X) (F.toBRep.step R S) hv hb hp) (fun _ _ o => OutB.from S o) fun _ _ e => e
theorem qnk {e : Expr} {P : Bool -> AH -> Prop} (hw : ∀ whole, isTrue e env whole = (do let v ← whole; standAt e.pos; holding [v] (truthy v)))
   (h : awE c q d A env e m H (fun z HY => ∃ b, qe8 HY z = some b ∧ P b HY) X) : awB c q d A env e m H P X := by
 intro s F; refine wpAny_isTrue_value (wpAny_mono (h s F) (fun z sY h₃ => ?_) fun _ _ e => e) (hw _); obtain ⟨x, H', ⟨b, hb, hp⟩, hv, R, S⟩ := h₃; exact wpAny_mono (qiq (E := OutX c env.frame H s X) (F.toBRep.step R S) hv hb hp) (fun _ _ o => OutB.from S o) fun _ _ e => e
def qgm (c : Cx) (q : Md) (d : Nat) (A : Around) (env : Env) (op : BoolOp) (es : List Expr) (m : Map) (H : AH) (P : Bool -> AH -> Prop) (X : Exc -> AH -> Prop) : Prop :=
 ∀ s, FRep c q d A env m H s -> wpAny c.M A (allTrue op es env) (OutB c H s P) (OutX c env.frame H s X) s
theorem qcv {P : Bool -> AH -> Prop} (h : P true H) : qgm c q d A env .And [] m H P X := fun _ F => wpAny_allTrue_And_nil ⟨H, h, F.rep, .refl _ _⟩
theorem qis {P : Bool -> AH -> Prop} (h : P false H) : qgm c q d A env .Or [] m H P X := fun _ F => wpAny_allTrue_Or_nil ⟨H, h, F.rep, .refl _ _⟩
theorem qhh {e : Expr} {es : List Expr} {P : Bool -> AH -> Prop} (h : awB c q d A env e m H (fun b HJ => if b then qgm c q d A env .And es m HJ P X else P false HJ) X) : qgm c q d A env .And (e :: es) m H P X := by
 intro s F; refine wpAny_allTrue_And_cons (wpAny_mono (h s F) (fun z sJ zp0 => ?_) fun _ _ o => o); obtain ⟨HJ, hp, R, S⟩ := zp0; cases z
 . exact ⟨HJ, hp, R, S⟩
 . exact wpAny_mono (hp sJ (F.step R S)) (fun _ _ => OutB.from S) fun _ _ => OutX.from S
theorem qh3 {e : Expr} {es : List Expr} {P : Bool -> AH -> Prop} (h : awB c q d A env e m H (fun b HJ => if b then P true HJ else qgm c q d A env .Or es m HJ P X) X) : qgm c q d A env .Or (e :: es) m H P X := by
 intro s F; refine wpAny_allTrue_Or_cons (wpAny_mono (h s F) (fun z sJ zp0 => ?_) fun _ _ o => o); obtain ⟨HJ, hp, R, S⟩ := zp0; cases z
 . exact wpAny_mono (hp sJ (F.step R S)) (fun _ _ => OutB.from S) fun _ _ => OutX.from S
 . exact ⟨HJ, hp, R, S⟩
theorem qda {op : BoolOp} {es : List Expr} {P : Bool -> AH -> Prop} (h : qgm c q d A env op es m H P X) : awB c q d A env (.BoolOp op es pos) m H P X := fun s F => wpAny_isTrue_BoolOp (h s F)
theorem qnn {t a b : Expr} (h : awB c q d A env t m H (fun z HJ => if z then awE c q d A env a m HJ P X else awE c q d A env b m HJ P X) X) : awE c q d A env (.IfExp t a b pos) m H P X := by
 intro s F; refine wpAny_IfExp (wpAny_mono (h s F) (fun z sJ zp0 => ?_) fun _ _ o => o); obtain ⟨HJ, hp, R, S⟩ := zp0; cases z
 . exact awT.from S (hp sJ (F.step R S))
 . exact awT.from S (hp sJ (F.step R S))
def qgn (c : Cx) (q : Md) (d : Nat) (A : Around) (env : Env) (op : BoolOp) (es : List Expr) (m : Map) (H : AH) (P : V -> AH -> Prop) (X : Exc -> AH -> Prop) : Prop :=
 ∀ s pos, FRep c q d A env m H s -> awT c A env.frame (boolOp pos op (evalEach es env)) H P X s
theorem qfc {op : BoolOp} {e : Expr} (h : awE c q d A env e m H P X) : qgn c q d A env op [e] m H P X := fun s pos F => h s F
theorem qj8 {op : BoolOp} {e e' : Expr} {es : List Expr} (h : awE c q d A env e m H (fun x HJ => ∃ b, qe8 HJ x = some b ∧ if (match op, b with | .And, false => true | .Or, true => true | _, _ => false) then P x HJ else qgn c q d A env op (e' :: es) m HJ P X) X) : qgn c q d A env op (e :: e' :: es) m H P X := by
 intro s pos F; show wpAny c.M A (do let v ← eval e env; standAt pos; let t ← holding [v] (truthy v); match op, t with | .And, false | .Or, true => pure v | _, _ => boolOp pos op (evalEach (e' :: es) env)) _ _ s; refine wpAny_bind (qaj h F (fun x HJ sJ v ⟨b, hb, hp⟩ F₁ hv S => wpAny_bind (wpAny_standAt (wpAny_bind (wpAny_holding (wpAny_mono (qiq (E := OutX c env.frame H s X) (P := fun b' H' => b' = b ∧ H' = HJ) F₁.toBRep hv hb ⟨rfl, rfl⟩) (fun t sW zp0 => ?_) fun _ _ e => e))))) fun _ _ o => o); obtain ⟨HW, ⟨e1, e2⟩, R, SW⟩ := zp0; subst e1 e2; have hvW := hv.mono (F₁.rep.tk SW); cases op <;> cases t
 . exact wpAny_pure ⟨x, HW, hp, hvW, R, S.trans SW⟩
 . exact awT.from (S.trans SW) (hp sW pos (F₁.step R SW))
 . exact awT.from (S.trans SW) (hp sW pos (F₁.step R SW))
 . exact wpAny_pure ⟨x, HW, hp, hvW, R, S.trans SW⟩
theorem qfd {op : BoolOp} {es : List Expr} (h : qgn c q d A env op es m H P X) : awE c q d A env (.BoolOp op es pos) m H P X := fun s F => h s pos F

inductive OutL (c : Cx) (H : AH) (s : Shared) (P : List V -> AH -> Prop) (vs : List Value) (s' : Shared) : Prop
 | mk (xs : List V) (H' : AH) (a : P xs H') (b : VRs s'.heap xs vs) (r : Rep c H' s') (z : Step H s H' s')
def awL (c : Cx) (q : Md) (d : Nat) (A : Around) (env : Env) (es : List Expr) (m : Map) (H : AH) (P : List V -> AH -> Prop) (X : Exc -> AH -> Prop) : Prop :=
 ∀ s pos, FRep c q d A env m H s -> wpAny c.M A (spliced (backTo pos (starEach es env))) (OutL c H s P) (OutX c env.frame H s X) s
theorem qal {P : List V -> AH -> Prop} (h : P [] H) : awL c q d A env [] m H P X := fun s _ F => wpAny_pure ⟨[], H, h, rfl, F.rep, .refl _ _⟩
theorem qc9 {env : Env} {e : Expr} {es : List Expr} (hs : ∀ e' p, e ≠ .Starred e' p) : starEach (e :: es) env = (false, eval e env) :: starEach es env := by
 cases e <;> first | rfl | exact absurd rfl (hs _ _)
theorem qp9 {e : Expr} {es : List Expr} {P : List V -> AH -> Prop} (hs : ∀ e' p, e ≠ .Starred e' p) (h : awE c q d A env e m H (fun x HJ => awL c q d A env es m HJ (fun xs HW => P (x :: xs) HW) X) X) : awL c q d A env (e :: es) m H P X := by
 intro s pos F; have he := qc9 (env := env) (es := es) hs; (refine (Eq.symm he) ▸ ?_); show wpAny c.M A (do let v ← eval e env; let here ← pure [v]; return here ++ (← holding here (spliced (backTo pos (starEach es env))))) _ _ s; refine wpAny_bind (qaj h F (fun x HJ sJ v hp F₁ hv S => wpAny_bind (wpAny_pure (wpAny_bind (wpAny_holding (wpAny_mono (hp sJ pos F₁) (fun vs sW zp0 => ?_) fun _ _ => OutX.from S))))) fun _ _ o => o); obtain ⟨xs, HW, hq, hvs, R, SW⟩ := zp0; exact wpAny_pure ⟨x :: xs, HW, hq, ⟨v, vs, rfl, hv.mono (F₁.rep.tk SW), hvs⟩, R, S.trans SW⟩
theorem qld {es : List Expr} (h : awL c q d A env es m H (fun xs HJ => xs.length ≤ 1000 ∧ ∀ a, HJ a = none -> P (.ref a) (upd HJ a (.list xs))) X) : awE c q d A env (.List es pos) m H P X := by
 intro s F; refine wpAny_List (wpAny_mono (h s pos F) (fun vs sJ ⟨xs, HJ, ⟨hl, hp⟩, hv, R, S⟩ => ⟨?_, ?_⟩) fun _ _ o => o)
 . rw [← hv.length]; exact le_trans hl (by decide)
 . exact ⟨.ref sJ.heap.objs.size, _, hp _ (R.free (le_refl _)), rfl, R.push _ sJ.toks _ ⟨vs.toArray, 0, Heap.get?_push_size _ rfl, hv.mono (TK.of_keeps fun _ _ e => Heap.get?_push_of_some _ e)⟩, S.trans (Step.push _ _ _ _ _)⟩
theorem qnp {es : List Expr} {n : Nat} (h : awL c q d A env es m H (fun xs HJ => xs.length ≤ 1000 ∧ P (.tup xs) HJ) X) : awE c q d A env (.Tuple es n pos) m H P X := by
 intro s F; refine wpAny_Tuple (wpAny_mono (h s pos F) (fun vs sJ ⟨xs, HJ, ⟨hl, hp⟩, hv, R, S⟩ => ⟨?_, ?_⟩) fun _ _ o => o)
 . rw [← hv.length]; exact le_trans hl (by decide)
 . exact ⟨.tup xs, HJ, hp, ⟨_, vs.toArray, rfl, ⟨_, Heap.get?_push_size _ rfl, rfl, _, rfl⟩, hv.mono (TK.of_keeps fun _ _ e => Heap.get?_push_of_some _ e)⟩, R.push0 _ sJ.toks, S.trans (Step.push0 _ _ _ _)⟩
theorem qnm (G : Gd K p loose mg mb c.g) (h : ∀ a, H a = none -> P (.ref a) (upd H a (.dict [] 0))) : awE c q d A env (.Dict [] [] pos) m H P X := by
 intro s F; refine wpAny_Dict_empty ⟨.ref s.heap.objs.size, _, h _ (F.rep.free (le_refl _)), rfl, F.rep.push _ s.toks _ ⟨[], ?_, rfl, rfl, G.notSm F.rep.keep⟩, Step.push _ _ _ _ _⟩; exact ⟨_, #[], Heap.get?_push_size _ rfl, ⟨rfl, rfl, rfl⟩, rfl, (fun e he => by simp at he), .nil, nodup_nil⟩
end
inductive Fl where
 | next | brk | cont | ret (v : V)
def FlR (h : Heap) : Fl -> Flow -> Prop
 | .next, f => f = .next
 | .brk, f => f = .brk
 | .cont, f => f = .cont
 | .ret x, f => ∃ v, f = .ret v ∧ VR h x v
structure qbx (env : Env) (H : AH) (s : Shared) (H' : AH) (s' : Shared) : Prop where
 kept : ∀ b o, s.heap.get? b = some o -> H b = none -> b ≠ env.locals -> (∀ k ∈ env.cells, b ≠ k.2) -> ∃ o', s'.heap.get? b = some o' ∧ Kp o o'
 new : ∀ b o, H' b = some o -> H b = none -> s.heap.get? b = none
 alive : ∀ b o, s.heap.get? b = some o -> ∃ o', s'.heap.get? b = some o'
theorem Step.toF {env : Env} {H H' : AH} {s s' : Shared} (x : Step H s H' s') : qbx env H s H' s' := ⟨fun b o e n _ _ => x.kept b o e n, x.new, x.alive⟩
theorem qbx.refl (env : Env) (H : AH) (s : Shared) : qbx env H s H s := (Step.refl H s).toF
theorem qbx.free {env : Env} {H H' : AH} {s s' : Shared} (x : qbx env H s H' s') {b : Addr} {ob : Obj} (hb : H b = none) (hlt : s.heap.get? b = some ob) : H' b = none := by
 cases e : H' b with
 | none => rfl
 | some o => rw [x.new b o e hb] at hlt; exact nomatch hlt
theorem qbx.old {env : Env} {H H' : AH} {s s' : Shared} (x : qbx env H s H' s') {b : Addr} (h : s'.heap.get? b = none) : s.heap.get? b = none := by
 cases e : s.heap.get? b with
 | none => rfl
 | some o => obtain ⟨o', e'⟩ := x.alive b o e; rw [h] at e'; exact nomatch e'
theorem qbx.trans {env : Env} {HJ HW HY : AH} {sJ sW sY : Shared} (x : qbx env HJ sJ HW sW) (y : qbx env HW sW HY sY) : qbx env HJ sJ HY sY := by
 refine ⟨fun b o e n h1 h2 => ?_, fun b o e n => ?_, fun b o e => ?_⟩
 . obtain ⟨o', e', k⟩ := x.kept b o e n h1 h2; obtain ⟨o'', e'', k'⟩ := y.kept b o' e' (x.free n e) h1 h2; exact ⟨o'', e'', k.trans k'⟩
 . cases e2 : HW b with
   | none => exact x.old (y.new b o e e2)
   | some o2 => exact x.new b o2 e2 n
 . obtain ⟨o', e'⟩ := x.alive b o e; exact y.alive b o' e'
theorem qaz.tk {c : Cx} {env : Env} {m : Map} {H H' : AH} {s s' : Shared} (F : qaz c env m H s.heap) (R : Rep c H s) (x : qbx env H s H' s') : TK s.heap s'.heap := by
 intro a o e hc hd; obtain ⟨o', e', k⟩ := x.kept a o e (R.imm e hc) (fun q => by
   obtain ⟨mO, ⟨oL, es, ep, hL, hLd, _⟩, _⟩ := F.loc; subst q; rw [e] at hL; obtain rfl := sj0_ hL; rw [hLd] at hd; exact nomatch hd) (fun k hk q => by
   refine hide fun Pz bkz => ?_; obtain ⟨_, ⟨vO, ok, hL, hLd⟩, _⟩ := F.cfree k hk; refine bkz ?_; subst q; rw [e] at hL; obtain rfl := sj0_ hL; rw [hLd] at hd; exact nomatch hd)
 rw [k.eq (qhv hd)] at e'; exact e'

structure SRep (c : Cx) (q : Md) (d : Nat) (A : Around) (env : Env) (m : Map) (H : AH) (s : Shared) : Prop extends FRep c q d A env m H s where
 fl : env.frame = some env.locals
 top : ∃ outer, A.frames = some (env :: outer) ∧ ∀ e ∈ outer, ∀ L, e.frame = some L -> L ≠ env.locals ∧ ∀ k ∈ env.cells, L ≠ k.2
theorem SRep.stepF {c : Cx} {q : Md} {d : Nat} {A : Around} {env : Env} {m m' : Map} {H H' : AH} {s s' : Shared} (S : SRep c q d A env m H s) (R : Rep c H' s') (F : qaz c env m' H' s'.heap) (x : qbx env H s H' s') : SRep c q d A env m' H' s' := by
 obtain ⟨l, hl, hf, hd⟩ := S.ok.stack; obtain ⟨outer, ho, hlt⟩ := S.top; obtain rfl : l = env :: outer := sj0_ (hl.symm.trans ho); have key := qem (c := c) (H' := H') (h' := s'.heap) (fun e he L hL o h1 h2 => x.kept L o h1 h2 (hlt e he L hL).1 (hlt e he L hL).2) (fun b o hb hlt => x.free hb hlt) hf.2.2 fun e he => hd e (.tail _ he); obtain ⟨mO, ⟨oL, es, ep, hL, hLd, hr⟩, _⟩ := F.loc; refine ⟨⟨⟨R, S.ok.depth, S.ok.units, S.ok.quiet, fun hq => ?_, env :: outer, ho, ⟨hf.1, ⟨env.locals, oL, S.fl, ?_, hL, fun vs z => by rw [hLd] at z; cases z⟩, key.1⟩, fun e he L hL' => ?_⟩, F⟩, S.fl, ⟨outer, ho, hlt⟩⟩
 . refine hide fun Pz bkz => ?_; obtain ⟨a, ob, vs, h1, h2, h3, h4, h5⟩ := S.ok.hnd hq; obtain ⟨mJ, ⟨oJ, esJ, epJ, hLJ, hLdJ, _⟩, _⟩ := S.fr.loc; refine bkz ?_; obtain ⟨o', e', k⟩ := x.kept a ob h3 h2 (fun z => by rw [z, hLJ] at h3; obtain rfl := sj0_ h3; rw [h4] at hLdJ; exact nomatch hLdJ) (fun k hk z => by
     obtain ⟨_, ⟨vO, ok, ek, dk⟩, _⟩ := S.fr.cfree k hk; rw [z, ek] at h3; obtain rfl := sj0_ h3; rw [h4] at dk; exact nomatch dk)
   exact ⟨a, o', vs, h1, x.free h2 h3, e', k.data.1.trans h4, h5⟩
 . exact F.low
 . rcases mem_cons.mp he with rfl | he
   . rw [S.fl] at hL'; obtain rfl := sj0_ hL'; exact ⟨F.free, oL, es, ep, hL, hLd⟩
   . exact key.2 e he L hL'
theorem SRep.step {c : Cx} {q : Md} {d : Nat} {A : Around} {env : Env} {m : Map} {H H' : AH} {s s' : Shared} (S : SRep c q d A env m H s) (R : Rep c H' s') (x : Step H s H' s') : SRep c q d A env m H' s' :=
 S.stepF R (S.fr.step S.rep x) x.toF

inductive OutS (c : Cx) (env : Env) (H : AH) (s : Shared) (P : Fl -> Map -> AH -> Prop) (f : Flow) (s' : Shared) : Prop
 | mk (g : Fl) (m' : Map) (H' : AH) (a : P g m' H') (b : FlR s'.heap g f) (r : Rep c H' s') (F : qaz c env m' H' s'.heap) (z : qbx env H s H' s')
inductive qbp (c : Cx) (env : Env) (H : AH) (s : Shared) (X : Exc -> Map -> AH -> Prop) (ex : Value) (s' : Shared) : Prop
 | mk (k : Exc) (m' : Map) (H' : AH) (a : X k m' H') (b : ExcR env.frame s.heap H' s'.heap k ex) (r : Rep c H' s') (F : qaz c env m' H' s'.heap) (z : qbx env H s H' s')
theorem OutS.from {c : Cx} {env : Env} {H HJ : AH} {s sJ : Shared} {P : Fl -> Map -> AH -> Prop} (x : qbx env H s HJ sJ) {v : Flow} {s' : Shared} (o : OutS c env HJ sJ P v s') : OutS c env H s P v s' := by
 obtain ⟨y, m', H', a, b, r, f, z⟩ := o; exact ⟨y, m', H', a, b, r, f, x.trans z⟩
theorem qbp.from {c : Cx} {env : Env} {H HJ : AH} {s sJ : Shared} {X : Exc -> Map -> AH -> Prop} (x : qbx env H s HJ sJ) {v : Value} {s' : Shared} (o : qbp c env HJ sJ X v s') : qbp c env H s X v s' := by
 obtain ⟨y, m', H', a, b, r, f, z⟩ := o; exact ⟨y, m', H', a, b.from fun _ h => x.old h, r, f, x.trans z⟩
section
variable {c : Cx} {q : Md} {d : Nat} {A : Around} {env : Env} {m : Map} {H : AH} {P : Fl -> Map -> AH -> Prop} {X : Exc -> Map -> AH -> Prop} {pos : Pos}
theorem OutX.toS {s : Shared} (F : FRep c q d A env m H s) {v : Value} {s' : Shared} (o : OutX c env.frame H s (fun k H' => X k m H') v s') : qbp c env H s X v s' := by
 obtain ⟨k, H', a, b, r, z⟩ := o; exact ⟨k, m, H', a, b, r, F.fr.step F.rep z, z.toF⟩
def awS (c : Cx) (q : Md) (d : Nat) (A : Around) (env : Env) (st : Stmt) (m : Map) (H : AH) (P : Fl -> Map -> AH -> Prop) (X : Exc -> Map -> AH -> Prop) : Prop :=
 ∀ s, SRep c q d A env m H s -> wpAny c.M A (exec st env) (OutS c env H s P) (qbp c env H s X) s
def awSs (c : Cx) (q : Md) (d : Nat) (A : Around) (env : Env) (st : List Stmt) (m : Map) (H : AH) (P : Fl -> Map -> AH -> Prop) (X : Exc -> Map -> AH -> Prop) : Prop :=
 ∀ s, SRep c q d A env m H s -> wpAny c.M A (execs st env) (OutS c env H s P) (qbp c env H s X) s
theorem qac (h : P .next m H) : awSs c q d A env [] m H P X := fun s S => wpAny_execs_nil ⟨.next, m, H, h, rfl, S.rep, S.fr, .refl _ _ _⟩
theorem qdx {st : Stmt} {rest : List Stmt} (h : awS c q d A env st m H (fun f m' H' => match f with | .next => awSs c q d A env rest m' H' P X | f => P f m' H') X) : awSs c q d A env (st :: rest) m H P X := by
 intro s S; refine wpAny_execs_cons (wpAny_mono (h s S) (fun f sJ zp0 => ?_) fun _ _ o => o); obtain ⟨g, m', H', hp, hf, R, F, x⟩ := zp0; cases g with
 | next => obtain rfl := hf; exact wpAny_mono (hp sJ (S.stepF R F x)) (fun _ _ => OutS.from x) fun _ _ => qbp.from x
 | brk => obtain rfl := hf; exact ⟨.brk, m', H', hp, rfl, R, F, x⟩
 | cont => obtain rfl := hf; exact ⟨.cont, m', H', hp, rfl, R, F, x⟩
 | ret v => obtain ⟨u, rfl, hv⟩ := hf; exact ⟨.ret v, m', H', hp, ⟨u, rfl, hv⟩, R, F, x⟩

theorem qjr {α β : Type} : ∀ {l : List (α × β)} {a b : α} {k : β}, (l.map (·.2)).Nodup -> (a, k) ∈ l -> (b, k) ∈ l -> a = b := by
 intro l
 induction l with
 | nil => intro z0 z1 z2 z3 z4 z5; first | exact nomatch z0 | exact nomatch z1 | exact nomatch z2 | exact nomatch z3 | exact nomatch z4 | exact nomatch z5
 | cons p r ih =>
   intro a b k h ha hb; rw [map_cons, nodup_cons] at h; rcases mem_cons.mp ha with ha | ha <;> rcases mem_cons.mp hb with hb | hb
   . rw [← ha] at hb; cases hb; rfl
   . exact absurd (mem_map_of_mem (f := (·.2)) hb) (by rw [← ha] at h; exact h.1)
   . exact absurd (mem_map_of_mem (f := (·.2)) ha) (by rw [← hb] at h; exact h.1)
   . exact ih h.2 ha hb
def set (m : Map) (y : Str) (x : V) : Map := fun z => if z = y then some x else m z
def qan (env : Env) (y : Str) : Prop := env.kindOf y = some .local ∨ env.kindOf y = some .cell ∧ (env.cells.lookup y).isSome = true
theorem qcp {y : Str} {x : V} {v : Value} {s : Shared} {E : Value -> Shared -> Prop} (R : Rep c H s) (F : qaz c env m H s.heap) (hv : VR s.heap x v) (hy : qan env y) :
   wpAny c.M A (storeName env y v) (fun _ s' => Rep c H s' ∧ qaz c env (set m y x) H s'.heap ∧ qbx env H s H s' ∧ ∀ b o, s.heap.get? b = some o -> (env.kindOf y = some .local -> b ≠ env.locals) -> (env.kindOf y ≠ some .local -> env.cells.lookup y ≠ some b) -> s'.heap.get? b = some o) E s := by
 refine hide fun Pz bkz => ?_; obtain ⟨mO, hn, hm⟩ := F.loc; obtain ⟨oL, es, ep, hL, hLd, hr⟩ := id hn; refine bkz ?_; rcases hy with hy | ⟨hy, hc⟩
 . refine wpAny_storeName_local hy hn (fun h' hn' hs => ?_) (by rw [F.kind]; rfl); have ne : ∀ b o, H b = some o -> b ≠ env.locals := fun b o e q => by rw [q, F.free] at e; exact nomatch e
   have tk : TK s.heap h' := by
     intro a o e hc hd; exact (hs.2 a fun q => by subst q; rw [e] at hL; obtain rfl := sj0_ hL; rw [hLd] at hd; exact nomatch hd).trans e
   have nec : ∀ k ∈ env.cells, k.2 ≠ env.locals := fun k hk q => by
     obtain ⟨_, ⟨vO, o, e, hd⟩, _⟩ := F.cfree k hk; rw [q, hL] at e; obtain rfl := sj0_ e; rw [hd] at hLd; exact nomatch hLd
   refine ⟨⟨fun b o e => (hs.2 b fun q => ?_).trans (R.keep b o e), R.gens, R.os, fun a o e => (R.at_ a o e).mono tk (hs.2 a (ne a o e)), R.new⟩,
     ⟨F.kind, F.glob, F.bltn, ⟨_, hn', fun z w hz hk => ?_⟩, fun z w hz hk => ?_, F.free, F.low, fun k hk => ?_, F.nd⟩, ⟨fun b o e _ h1 _ => ⟨o, (hs.2 b h1).trans e, .refl _⟩, (fun b o e n => by rw [n] at e; exact nomatch e), fun b o e => ?_⟩, fun b o e h1 _ => (hs.2 b (h1 hy)).trans e⟩
   . subst q; rw [F.low] at e; exact nomatch e
   . unfold set at hz; by_cases hzy : z = y
     . subst hzy; rw [if_pos rfl] at hz; obtain rfl := sj0_ hz; exact ⟨v, if_pos rfl, hv.mono tk⟩
     . rw [if_neg hzy] at hz; obtain ⟨u, a, b⟩ := hm z w hz hk; exact ⟨u, (if_neg hzy).trans a, b.mono tk⟩
   . unfold set at hz; by_cases hzy : z = y
     . subst hzy; exact absurd hy hk
     . rw [if_neg hzy] at hz; refine hide fun Pz bkz => ?_; obtain ⟨hk', k, u, a, ⟨o, e, hd⟩, b⟩ := F.cel z w hz hk; refine bkz ?_; exact ⟨hk', k, u, a, ⟨o, (hs.2 k (nec _ (qat a))).trans e, hd⟩, b.mono tk⟩
   . obtain ⟨a, ⟨vO, o, e, hd⟩, b⟩ := F.cfree k hk; exact ⟨a, ⟨vO, o, (hs.2 _ (nec k hk)).trans e, hd⟩, b⟩
   . by_cases hb : b = env.locals
     . obtain ⟨o', _, _, e', _⟩ := hn'; exact ⟨o', by (refine (Eq.symm hb) ▸ ?_); exact e'⟩
     . exact ⟨o, (hs.2 b hb).trans e⟩
 . refine hide fun Pz bkz => ?_; obtain ⟨kO, hkO⟩ := Option.isSome_iff_exists.mp hc; have hmem := qat hkO; obtain ⟨hH, ⟨vO, hcell⟩, hlow⟩ := F.cfree _ hmem; obtain ⟨oc, ec, hdc⟩ := id hcell; refine bkz ?_; refine wpAny_storeName_cell F.kind hy hkO hcell fun h' hc' hs => ?_; have ne : ∀ b o, H b = some o -> b ≠ kO := fun b o e q => by rw [q, hH] at e; exact nomatch e
   have tk : TK s.heap h' := by
     intro a o e hc hd; exact (hs.2 a fun q => by subst q; rw [e] at ec; obtain rfl := sj0_ ec; rw [hdc] at hd; exact nomatch hd).trans e
   have nl : env.locals ≠ kO := fun q => by rw [q, ec] at hL; obtain rfl := sj0_ hL; rw [hdc] at hLd; exact nomatch hLd
   have uniq : ∀ z k, env.cells.lookup z = some k -> k = kO -> z = y := fun z k hz hk => by
     subst hk; exact qjr F.nd (qat hz) hmem
   refine ⟨⟨fun b o e => (hs.2 b fun q => ?_).trans (R.keep b o e), R.gens, R.os, fun a o e => (R.at_ a o e).mono tk (hs.2 a (ne a o e)), R.new⟩,
     ⟨F.kind, F.glob, F.bltn, ⟨mO, ⟨oL, es, ep, (hs.2 _ nl).trans hL, hLd, hr⟩, fun z w hz hk => ?_⟩, fun z w hz hk => ?_, F.free, F.low, fun k hk => ?_, F.nd⟩, ⟨fun b o e _ _ h2 => ⟨o, (hs.2 b (h2 _ hmem)).trans e, .refl _⟩, (fun b o e n => by rw [n] at e; exact nomatch e), fun b o e => ?_⟩, fun b o e _ h2 => (hs.2 b fun z => h2 (by (refine (Eq.symm hy) ▸ ?_); decide) (by (refine (Eq.symm z) ▸ ?_); exact hkO)).trans e⟩
   . subst q; rw [hlow] at e; exact nomatch e
   . unfold set at hz; by_cases hzy : z = y
     . subst hzy; rw [hy] at hk; exact nomatch hk
     . rw [if_neg hzy] at hz; obtain ⟨u, a, b⟩ := hm z w hz hk; exact ⟨u, a, b.mono tk⟩
   . unfold set at hz; by_cases hzy : z = y
     . subst hzy; rw [if_pos rfl] at hz; obtain rfl := sj0_ hz; exact ⟨.inl hy, kO, v, hkO, hc', hv.mono tk⟩
     . rw [if_neg hzy] at hz; refine hide fun Pz bkz => ?_; obtain ⟨hk', k, u, a, ⟨o, e, hd⟩, b⟩ := F.cel z w hz hk; refine bkz ?_; exact ⟨hk', k, u, a, ⟨o, (hs.2 k fun q => hzy (uniq z k a q)).trans e, hd⟩, b.mono tk⟩
   . refine hide fun Pz bkz => ?_; obtain ⟨a, ⟨vJ, o, e, hd⟩, b⟩ := F.cfree k hk; refine bkz ?_; by_cases hkk : k.2 = kO
     . (refine (Eq.symm hkk) ▸ ?_); exact ⟨hH, ⟨_, hc'⟩, hlow⟩
     . exact ⟨a, ⟨vJ, o, (hs.2 _ hkk).trans e, hd⟩, b⟩
   . by_cases hb : b = kO
     . obtain ⟨o', e', _⟩ := hc'; exact ⟨o', by (refine (Eq.symm hb) ▸ ?_); exact e'⟩
     . exact ⟨o, (hs.2 b hb).trans e⟩

theorem qho {y : Str} {pJ : Pos} {e : Expr} (hy : qan env y) (hsw : swapsWith e (some (.Name y pJ)) pos.line env = pure false) (h : awE c q d A env e m H (fun x HJ => P .next (set m y x) HJ) fun k H' => X k m H') : awS c q d A env (.Assign [.Name y pJ] e pos) m H P X := by
 intro s S; refine wpAny_Assign_Name (qaj h S.toFRep (fun x HJ sJ v hp F₁ hv xJ => ?_) fun _ _ o => o.toS S.toFRep) hsw; exact wpAny_mono (qcp F₁.rep F₁.fr hv hy) (fun _ sW zp0 => by obtain ⟨R, F, xW, _⟩ := zp0; exact ⟨.next, _, HJ, hp, rfl, R, F, xJ.toF.trans xW⟩) fun _ _ o => o
theorem qsx {t : Expr} {a b : List Stmt} (h : awB c q d A env t m H (fun z HJ => if z then awSs c q d A env a m HJ P X else awSs c q d A env b m HJ P X) fun k H' => X k m H') : awS c q d A env (.If t a b pos) m H P X := by
 intro s S; refine wpAny_If (wpAny_mono (h s S.toFRep) (fun z sJ zp0 => ?_) fun _ _ o => o.toS S.toFRep); obtain ⟨HJ, hp, R, x⟩ := zp0; cases z
 . exact wpAny_mono (hp sJ (S.step R x)) (fun _ _ => OutS.from x.toF) fun _ _ => qbp.from x.toF
 . exact wpAny_mono (hp sJ (S.step R x)) (fun _ _ => OutS.from x.toF) fun _ _ => qbp.from x.toF
theorem qmb {e : Expr} (h : awE c q d A env e m H (fun x HJ => P (.ret x) m HJ) fun k H' => X k m H') : awS c q d A env (.Return (some e) pos) m H P X := by
 intro s S; exact wpAny_Return_some (qaj h S.toFRep (fun x HJ sJ v hp F₁ hv xJ => ⟨.ret x, m, HJ, hp, ⟨v, rfl, hv⟩, F₁.rep, F₁.fr, xJ.toF⟩) fun _ _ o => o.toS S.toFRep)
theorem qgo (h : P .brk m H) : awS c q d A env (.Break pos) m H P X := fun s S => wpAny_Break ⟨.brk, m, H, h, rfl, S.rep, S.fr, .refl _ _ _⟩
theorem qiy (h : P .cont m H) : awS c q d A env (.Continue pos) m H P X := fun s S => wpAny_Continue ⟨.cont, m, H, h, rfl, S.rep, S.fr, .refl _ _ _⟩
theorem qlg {e : Expr} (hi : interactive env = false) (hs : swapsWith e none pos.line env = pure false) (h : awE c q d A env e m H (fun x HJ => P .next m HJ) fun k H' => X k m H') : awS c q d A env (.Expr e pos) m H P X := by
 intro s S; exact wpAny_Expr_any (qaj h S.toFRep (fun x HJ sJ v hp F₁ hv xJ => ⟨.next, m, HJ, hp, rfl, F₁.rep, F₁.fr, xJ.toF⟩) fun _ _ o => o.toS S.toFRep) hi hs
end
structure qbt (S fr : List Addr) (h h' : Heap) : Prop where
 keep : ∀ b o, h.get? b = some o -> b ∉ S -> b ∉ fr -> h'.get? b = some o
 slot : ∀ b o, h.get? b = some o -> b ∉ S -> ∃ sl, h'.get? b = some { o with slots := sl }
 alive : ∀ b o, h.get? b = some o -> ∃ o', h'.get? b = some o'
theorem qbt.trans {S fr : List Addr} {a b c : Heap} (x : qbt S fr a b) (y : qbt S fr b c) : qbt S fr a c :=
 ⟨fun k o e h1 h2 => y.keep k o (x.keep k o e h1 h2) h1 h2, fun k o e h1 => let ⟨_, e1⟩ := x.slot k o e h1; let ⟨sl, e2⟩ := y.slot k _ e1 h1; ⟨sl, e2⟩, fun b o e => let ⟨_, e1⟩ := x.alive b o e; y.alive b _ e1⟩
theorem qbt.push {S fr : List Addr} (h : Heap) (o : Obj) : qbt S fr h (h.push o) :=
 ⟨fun _ _ e _ _ => Heap.get?_push_of_some _ e, fun _ o' e _ => ⟨o'.slots, Heap.get?_push_of_some _ e⟩, fun _ o' e => ⟨o', Heap.get?_push_of_some _ e⟩⟩
theorem qbt.update {S fr : List Addr} (h : Heap) {a : Addr} (f : Obj -> Obj) (ha : a ∈ S) (hfr : ∀ o, h.get? a = some o -> (f o).isFreed = false) : qbt S fr h (h.update a f) :=
 ⟨fun b o e h1 _ => (Heap.get?_update_ne _ _ _ _ fun q => h1 (by rw [q]; exact ha)).trans e, fun b o e h1 => ⟨o.slots, (Heap.get?_update_ne _ _ _ _ fun q => h1 (by rw [q]; exact ha)).trans e⟩, fun b o e => if q : b = a then (by subst q; exact ⟨_, Heap.get?_update_self _ e (hfr o e)⟩) else ⟨o, (Heap.get?_update_ne _ _ _ _ q).trans e⟩⟩
theorem qbt.slots {S fr : List Addr} {h h' : Heap} (x : Heap.SlotsOnly fr h h') : qbt S fr h h' :=
 ⟨fun b o e _ h2 => (x.2.1 b h2).trans e, fun b o e _ => x.2.2 b o e, fun b o e => let ⟨_, q⟩ := x.2.2 b o e; ⟨_, q⟩⟩
section
variable {c : Cx} {S fr : List Addr} {H : AH}
structure qcc (c : Cx) (S fr : List Addr) (H : AH) (h : Heap) : Prop where
 S0 : ∀ b ∈ S, H b = none ∧ c.g.get? b = none ∧ ∀ o, h.get? b = some o -> qb0 o.cls = false ∧ ∃ vs, o.data = .fields vs
 f0 : ∀ b ∈ fr, H b = none ∧ c.g.get? b = none ∧ ∃ o es n, h.get? b = some o ∧ o.data = .dict es n
theorem qbt.tk {h h' : Heap} (x : qbt S fr h h') (y : qcc c S fr H h) : TK h h' := by
 intro a o e hc hd; refine x.keep a o e (fun q => ?_) fun q => ?_
 . rw [((y.S0 a q).2.2 o e).1] at hc; exact nomatch hc
 . obtain ⟨_, _, o', es, n', e', hd'⟩ := y.f0 a q; rw [e] at e'; obtain rfl := sj0_ e'; rw [hd'] at hd; exact nomatch hd
theorem Rep.nudge {s : Shared} {h' : Heap} (R : Rep c H s) (x : qbt S fr s.heap h') (y : qcc c S fr H s.heap) : Rep c H { s with heap := h' } :=
 ⟨fun b o e => x.keep b o (R.keep b o e) (fun q => by rw [(y.S0 b q).2.1] at e; exact nomatch e) (fun q => by rw [(y.f0 b q).2.1] at e; exact nomatch e), R.gens, R.os,
  fun a o e => by
   obtain ⟨ob, eo, _⟩ := R.there e; have := x.keep a ob eo (fun q => by rw [(y.S0 a q).1] at e; exact nomatch e) fun q => by rw [(y.f0 a q).1] at e; exact nomatch e
   exact (R.at_ a o e).mono (x.tk y) (this.trans eo.symm), R.new⟩
theorem qaz.nudge {env : Env} {m : Map} {h h' : Heap} (F : qaz c env m H h) (x : qbt S fr h h') (y : qcc c S fr H h) : qaz c env m H h' := by
 have tk := x.tk y; obtain ⟨mO, ⟨oL, es, ep, hL, hLd, hr⟩, hm⟩ := F.loc; have notS : ∀ b o, h.get? b = some o -> (∀ vs, o.data ≠ .fields vs) -> b ∉ S := fun b o e hn q => by
   obtain ⟨_, vs, hv⟩ := (y.S0 b q).2.2 o e; exact hn vs hv
 obtain ⟨sl, hL'⟩ := x.slot _ _ hL (notS _ _ hL fun vs q => by rw [hLd] at q; exact nomatch q); have cellK : ∀ k v, h.IsCell k v -> h'.IsCell k v := by
   rintro k v ⟨o, e, hd⟩; obtain ⟨sl, e'⟩ := x.slot _ _ e (notS _ _ e fun vs q => by rw [hd] at q; exact nomatch q); exact ⟨_, e', hd⟩
 refine ⟨F.kind, F.glob, F.bltn, ⟨mO, ⟨_, es, ep, hL', hLd, hr⟩, fun z w hz hk => ?_⟩, fun z w hz hk => ?_, F.free, F.low, fun k hk => ?_, F.nd⟩
 . obtain ⟨u, a, b⟩ := hm z w hz hk; exact ⟨u, a, b.mono tk⟩
 . obtain ⟨hk', k, u, a, b, d⟩ := F.cel z w hz hk; exact ⟨hk', k, u, a, cellK _ _ b, d.mono tk⟩
 . obtain ⟨a, ⟨vO, b⟩, d⟩ := F.cfree k hk; exact ⟨a, ⟨vO, cellK _ _ b⟩, d⟩
theorem qbx.nudge {env : Env} {HO : AH} {s sJ : Shared} {h' : Heap} (x : qbx env HO s H sJ) (z : qbt S fr sJ.heap h') (y : qcc c S fr H sJ.heap) (hS : ∀ b ∈ S, s.heap.get? b = none) : qbx env HO s H { sJ with heap := h' } := by
 refine ⟨fun b o e n h1 h2 => ?_, x.new, fun b o e => let ⟨_, e1⟩ := x.alive b o e; z.alive b _ e1⟩; obtain ⟨o', e', k⟩ := x.kept b o e n h1 h2; have bS : b ∉ S := fun q => by rw [hS b q] at e; exact nomatch e
 by_cases hf : b ∈ fr
 . obtain ⟨sl, e2⟩ := z.slot b o' e' bS; obtain ⟨_, _, o2, es, n2, e3, hd⟩ := y.f0 b hf; rw [e'] at e3; obtain rfl := sj0_ e3; exact ⟨_, e2, k.trans (.inr ⟨⟨es, n2, hd⟩, sl, rfl⟩)⟩
 . exact ⟨o', z.keep b o' e' bS hf, k⟩
end

inductive ExcF (fl : Addr) (h₀ : Heap) (H : AH) (h : Heap) (k : Exc) (ex : Value) : Prop
 | mk (e : Addr) (ob : Obj) (vs : Array Value) (T : Addr) (oT : Obj) (ts : Array Value) (a : ex = .ref e) (b : h₀.get? e = none) (c : H e = none) (d : h.get? e = some ob) (f : ob.cls = k.cls ∧ qb0 k.cls = false ∧ (k.plain = true -> vs[2]? = some .none)) (g : ob.data = .fields vs) (i : vs[1]? = some (.ref T)) (j : T ≠ e) (l : h₀.get? T = none) (n : H T = none) (o : h.get? T = some oT) (p : qb0 oT.cls = false ∧ oT.data = .fields ts) (q : ts[3]? = some (rawInt fl))
theorem ExcF.toR {fl : Nat} {h₀ : Heap} {H : AH} {h : Heap} {k : Exc} {ex : Value} (x : ExcF fl h₀ H h k ex) : ExcR (some fl) h₀ H h k ex := by
 obtain ⟨e, ob, vs, T, oT, ts, a, b, d, f, g, i, j, l, m, o, p, q, r⟩ := x; exact ⟨e, ob, vs, _, a, b, d, f, g, i, j, .inr ⟨T, oT, ts, rfl, l, m, o, p, q, .inr ⟨_, rfl, r⟩⟩⟩
inductive OutF (c : Cx) (env : Env) (H : AH) (s : Shared) (X : Exc -> Map -> AH -> Prop) (ex : Value) (s' : Shared) : Prop
 | mk (k : Exc) (m' : Map) (H' : AH) (a : X k m' H') (b : ExcF env.locals s.heap H' s'.heap k ex) (r : Rep c H' s') (F : qaz c env m' H' s'.heap) (z : qbx env H s H' s')
theorem OutF.toX {c : Cx} {env : Env} {H : AH} {s : Shared} {X : Exc -> Map -> AH -> Prop} {ex : Value} {s' : Shared} (hf : env.frame = some env.locals) (o : OutF c env H s X ex s') : qbp c env H s X ex s' := by
 obtain ⟨k, m, H', a, b, r, F, z⟩ := o; exact ⟨k, m, H', a, hf ▸ b.toR, r, F, z⟩
section
variable {c : Cx} {q : Md} {d : Nat} {A : Around} {env : Env} {m : Map} {H : AH} {X : Exc -> Map -> AH -> Prop}
theorem qfl {s s' : Shared} {ex : Value} {E : Value -> Shared -> Prop} (S : SRep c q d A env m H s) (o : qbp c env H s X ex s') : wpAny c.M A (noteFrame ex env) (fun _ s'' => OutF c env H s X ex s'') E s' := by
 obtain ⟨k, m', H', hx, ⟨e, ob, vs, tb, rfl, hen, hHe, he, ⟨hcls, hic⟩, hd, h1, htb⟩, R, F, x⟩ := o; have S' := S.stepF R F x; obtain ⟨l, hl, hf, hdict⟩ := S'.ok.stack; obtain ⟨outer, ho, hlt⟩ := S'.top; obtain rfl : l = env :: outer := sj0_ (hl.symm.trans ho); have hge : ∀ b, s.heap.get? b = none -> c.g.get? b = none := fun b hb => S.rep.gnone hb; have f0 : ∀ b ∈ (env :: outer).filterMap (·.frame), H' b = none ∧ c.g.get? b = none ∧ ∃ o es n, s'.heap.get? b = some o ∧ o.data = .dict es n := fun b hb => by
   obtain ⟨e', he', hfr⟩ := mem_filterMap.mp hb; exact ⟨(hdict e' he' b hfr).1, (hf.mem hb).1, (hdict e' he' b hfr).2⟩
 have sz1 : 1 < vs.size := (Array.getElem?_eq_some_iff.mp h1).1; have entry : ∀ (head : Value) (h₀ : Heap) (Q : Unit -> Shared -> Prop) (hadNext : Bool), h₀.FunFrames c.g (env :: outer) -> h₀.get? e = some ob -> (e ∉ (env :: outer).filterMap (·.frame)) →
     (∀ h₃ T oT ts, (∀ S', e ∈ S' -> qbt S' ((env :: outer).filterMap (·.frame)) h₀ h₃) -> h₀.get? T = none -> h₃.get? e = some (ob.mapFields (·.setIfInBounds 1 (.ref T))) -> h₃.get? T = some oT -> (qb0 oT.cls = false ∧ oT.data = .fields ts) -> ts[3]? = some (rawInt env.locals) -> Q () { s' with heap := h₃ }) →
     wpAny c.M A (do let a ← frameOf env; let pl ← entryPlaceOf env.locals hadNext; let b ← EntryCells.newEntry head a .none (rawInt env.locals) .none pl; setField (.ref e) 1 b) Q E { s' with heap := h₀ } := by
   intro head h₀ Q hadNext hfun heO hene hq; refine wpAny_bind (wpAny_frameOf_fun (s := { s' with heap := h₀ }) ho hfun S'.fl fun h₁ hsJ => ?_); refine wpAny_bind (wpAny_entryPlaceOf fun pl hpl => ?_); refine wpAny_bind (wpAny_newObj_type ?_ (hpl.sizeOk5 _ _ _ _ _)); have heJ : h₁.get? e = some ob := (hsJ.2.1 e hene).trans heO; have heW := Heap.get?_push_of_some (h := h₁) { cls := .type "traceback", dict := none, data := .fields ([head, .ref env.locals, .none, rawInt env.locals, .none] ++ (if pl.isEmpty then List.replicate 6 Value.none else pl)).toArray } heJ; refine wpAny_setField heW hd sz1 ?_; have hTe : h₁.objs.size ≠ e := ne_of_gt (Heap.lt_size heJ); have hdY := Obj.data_mapFields hd (·.setIfInBounds 1 (Value.ref h₁.objs.size)); have heY := Heap.get?_update_self (Obj.mapFields (·.setIfInBounds 1 (Value.ref h₁.objs.size))) heW (Obj.isFreed_of_fields hdY); have hTY := (Heap.get?_update_other (h₁.push { cls := .type "traceback", dict := none, data := .fields ([head, .ref env.locals, .none, rawInt env.locals, .none] ++ (if pl.isEmpty then List.replicate 6 Value.none else pl)).toArray })
     (Obj.mapFields (·.setIfInBounds 1 (Value.ref h₁.objs.size))) (Ne.symm hTe)).trans (Heap.get?_push_size h₁ rfl)
   exact hq _ h₁.objs.size _ _ (fun S' hS' => (qbt.slots hsJ).trans ((qbt.push _ _).trans (qbt.update _ _ hS' fun o ho => by rw [heW] at ho; obtain rfl := sj0_ ho; exact Obj.isFreed_of_fields hdY))) (Heap.get?_none_of_le (le_of_eq hsJ.1.symm)) heY hTY ⟨rfl, rfl⟩ (by rfl)
 have hene : e ∉ (env :: outer).filterMap (·.frame) := fun hm => by
   obtain ⟨_, _, o, es, n, ho, hd'⟩ := f0 e hm; rw [he] at ho; obtain rfl := sj0_ ho; rw [hd] at hd'; exact nomatch hd'
 unfold noteFrame; simp only [S'.fl]; refine wpAny_bind (wpAny_field he hd h1 ?_); rcases htb with rfl | ⟨T, oT, ts, rfl, hTe, hTn, hHT, hT, ⟨hTc, hdT⟩, h3⟩
 . rw [if_neg (by decide)]; refine entry .none s'.heap _ _ hf he hene fun h₃ T oT ts hN hTn heY hTY hdT h3 => ?_; have y : qcc c [e] ((env :: outer).filterMap (·.frame)) H' s'.heap := ⟨fun b hb => by rw [mem_singleton.mp hb]; exact ⟨hHe, hge e hen, fun o ho => by rw [he] at ho; obtain rfl := sj0_ ho; exact ⟨by rw [hcls]; exact hic.1, vs, hd⟩⟩, f0⟩; have z := hN [e] (mem_singleton.mpr rfl); refine ⟨k, m', H', hx, ⟨e, _, vs.setIfInBounds 1 (.ref T), T, oT, ts, rfl, hen, hHe, heY, ⟨(Obj.cls_mapFields _ _).trans hcls, hic.1, fun hp => by rw [Array.getElem?_setIfInBounds_ne (by decide)]; exact hic.2 hp⟩, Obj.data_mapFields hd _, by simp [sz1], (fun q => by subst q; rw [he] at hTn; exact nomatch hTn), x.old hTn, R.fresh hTn, hTY, hdT, h3⟩, R.nudge z y, F.nudge z y, x.nudge z y fun b hb => by rw [mem_singleton.mp hb]; exact hen⟩
 . rw [if_pos (show (Value.ref T != Value.none) = true from by rfl)]; rcases h3 with h3 | ⟨L, hL, h3⟩
   . refine wpAny_bind (wpAny_field hT hdT h3 ?_); rw [if_neg (show ¬ ((Value.none == rawInt env.locals) = true) from by simp [rawInt])]; refine wpAny_bind (wpAny_setField hT hdT (Array.getElem?_eq_some_iff.mp h3).1 ?_); have y : qcc c [e, T] ((env :: outer).filterMap (·.frame)) H' s'.heap := ⟨fun b hb => by
       rcases mem_cons.mp hb with rfl | hb
       . exact ⟨hHe, hge _ hen, fun o ho => by rw [he] at ho; obtain rfl := sj0_ ho; exact ⟨by rw [hcls]; exact hic.1, vs, hd⟩⟩
       . rw [mem_singleton.mp hb]; exact ⟨hHT, hge _ hTn, fun o ho => by rw [hT] at ho; obtain rfl := sj0_ ho; exact ⟨hTc, ts, hdT⟩⟩, f0⟩
     have z0 : qbt [e, T] ((env :: outer).filterMap (·.frame)) s'.heap (s'.heap.update T (Obj.mapFields (·.setIfInBounds 3 Value.none))) := qbt.update _ _ (by simp) fun o ho => by rw [hT] at ho; obtain rfl := sj0_ ho; exact Obj.isFreed_of_fields (Obj.data_mapFields hdT _)
     have hf' : (s'.heap.update T (Obj.mapFields (·.setIfInBounds 3 Value.none))).FunFrames c.g (env :: outer) := hf.of_keeps fun b o ho hnf => ⟨o, (Heap.get?_update_ne _ _ _ _ fun q => by subst q; rw [hT] at ho; obtain rfl := sj0_ ho; exact hnf ts hdT).trans ho, rfl⟩; refine entry (.ref T) _ _ _ hf' ((Heap.get?_update_ne _ _ _ _ hTe.symm).trans he) hene fun h₃ T' oT' ts' hN hTn' heY hTY hdT' h3' => ?_; have z := z0.trans (hN [e, T] (mem_cons_self)); have hTn' : s'.heap.get? T' = none := by
       cases e1 : s'.heap.get? T' with
       | none => rfl
       | some o1 => obtain ⟨o2, e2⟩ := z0.alive _ _ e1; rw [hTn'] at e2; exact nomatch e2
     refine ⟨k, m', H', hx, ⟨e, _, vs.setIfInBounds 1 (.ref T'), T', oT', ts', rfl, hen, hHe, heY, ⟨(Obj.cls_mapFields _ _).trans hcls, hic.1, fun hp => by rw [Array.getElem?_setIfInBounds_ne (by decide)]; exact hic.2 hp⟩, Obj.data_mapFields hd _, by simp [sz1], (fun q => by subst q; rw [he] at hTn'; exact nomatch hTn'), x.old hTn', R.fresh hTn', hTY, hdT', h3'⟩, R.nudge z y, F.nudge z y, x.nudge z y fun b hb => ?_⟩; rcases mem_cons.mp hb with rfl | hb
     . exact hen
     . rw [mem_singleton.mp hb]; exact hTn
   . refine wpAny_bind (wpAny_field hT hdT h3 ?_); rw [S.fl] at hL; obtain rfl := sj0_ hL; rw [if_pos (show (rawInt env.locals == rawInt env.locals) = true from beq_self_eq_true _)]; exact wpAny_pure ⟨k, m', H', hx, ⟨e, ob, vs, T, oT, ts, rfl, hen, hHe, he, ⟨hcls, hic⟩, hd, h1, hTe, hTn, hHT, hT, ⟨hTc, hdT⟩, h3⟩, R, F, x⟩
theorem qnr {s s' : Shared} {ex : Value} (S : SRep c q d A env m H s) (o : OutF c env H s X ex s') : cameBackBy c.M A env (qbp c env H s X) ex s' := by
 obtain ⟨k, m', H', hx, ⟨e, ob, vs, T, oT, ts, rfl, hen, hHe, he, ⟨hcls, hic⟩, hd, h1, hTe, hTn, hHT, hT, ⟨hTc, hdT⟩, h3⟩, R, F, x⟩ := o; refine wpAny_bind (wpAny_field he hd h1 ?_); dsimp only; rw [if_neg (show ¬ ((Value.ref T == Value.none) = true) from by simp)]; refine wpAny_bind (wpAny_field he hd h1 ?_); rw [if_pos (show (Value.ref T != Value.none) = true from by rfl)]; refine wpAny_setField hT hdT (Array.getElem?_eq_some_iff.mp h3).1 ?_; have sz3 := (Array.getElem?_eq_some_iff.mp h3).1; have hge : ∀ b, s.heap.get? b = none -> c.g.get? b = none := fun b hb => S.rep.gnone hb; have y : qcc c [T] [] H' s'.heap := ⟨fun b hb => by rw [mem_singleton.mp hb]; exact ⟨hHT, hge _ hTn, fun o ho => by rw [hT] at ho; obtain rfl := sj0_ ho; exact ⟨hTc, ts, hdT⟩⟩, fun b hb => nomatch hb⟩; have z : qbt [T] [] s'.heap (s'.heap.update T (Obj.mapFields (·.setIfInBounds 3 (env.frame.elim .none fun f => rawInt f)))) := qbt.update _ _ (mem_singleton.mpr rfl) fun o ho => by rw [hT] at ho; obtain rfl := sj0_ ho; exact Obj.isFreed_of_fields (Obj.data_mapFields hdT _)
 refine OutF.toX S.fl ⟨k, m', H', hx, ⟨e, ob, vs, T, _, _, rfl, hen, hHe, (Heap.get?_update_ne _ _ _ _ hTe.symm).trans he, ⟨hcls, hic⟩, hd, h1, hTe, hTn, hHT, Heap.get?_update_self _ hT (Obj.isFreed_of_fields (Obj.data_mapFields hdT _)), ⟨(congrArg qb0 (Obj.cls_mapFields _ _)).trans hTc, Obj.data_mapFields hdT _⟩, ?_⟩, R.nudge z y, F.nudge z y, x.nudge z y fun b hb => by rw [mem_singleton.mp hb]; exact hTn⟩; rw [S.fl]; simp [sz3]
theorem qfm {s s' : Shared} {ex : Value} (S : SRep c q d A env m H s) (o : qbp c env H s X ex s') : notedBy c.M A env (cameBackBy c.M A env (qbp c env H s X)) ex s' :=
 wpAny_mono (qfl (E := cameBackBy c.M A env (qbp c env H s X)) S o) (fun _ _ o' => qnr S o') fun _ _ e => e
variable {P : Fl -> Map -> AH -> Prop} {pos : Pos}
theorem qi2 {test : Expr} {body orelse : List Stmt} (J : Nat -> Map -> AH -> Prop) (n : Nat) (hj : J n m H)
   (turn : ∀ n m H, J n m H -> awB c q d A env test m H (fun b HJ => if b then awSs c q d A env body m HJ (fun f m' H' => match f with
       | .next | .cont => ∃ k, k < n ∧ J k m' H'
       | .brk => P .next m' H'
       | .ret v => P (.ret v) m' H') X
     else awSs c q d A env orelse m HJ P X) fun k H' => X k m H') : awS c q d A env (.While test body orelse pos) m H P X := by
 intro s S; refine wpAny_While (codeAny_whileLoop (fun k s' => ∃ m' H', J k m' H' ∧ Rep c H' s' ∧ qaz c env m' H' s'.heap ∧ qbx env H s H' s') ?_ n ⟨m, H, hj, S.rep, S.fr, .refl _ _ _⟩); rintro k sJ ⟨mJ, HJ, hjJ, RJ, F₁, xJ⟩; have SJ := S.stepF RJ F₁ xJ; have noted : ∀ {e s'}, qbp c env H s X e s' -> notedBy c.M A env (fun e s' => cameBackBy c.M A env (qbp c env H s X) e s') e s' := fun o => qfm S o; refine wpAny_mono (turn k mJ HJ hjJ sJ SJ.toFRep) (fun b sW zp0 => ?_) fun e s' o => noted ((o.toS SJ.toFRep).from xJ); obtain ⟨HW, hp, RW, xW⟩ := zp0; have SW := SJ.step RW xW; have xJW := xJ.trans xW.toF; cases b with
 | true =>
   simp only [if_true] at hp ⊢; refine wpAny_mono (hp sW SW) (fun f sY zp0 => ?_) fun e s' o => noted (o.from xJW); obtain ⟨g, mY, HY, hq, hf, RY, FY, xY⟩ := zp0; have x := xJW.trans xY; cases g with
   | next => obtain rfl := hf; obtain ⟨k', hk', hj'⟩ := hq; exact ⟨k', hk', mY, HY, hj', RY, FY, x⟩
   | cont => obtain rfl := hf; obtain ⟨k', hk', hj'⟩ := hq; exact ⟨k', hk', mY, HY, hj', RY, FY, x⟩
   | brk => obtain rfl := hf; exact ⟨.next, mY, HY, hq, rfl, RY, FY, x⟩
   | ret v => obtain ⟨u, rfl, hv⟩ := hf; exact ⟨.ret v, mY, HY, hq, ⟨u, rfl, hv⟩, RY, FY, x⟩
 | false =>
   simp only [Bool.false_eq_true, if_false] at hp ⊢; exact wpAny_mono (hp sW SW) (fun f sY o => o.from xJW) fun e s' o => noted (o.from xJW)
end

inductive IK where
 | list (l : Addr)
 | fixed (xs : List V)
 | keys (d : Addr) (n ep : Nat)
 | vals (d : Addr) (n ep : Nat)
def IK.items (H : AH) : IK -> Option (List V)
 | .list l => match H l with | some (.list vs) => some vs | _ => none
 | .fixed xs => some xs
 | .keys d n ep => match H d with | some (.dict kvs ep') => if ep' = ep ∧ kvs.length = n then some (kvs.map fun p => .str p.1) else none | _ => none
 | .vals d n ep => match H d with | some (.dict kvs ep') => if ep' = ep ∧ kvs.length = n then some (kvs.map (·.2)) else none | _ => none
def ItR (h : Heap) (I : Addr) (i : Nat) : IK -> Prop
 | .list l => h.IsListIter I l i
 | .keys d n ep => h.IsKeyIter I d i n ep
 | .vals d n ep => h.IsValIter I d i n ep
 | .fixed xs => (∃ t ws, h.IsTupleIter I t i ∧ h.IsTuple t ws ∧ VRs h xs ws.toList) ∨ (∃ x t, h.IsStrIter I "str_ascii_iterator" x t i ∧ xs = x.cps.toList.map fun k => .str ⟨#[k]⟩) ∨
     (∃ a n : Nat, IsRangeIter h I ((a : Int) + i) ((n : Int) - i) 1 ∧ xs = (List.range n).map fun (k : Nat) => V.int ((a : Int) + k))
theorem ItR.keeps {h h' : Heap} {I : Addr} {i : Nat} (k : ∀ o, h.get? I = some o -> (∃ vs, o.data = .fields vs) -> h'.get? I = some o) (tk : TK h h') : ∀ {ik : IK}, ItR h I i ik -> ItR h' I i ik := by
 intro ik z; refine hide fun Pz bkz => ?_; cases ik with
 | list l => obtain ⟨o, e, a, b⟩ := z; exact bkz ⟨o, k o e ⟨_, b⟩, a, b⟩
 | keys d n ep => obtain ⟨o, e, a, b⟩ := z; exact bkz ⟨o, k o e ⟨_, b⟩, a, b⟩
 | vals d n ep => obtain ⟨o, e, a, b⟩ := z; exact bkz ⟨o, k o e ⟨_, b⟩, a, b⟩
 | fixed xs =>
   rcases z with ⟨t, ws, ⟨o, e, a, b⟩, y, z⟩ | ⟨x, t, ⟨o, e, a, b⟩, y⟩ | ⟨a, n, e, y⟩
   . exact bkz (.inl ⟨t, ws, ⟨o, k o e ⟨_, b⟩, a, b⟩, tk.tup y, z.mono tk⟩)
   . exact bkz (.inr (.inl ⟨x, t, ⟨o, k o e ⟨_, b⟩, a, b⟩, y⟩))
   . exact bkz (.inr (.inr ⟨a, n, k _ e ⟨_, rfl⟩, y⟩))
section
variable {c : Cx} {q : Md} {d : Nat} {A : Around} {env : Env} {m : Map} {H : AH}
structure Only (I : Addr) (h h' : Heap) : Prop where
 keep : ∀ b o, b ≠ I -> h.get? b = some o -> h'.get? b = some o
theorem Only.rep {I : Addr} {s : Shared} {h' : Heap} {t : Nat} (x : Only I s.heap h') (R : Rep c H s) (hI : H I = none) (hg : c.g.get? I = none) (hf : ∀ o, s.heap.get? I = some o -> qb0 o.cls = false) : Rep c H { s with heap := h', toks := t } := by
 have tk : TK s.heap h' := fun a o e hc hd => x.keep a o (fun q => by subst q; rw [hf o e] at hc; exact nomatch hc) e; refine ⟨fun b o e => x.keep b o (fun q => by subst q; rw [hg] at e; exact nomatch e) (R.keep b o e), R.gens, R.os, fun a o e => ?_, R.new⟩; obtain ⟨ob, eo, _⟩ := R.there e; exact (R.at_ a o e).mono tk ((x.keep a ob (fun q => by subst q; rw [hI] at e; exact nomatch e) eo).trans eo.symm)
theorem Only.tk {I : Addr} {h h' : Heap} (x : Only I h h') (hf : ∀ o, h.get? I = some o -> qb0 o.cls = false) : TK h h' :=
 fun a o e hc hd => x.keep a o (fun q => by subst q; rw [hf o e] at hc; exact nomatch hc) e
theorem ItR.rec {h : Heap} {I : Addr} {i : Nat} : ∀ {ik : IK}, ItR h I i ik -> ∀ o, h.get? I = some o -> qb0 o.cls = false := by
 intro ik z o' e'; refine hide fun Pz bkz => ?_; cases ik with
 | list l => obtain ⟨o, e, a, b⟩ := z; rw [e] at e'; obtain rfl := sj0_ e'; exact bkz (by rw [a]; rfl)
 | keys d n ep => obtain ⟨o, e, a, b⟩ := z; rw [e] at e'; obtain rfl := sj0_ e'; exact bkz (by rw [a]; rfl)
 | vals d n ep => obtain ⟨o, e, a, b⟩ := z; rw [e] at e'; obtain rfl := sj0_ e'; exact bkz (by rw [a]; rfl)
 | fixed xs =>
   rcases z with ⟨t, ws, ⟨o, e, a, b⟩, y, z⟩ | ⟨x, t, ⟨o, e, a, b⟩, y⟩ | ⟨a, n, e, y⟩
   . rw [e] at e'; obtain rfl := sj0_ e'; exact bkz (by rw [a]; rfl)
   . rw [e] at e'; obtain rfl := sj0_ e'; exact bkz (by rw [a]; rfl)
   . rw [show h.get? I = _ from e] at e'; obtain rfl := sj0_ e'; exact bkz rfl
theorem ItR.there {h : Heap} {I : Addr} {i : Nat} : ∀ {ik : IK}, ItR h I i ik -> ∃ o vs, h.get? I = some o ∧ o.data = .fields vs := by
 intro ik z; refine hide fun Pz bkz => ?_; cases ik with
 | list l => obtain ⟨o, e, a, b⟩ := z; exact bkz ⟨o, _, e, b⟩
 | keys d n ep => obtain ⟨o, e, a, b⟩ := z; exact bkz ⟨o, _, e, b⟩
 | vals d n ep => obtain ⟨o, e, a, b⟩ := z; exact bkz ⟨o, _, e, b⟩
 | fixed xs =>
   rcases z with ⟨t, ws, ⟨o, e, a, b⟩, y, z⟩ | ⟨x, t, ⟨o, e, a, b⟩, y⟩ | ⟨a, n, e, y⟩
   . exact bkz ⟨o, _, e, b⟩
   . exact bkz ⟨o, _, e, b⟩
   . exact bkz ⟨_, _, e, rfl⟩
inductive qp4 (c : Cx) (H : AH) (I : Addr) (i : Nat) (ik : IK) (s : Shared) (x : V) (r : Option Value) (s' : Shared) : Prop
 | mk (v : Value) (h' : Heap) (t : Nat) (e : r = some v) (f : s' = { s with heap := h', toks := t }) (a : VR h' x v) (b : ItR h' I (i + 1) ik) (o : Only I s.heap h')
inductive qrp (I : Addr) (s : Shared) (r : Option Value) (s' : Shared) : Prop
 | mk (h' : Heap) (t : Nat) (e : r = none) (f : s' = { s with heap := h', toks := t }) (o : Only I s.heap h')
theorem qjq {I : Addr} {i : Nat} {ik : IK} {xs : List V} {x : V} {s : Shared} {E : Value -> Shared -> Prop} (R : Rep c H s) (it : ItR s.heap I i ik) (hI : H I = none) (hs : ik.items H = some xs) (hx : xs[i]? = some x) :
   wpAny c.M A (pyNext (.ref I)) (qp4 c H I i ik s x) E s := by
 have rc := it.rec; cases ik with
 | list l =>
   simp only [IK.items] at hs; split at hs
   . rename_i vs hl; obtain rfl := sj0_ hs; obtain ⟨items, n, e, hv⟩ := R.at_ _ _ hl; obtain ⟨v, hv1, hv2⟩ := hv.get hx; refine wpAny_pyNext_list_item it ⟨_, e, rfl, n, rfl⟩ (by rw [← Array.getElem?_toList]; exact hv1) fun h' hi hsb => ?_; have o : Only I s.heap h' := ⟨fun b o hb e => (hsb.2 b hb).trans e⟩; exact ⟨v, h', s.toks, rfl, rfl, hv2.mono (o.tk rc), hi, o⟩
   . exact nomatch hs
 | keys d n ep =>
   simp only [IK.items] at hs; split at hs
   . rename_i kvs ep' hl; split at hs
     . rename_i hh; obtain ⟨rfl, rfl⟩ := hh; obtain rfl := sj0_ hs; obtain ⟨ys, hD, hk, hv, _⟩ := R.at_ _ _ hl; have hlen : ys.length = kvs.length := by simpa using congrArg List.length hk
       rw [getElem?_map] at hx; obtain ⟨p, hp, rfl⟩ := Option.map_eq_some_iff.mp hx; have hy : (ys.map (·.1))[i]? = some p.1 := by rw [hk, getElem?_map, hp]; rfl
       rw [getElem?_map] at hy; obtain ⟨⟨k, w⟩, hy, rfl⟩ := Option.map_eq_some_iff.mp hy; have it' : s.heap.IsKeyIter I d i ys.length ep' := by rw [hlen]; exact it
       refine wpAny_pyNext_dict_item it' hD hy fun key h' hkey hi hsb => ?_; have o : Only I s.heap h' := ⟨fun b o hb e => (hsb.2 b hb).trans e⟩; rw [hlen] at hi; exact ⟨key, h', s.toks, rfl, rfl, (Value.isStrOf_shape hkey : ∃ t, key = .str _ t), hi, o⟩
     . exact nomatch hs
   . exact nomatch hs
 | vals d n ep =>
   simp only [IK.items] at hs; split at hs
   . rename_i kvs ep' hl; split at hs
     . rename_i hh; obtain ⟨rfl, rfl⟩ := hh; obtain rfl := sj0_ hs; obtain ⟨ys, hD, hk, hv, _⟩ := R.at_ _ _ hl; have hlen : ys.length = kvs.length := by simpa using congrArg List.length hk
       obtain ⟨v, hv1, hv2⟩ := hv.get hx; rw [getElem?_map] at hv1; obtain ⟨⟨k, w⟩, hy, rfl⟩ := Option.map_eq_some_iff.mp hv1; have it' : s.heap.IsValIter I d i ys.length ep' := by rw [hlen]; exact it
       refine wpAny_pyNext_values_item it' hD hy fun h' hi hsb => ?_; have o : Only I s.heap h' := ⟨fun b o hb e => (hsb.2 b hb).trans e⟩; rw [hlen] at hi; exact ⟨w, h', s.toks, rfl, rfl, hv2.mono (o.tk rc), hi, o⟩
     . exact nomatch hs
   . exact nomatch hs
 | fixed ys =>
   obtain rfl := sj0_ hs; rcases it with ⟨t, ws, hi, ht, hv⟩ | ⟨y, t, hi, rfl⟩ | ⟨a, n, hi, rfl⟩
   . obtain ⟨v, hv1, hv2⟩ := hv.get hx; refine wpAny_pyNext_tuple_item hi ht (by rw [← Array.getElem?_toList]; exact hv1) fun h' hi' hsb => ?_; have o : Only I s.heap h' := ⟨fun b o hb e => (hsb.2 b hb).trans e⟩; exact ⟨v, h', s.toks, rfl, rfl, hv2.mono (o.tk rc), .inl ⟨t, ws, hi', (o.tk rc).tup ht, hv.mono (o.tk rc)⟩, o⟩
   . rw [getElem?_map] at hx; obtain ⟨k, hk, rfl⟩ := Option.map_eq_some_iff.mp hx; refine wpAny_pyNext_ascii_item hi (by rw [← Array.getElem?_toList]; exact hk) fun h' hi' hsb => ?_; have o : Only I s.heap h' := ⟨fun b o hb e => (hsb.2 b hb).trans e⟩; exact ⟨_, h', s.toks + 1, rfl, rfl, ⟨_, rfl⟩, .inr (.inl ⟨y, t, hi', rfl⟩), o⟩
   . rw [getElem?_map] at hx; obtain ⟨k, hk, rfl⟩ := Option.map_eq_some_iff.mp hx; obtain ⟨hlt, rfl⟩ : i < n ∧ i = k := by
       have h1 := List.getElem?_eq_some_iff.mp hk; obtain ⟨h2, h3⟩ := h1; simp at h2 h3; exact ⟨h2, h3⟩
     refine wpAny_pyNext_range_item hi (by lia) fun h' hi' hsb => ?_; have o : Only I s.heap h' := ⟨fun b o hb e => (hsb.2 b hb).trans e⟩; refine ⟨_, h', s.toks + 1, rfl, rfl, ⟨_, rfl⟩, .inr (.inr ⟨a, n, ?_, rfl⟩), o⟩; have e1 : ((a : Int) + (i : Int) + 1) = (a : Int) + ((i + 1 : Nat) : Int) := by push_cast; lia
     have e2 : ((n : Int) - (i : Int) - 1) = (n : Int) - ((i + 1 : Nat) : Int) := by push_cast; lia
     rw [← e1, ← e2]; exact hi'
theorem qlw {I : Addr} {i : Nat} {ik : IK} {xs : List V} {s : Shared} {E : Value -> Shared -> Prop} (hh : A.handled = none) (R : Rep c H s) (it : ItR s.heap I i ik) (hI : H I = none) (hs : ik.items H = some xs) (hx : xs.length ≤ i) :
   wpAny c.M A (pyNext (.ref I)) (qrp I s) E s := by
 cases ik with
 | list l =>
   simp only [IK.items] at hs; split at hs
   . rename_i vs hl; obtain rfl := sj0_ hs; obtain ⟨items, n, e, hv⟩ := R.at_ _ _ hl; refine wpAny_pyNext_list_end hh it ⟨_, e, rfl, n, rfl⟩ (Array.getElem?_eq_none (by rw [← Array.length_toList, ← hv.length]; exact hx)) fun h' hsb => ?_; exact ⟨h', s.toks, rfl, rfl, ⟨fun b o hb e => hsb b o hb e⟩⟩
   . exact nomatch hs
 | keys d n ep =>
   simp only [IK.items] at hs; split at hs
   . rename_i kvs ep' hl; split at hs
     . rename_i hh'; obtain ⟨rfl, rfl⟩ := hh'; obtain rfl := sj0_ hs; obtain ⟨ys, hD, hk, hv, _⟩ := R.at_ _ _ hl; have hlen : ys.length = kvs.length := by simpa using congrArg List.length hk
       have it' : s.heap.IsKeyIter I d i ys.length ep' := by rw [hlen]; exact it
       refine wpAny_pyNext_dict_end hh it' hD (List.getElem?_eq_none (by rw [hlen]; simpa using hx)) fun h' hsb => ?_; exact ⟨h', s.toks, rfl, rfl, ⟨fun b o hb e => hsb b o hb e⟩⟩
     . exact nomatch hs
   . exact nomatch hs
 | vals d n ep =>
   simp only [IK.items] at hs; split at hs
   . rename_i kvs ep' hl; split at hs
     . rename_i hh'; obtain ⟨rfl, rfl⟩ := hh'; obtain rfl := sj0_ hs; obtain ⟨ys, hD, hk, hv, _⟩ := R.at_ _ _ hl; have hlen : ys.length = kvs.length := by simpa using congrArg List.length hk
       have it' : s.heap.IsValIter I d i ys.length ep' := by rw [hlen]; exact it
       refine wpAny_pyNext_values_end hh it' hD (List.getElem?_eq_none (by rw [hlen]; simpa using hx)) fun h' hsb => ?_; exact ⟨h', s.toks, rfl, rfl, ⟨fun b o hb e => hsb b o hb e⟩⟩
     . exact nomatch hs
   . exact nomatch hs
 | fixed ys =>
   obtain rfl := sj0_ hs; rcases it with ⟨t, ws, hi, ht, hv⟩ | ⟨y, t, hi, rfl⟩ | ⟨a, n, hi, rfl⟩
   . refine wpAny_pyNext_tuple_end hh hi ht (Array.getElem?_eq_none (by rw [← Array.length_toList, ← hv.length]; exact hx)) fun h' hsb => ?_; exact ⟨h', s.toks, rfl, rfl, ⟨fun b o hb e => hsb b o hb e⟩⟩
   . refine wpAny_pyNext_ascii_end hh hi (Array.getElem?_eq_none (by simpa using hx)) fun h' hsb => ?_; exact ⟨h', s.toks, rfl, rfl, ⟨fun b o hb e => hsb b o hb e⟩⟩
   . refine wpAny_pyNext_range_end hh hi (by simp at hx; lia) fun h' hsb => ?_; exact ⟨h', s.toks, rfl, rfl, ⟨fun b o hb e => hsb b o hb e⟩⟩
theorem qaz.onlyT {I : Addr} {h h' : Heap} (F : qaz c env m H h) (o : Only I h h') (tk : TK h h') (nL : I ≠ env.locals) (nC : ∀ k ∈ env.cells, I ≠ k.2) : qaz c env m H h' := by
 obtain ⟨mO, ⟨oL, es, ep, hL, hLd, hr⟩, hm⟩ := F.loc; refine ⟨F.kind, F.glob, F.bltn, ⟨mO, ⟨oL, es, ep, o.keep _ _ nL.symm hL, hLd, hr⟩, fun z w hz hk => ?_⟩, fun z w hz hk => ?_, F.free, F.low, fun k hk => ?_, F.nd⟩
 . obtain ⟨u, a, b⟩ := hm z w hz hk; exact ⟨u, a, b.mono tk⟩
 . obtain ⟨hk', k, u, a, ⟨ok, ek, dk⟩, b⟩ := F.cel z w hz hk; exact ⟨hk', k, u, a, ⟨ok, o.keep _ _ (nC _ (qat a)).symm ek, dk⟩, b.mono tk⟩
 . obtain ⟨a, ⟨vO, ok, ek, dk⟩, b⟩ := F.cfree k hk; exact ⟨a, ⟨vO, ok, o.keep _ _ (nC k hk).symm ek, dk⟩, b⟩
theorem qaz.only {I : Addr} {h h' : Heap} (F : qaz c env m H h) (o : Only I h h') (hf : ∀ o, h.get? I = some o -> qb0 o.cls = false) (nL : I ≠ env.locals) (nC : ∀ k ∈ env.cells, I ≠ k.2) : qaz c env m H h' := F.onlyT o (o.tk hf) nL nC
theorem qbx.only {I : Addr} {HY : AH} {s sY : Shared} {h' : Heap} {t : Nat} (x : qbx env H s HY sY) (o : Only I sY.heap h') (hI : s.heap.get? I = none) (hH : H I = none -> True) : qbx env H s HY { sY with heap := h', toks := t } := by
 have ne : ∀ b ob, s.heap.get? b = some ob -> b ≠ I := fun b ob e q => by subst q; rw [hI] at e; exact nomatch e
 refine ⟨fun b ob e n h1 h2 => ?_, x.new, fun b ob e => ?_⟩
 . obtain ⟨o', e', k⟩ := x.kept b ob e n h1 h2; exact ⟨o', o.keep b o' (ne b ob e) e', k⟩
 . obtain ⟨o', e'⟩ := x.alive b ob e; exact ⟨o', o.keep b o' (ne b ob e) e'⟩
end
def qq4 (x : Str) : List V := x.cps.toList.map fun k => .str ⟨#[k]⟩
def upTo (n : Nat) : List V := (List.range n).map fun (k : Nat) => .int k
def qcw (H : AH) : V -> Option IK
 | .ref a => match H a with
   | some (.list _) => some (.list a)
   | some (.dict kvs ep) => some (.keys a kvs.length ep)
   | _ => none
 | .str x => if x.cps.all (· < 128) then some (.fixed (qq4 x)) else none
 | .tup vs => some (.fixed vs)
 | .rng n => some (.fixed (upTo n))
 | .vals d => match H d with
   | some (.dict kvs ep) => some (.vals d kvs.length ep)
   | _ => none
 | _ => none
section
variable {c : Cx} {q : Md} {d : Nat} {A : Around} {env : Env} {m : Map} {H : AH} {P : Fl -> Map -> AH -> Prop} {X : Exc -> Map -> AH -> Prop} {pos : Pos}
inductive qlc (ik : IK) (s : Shared) (it : Value) (s' : Shared) : Prop
 | mk (I : Addr) (h' : Heap) (e : it = .ref I) (f : s' = { s with heap := h' }) (a : ItR h' I 0 ik) (k : ∀ b o, s.heap.get? b = some o -> h'.get? b = some o) (n : s.heap.get? I = none)
theorem qe6 (n : Nat) : Builtin.Range.rangeSize 0 n 1 = n := by
 unfold Builtin.Range.rangeSize
 first | (simp; done) | (simp; lia) | (split <;> simp <;> omega)
theorem qpp {n : Nat} (h : n < 1000000) : Builtin.Range.small 0 n 1 = true := by
 unfold Builtin.Range.small; rw [qe6]; have f : ∀ k : Int, 0 ≤ k -> k < 2000000 -> Builtin.Range.rangeFitsLong k = true := fun k h0 h1 => by
   unfold Builtin.Range.rangeFitsLong; rw [Bool.and_eq_true, decide_eq_true_eq, decide_eq_true_eq]; constructor <;> lia
 rw [f 0 (by decide) (by decide), f n (by lia) (by lia), f 1 (by decide) (by decide), if_pos (by decide), f (n + (1 - 1)) (by lia) (by lia), Bool.or_true]; rfl
theorem qkz {x : V} {v : Value} {ik : IK} {s : Shared} {E : Value -> Shared -> Prop} (R : Rep c H s) (hv : VR s.heap x v) (hi : qcw H x = some ik) : wpAny c.M A (pyIter v) (qlc ik s) E s := by
 have fin : ∀ (o : Obj), (∀ h', h'.get? s.heap.objs.size = some o -> (∀ b o, s.heap.get? b = some o -> h'.get? b = some o) -> ItR h' s.heap.objs.size 0 ik) -> o.isFreed = false -> qlc ik s (.ref s.heap.objs.size) { s with heap := s.heap.push o } := fun o h hf =>
   ⟨_, _, rfl, rfl, h _ (Heap.get?_push_size _ hf) (fun b o e => Heap.get?_push_of_some _ e), fun b o e => Heap.get?_push_of_some _ e, get?_size _⟩
 cases x with
 | ref a =>
   obtain rfl := hv; simp only [qcw] at hi; split at hi
   . rename_i vs ha; obtain rfl := sj0_ hi; refine hide fun Pz bkz => ?_; obtain ⟨items, n, e, _⟩ := R.at_ _ _ ha; refine bkz ?_; exact wpAny_pyIter_list (items := items) ⟨_, e, rfl, n, rfl⟩ (fin _ (fun h' e' _ => ⟨_, e', rfl, rfl⟩) rfl)
   . rename_i kvs ep ha; obtain rfl := sj0_ hi; obtain ⟨ys, hD, hk, _, hs⟩ := R.at_ _ _ ha; have hlen : ys.length = kvs.length := by simpa using congrArg List.length hk
     exact wpAny_pyIter_dict hs hD (fin _ (fun h' e' _ => ⟨_, e', rfl, by (refine (Eq.symm hlen) ▸ ?_); rfl⟩) rfl)
   . exact nomatch hi
 | str y =>
   obtain ⟨t, rfl⟩ := hv; simp only [qcw] at hi; split at hi
   . rename_i ha; obtain rfl := sj0_ hi; exact wpAny_pyIter_ascii ha (fin _ (fun h' e' _ => .inr (.inl ⟨y, t, ⟨_, e', rfl, rfl⟩, rfl⟩)) rfl)
   . exact nomatch hi
 | tup vs =>
   obtain ⟨a, ws, rfl, ht, hr⟩ := hv; obtain rfl := sj0_ hi; refine wpAny_pyIter_tuple ht (fin _ (fun h' e' k => .inl ⟨a, ws, ⟨_, e', rfl, rfl⟩, (TK.of_keeps k).tup ht, hr.mono (TK.of_keeps k)⟩) rfl)
 | rng n =>
   obtain ⟨a, t, u, w, rfl, hr, hn⟩ := hv; obtain rfl := sj0_ hi; refine wpAny_pyIter_range hr (qpp hn) (fin _ (fun h' e' k => .inr (.inr ⟨0, n, ?_, by simp [upTo]⟩)) rfl); rw [qe6] at e'; simpa using e'
 | vals dd =>
   obtain ⟨a, rfl, hr⟩ := hv; simp only [qcw] at hi; split at hi
   . rename_i kvs ep ha; obtain rfl := sj0_ hi; obtain ⟨ys, hD, hk, _, hs⟩ := R.at_ _ _ ha; have hlen : ys.length = kvs.length := by simpa using congrArg List.length hk
     exact wpAny_pyIter_values hr hD (fin _ (fun h' e' _ => ⟨_, e', rfl, by (refine (Eq.symm hlen) ▸ ?_); rfl⟩) rfl)
   . exact nomatch hi
 | _ => exact nomatch hi
theorem qls {I : Addr} {i : Nat} {ik : IK} {target : Expr} {v : Value} {s : Shared} {Q : Unit -> Shared -> Prop} {E : Value -> Shared -> Prop} (it : ItR s.heap I i ik) (h : Q () s) : wpAny c.M A (letOwnedTupleGo target (.ref I) v) Q E s := by
 have key : ∃ o n vs, s.heap.get? I = some o ∧ o.cls = .type n ∧ o.data = .fields vs ∧ ["enumerate", "zip", "dict_itemiterator", "dict_reverseitemiterator", "odict_iterator", "itertools.zip_longest", "itertools.pairwise"].contains n = false := by
   cases ik with
   | list l => obtain ⟨o, e, a, b⟩ := it; exact ⟨o, _, _, e, a, b, by decide⟩
   | keys d n ep => obtain ⟨o, e, a, b⟩ := it; exact ⟨o, _, _, e, a, b, by decide⟩
   | vals d n ep => obtain ⟨o, e, a, b⟩ := it; exact ⟨o, _, _, e, a, b, by decide⟩
   | fixed xs =>
     rcases it with ⟨t, ws, ⟨o, e, a, b⟩, y, z⟩ | ⟨x, t, ⟨o, e, a, b⟩, y⟩ | ⟨a, n, e, y⟩
     . exact ⟨o, _, _, e, a, b, by decide⟩
     . exact ⟨o, _, _, e, a, b, by decide⟩
     . exact ⟨_, _, _, e, rfl, rfl, by decide⟩
 obtain ⟨o, n, vs, e, hc, hd, hn⟩ := key; have body : ∀ a, wpAny c.M A (do
     let o ← load I
     match o.cls, o.data with
       | Value.type n, Data.fields vs =>
         if (["enumerate", "zip", "dict_itemiterator", "dict_reverseitemiterator", "odict_iterator", "itertools.zip_longest", "itertools.pairwise"].contains n && vs[0]? == some (rawInt (a : Addr))) = true then do
           rule "for.unpacks-the-owned-tuple"
           updateField I 0 Value.none
         else pure ()
       | x, x_1 => pure ()) Q E s := fun a => by
   refine wpAny_bind (wpAny_load e ?_); (refine (Eq.symm hc) ▸ ?_; refine (Eq.symm hd) ▸ ?_); dsimp only; (refine (Eq.symm hn) ▸ ?_); exact wpAny_pure h
 unfold letOwnedTupleGo; split
 . cases v <;> first | exact body _ | exact wpAny_pure h
 . cases v <;> first | exact body _ | exact wpAny_pure h
 . exact wpAny_pure h

def qmx : Expr -> Option Str
 | .Name y _ => some y
 | _ => none
def twoE : List Expr -> Option (Str × Str)
 | [a, b] => (qmx a).bind fun x => (qmx b).map fun y => (x, y)
 | _ => none
def qqz : Expr -> Option (Str × Str)
 | .Tuple es _ _ => twoE es
 | _ => none
def tgtNames (t : Expr) : List Str := ((qmx t).map fun y => [y]).getD (((qqz t).map fun p => [p.1, p.2]).getD [])
def twoV : V -> Option (V × V)
 | .tup [x, y] => some (x, y)
 | _ => none
def asgV (t : Expr) (x : V) (m : Map) : Option Map := match tgtNames t with
 | [y] => some (set m y x)
 | [a, b] => (twoV x).map fun p => set (set m a p.1) b p.2
 | _ => none
def qj0 (env : Env) (t : Expr) : Prop := match tgtNames t with
 | [y] => qan env y
 | [a, b] => qan env a ∧ qan env b
 | _ => False
theorem qhb {t : Expr} {y : Str} (h : qmx t = some y) : ∃ p, t = .Name y p := by
 cases t <;> (first | (obtain rfl := sj0_ h) | cases h)
 exact ⟨_, rfl⟩
theorem qpe {t : Expr} {p : Str × Str} (h : qqz t = some p) : ∃ pa pb k pos, t = .Tuple [.Name p.1 pa, .Name p.2 pb] k pos := by
 obtain ⟨es, k, pos, rfl⟩ : ∃ es k pos, t = .Tuple es k pos := by
   cases t <;> first | exact ⟨_, _, _, rfl⟩ | cases h
 replace h : twoE es = some p := h
 match es, h with
 | [a, b], h =>
   obtain ⟨x, h1, h3⟩ := Option.bind_eq_some_iff.mp h; obtain ⟨y, h2, h4⟩ := Option.map_eq_some_iff.mp h3; obtain ⟨pa, rfl⟩ := qhb h1; obtain ⟨pb, rfl⟩ := qhb h2; subst h4; exact ⟨pa, pb, k, pos, rfl⟩
theorem qsn {t : Expr} {y : Str} (h : tgtNames t = [y]) : ∃ p, t = .Name y p := by
 unfold tgtNames at h; cases e : qmx t with
 | some z => rw [e] at h; cases h; exact qhb e
 | none => rw [e] at h; cases e2 : qqz t with
   | some z => rw [e2] at h; exact nomatch h
   | none => rw [e2] at h; exact nomatch h
theorem qso {t : Expr} {a b : Str} (h : tgtNames t = [a, b]) : ∃ pa pb k pos, t = .Tuple [.Name a pa, .Name b pb] k pos := by
 unfold tgtNames at h; cases e : qmx t with
 | some z => rw [e] at h; cases h
 | none => rw [e] at h; cases e2 : qqz t with
   | some z => rw [e2] at h; cases h; exact qpe e2
   | none => rw [e2] at h; exact nomatch h
theorem qra {x : V} {p : V × V} (h : twoV x = some p) : x = .tup [p.1, p.2] := by
 obtain ⟨vs, rfl⟩ : ∃ vs, x = .tup vs := by
   cases x <;> first | exact ⟨_, rfl⟩ | cases h
 match vs, h with
 | [a, b], h => obtain rfl := sj0_ h; rfl
theorem qpw {env : Env} {t : Expr} {x : V} {m m' : Map} (h : qj0 env t) (e : asgV t x m = some m') : (∃ y p, t = .Name y p ∧ qan env y ∧ m' = set m y x) ∨ ∃ a pa b pb k pos xJ xW, t = .Tuple [.Name a pa, .Name b pb] k pos ∧ x = .tup [xJ, xW] ∧ qan env a ∧ qan env b ∧ m' = set (set m a xJ) b xW := by
 unfold asgV at e; generalize hn : tgtNames t = ns at h e
 match ns, hn, h, e with
 | [y], hn, h, e => obtain rfl := sj0_ e; obtain ⟨p, rfl⟩ := qsn hn; exact .inl ⟨y, p, rfl, h, rfl⟩
 | [a, b], hn, h, e =>
   refine hide fun Pz bkz => ?_; obtain ⟨pa, pb, k, pos, rfl⟩ := qso hn; obtain ⟨p, h1, h2⟩ := Option.map_eq_some_iff.mp e; refine bkz ?_; exact .inr ⟨a, pa, b, pb, k, pos, p.1, p.2, rfl, qra h1, h.1, h.2, h2.symm⟩
def qqr (env : Env) (y : Str) (b : Addr) : Prop := (env.kindOf y = some .local ∧ b = env.locals) ∨ (env.kindOf y ≠ some .local ∧ env.cells.lookup y = some b)
def qsv (c : Cx) (env : Env) (t : Expr) (H : AH) (s : Shared) (m' : Map) (s' : Shared) : Prop := Rep c H s' ∧ qaz c env m' H s'.heap ∧ qbx env H s H s' ∧ ∀ b o, s.heap.get? b = some o -> (∀ y ∈ tgtNames t, ¬ qqr env y b) -> s'.heap.get? b = some o
theorem qrf {t : Expr} {x : V} {v : Value} {m' : Map} {s : Shared} {E : Value -> Shared -> Prop} (hh : A.handled = none) (R : Rep c H s) (F : qaz c env m H s.heap) (hv : VR s.heap x v) (ht : qj0 env t) (e : asgV t x m = some m') :
   wpAny c.M A (assign t env v) (fun _ s' => qsv c env t H s m' s') E s := by
 rcases qpw ht e with ⟨y, p, rfl, ht, rfl⟩ | ⟨a, pa, b, pb, k, pos, xJ, xW, rfl, rfl, ha, hb, rfl⟩
 . exact wpAny_assign_Name (wpAny_mono (qcp R F hv ht) (fun _ s' zp0 => by obtain ⟨a, b, d, k⟩ := zp0; exact ⟨a, b, d, fun b' o e h => k b' o e (fun h1 h2 => h _ (mem_singleton.mpr rfl) (.inl ⟨h1, h2⟩)) fun h1 h2 => h _ (mem_singleton.mpr rfl) (.inr ⟨h1, h2⟩)⟩) fun _ _ h => h)
 . refine hide fun Pz bkz => ?_; obtain ⟨T, ws, rfl, hT, hr⟩ := hv; obtain ⟨wJ, ws', hw, hv1, wW, ws'', rfl, hv2, hnil⟩ := hr; refine bkz ?_; obtain rfl := hnil; have hws : ws = #[wJ, wW] := by
     apply Array.toList_inj.mp; rw [hw]
   subst hws; refine wpAny_assign_Tuple hh hT rfl rfl fun h₁ kJ => ?_; have kk : ∀ b o, s.heap.get? b = some o -> h₁.get? b = some o := fun b o e => kJ b o (ne_of_lt (Heap.lt_size e)) e; have RJ : Rep c H { s with heap := h₁ } := R.silent kk rfl rfl; have stJ : Step H s H { s with heap := h₁ } := .silent kk; have F₁ := F.step R stJ; show wpAny _ A (assignInOrder [fun v => assign (.Name a pa) env v, fun v => assign (.Name b pb) env v] [wJ, wW]) _ E _; refine wpAny_bind (wpAny_holding (wpAny_assign_Name (wpAny_mono (qcp RJ F₁ (hv1.mono (TK.of_keeps kk)) ha) (fun _ sW zp0 => ?_) fun _ _ h => h))); obtain ⟨RW, FW, xW, kW⟩ := zp0; refine wpAny_bind (wpAny_holding (wpAny_assign_Name (wpAny_mono (qcp RW FW (hv2.mono ((TK.of_keeps kk).trans (F₁.tk RJ xW))) hb) (fun _ sY zp0 => ?_) fun _ _ h => h))); obtain ⟨RY, FY, xY, kY⟩ := zp0; exact wpAny_pure ⟨RY, FY, (stJ.toF.trans xW).trans xY, fun b' o e h => kY b' o (kW b' o (kk b' o e) (fun h1 h2 => h a (show a ∈ [a, b] from mem_cons_self ..) (.inl ⟨h1, h2⟩)) fun h1 h2 => h a (show a ∈ [a, b] from mem_cons_self ..) (.inr ⟨h1, h2⟩)) (fun h1 h2 => h b (show b ∈ [a, b] from mem_cons_of_mem _ (mem_singleton.mpr rfl)) (.inl ⟨h1, h2⟩)) fun h1 h2 => h b (show b ∈ [a, b] from mem_cons_of_mem _ (mem_singleton.mpr rfl)) (.inr ⟨h1, h2⟩)⟩

def forP (st : AH -> Prop) (turn : V -> Map -> AH -> (Fl -> Map -> AH -> Prop) -> Prop) (P : Fl -> Map -> AH -> Prop) : List V -> Map -> AH -> Prop
 | [], m, H => st H ∧ P .next m H
 | x :: r, m, H => st H ∧ turn x m H fun f m' H' => match f with
   | .next | .cont => forP st turn P r m' H'
   | .brk => P .next m' H'
   | .ret v => P (.ret v) m' H'
inductive ForJ (c : Cx) (env : Env) (turn : V -> Map -> AH -> (Fl -> Map -> AH -> Prop) -> Prop) (P : Fl -> Map -> AH -> Prop) (ik : IK) (xs : List V) (I : Addr) (H : AH) (s : Shared) (k : Nat) (s' : Shared) : Prop
 | mk (m' : Map) (H' : AH) (i : Nat) (rest : List V) (e : k = rest.length + 1) (f : xs.drop i = rest) (l : i ≤ xs.length) (t : forP (fun H => ik.items H = some xs) turn P rest m' H') (a : ItR s'.heap I i ik) (r : Rep c H' s') (F : qaz c env m' H' s'.heap) (z : qbx env H s H' s') (n : H' I = none)
theorem qrt {target iter : Expr} {body : List Stmt} (hh : q = .quiet) (hs : ∀ x, foldedSetIterable iter env x = pure x) (ht : qj0 env target)
   (h : awE c q d A env iter m H (fun x HJ => ∃ ik xs, qcw HJ x = some ik ∧ forP (fun H => ik.items H = some xs) (fun x m H K => ∃ mJ, asgV target x m = some mJ ∧ awSs c q d A env body mJ H K X) P xs m HJ) fun k H' => X k m H') :
   awS c q d A env (.For target iter body [] pos) m H P X := by
 intro s S; have hq : A.handled = none := S.ok.quiet hh; refine wpAny_For (qaj h S.toFRep (fun x HJ sJ v zp0 F₁ hv xJ => ?_) fun _ _ o => o.toS S.toFRep) hs; obtain ⟨ik, xs, hik, hfor⟩ := zp0; refine wpAny_mono (qkz (E := qbp c env H s X) F₁.rep hv hik) (fun it sW zp0 => ?_) fun _ _ e => e; obtain ⟨I, hW, e1, e2, itO, kW, hI⟩ := zp0; subst e1 e2; have RW : Rep c HJ { sJ with heap := hW } := F₁.rep.silent kW rfl rfl; have yW : Step HJ sJ HJ { sJ with heap := hW } := .silent kW; have SJ := S.step F₁.rep xJ; have SW := SJ.step RW yW; have HI : HJ I = none := F₁.rep.fresh hI; have gI : c.g.get? I = none := F₁.rep.gnone hI; refine hide fun Pz bkz => ?_; obtain ⟨mL, ⟨oL, _, _, hL, _⟩, _⟩ := id F₁.fr.loc; refine bkz ?_; have nL : I ≠ env.locals := fun e => by rw [e, hL] at hI; cases hI
 have nC : ∀ k ∈ env.cells, I ≠ k.2 := fun k hk e => by
   obtain ⟨_, ⟨vO, o, e', _⟩, _⟩ := F₁.fr.cfree k hk; rw [e, e'] at hI; cases hI
 have noted : ∀ {e s'}, qbp c env H s X e s' -> notedBy c.M A env (fun e s' => cameBackBy c.M A env (qbp c env H s X) e s') e s' := fun o => qfm S o; refine codeAny_forLoop_any (ForJ c env (fun x m H K => ∃ mJ, asgV target x m = some mJ ∧ awSs c q d A env body mJ H K X) P ik xs I H s) ?_ (xs.length + 1)
   ⟨m, HJ, 0, xs, rfl, rfl, zero_le _, hfor, itO, RW, SW.fr, xJ.toF.trans yW.toF, HI⟩
 rintro k sY ⟨mY, HY, i, rest, rfl, hdrop, hle, hfor, itY, RY, FY, xY, HIY⟩; have SY := S.stepF RY FY xY; cases rest with
 | nil =>
   obtain ⟨hst, hp⟩ := hfor; refine wpAny_mono (qlw (E := qbp c env H s X) hq RY itY HIY hst (List.drop_eq_nil_iff.mp hdrop)) (fun r sV zp0 => ?_) fun _ _ o => noted o; obtain ⟨hV, tV, e1, e2, oV⟩ := zp0; subst e1 e2; have RV : Rep c HY { sY with heap := hV, toks := tV } := oV.rep RY HIY gI itY.rec; have xV : qbx env H s HY { sY with heap := hV, toks := tV } := xY.only oV (xJ.old hI) fun _ => trivial; have FV : qaz c env mY HY hV := FY.only oV itY.rec nL nC; exact wpAny_execs_nil ⟨.next, mY, HY, hp, rfl, RV, FV, xV⟩
 | cons x rest =>
   refine hide fun Pz bkz => ?_; obtain ⟨hst, mJ, hmJ, hbody⟩ := hfor; refine bkz ?_; have hx : xs[i]? = some x := by
     have := congrArg (·[0]?) hdrop; simpa using this
   refine wpAny_mono (qjq (E := qbp c env H s X) RY itY HIY hst hx) (fun r sV zp0 => ?_) fun _ _ o => noted o; obtain ⟨vV, hV, tV, e1, e2, hvV, itV, oV⟩ := zp0; subst e1 e2; have RV : Rep c HY { sY with heap := hV, toks := tV } := oV.rep RY HIY gI itY.rec; have xV : qbx env H s HY { sY with heap := hV, toks := tV } := xY.only oV (xJ.old hI) fun _ => trivial; have FV : qaz c env mY HY hV := FY.only oV itY.rec nL nC; refine qls (s := { sY with heap := hV, toks := tV }) itV ?_; refine wpAny_mono (qrf (E := fun _ _ => False) hq RV FV hvV ht hmJ) (fun _ sZ ⟨RZ, FZ, xZ, _⟩ => ?_) fun _ _ e => e.elim; have xZ' := xV.trans xZ; have SZ := S.stepF RZ FZ xZ'; refine hide fun Pz bkz => ?_; obtain ⟨oI, vI, eI, dI⟩ := itV.there; refine bkz ?_; have keepI : ∀ {H' s'}, qbx env HY { sY with heap := hV, toks := tV } H' s' -> H' I = none ∧ ItR s'.heap I (i + 1) ik := fun {H' s'} y => by
     refine ⟨y.free HIY eI, itV.keeps (fun o e zp0 => ?_) (FV.tk RV y)⟩; obtain ⟨vs, hd⟩ := zp0; obtain ⟨o', e', k'⟩ := y.kept I o e HIY nL nC; rw [k'.eq fun es n z => by rw [hd] at z; cases z] at e'; exact e'
   refine wpAny_mono (hbody sZ SZ) (fun f sX zp0 => ?_) fun _ _ o => noted (o.from xZ'); obtain ⟨g, mX, HX, hp, hf, RX, FX, xX⟩ := zp0; obtain ⟨HIX, itX⟩ := keepI (xZ.trans xX); have xX' := xZ'.trans xX; have hd' : xs.drop (i + 1) = rest := by
     rw [← List.drop_drop, hdrop]; rfl
   have hlt : i < xs.length := (List.getElem?_eq_some_iff.mp hx).1; cases g with
   | next => obtain rfl := hf; exact ⟨rest.length + 1, by simp, mX, HX, i + 1, rest, rfl, hd', hlt, hp, itX, RX, FX, xX', HIX⟩
   | cont => obtain rfl := hf; exact ⟨rest.length + 1, by simp, mX, HX, i + 1, rest, rfl, hd', hlt, hp, itX, RX, FX, xX', HIX⟩
   | brk => obtain rfl := hf; exact ⟨.next, mX, HX, hp, rfl, RX, FX, xX'⟩
   | ret w => obtain ⟨u, rfl, hu⟩ := hf; exact ⟨.ret w, mX, HX, hp, ⟨u, rfl, hu⟩, RX, FX, xX'⟩
end
def KwR (h : Heap) (kw : List (Str × V)) (kvs : List (Str × Value)) : Prop := kw.map (·.1) = kvs.map (·.1) ∧ VRs h (kw.map (·.2)) (kvs.map (·.2))
def OutR (c : Cx) (H : AH) (s : Shared) (P : V -> AH -> Prop) (X : Exc -> AH -> Prop) (r : Result) (s' : Shared) : Prop := match r with
 | .ok (.ret v) => OutE c H s P v s'
 | .ok _ => False
 | .error e => OutX c none H s X e s'
def qbg (c : Cx) (d : Nat) (f : Value) (args : List V) (kw : List (Str × V)) (H : AH) (P : V -> AH -> Prop) (X : Exc -> AH -> Prop) : Prop :=
 ∀ A s vs kvs, BRep c .quiet d A H s -> VRs s.heap args vs -> KwR s.heap kw kvs -> codeAny c.M A (.call f ⟨vs, kvs⟩) (OutR c H s P X) s
section
variable {c : Cx} {q : Md} {d : Nat} {A : Around} {env : Env} {m : Map} {H : AH} {K : Frag} {p : Program} {loose : List Str} {mg mb : Str -> Option Value}
 {name qual : Str} {params : Arguments} {body : List Stmt} {scope : Scope} {dV kV doc pm cdv ct oc : Value} {an od : Option Addr} {osl : Array (Option Value)} {f : Addr}
def mapOf (binds : List (Str × V)) : Map := fun y => binds.lookup y
theorem qki {kindOf : Str -> Option NameKind} : ∀ {bs : List (Str × Value)} {mO : Str -> Option Value} {x : Str}, x ∉ bs.map (·.1) -> bindL kindOf bs mO x = mO x := by
 intro bs
 induction bs with
 | nil =>
   intro _ _ _; exact rfl
 | cons pz r ih =>
   obtain ⟨n, v⟩ := pz; intro mO x h; simp only [map_cons, mem_cons, not_or] at h; unfold bindL; rw [ih h.2]; split
   . exact if_neg h.1
   . rfl
theorem qnt {kindOf : Str -> Option NameKind} : ∀ {bs : List (Str × Value)} {mO : Str -> Option Value} {x : Str} {v : Value}, (bs.map (·.1)).Nodup -> (x, v) ∈ bs -> kindOf x = some .local -> bindL kindOf bs mO x = some v
 := by
 intro bs
 induction bs with
 | nil => exact fun _ z => nomatch z
 | cons p r ih =>
   obtain ⟨n, w⟩ := p; intro mO x v hn hm hk; simp only [map_cons, nodup_cons] at hn; unfold bindL; rcases mem_cons.mp hm with e | hm
   . cases e; rw [qki hn.1, if_pos hk]; exact if_pos rfl
   . exact ih hn.2 hm hk
theorem qkh {kindOf : Str -> Option NameKind} : ∀ {bs : List (Str × Value)} {mO : Str -> Option Value} {x : Str}, x ∉ bs.map (·.1) -> bindC kindOf bs mO x = mO x := by
 intro bs
 induction bs with
 | nil =>
   intro _ _ _; exact rfl
 | cons pz r ih =>
   obtain ⟨n, v⟩ := pz; intro mO x h; simp only [map_cons, mem_cons, not_or] at h; unfold bindC; rw [ih h.2]; split
   . rfl
   . exact if_neg h.1
theorem qns {kindOf : Str -> Option NameKind} : ∀ {bs : List (Str × Value)} {mO : Str -> Option Value} {x : Str} {v : Value}, (bs.map (·.1)).Nodup -> (x, v) ∈ bs -> kindOf x ≠ some .local -> bindC kindOf bs mO x = some v := by
 intro bs
 induction bs with
 | nil => intro _ _ _ _ z; exact nomatch z
 | cons pz r ih =>
   obtain ⟨n, w⟩ := pz; intro mO x v hn hm hk; simp only [map_cons, nodup_cons] at hn; unfold bindC; rcases mem_cons.mp hm with e | hm
   . cases e; rw [qkh hn.1, if_neg hk]; exact if_pos rfl
   . exact ih hn.2 hm hk
theorem qi5 {h : Heap} : ∀ {binds : List (Str × V)} {bs : List (Str × Value)} {x : Str} {u : V}, bs.map (·.1) = binds.map (·.1) -> VRs h (binds.map (·.2)) (bs.map (·.2)) -> (x, u) ∈ binds -> ∃ v, (x, v) ∈ bs ∧ VR h u v := by
 intro binds
 induction binds with
 | nil => intro _ _ _ _ _ z; exact nomatch z
 | cons pz r ih =>
   obtain ⟨n, w⟩ := pz; intro bs x u h1 h2 hm; cases bs with
   | nil => exact nomatch h1
   | cons pz r' =>
     obtain ⟨n', w'⟩ := pz; obtain ⟨h0, g1⟩ := List.cons.inj h1; obtain rfl : n' = n := h0; obtain ⟨y, ys, he, a, b⟩ := h2; obtain ⟨h3, h4⟩ := List.cons.inj he; obtain rfl : w' = y := h3; rcases mem_cons.mp hm with e | hm
     . cases e; exact ⟨w', mem_cons_self .., a⟩
     . obtain ⟨v, a', b'⟩ := ih g1 (h4.symm ▸ b) hm; exact ⟨v, mem_cons_of_mem _ a', b'⟩
theorem qbj {β : Type} : ∀ {l : List (Str × β)} {x : Str} {k : β}, (l.map (·.1)).Nodup -> (x, k) ∈ l -> l.lookup x = some k := by
 intro l
 induction l with
 | nil => intro z0 z1 z2 z3; first | exact nomatch z0 | exact nomatch z1 | exact nomatch z2 | exact nomatch z3
 | cons pz r ih =>
   obtain ⟨y, b⟩ := pz; intro x k hn hm; simp only [map_cons, nodup_cons] at hn; rw [lookup_cons]; rcases mem_cons.mp hm with e | hm
   . cases e; simp
   . have : x ≠ y := fun q => hn.1 (by (refine q ▸ ?_); exact mem_map_of_mem (f := (·.1)) hm); rw [beq_eq_false_iff_ne.mpr this]; exact ih hn.2 hm
theorem qlr {s s' : Shared} {ex : Value} {X : Exc -> Map -> AH -> Prop} {E : Value -> Shared -> Prop} (S : SRep c q d A env m H s) (o : qbp c env H s X ex s') : wpAny c.M A (leaving env ex) (fun _ s'' => ∃ k m' H', X k m' H' ∧ ExcR none s.heap H' s''.heap k ex ∧ Rep c H' s'' ∧ qbx env H s H' s'') E s' := by
 refine wpAny_bind (wpAny_mono (qfl (E := E) S o) (fun _ sW oW => ?_) fun _ _ e => e); obtain ⟨k, m', H', hx, ⟨e, ob, vs, T, oT, ts, rfl, hen, hHe, he, ⟨hcls, hic⟩, hd, h1, hTe, hTn, hHT, hT, ⟨hTc, hdT⟩, h3⟩, R, F, x⟩ := oW; have sz3 := (Array.getElem?_eq_some_iff.mp h3).1; refine wpAny_setFlight_none he hd h1 hT hdT sz3 ?_; have y : qcc c [T] [] H' sW.heap := ⟨fun b hb => by rw [mem_singleton.mp hb]; exact ⟨hHT, S.rep.gnone hTn, fun o ho => by rw [hT] at ho; obtain rfl := sj0_ ho; exact ⟨hTc, ts, hdT⟩⟩, fun b hb => nomatch hb⟩; have z : qbt [T] [] sW.heap (sW.heap.update T (Obj.mapFields (·.setIfInBounds 3 Value.none))) := qbt.update _ _ (mem_singleton.mpr rfl) fun o ho => by rw [hT] at ho; obtain rfl := sj0_ ho; exact Obj.isFreed_of_fields (Obj.data_mapFields hdT _)
 refine ⟨k, m', H', hx, ⟨e, ob, vs, _, rfl, hen, hHe, (Heap.get?_update_ne _ _ _ _ hTe.symm).trans he, ⟨hcls, hic⟩, hd, h1, .inr ⟨T, _, _, rfl, hTe, hTn, hHT, Heap.get?_update_self _ hT (Obj.isFreed_of_fields (Obj.data_mapFields hdT _)), ⟨(congrArg qb0 (Obj.cls_mapFields _ _)).trans hTc, Obj.data_mapFields hdT _⟩, .inl (by simp [sz3])⟩⟩, R.nudge z y, x.nudge z y fun b hb => by rw [mem_singleton.mp hb]; exact hTn⟩
theorem qfv {scope : Scope} {f L : Addr} {qual : Str} {cdv : Value} {binds : List (Str × V)} {bs : List (Str × Value)} {s sJ : Shared} (B : BRep c .quiet (d + 1) A H s) (hL : s.heap.objs.size ≤ L)
   (x : InCallC s L (bindL (envOfC qual scope L f cdv).kindOf bs fun _ => none) (cellsFrom (L + 1) scope.names []) (bindC (envOfC qual scope L f cdv).kindOf bs fun _ => none) sJ)
   (hb1 : bs.map (·.1) = binds.map (·.1)) (hb2 : VRs s.heap (binds.map (·.2)) (bs.map (·.2)))
   (hkind : (binds.all fun y => scope.names.lookup y.1 == some .local || scope.names.lookup y.1 == some .cell) = true) (hnd : ((cellsFrom 0 scope.names []).map (·.1)).Nodup) (hbd : (binds.map (·.1)).Nodup) (hkd : scope.kind = .function) :
   SRep c .quiet d (A.deeper (envOfC qual scope L f cdv)) (envOfC qual scope L f cdv) (mapOf binds) H sJ ∧ (∀ b o, s.heap.get? b = some o -> sJ.heap.get? b = some o) := by
 obtain ⟨h₁, tk, rfl, kk⟩ := x.done; have hbd' : (bs.map (·.1)).Nodup := by (refine (Eq.symm hb1) ▸ ?_); exact hbd
 have RJ : Rep c H { s with heap := h₁, toks := tk } := B.rep.silent kk rfl rfl; have st : Step H s H { s with heap := h₁, toks := tk } := .silent kk; have tkk : TK s.heap h₁ := TK.of_keeps kk; have big : ∀ b, s.heap.objs.size ≤ b -> s.heap.get? b = none := fun b hb => Heap.get?_none_of_le hb; have gL := big L hL; have cbig : ∀ n k, (n, k) ∈ cellsFrom (L + 1) scope.names [] -> s.heap.get? k = none := fun n k hk => big k (le_trans hL (le_of_lt (x.above n k hk))); have ndn : ((cellsFrom (L + 1) scope.names []).map (·.1)).Nodup := by rw [cellsFrom_names scope.names (L + 1) 0 [] [] rfl]; exact hnd
 have F : qaz c (envOfC qual scope L f cdv) (mapOf binds) H h₁ := by
   refine ⟨hkd, rfl, rfl, ⟨_, x.toInCall.ns, fun y v hy hk => ?_⟩, fun y v hy hk => ?_, B.rep.fresh gL, B.rep.gnone gL, fun k hk => ?_, ?_⟩
   . obtain ⟨u, hu, hv⟩ := qi5 hb1 hb2 (qat hy); exact ⟨u, qnt hbd' hu hk, hv.mono tkk⟩
   . obtain ⟨u, hu, hv⟩ := qi5 hb1 hb2 (qat hy); have hkc : scope.names.lookup y = some .cell := by
       have := all_eq_true.mp hkind _ (qat hy); rcases Bool.or_eq_true_iff.mp this with z | z
       . exact absurd (beq_iff_eq.mp z) hk
       . exact beq_iff_eq.mp z
     obtain ⟨k, hk'⟩ := Option.isSome_iff_exists.mp (cellsFrom_some scope.names (L + 1) [] (.inl hkc)); have hcell := x.cell y k hk'; rw [qns hbd' hu hk] at hcell; exact ⟨.inl hkc, k, u, hk', hcell, hv.mono tkk⟩
   . exact ⟨B.rep.fresh (cbig k.1 k.2 hk), ⟨_, x.cell k.1 k.2 (qbj ndn hk)⟩, B.rep.gnone (cbig k.1 k.2 hk)⟩
   . exact pairwise_map.mpr x.apart
 obtain ⟨l, hl, hf, hdict⟩ := B.ok.stack; obtain ⟨hf', hdict'⟩ := qem (fun _ _ b _ o ho hH => st.kept b o ho hH) (fun b o hb hlt => st.free hb hlt) hf hdict; obtain ⟨mO, ⟨oL, es, ep, hoL, hLd, hr⟩, hm⟩ := F.loc; refine ⟨⟨⟨⟨RJ, ?_, ?_, ?_, (fun hq => by exact nomatch hq), envOfC qual scope L f cdv :: l, ?_, ⟨?_, ⟨L, oL, rfl, B.rep.gnone gL, hoL, fun vs z => by rw [hLd] at z; cases z⟩, hf'⟩, fun e he L' hL' => ?_⟩, F⟩, rfl, ⟨l, ?_, fun e he L' hL' => ?_⟩⟩, kk⟩
 . have := B.ok.depth; show A.depth + 1 + 5 * d ≤ 900; lia
 . have := B.ok.units; show A.units + 3 + 50 * d ≤ 9000; lia
 . exact B.ok.quiet
 . exact Around.frames_deeper hl
 . show scope.kind ≠ .module; (refine (Eq.symm hkd) ▸ ?_); decide
 . rcases mem_cons.mp he with rfl | he
   . obtain rfl := sj0_ hL'; exact ⟨F.free, oL, es, ep, hoL, hLd⟩
   . exact hdict' e he L' hL'
 . exact Around.frames_deeper hl
 . obtain ⟨_, o, _, _, ho, _⟩ := hdict e he L' hL'; refine ⟨fun z => ?_, fun k hk z => ?_⟩
   . have z' : L' = L := z; rw [z', gL] at ho; exact nomatch ho
   . rw [z, cbig k.1 k.2 hk] at ho; exact nomatch ho
theorem qca (binds : List (Str × V)) (G : Gd K p loose mg mb c.g)
   (ho : K.lookup f = some ⟨oc, od, .func (fnOf name qual params body scope dV kV doc pm an cdv ct), osl⟩) (hcd : codeIn K cdv qual = true)
   {args : List V} {kw : List (Str × V)} {P : V -> AH -> Prop} {X : Exc -> AH -> Prop}
   (hb : ∀ s vs kvs, K.In s.heap -> VRs s.heap args vs -> KwR s.heap kw kvs -> ∃ bs, BindsTo s (fnOf name qual params body scope dV kV doc pm an cdv ct) ⟨vs, kvs⟩ bs ∧ bs.map (·.1) = binds.map (·.1) ∧ VRs s.heap (binds.map (·.2)) (bs.map (·.2)))
   (hkind : (binds.all fun y => scope.names.lookup y.1 == some .local || scope.names.lookup y.1 == some .cell) = true) (hnd : ((cellsFrom 0 scope.names []).map (·.1)).Nodup) (hbd : (binds.map (·.1)).Nodup)
   (h : ∀ A L, awSs c .quiet d A (envOfC qual scope L f cdv) body (mapOf binds) H (fun fl m' H' => P (match fl with | .ret v => v | _ => .none) H') fun k _ H' => X k H')
   (hco : scope.isCoroutine = false := by rfl) (hgen : scope.isGenerator = false := by rfl) (hkd : scope.kind = .function := by rfl) : qbg c (d + 1) (.ref f) args kw H P X := by
 intro A s vs kvs B hv hkw; have X' := G.X.keeps B.rep.keep; have T' := G.T.keeps B.rep.keep; obtain ⟨bs, hbs, hb1, hb2⟩ := hb s vs kvs X' hv hkw; have hroom : A.depth < recursionLimit := by
   have := B.ok.depth; show A.depth < 1000; lia
 refine codeAny_call_function hroom (X' _ _ ho) rfl hco hgen rfl (codeRec_of X' hcd) (hbs _ _ _ _ ?_); have hkind' : (bs.all fun y => scope.names.lookup y.1 == some .local || scope.names.lookup y.1 == some .cell) = true := by
   rw [all_eq_true] at hkind ⊢; intro y hy; have : y.1 ∈ binds.map (·.1) := by (refine hb1 ▸ ?_); exact mem_map_of_mem (f := (·.1)) hy
   obtain ⟨z, hz, e⟩ := mem_map.mp this; (refine e ▸ ?_); exact hkind z hz
 refine wpAny_newFunctionEnv_cells hkd (kindsX hkind' _) fun env' he s' x => ?_; subst he; refine ⟨T'.nolimit.keeps x.toInCall.keep, codeAny_func ?_⟩; obtain ⟨S, kk⟩ := qfv (f := f) (cdv := cdv) (qual := qual) (d := d) B (le_refl _) x hb1 hb2 hkind hnd hbd hkd; have toStep : ∀ {H' s''}, qbx (envOfC qual scope s.heap.objs.size f cdv) H s' H' s'' -> Step H s H' s'' := fun {H' s''} y => by
   have ne : ∀ b o, s.heap.get? b = some o -> b ≠ s.heap.objs.size ∧ ∀ k ∈ cellsFrom (s.heap.objs.size + 1) scope.names [], b ≠ k.2 := fun b o e =>
     ⟨ne_of_lt (Heap.lt_size e), fun k hk => ne_of_lt (lt_trans (Heap.lt_size e) (x.above k.1 k.2 hk))⟩
   refine ⟨fun b o e n => y.kept b o (kk b o e) n (ne b o e).1 (ne b o e).2, fun b o e n => ?_, fun b o e => y.alive b o (kk b o e)⟩; have z := y.new b o e n; cases e2 : s.heap.get? b with
   | none => rfl
   | some o2 => rw [kk b o2 e2] at z; cases z
 refine wpAny_mono (h _ _ s' S) (fun fl s'' ⟨g, m', H', hp, hf, R, F, y⟩ => ?_) fun e s'' o => ?_
 . cases g with
   | ret v => obtain ⟨u, rfl, hu⟩ := hf; exact ⟨v, H', hp, hu, R, toStep y⟩
   | next => obtain rfl := hf; exact ⟨.none, H', hp, rfl, R, toStep y⟩
   | brk => obtain rfl := hf; exact ⟨.none, H', hp, rfl, R, toStep y⟩
   | cont => obtain rfl := hf; exact ⟨.none, H', hp, rfl, R, toStep y⟩
 . refine wpAny_mono (qlr (E := fun _ _ => False) S o) (fun _ sY zp0 => ?_) fun _ _ z => z.elim; obtain ⟨k, m', H', hx, hex, R, y⟩ := zp0; refine ⟨k, H', hx, hex.from fun b hb => ?_, R, toStep y⟩; cases e2 : s.heap.get? b with
   | none => rfl
   | some o2 => rw [kk b o2 e2] at hb; exact nomatch hb
end
def V.val? : V -> Option Value
 | .ref a => some (.ref a)
 | .imm v => some v
 | _ => Option.none
theorem VR.val {h : Heap} {x : V} {u v : Value} (hx : x.val? = some u) (hv : VR h x v) : v = u := by
 cases x <;> (first | (obtain rfl := sj0_ hx) | cases hx) <;> exact hv
inductive OutA (c : Cx) (H : AH) (s : Shared) (P : List V -> List (Str × V) -> AH -> Prop) (a : Args) (s' : Shared) : Prop
 | mk (xs : List V) (kw : List (Str × V)) (H' : AH) (p : P xs kw H') (v : VRs s'.heap xs a.pos) (k : KwR s'.heap kw a.kw) (r : Rep c H' s') (z : Step H s H' s')
def qc2 (c : Cx) (q : Md) (d : Nat) (A : Around) (env : Env) (args : List Expr) (kws : List Keyword) (m : Map) (H : AH) (P : List V -> List (Str × V) -> AH -> Prop) (X : Exc -> AH -> Prop) : Prop :=
 ∀ s pos f, FRep c q d A env m H s -> wpAny c.M A (evalArgs f true (backTo pos (starEach args env)) (backToKw pos (keywordEach kws env))) (OutA c H s P) (OutX c env.frame H s X) s
section
variable {c : Cx} {q : Md} {d : Nat} {A : Around} {env : Env} {m : Map} {H : AH} {X : Exc -> AH -> Prop} {pos : Pos} {K : Frag} {p : Program} {loose : List Str} {mg mb : Str -> Option Value}
def qps (H : AH) : V -> Option (List V)
 | .tup vs => some vs
 | .ref a => match H a with
   | some (.list vs) => some vs
   | _ => none
 | _ => none
theorem qpt {x : V} {v : Value} {xs : List V} {s : Shared} {E : Value -> Shared -> Prop} {Q : List Value -> Shared -> Prop} (R : Rep c H s) (hv : VR s.heap x v) (hx : qps H x = some xs) (hl : xs.length ≤ 1000)
   (h : ∀ vs h', (∀ b o, s.heap.get? b = some o -> h'.get? b = some o) -> VRs s.heap xs vs -> Q vs { s with heap := h' }) : StarOf c.M A E v Q s := by
 have key : ∃ a o T items n, v = .ref a ∧ s.heap.get? a = some o ∧ o.cls = .type T ∧ (T = "list" ∨ T = "tuple") ∧ o.data = .seq items n ∧ VRs s.heap xs items.toList := by
   cases x with
   | tup vs =>
     obtain rfl := sj0_ hx; obtain ⟨a, ws, rfl, ⟨o, e, hc, n, hd⟩, hr⟩ := hv; exact ⟨a, o, _, ws, n, rfl, e, hc, .inr rfl, hd, hr⟩
   | ref a =>
     obtain rfl := hv; simp only [qps] at hx; split at hx
     . rename_i vs ha; obtain rfl := sj0_ hx; obtain ⟨items, n, e, hr⟩ := R.at_ _ _ ha; exact ⟨a, _, _, items, n, rfl, e, rfl, .inl rfl, rfl, hr⟩
     . cases hx
   | _ => cases hx
 obtain ⟨a, o, T, items, n, rfl, e, hc, hT, hd, hr⟩ := key; have hsz : items.size ≤ sizeLine := by rw [← Array.length_toList, ← hr.length]; exact le_trans hl (by decide)
 have z : wpAny c.M A (collect (.ref a)) Q E s := wpAny_collect_seq a hT e hc hd (fun h' hk => h _ h' hk hr) hsz; have hT' : s.TypeIs (.ref a) T := ⟨o, e, hc⟩; rcases hT with rfl | rfl
 . exact wpAny_bind (wpAny_specialOf hT' PySem.F.slot_list_iter.lookup (wpAny_pure ⟨rfl, z⟩))
 . exact wpAny_bind (wpAny_specialOf hT' PySem.F.slot_tuple_iter.lookup (wpAny_pure ⟨rfl, z⟩))
theorem qqa {e : Expr} {es : List Expr} {pp : Pos} {P : List V -> AH -> Prop} (h : awE c q d A env e m H (fun x HJ => ∃ xs, qps HJ x = some xs ∧ xs.length ≤ 1000 ∧ awL c q d A env es m HJ (fun ys HW => P (xs ++ ys) HW) X) X) : awL c q d A env (.Starred e pp :: es) m H P X := by
 intro s pos F; refine items_star (qaj h F (fun x HJ sJ v ⟨xs, hx, hl, hp⟩ F₁ hv S => qpt F₁.rep hv hx hl fun vs h' kk hr => ?_) fun _ _ o => o); have RW : Rep c HJ { sJ with heap := h' } := F₁.rep.silent kk rfl rfl; have SW : Step HJ sJ HJ { sJ with heap := h' } := .silent kk; have FW := F₁.step RW SW; refine wpAny_mono (hp _ pos FW) (fun us sY zp0 => by obtain ⟨ys, HY, hq, hus, RY, SY⟩ := zp0; exact ⟨xs ++ ys, HY, hq, (hr.mono ((F₁.rep.tk SW).trans (RW.tk SY))).append hus, RY, (S.trans SW).trans SY⟩) fun _ _ => OutX.from (S.trans SW)
theorem qfk {h : Heap} : KwR h [] [] := ⟨rfl, rfl⟩
theorem qav {P : List V -> List (Str × V) -> AH -> Prop} (h : P [] [] H) : qc2 c q d A env [] [] m H P X := fun s pos f F => evalArgs_nil3 ⟨[], [], H, h, rfl, qfk, F.rep, .refl _ _⟩
theorem qit {e : Expr} {es : List Expr} {P : List V -> List (Str × V) -> AH -> Prop} (hs : ∀ e' p, e ≠ .Starred e' p) (h : awL c q d A env (e :: es) m H (fun xs HJ => P xs [] HJ) X) : qc2 c q d A env (e :: es) [] m H P X := by
 intro s pos f F; have he := qc9 (env := env) (es := es) hs; have z := h s pos F; rw [he] at z ⊢; exact evalArgs_plain (wpAny_mono z (fun vs s' zp0 => by obtain ⟨xs, H', hp, hv, R, S⟩ := zp0; exact ⟨xs, [], H', hp, hv, qfk, R, S⟩) fun _ _ o => o)
theorem qj6 {e : Expr} {pp : Pos} {P : List V -> List (Str × V) -> AH -> Prop} (h : awE c q d A env e m H (fun x HJ => ∃ xs, qps HJ x = some xs ∧ xs.length ≤ 1000 ∧ P xs [] HJ) X) : qc2 c q d A env [.Starred e pp] [] m H P X := by
 intro s pos f F; refine ks_lone (qaj h F (fun x HJ sJ v ⟨xs, hx, hl, hp⟩ F₁ hv S => qpt F₁.rep hv hx hl fun vs h' kk hr => ?_) fun _ _ o => o); exact ⟨xs, [], HJ, hp, hr.mono (TK.of_keeps kk), qfk, F₁.rep.silent kk rfl rfl, S.trans (.silent kk)⟩
theorem qnj {e ek : Expr} {es : List Expr} {n : Str} {kp : Pos} {P : List V -> List (Str × V) -> AH -> Prop} (hs : ∀ e' p, e ≠ .Starred e' p)
   (h : awL c q d A env (e :: es) m H (fun xs HJ => awE c q d A env ek m HJ (fun y HW => P xs [(n, y)] HW) X) X) : qc2 c q d A env (e :: es) [⟨some n, ek, kp⟩] m H P X := by
 intro s pos f F; have he := qc9 (env := env) (es := es) hs; refine evalArgs_kw2 rfl (wpAny_mono (h s pos F) (fun vs sJ ⟨xs, HJ, hp, hv, R, S⟩ => kwAll_cons ?_) fun _ _ o => o) he; exact qaj hp (F.step R S) (fun y HW sW u hq FW hu SW => kwAll_nil ⟨xs, [(n, y)], HW, hq, hv.mono (R.tk SW), ⟨rfl, u, [], rfl, hu, rfl⟩, FW.rep, S.trans SW⟩) fun _ _ => OutX.from S

def qfr (c : Cx) (f : Value) : Prop := ∀ h, (∀ b o, c.g.get? b = some o -> h.get? b = some o) -> ∃ k, (k = Keeper.frame ∨ k = Keeper.machine ∨ k = Keeper.boundFrame) ∧ Looks c.M h (keeperOf f) k
theorem qap {f : Value} (G : Gd K p loose mg mb c.g) (hk : keepIn K f = true) : qfr c f := fun h k => keeps_K hk h (G.X.keeps k)
theorem qab (id : String) : qfr c (.builtin id) := fun h k => ⟨.machine, .inr (.inl rfl), Looks.of_pure rfl⟩
theorem qbn (n : String) : qfr c (.type n) := fun h k => ⟨.machine, .inr (.inl rfl), Looks.of_pure rfl⟩
def qa7 (c : Cx) (q : Md) (d : Nat) (A : Around) (fl : Option Addr) (f : Value) (xs : List V) (kw : List (Str × V)) (H : AH) (P : V -> AH -> Prop) (X : Exc -> AH -> Prop) : Prop :=
 ∀ s vs kvs, BRep c q d A H s -> VRs s.heap xs vs -> KwR s.heap kw kvs -> awT c A fl (call f vs kvs) H P X s
theorem ExcR.anyFl {fl : Option Addr} {h₀ : Heap} {H : AH} {h : Heap} {k : Exc} {ex : Value} (x : ExcR none h₀ H h k ex) : ExcR fl h₀ H h k ex := by
 obtain ⟨e, ob, vs, tb, a, b, c, d, f, g, i, j⟩ := x; refine ⟨e, ob, vs, tb, a, b, c, d, f, g, i, j.imp id ?_⟩; rintro ⟨T, oT, ts, a, b, c, d, f, g, r⟩; refine ⟨T, oT, ts, a, b, c, d, f, g, r.imp id ?_⟩; rintro ⟨L, z, _⟩; cases z
theorem qak {fl : Option Addr} {f : Value} {xs : List V} {kw : List (Str × V)} {P : V -> AH -> Prop} (h : qbg c d f xs kw H P X) : qa7 c .quiet d A fl f xs kw H P X := fun s vs kvs B hv hk =>
 wpAny_call (codeAny_mono (h A s vs kvs B hv hk) fun r s' o => by
   cases r with
   | ok f => cases f <;> exact o
   | error e =>
     obtain ⟨k, H', a, b, r, z⟩ := o; exact ⟨k, H', a, b.anyFl, r, z⟩)
theorem qgp {f : Value} {first : List Value} {fs : List V} {args : List Expr} {kws : List Keyword} {P : V -> AH -> Prop} {s : Shared} (hk : qfr c f) (F : FRep c q d A env m H s) (hf : VRs s.heap fs first)
   (hst : (backToKw pos (keywordEach kws env)).any (·.1.isNone) = false) (hst2 : (backTo pos (starEach args env)).any (·.1) = true -> kws = [])
   (h : qc2 c q d A env args kws m H (fun xs kw HJ => qa7 c q d A env.frame f (fs ++ xs) kw HJ P X) X) : awT c A env.frame (callWith pos f first (backTo pos (starEach args env)) (backToKw pos (keywordEach kws env))) H P X s := by
 have key : wpAny c.M A (evalArgs f true (backTo pos (starEach args env)) (backToKw pos (keywordEach kws env))) (fun a sJ => (∀ b o, c.g.get? b = some o -> sJ.heap.get? b = some o) ∧ wpAny c.M A (call f (first ++ a.pos) a.kw) (OutE c H s P) (OutX c env.frame H s X) sJ) (OutX c env.frame H s X) s :=
   wpAny_mono (h s pos f F) (fun a sJ zp0 => by obtain ⟨xs, kw, HJ, hp, hv, hkw, R, S⟩ := zp0; exact ⟨R.keep, awT.from S (hp sJ _ _ (F.toBRep.step R S) ((hf.mono (F.rep.tk S)).append hv) hkw)⟩) fun _ _ o => o
 cases hs : (backTo pos (starEach args env)).any (·.1) with
 | false => exact callWith_of (by (refine (Eq.symm hs) ▸ ?_; refine (Eq.symm hst) ▸ ?_); rfl) hk key
 | true =>
   obtain rfl := hst2 hs; exact ks_call hs hk key
theorem qd0 {env : Env} {fe : Expr} (args : List Expr) (kws : List Keyword) (pos : Pos) (hfe : ∀ o n ap, fe ≠ .Attribute o n ap) : eval (.Call fe args kws pos) env = (do callWith pos (← eval fe env) [] (backTo pos (starEach args env)) (backToKw pos (keywordEach kws env))) := by
 cases fe <;> first | rfl | exact absurd rfl (hfe _ _ _)
theorem qp6 {fe : Expr} {args : List Expr} {kws : List Keyword} {P : V -> AH -> Prop} (hfe : ∀ o n ap, fe ≠ .Attribute o n ap) (hst : ∀ pos, (backToKw pos (keywordEach kws env)).any (·.1.isNone) = false) (hst2 : ∀ pos, (backTo pos (starEach args env)).any (·.1) = true -> kws = [])
   (h : awE c q d A env fe m H (fun x HJ => ∃ f, x.val? = some f ∧ qfr c f ∧ qc2 c q d A env args kws m HJ (fun xs kw HW => qa7 c q d A env.frame f xs kw HW P X) X) X) : awE c q d A env (.Call fe args kws pos) m H P X := by
 intro s F; have he := qd0 (env := env) args kws pos hfe; show wpAny _ _ (eval (.Call fe args kws pos) env) _ _ _; (refine (Eq.symm he) ▸ ?_); refine wpAny_bind (qaj h F (fun x HJ sJ v zp0 F₁ hv S => ?_) fun _ _ o => o); obtain ⟨f, hx, hk, hp⟩ := zp0; obtain rfl := hv.val hx; exact awT.from S (qgp (fs := []) hk F₁ rfl (hst pos) (hst2 pos) (by simpa using hp))
theorem qaf {fl : Option Addr} {f : Value} {x : V} {xs : List V} {kw : List (Str × V)} {P : V -> AH -> Prop} (h : qa7 c q d A fl f (x :: xs) kw H P X) : qa7 c q d A fl f ([x] ++ xs) kw H P X := h
inductive OutM (c : Cx) (H : AH) (s : Shared) (P : Value -> List V -> Prop) (fr : Value × List Value) (s' : Shared) : Prop
 | mk (fs : List V) (p : P fr.1 fs) (v : VRs s'.heap fs fr.2) (r : Rep c H s') (z : Step H s H s')
def awM (c : Cx) (q : Md) (d : Nat) (A : Around) (few : Bool) (x : V) (name : Str) (H : AH) (P : Value -> List V -> Prop) : Prop :=
 ∀ (E : Value -> Shared -> Prop) (o : Expr) (env : Env) s v, BRep c q d A H s -> VR s.heap x v -> wpAny c.M A (calleeOf few o env v name) (OutM c H s P) E s
theorem qle {few : Bool} {o : Expr} {name : Str} {apos : Pos} {args : List Expr} {kws : List Keyword} {P : V -> AH -> Prop} (hfew : methodCallForm (args.length + kws.length) (backTo pos (starEach args env)) (backToKw pos (keywordEach kws env)) = few) (hab : attributeBase o name env (eval o env) = eval o env) (hpos : (apos.endLine == pos.line) = true) (hst : ∀ pos, (backToKw pos (keywordEach kws env)).any (·.1.isNone) = false) (hst2 : ∀ pos, (backTo pos (starEach args env)).any (·.1) = true -> kws = [])
   (h : awE c q d A env o m H (fun x HJ => awM c q d A few x name HJ fun f fs => qfr c f ∧ qc2 c q d A env args kws m HJ (fun xs kw HW => qa7 c q d A env.frame f (fs ++ xs) kw HW P X) X) X) : awE c q d A env (.Call (.Attribute o name apos) args kws pos) m H P X := by
 intro s F; subst hfew; show wpAny c.M A (do
   let ov ← attributeBase o name env (eval o env)
   standAt apos.atName
   methodCall o name apos pos env ov (args.length + kws.length) (backTo pos (starEach args env)) (backToKw pos (keywordEach kws env))) _ _ s
 (refine (Eq.symm hab) ▸ ?_); refine wpAny_bind (qaj h F (fun x HJ sJ v hp F₁ hv S => wpAny_bind (wpAny_standAt ?_)) fun _ _ o => o); refine wpAny_bind (wpAny_holding (wpAny_mono (hp (OutX c env.frame H s X) o env sJ v F₁.toBRep hv) (fun fr sW zp0 => ?_) fun _ _ e => e)); obtain ⟨fs, ⟨hk, ha⟩, hf, RW, SW⟩ := zp0; have hmp : ∀ few, methodCallPos few o env apos pos = pure pos := fun few => by unfold methodCallPos; (refine (Eq.symm hpos) ▸ ?_); simp
 rw [hmp]; refine wpAny_bind (wpAny_pure ?_); exact awT.from (S.trans SW) (qgp hk (F₁.step RW SW) hf (hst pos) (hst2 pos) ha)
end
section
variable {c : Cx} {q : Md} {d : Nat} {A : Around} {env : Env} {m : Map} {H : AH} {P : V -> AH -> Prop} {X : Exc -> AH -> Prop} {pos : Pos} {fl : Option Addr} {K : Frag} {p : Program} {loose : List Str} {mg mb : Str -> Option Value}
def qcx (H : AH) : V -> Option String
 | .str _ => some "str"
 | .int _ => some "int"
 | .tup _ => some "tuple"
 | .ref a => match H a with
   | some (.list _) => some "list"
   | some (.dict _ _) => some "dict"
   | some (.set _) => some "set"
   | _ => none
 | _ => none
theorem qgf {x : V} {v : Value} {T : String} {s : Shared} (R : Rep c H s) (hv : VR s.heap x v) (h : qcx H x = some T) : s.TypeIs v T := by
 cases x with
 | str y => obtain rfl := sj0_ h; obtain ⟨t, rfl⟩ := hv; exact typeIs_str _ _ _
 | int i => obtain rfl := sj0_ h; obtain ⟨t, rfl⟩ := hv; exact (rfl : typeOf (Value.int i t) = _)
 | tup vs => obtain rfl := sj0_ h; obtain ⟨a, ws, rfl, ⟨o, e, hc, _⟩, _⟩ := hv; exact ⟨o, e, hc⟩
 | ref a =>
   obtain rfl := hv; simp only [qcx] at h; split at h <;> first | (rename_i ha; (first | (obtain rfl := sj0_ h) | (exact nomatch h) | cases h)) | cases h
   . obtain ⟨items, n, e, _⟩ := R.at_ _ _ ha; exact ⟨_, e, rfl⟩
   . obtain ⟨ys, ⟨o, es, e, hx, _⟩, _⟩ := R.at_ _ _ ha; exact ⟨o, e, hx.1⟩
   . obtain ⟨S, ⟨o, es, ep, t, e, hx, _⟩, _⟩ := R.at_ _ _ ha; exact ⟨o, e, hx.1⟩
 | _ => exact nomatch h
theorem qfz {x : V} {v : Value} {T : String} {s : Shared} (R : Rep c H s) (hv : VR s.heap x v) (h : qcx H x = some T) (hT : T ≠ "tuple") : ∀ a, v = .ref a -> ∃ o, s.heap.get? a = some o ∧ o.dict = none := by
 intro b hb; subst hb; cases x with
 | str y => obtain ⟨t, hh⟩ := hv; exact nomatch hh
 | int i => obtain ⟨t, hh⟩ := hv; cases hh
 | tup vs => obtain rfl := sj0_ h; exact absurd rfl hT
 | ref a =>
   cases hv; simp only [qcx] at h; split at h <;> first | (rename_i ha; (first | (obtain rfl := sj0_ h) | (exact nomatch h) | cases h)) | cases h
   . obtain ⟨items, n, e, _⟩ := R.at_ _ _ ha; exact ⟨_, e, rfl⟩
   . obtain ⟨ys, ⟨o, es, e, hx, _⟩, _⟩ := R.at_ _ _ ha; exact ⟨o, e, hx.2.1⟩
   . obtain ⟨S, ⟨o, es, ep, t, e, hx, _⟩, _⟩ := R.at_ _ _ ha; exact ⟨o, e, hx.2.1⟩
 | _ => exact nomatch h
theorem qa8 {x : V} {name : Str} {T id : String} {P : Value -> List V -> Prop} (hT : qcx H x = some T) (hne : T ≠ "tuple") (hp : PlainAttrs T) (hs : Slot T name id) (ht : typeOf (.builtin id) = pure (.type "method_descriptor")) (h : P (.builtin id) [x]) : awM c q d A true x name H P := by
 intro E o env s v B hv; show wpAny c.M A (getMethod v name _) _ E s; exact getMethod_builtin (qgf B.rep hv hT) hp hs ht (qfz B.rep hv hT hne) ⟨[x], h, ⟨v, [], rfl, hv, rfl⟩, B.rep, .refl _ _⟩
theorem qcs {a C dd : Addr} {fs : List (Str × V)} {s : Shared} (R : Rep c H s) (h1 : H a = some (.inst C dd)) (h2 : H dd = some (.ns fs)) : ∃ es n, InstAt s.heap a (instObj C dd) C (some (dictOf es n)) ∧ Paired (fun f e => (∃ t, e.key = Value.str f.1 t) ∧ VR s.heap f.2 e.val) fs es := by
 obtain ⟨es, n, e, hp⟩ := R.at_ _ _ h2; exact ⟨es, n, ⟨R.at_ _ _ h1, rfl, rfl, e⟩, hp⟩
theorem qib {h : Heap} {name : Str} : ∀ {fs : List (Str × V)} {es : List DictEntry}, Paired (fun f e => (∃ t, e.key = Value.str f.1 t) ∧ VR h f.2 e.val) fs es -> match fs.lookup name with | some x => ∃ v, getL name es = some (some v) ∧ VR h x v | none => getL name es = some none
 := by
 intro fs es z
 induction z with
 | nil => rfl
 | @cons f e fs es hd r ih =>
   obtain ⟨n, x⟩ := f; obtain ⟨⟨t, hk⟩, hv⟩ := hd; rw [lookup_cons]; by_cases hn : name = n
   . subst hn; simp only [beq_self_eq_true]; exact ⟨e.val, by simp [getL, List.find?, hk, Value.isStr], hv⟩
   . have hb : (name == n) = false := beq_eq_false_iff_ne.mpr hn; rw [hb]; have hk' : e.key.isStr name = false := by rw [hk]; exact beq_eq_false_iff_ne.mpr fun z => hn z.symm
     have hr : e.refKey = false := by unfold DictEntry.refKey; rw [hk]
     have : getL name (e :: es) = getL name es := by
       unfold getL; rw [find?_cons, hk', any_cons, hr, Bool.false_or]
     (refine (Eq.symm this) ▸ ?_); exact ih
theorem qbe {a C dd f : Addr} {fs : List (Str × V)} {name : Str} {P : Value -> List V -> Prop} (G : Gd K p loose mg mb c.g) (h1 : H a = some (.inst C dd)) (h2 : H dd = some (.ns fs)) (hg : plainGet K C name = true)
   (hf : findIn K (.ref C) name = some (some (.ref f))) (ht : isFn K (.ref f) = true) (hl : fs.lookup name = none) (h : P (.ref f) [.ref a]) : awM c q d A true (.ref a) name H P := by
 intro E o env s v B hv; obtain rfl := hv; obtain ⟨es, n, I, hp⟩ := qcs B.rep h1 h2; have hg' := qib (name := name) hp; rw [hl] at hg'; show wpAny c.M A (getMethod (.ref a) name _) _ E s; refine method_fn (G.X.keeps B.rep.keep) I (plainGet_of hg).1 (plainGet_of hg).2 hf (beq_iff_eq.mp ht) ?_ ⟨[.ref a], h, ⟨_, [], rfl, rfl, rfl⟩, B.rep, .refl _ _⟩; show (lookIn name (dictOf es n)).map _ = _; rw [lookIn_dict, hg']; rfl
theorem qam {a C dd : Addr} {fs : List (Str × V)} {name : Str} {x : V} {attr : Option Value} {expr : Bool} (G : Gd K p loose mg mb c.g) (h1 : H a = some (.inst C dd)) (h2 : H dd = some (.ns fs)) (hg : plainGet K C name = true) (hh : hasDictIn K C = true)
   (ha : findIn K (.ref C) name = some attr) (hn : noGet K attr = true) (hl : fs.lookup name = some x) (hx : ∀ i, x ≠ .imm (.builtin i)) (h : P x H) : awO c q d A fl (fun vs => getAttr (vs.getD 0 .none) name expr) [.ref a] H P X := by
 intro s vs B hv; obtain ⟨v, _, rfl, hv, rfl⟩ := hv; obtain rfl := hv; obtain ⟨es, n, I, hp⟩ := qcs B.rep h1 h2; have hg' := qib (name := name) hp; rw [hl] at hg'; obtain ⟨v, hv1, hv2⟩ := hg'; refine get_value (G.X.keeps B.rep.keep) I (plainGet_of hg).1 (findObj_own hh ha hn hv1) ?_ (.tok B.rep hv2 h); cases v <;> try rfl
 rename_i i; cases x with
 | imm u => obtain rfl := hv2; exact absurd rfl (hx i)
 | none => exact nomatch hv2
 | bool b => exact nomatch hv2
 | ref a => exact nomatch hv2
 | int i => obtain ⟨t, z⟩ := hv2; exact nomatch z
 | str i => obtain ⟨t, z⟩ := hv2; exact nomatch z
 | tup i => obtain ⟨t, ws, z, _⟩ := hv2; exact nomatch z
 | rng i => obtain ⟨_, _, _, _, z, _⟩ := hv2; exact nomatch z
 | vals i => obtain ⟨t, z, _⟩ := hv2; exact nomatch z
theorem qp5 {o : Expr} {name : Str} (he : eval (.Attribute o name pos) env = (do let o' ← eval o env; standAt pos.atName; let r ← holding [o'] (getAttr o' name true); letTemporaryGo o o' r; pure r))
   (h : awE c q d A env o m H (fun x HJ => awO c q d A env.frame (fun vs => getAttr (vs.getD 0 .none) name true) [x] HJ P X) X) : awE c q d A env (.Attribute o name pos) m H P X := by
 intro s F; exact Attribute_any_ (qaj h F (fun x HJ sJ v hp F₁ hv S => awT.from S (hp sJ [v] F₁.toBRep ⟨v, [], rfl, hv, rfl⟩)) fun _ _ o => o) he
theorem qcj {x : Str} (hx : x.length ≤ 1000) (h : P (.str (Txt.lower x)) H) : qa7 c q d A fl (.builtin "str.lower") [.str x] [] H P X := by
 intro s vs kvs B hv hk; obtain ⟨v, _, rfl, ⟨t, rfl⟩, rfl⟩ := hv; obtain ⟨hk, _⟩ := hk; cases kvs with
 | nil => exact SCL.lower (le_trans hx (by decide)) fun _ => .tok (x := .str _) B.rep ⟨_, rfl⟩ h
 | cons _ _ => exact nomatch hk
theorem qhr {x : Str} (hx : x.length ≤ 1000) (h : P (.str (Txt.upper x)) H) : qa7 c q d A fl (.builtin "str.upper") [.str x] [] H P X := by
 intro s vs kvs B hv hk; obtain ⟨v, _, rfl, ⟨t, rfl⟩, rfl⟩ := hv; obtain ⟨hk, _⟩ := hk; cases kvs with
 | nil => exact SCL.upper (le_trans hx (by decide)) fun _ => .tok (x := .str _) B.rep ⟨_, rfl⟩ h
 | cons _ _ => exact nomatch hk
theorem qa1 {h : Heap} {kvs : List (Str × Value)} (hk : KwR h [] kvs) : kvs = [] := by
 obtain ⟨hk, _⟩ := hk; cases kvs with
 | nil => rfl
 | cons _ _ => exact nomatch hk
theorem qel {a : Addr} {x : V} {vs : List V} (ha : H a = some (.list vs)) (hl : vs.length ≤ 100000) (h : P .none (upd H a (.list (vs ++ [x])))) : qa7 c q d A fl (.builtin "list.append") [.ref a, x] [] H P X := by
 intro s ws kvs B hv hk; obtain rfl := qa1 hk; obtain ⟨u, _, rfl, hu, v, _, rfl, hv, rfl⟩ := hv; obtain rfl := hu; obtain ⟨items, n, e, hr⟩ := B.rep.at_ _ _ ha; refine append_at (hsz := by rw [← Array.length_toList, ← hr.length]; exact le_trans hl (by decide)) e fun h' hs hD => ?_; have kk : ∀ b o, b ≠ a -> s.heap.get? b = some o -> h'.get? b = some o := fun b o hb e => (hs.2 b hb).trans e; have tk : TK s.heap h' := fun b o e1 hc hd => kk b o (fun z => by subst z; rw [e] at e1; obtain rfl := sj0_ e1; exact nomatch hc) e1; have or : OR c h' a (.list (vs ++ [x])) := ⟨items.push v, n + 1, hD, by rw [Array.toList_push]; exact (hr.mono tk).append ⟨v, [], rfl, hv.mono tk, rfl⟩⟩; exact ⟨.none, _, h, rfl, B.rep.put (t := s.toks) ha kk or, .put ha kk or⟩
def qsc : V -> Option Bool
 | .none => some true
 | .bool _ => some false
 | .int _ => some false
 | .str _ => some false
 | .ref _ => some false
 | .tup _ => some false
 | _ => none
theorem qic {x : V} {b : Bool} (hx : qsc x = some b) (h : P (.bool b) H) : awO c q d A fl (fun vs => compareOp .Is (vs.getD 0 .none) (vs.getD 1 .none)) [x, .none] H P X := by
 intro s vs B hv; obtain ⟨v, _, rfl, hv, u, _, rfl, hu, rfl⟩ := hv; obtain rfl := hu; have key : PySem.plainIs v .none = true ∧ (v == Value.none) = b := by
   cases x with
   | none => obtain rfl := hv; obtain rfl := sj0_ hx; exact ⟨rfl, rfl⟩
   | bool y => obtain rfl := hv; obtain rfl := sj0_ hx; exact ⟨rfl, rfl⟩
   | int y => obtain ⟨t, rfl⟩ := hv; obtain rfl := sj0_ hx; exact ⟨rfl, rfl⟩
   | str y => obtain ⟨t, rfl⟩ := hv; obtain rfl := sj0_ hx; exact ⟨rfl, rfl⟩
   | ref y => obtain rfl := hv; obtain rfl := sj0_ hx; exact ⟨rfl, rfl⟩
   | tup y => obtain ⟨t, ws, rfl, _⟩ := hv; obtain rfl := sj0_ hx; exact ⟨rfl, rfl⟩
   | _ => exact nomatch hx
 exact wpAny_is_plain key.1 (by show OutE c H s P (Value.bool (v == Value.none)) s; rw [key.2]; exact .here (x := .bool b) B.rep rfl h)
theorem qdd {x : V} {b : Bool} (hx : qsc x = some b) (h : P (.bool (!b)) H) : awO c q d A fl (fun vs => compareOp .IsNot (vs.getD 0 .none) (vs.getD 1 .none)) [x, .none] H P X := by
 intro s vs B hv; obtain ⟨v, _, rfl, hv, u, _, rfl, hu, rfl⟩ := hv; obtain rfl := hu; have key : PySem.plainIs v .none = true ∧ (v == Value.none) = b := by
   cases x with
   | none => obtain rfl := hv; obtain rfl := sj0_ hx; exact ⟨rfl, rfl⟩
   | bool y => obtain rfl := hv; obtain rfl := sj0_ hx; exact ⟨rfl, rfl⟩
   | int y => obtain ⟨t, rfl⟩ := hv; obtain rfl := sj0_ hx; exact ⟨rfl, rfl⟩
   | str y => obtain ⟨t, rfl⟩ := hv; obtain rfl := sj0_ hx; exact ⟨rfl, rfl⟩
   | ref y => obtain rfl := hv; obtain rfl := sj0_ hx; exact ⟨rfl, rfl⟩
   | tup y => obtain ⟨t, ws, rfl, _⟩ := hv; obtain rfl := sj0_ hx; exact ⟨rfl, rfl⟩
   | _ => exact nomatch hx
 exact wpAny_isNot_plain key.1 (by show OutE c H s P (Value.bool (!(v == Value.none))) s; rw [key.2]; exact .here (x := .bool (!b)) B.rep rfl h)
theorem qbi {x y : Str} (h : P (.bool (x == y)) H) : awO c q d A fl (fun vs => compareOp .Eq (vs.getD 0 .none) (vs.getD 1 .none)) [.str x, .str y] H P X := by
 intro s vs B hv; obtain ⟨v, _, rfl, ⟨t, rfl⟩, u, _, rfl, ⟨t', rfl⟩, rfl⟩ := hv; exact eq_str (.here (x := .bool _) B.rep rfl h)
theorem qd9 {x y : Int} (h : P (.bool (x == y)) H) : awO c q d A fl (fun vs => compareOp .Eq (vs.getD 0 .none) (vs.getD 1 .none)) [.int x, .int y] H P X := by
 intro s vs B hv; obtain ⟨v, _, rfl, ⟨t, rfl⟩, u, _, rfl, ⟨t', rfl⟩, rfl⟩ := hv; exact eq_int (.here (x := .bool _) B.rep rfl h)
theorem qer {x y : Int} (h : P (.int (x + y)) H) : awO c q d A fl (fun vs => binaryOp .Add (vs.getD 0 .none) (vs.getD 1 .none)) [.int x, .int y] H P X := by
 intro s vs B hv; obtain ⟨v, _, rfl, ⟨t, rfl⟩, u, _, rfl, ⟨t', rfl⟩, rfl⟩ := hv; exact add_int (.tok (x := .int _) B.rep ⟨_, rfl⟩ h)
theorem qgd {x y : Int} (hy : y ≠ 0) (h : P (.int (x.fmod y)) H) : awO c q d A fl (fun vs => binaryOp .Mod (vs.getD 0 .none) (vs.getD 1 .none)) [.int x, .int y] H P X := by
 intro s vs B hv; obtain ⟨v, _, rfl, ⟨t, rfl⟩, u, _, rfl, ⟨t', rfl⟩, rfl⟩ := hv; exact mod_int' hy (.tok (x := .int _) B.rep ⟨_, rfl⟩ h)
end
abbrev noX : Exc -> AH -> Prop := fun _ _ => False
theorem qif {c : Cx} {fl : Option Addr} {H : AH} {s : Shared} {v : Value} {s' : Shared} {Pr : Prop} (o : OutX c fl H s noX v s') : Pr := by
 obtain ⟨_, _, f, _⟩ := o; exact f.elim
def compItems (st : AH -> Prop) (turn : V -> Map -> AH -> List V -> (Map -> AH -> List V -> Prop) -> Prop) : List V -> Map -> AH -> List V -> (Map -> AH -> List V -> Prop) -> Prop
 | [], m, H, acc, K => st H ∧ K m H acc
 | x :: r, m, H, acc, K => st H ∧ turn x m H acc fun m' H' acc' => compItems st turn r m' H' acc' K
def qnq (c : Cx) (q : Md) (d : Nat) (A : Around) (env : Env) (ifs : List Expr) (m : Map) (H : AH) (P : Bool -> AH -> Prop) : Prop := match ifs with
 | [] => P true H
 | [t] => awB c q d A env t m H P noX
 | _ => False
def qbh (c : Cx) (q : Md) (d : Nat) (A : Around) (env : Env) (elt : Expr) : List Comprehension -> V -> Map -> AH -> List V -> (Map -> AH -> List V -> Prop) -> Prop
 | [], _, _, _, _, _ => False
 | g :: gs, x, m, H, acc, K => ∃ mJ, asgV g.target x m = some mJ ∧ qnq c q d A env g.ifs mJ H fun ok HJ => if ok then (match gs with
     | [] => acc.length ≤ 100000 ∧ awE c q d A env elt mJ HJ (fun y HW => K mJ HW (acc ++ [y])) noX
     | g' :: _ => awE c q d A env g'.iter mJ HJ (fun v HW => ∃ ik xs, qcw HW v = some ik ∧ compItems (fun H => ik.items H = some xs) (qbh c q d A env elt gs) xs mJ HW acc K) noX) else K mJ HJ acc
abbrev lst (ys : List Value) : Obj := { cls := .type "list", data := .seq ys.toArray ys.length }
theorem qqs (ys : List Value) (y : Value) : ({ cls := .type "list", data := .seq (ys.toArray.push y) (ys.length + 1) } : Obj) = lst (ys ++ [y]) := by
 simp [lst, List.push_toArray]
structure CI (c : Cx) (env : Env) (D : Addr) (HO : AH) (sO : Shared) (m : Map) (H : AH) (acc : List V) (s : Shared) : Prop where
 rep : Rep c H s
 fr : qaz c env m H s.heap
 step : Step HO sO H s
 free : H D = none
 list : ∃ its, s.heap.get? D = some (lst its) ∧ VRs s.heap acc its
section
variable {c : Cx} {q : Md} {d : Nat} {A : Around} {env : Env} {HO : AH} {sO : Shared} {D : Addr}
theorem CI.frep {m : Map} {H : AH} {acc : List V} {s : Shared} (x : CI c env D HO sO m H acc s) (O : Ok c q d A HO sO.heap) : FRep c q d A env m H s := ⟨⟨x.rep, O.step x.step⟩, x.fr⟩
theorem CI.on {m : Map} {H H' : AH} {acc : List V} {s s' : Shared} (x : CI c env D HO sO m H acc s) (R : Rep c H' s') (y : Step H s H' s') : CI c env D HO sO m H' acc s' := by
 obtain ⟨its, hl, hv⟩ := x.list; obtain ⟨o', e', k⟩ := y.kept _ _ hl x.free; rw [k.eq fun es n z => by cases z] at e'; exact ⟨R, x.fr.step x.rep y, x.step.trans y, y.free x.free hl, its, e', hv.mono (x.rep.tk y)⟩
theorem ItR.on {ik : IK} {I : Addr} {i : Nat} {H H' : AH} {s s' : Shared} (it : ItR s.heap I i ik) (hI : H I = none) (R : Rep c H s) (y : Step H s H' s') : ItR s'.heap I i ik ∧ H' I = none := by
 obtain ⟨o, vs, e, hd⟩ := it.there; refine ⟨it.keeps (fun o' e' zp0 => ?_) (R.tk y), y.free hI e⟩; obtain ⟨vs', hd'⟩ := zp0; obtain ⟨o'', e'', k⟩ := y.kept _ _ e' hI; rw [k.eq fun es n z => by rw [hd'] at z; cases z] at e''; exact e''
theorem qjx {ik : IK} {I : Addr} {i : Nat} {s : Shared} {Q E : Value -> Shared -> Prop} (it : ItR s.heap I i ik) (h : Q (.ref I) s) : wpAny c.M A (pyIter (.ref I)) Q E s := by
 cases ik with
 | list l => exact wpAny_pyIter_listiter it h
 | keys d n ep => exact wpAny_pyIter_keyiter it h
 | vals d n ep => exact wpAny_pyIter_valiter it h
 | fixed xs =>
   rcases it with ⟨t, ws, hi, _⟩ | ⟨x, t, hi, _⟩ | ⟨a, n, hi, _⟩
   . exact wpAny_pyIter_tupleiter hi h
   . exact wpAny_pyIter_striter_ascii hi h
   . exact wpAny_pyIter_rangeiter hi h
end
structure KJ (I : Addr) (s : Shared) (H : AH) (s' : Shared) (H' : AH) : Prop where
 k : ∀ J o vs, s.heap.get? J = some o -> o.data = .fields vs -> H J = none -> J ≠ I -> s'.heap.get? J = some o ∧ H' J = none
 tk : TK s.heap s'.heap
theorem KJ.refl (I : Addr) (s : Shared) (H : AH) : KJ I s H s H := ⟨fun J o vs e _ h _ => ⟨e, h⟩, TK.refl _⟩
theorem KJ.trans {I : Addr} {sJ sW sY : Shared} {HJ HW HY : AH} (x : KJ I sJ HJ sW HW) (y : KJ I sW HW sY HY) : KJ I sJ HJ sY HY := ⟨fun J o vs e hd h hn =>
 let ⟨e', h'⟩ := x.k J o vs e hd h hn
 y.k J o vs e' hd h' hn, x.tk.trans y.tk⟩
theorem KJ.of_step {c : Cx} {I : Addr} {s s' : Shared} {H H' : AH} (R : Rep c H s) (x : Step H s H' s') : KJ I s H s' H' := ⟨fun J o vs e hd h _ => by
 obtain ⟨o', e', k⟩ := x.kept J o e h; rw [k.eq fun es n z => by rw [hd] at z; cases z] at e'; exact ⟨e', x.free h e⟩, R.tk x⟩
theorem Step.only {I : Addr} {H HY : AH} {s sY : Shared} {h' : Heap} {t : Nat} (x : Step H s HY sY) (o : Only I sY.heap h') (hI : s.heap.get? I = none) : Step H s HY { sY with heap := h', toks := t } := by
 have ne : ∀ b ob, s.heap.get? b = some ob -> b ≠ I := fun b ob e q => by subst q; rw [hI] at e; exact nomatch e
 refine ⟨fun b ob e n => ?_, x.new, fun b ob e => ?_⟩
 . obtain ⟨o', e', k⟩ := x.kept b ob e n; exact ⟨o', o.keep b o' (ne b ob e) e', k⟩
 . obtain ⟨o', e'⟩ := x.alive b ob e; exact ⟨o', o.keep b o' (ne b ob e) e'⟩
section
variable {c : Cx} {q : Md} {d : Nat} {A : Around} {env : Env} {HO : AH} {sO : Shared} {D : Addr} {elt : Expr} {gens : List Comprehension} {scope : Scope} {pos : Pos}
theorem qfu {depth : Nat} {g : Comprehension} {it acc : Value} {s : Shared} {R : Result -> Shared -> Prop} (hg : gens[depth]? = some g) (ha : g.is_async = 0) (h0 : codeAny c.M A (.compLoop (.ListComp elt gens scope pos) depth it acc env) R s)
   (hs : ∀ (Q E : Value -> Shared -> Prop), Q it s -> wpAny c.M A (pyIter it) Q E s) : codeAny c.M A (.compStart (.ListComp elt gens scope pos) depth it acc env) R s := by
 refine codeAny_of_tree ?_; show wpAny _ A ((compStart (.ListComp elt gens scope pos) depth it acc env).onRaise (fun x => do noteFrame x env; standAt theWindowsPlace)) _ _ s; refine wpAny_notedAt ?_; unfold compStart; have hc : (clausesOf (.ListComp elt gens scope pos))[depth]? = some g := hg; (refine (Eq.symm hc) ▸ ?_); simp only [Option.elim, ha, bne_self_eq_false, Bool.false_eq_true, if_false]; refine wpAny_bind (wpAny_askSetting (wpAny_ite ?_)); split
 . exact wpAny_pure ⟨rfl, h0⟩
 . exact wpAny_bind (wpAny_rule (wpAny_bind (wpAny_standAt (wpAny_bind (hs _ _ (wpAny_pure ⟨rfl, h0⟩))))))
inductive qsr (c : Cx) (env : Env) (D : Addr) (HO : AH) (sO : Shared) (turn : V -> Map -> AH -> List V -> (Map -> AH -> List V -> Prop) -> Prop) (K : Map -> AH -> List V -> Prop) (ik : IK) (xs : List V) (I : Addr) (s : Shared) (H : AH) (n : Nat) (s' : Shared) : Prop
 | mk (m' : Map) (H' : AH) (acc' : List V) (i : Nat) (rest : List V) (e : n = rest.length + 1) (f : xs.drop i = rest) (l : i ≤ xs.length) (t : compItems (fun H => ik.items H = some xs) turn rest m' H' acc' K) (a : CI c env D HO sO m' H' acc' s') (b : ItR s'.heap I i ik) (o : H' I = none) (k : KJ I s H s' H')
inductive qs9 (c : Cx) (env : Env) (D : Addr) (HO : AH) (sO : Shared) (K : Map -> AH -> List V -> Prop) (I : Addr) (s : Shared) (H : AH) (r : Result) (s' : Shared) : Prop
 | mk (e : r = .ok .next) (m' : Map) (H' : AH) (acc' : List V) (k : K m' H' acc') (a : CI c env D HO sO m' H' acc' s') (b : KJ I s H s' H')
theorem qmk (hq : A.handled = none) (RO : Rep c HO sO) (O : Ok c q d A HO sO.heap) (hown : ∀ g ∈ gens, qj0 env g.target ∧ g.is_async = 0 ∧ (∀ x, foldedSetIterable g.iter env x = pure x) ∧ ∀ y ∈ tgtNames g.target, ∀ b, qqr env y b -> sO.heap.get? b = none) (hDO : sO.heap.get? D = none) :
   ∀ (gs : List Comprehension) (depth : Nat), gens.drop depth = gs -> gs ≠ [] -> ∀ (ik : IK) (xs : List V) (I : Addr) (m : Map) (H : AH) (acc : List V) (s : Shared) (K : Map -> AH -> List V -> Prop),
     CI c env D HO sO m H acc s -> sO.heap.get? I = none -> ItR s.heap I 0 ik -> H I = none -> compItems (fun H => ik.items H = some xs) (qbh c q d A env elt gs) xs m H acc K →
     codeAny c.M A (.compLoop (.ListComp elt gens scope pos) depth (.ref I) (.ref D) env) (qs9 c env D HO sO K I s H) s := by
   intro gs
   induction gs with | nil => exact fun _ _ h => absurd rfl h | cons g gs ih => ?_
   intro depth hgs _ ik xs I m H acc s K ci hIO it hI hitems; have hg : gens[depth]? = some g := by
     have := congrArg (·[0]?) hgs; simpa using this
   have hgs' : gens.drop (depth + 1) = gs := by rw [← List.drop_drop, hgs]; rfl
   have hgm : g ∈ gens := mem_of_getElem? hg; obtain ⟨htgt, hasync, hfold, hlives⟩ := hown g hgm; have gI : c.g.get? I = none := RO.gnone hIO; refine codeAny_loop rfl (qsr c env D HO sO (qbh c q d A env elt (g :: gs)) K ik xs I s H) ?_ (xs.length + 1)
     ⟨m, H, acc, 0, xs, rfl, rfl, zero_le _, hitems, ci, it, hI, KJ.refl _ _ _⟩
   intro n sJ hh; refine hide fun Pz bk => ?_; obtain ⟨mJ, HJ, accJ, i, rest, en, hdrop, hle, hitemsJ, ciJ, itJ, hIJ, hJJ⟩ := hh; obtain ⟨oI, vI, eI, dI⟩ := itJ.there; obtain ⟨itsJ, hlJ, hvJ⟩ := ciJ.list; obtain ⟨mL, ⟨oL, esL, epL, hL, dL, _⟩, _⟩ := id ciJ.fr.loc; have nL : I ≠ env.locals := fun e => by rw [e, hL] at eI; obtain rfl := sj0_ eI; rw [dL] at dI; exact nomatch dI
   have nC : ∀ k ∈ env.cells, I ≠ k.2 := fun k hk e => by
     obtain ⟨_, ⟨vO, o, e', dk⟩, _⟩ := ciJ.fr.cfree k hk; rw [e, e'] at eI; obtain rfl := sj0_ eI; rw [dk] at dI; exact nomatch dI
   have nD : D ≠ I := fun e => by rw [e, eI] at hlJ; obtain rfl := sj0_ hlJ; exact nomatch dI
   have only : ∀ {h' t}, Only I sJ.heap h' -> CI c env D HO sO mJ HJ accJ { sJ with heap := h', toks := t } ∧ KJ I s H { sJ with heap := h', toks := t } HJ := fun {h' t} o =>
     ⟨⟨o.rep ciJ.rep hIJ gI itJ.rec, ciJ.fr.only o itJ.rec nL nC, ciJ.step.only o hIO, ciJ.free, itsJ, o.keep _ _ nD hlJ, hvJ.mono (o.tk itJ.rec)⟩,
       hJJ.trans ⟨fun J o' vs e _ h hn => ⟨o.keep J o' hn e, h⟩, o.tk itJ.rec⟩⟩
   refine bk ?_; clear bk Pz; subst en; show wpAny _ A ((compTurn (.ListComp elt gens scope pos) depth (.ref I) (.ref D) env).onRaise (fun x => do noteFrame x env; theTreesLotGoes x)) _ _ sJ; refine wpAny_noted ?_; unfold compTurn; dsimp only; (refine (Eq.symm hg) ▸ ?_); dsimp only; (refine (Eq.symm hasync) ▸ ?_); simp only [bne_self_eq_false, Bool.false_eq_true, if_false]; refine wpAny_bind (wpAny_standAt ?_); cases rest with
   | nil =>
     obtain ⟨hst, hk⟩ := hitemsJ; refine wpAny_bind (wpAny_mono (qlw (E := fun _ _ => False) hq ciJ.rep itJ hIJ hst (List.drop_eq_nil_iff.mp hdrop)) (fun r sW zp0 => ?_) fun _ _ e => e.elim); obtain ⟨hW, tW, e1, e2, oW⟩ := zp0; subst e1 e2; obtain ⟨ciW, hJW⟩ := only (t := tW) oW; exact wpAny_pure ⟨rfl, mJ, HJ, accJ, hk, ciW, hJW⟩
   | cons x rest =>
     obtain ⟨hst, mW, hmW, htest⟩ := hitemsJ; have hx : xs[i]? = some x := by
       have := congrArg (·[0]?) hdrop; simpa using this
     have hlt : i < xs.length := (List.getElem?_eq_some_iff.mp hx).1; have hd' : xs.drop (i + 1) = rest := by rw [← List.drop_drop, hdrop]; rfl
     refine wpAny_bind (wpAny_mono (qjq (E := fun _ _ => False) ciJ.rep itJ hIJ hst hx) (fun r sW zp0 => ?_) fun _ _ e => e.elim); obtain ⟨vW, hW, tW, e1, e2, hvW, itW, oW⟩ := zp0; subst e1 e2; obtain ⟨ciW, hJW⟩ := only (t := tW) oW; obtain ⟨oIW, vIW, eIW, dIW⟩ := itW.there; obtain ⟨itsW, hlW, hvW'⟩ := ciW.list; dsimp only at hlW hvW' eIW; refine wpAny_bind (qls (s := { sJ with heap := hW, toks := tW }) itW ?_); refine wpAny_bind (wpAny_mono (qrf (E := fun _ _ => False) hq ciW.rep ciW.fr hvW htgt hmW) (fun _ sY ⟨RY, FY, xY, kY⟩ => ?_) fun _ _ e => e.elim); have nlive : ∀ b o, hW.get? b = some o -> (∀ es n, o.data ≠ .dict es n) -> (∀ v, o.data ≠ .cell v) -> ∀ y ∈ tgtNames g.target, ¬ qqr env y b := by
       intro b o e h1 h2 y hy hl; rcases hl with ⟨_, rfl⟩ | ⟨_, hl⟩
       . obtain ⟨mL', ⟨oL', es', ep', hL', dL', _⟩, _⟩ := id ciW.fr.loc; dsimp only at hL'; rw [e] at hL'; obtain rfl := sj0_ hL'; exact h1 _ _ dL'
       . obtain ⟨_, ⟨vO, o', e', dk⟩, _⟩ := ciW.fr.cfree _ (qat hl); dsimp only at e'; rw [e] at e'; obtain rfl := sj0_ e'; exact h2 _ dk
     have stY : Step HO sO HJ sY := by
       refine ⟨fun b o e n => ?_, ciW.step.new, fun b o e => ?_⟩
       . obtain ⟨o', e', k⟩ := ciW.step.kept b o e n; exact ⟨o', kY b o' e' (fun y hy hl => by rw [hlives y hy b hl] at e; exact nomatch e), k⟩
       . obtain ⟨o', e'⟩ := ciW.step.alive b o e; exact ⟨o', kY b o' e' fun y hy hl => by rw [hlives y hy b hl] at e; cases e⟩
     have ciY : CI c env D HO sO mW HJ accJ sY := ⟨RY, FY, stY, ciW.free, itsW, kY _ _ hlW (nlive _ _ hlW (fun es n z => by exact nomatch z) fun v z => by exact nomatch z), hvW'.mono (ciW.fr.tk ciW.rep xY)⟩; have itY : ItR sY.heap I (i + 1) ik := itW.keeps (fun o e zp0 => by obtain ⟨vs, hd⟩ := zp0; exact kY _ _ e (nlive _ _ e (fun es n z => by rw [hd] at z; exact nomatch z) fun v z => by rw [hd] at z; exact nomatch z)) (ciW.fr.tk ciW.rep xY); have hJY : KJ I s H sY HJ := hJW.trans ⟨fun J o vs e hd h _ => ⟨kY _ _ e (nlive _ _ e (fun es n z => by rw [hd] at z; exact nomatch z) fun v z => by rw [hd] at z; exact nomatch z), h⟩, ciW.fr.tk ciW.rep xY⟩; have again_ok : ∀ {mZ HZ accZ sZ}, CI c env D HO sO mZ HZ accZ sZ -> ItR sZ.heap I (i + 1) ik -> HZ I = none -> KJ I s H sZ HZ -> compItems (fun H => ik.items H = some xs) (qbh c q d A env elt (g :: gs)) rest mZ HZ accZ K →
         ∃ n, n < (x :: rest).length + 1 ∧ qsr c env D HO sO (qbh c q d A env elt (g :: gs)) K ik xs I s H n sZ :=
       fun ciZ itZ h₅ hJZ hk => ⟨rest.length + 1, by simp, _, _, _, i + 1, rest, rfl, hd', hlt, hk, ciZ, itZ, h₅, hJZ⟩
     have tests : wpAny c.M A (forIn g.ifs true fun c r => if r = true then do let ok ← isTrue c env (eval c env); pure (ForInStep.yield ok) else pure (ForInStep.yield r))
         (fun ok sV => ∃ HV, (if ok then (match (generalizing := false) gs with
           | [] => accJ.length ≤ 100000 ∧ awE c q d A env elt mW HV (fun y HW => compItems (fun H => ik.items H = some xs) (qbh c q d A env elt (g :: gs)) rest mW HW (accJ ++ [y]) K) noX
           | g' :: _ => awE c q d A env g'.iter mW HV (fun v HW => ∃ ik' xs', qcw HW v = some ik' ∧ compItems (fun H => ik'.items H = some xs') (qbh c q d A env elt gs) xs' mW HW accJ fun m' H' acc' => compItems (fun H => ik.items H = some xs) (qbh c q d A env elt (g :: gs)) rest m' H' acc' K) noX)
           else compItems (fun H => ik.items H = some xs) (qbh c q d A env elt (g :: gs)) rest mW HV accJ K) ∧ CI c env D HO sO mW HV accJ sV ∧ ItR sV.heap I (i + 1) ik ∧ HV I = none ∧ KJ I s H sV HV) (fun _ _ => False) sY := by
       unfold qnq at htest; split at htest
       . rename_i hifs; rw [hifs, List.forIn_nil]; exact wpAny_pure ⟨HJ, htest, ciY, itY, hIJ, hJY⟩
       . rename_i t hifs; (refine (Eq.symm hifs) ▸ ?_); refine wpAny_tests_one (wpAny_mono (htest sY (ciY.frep O)) (fun b sV zp0 => ?_) fun _ _ o => qif o); obtain ⟨HV, hp, RV, xV⟩ := zp0; obtain ⟨itV, hIV⟩ := itY.on hIJ RY xV; exact ⟨HV, hp, ciY.on RV xV, itV, hIV, hJY.trans (.of_step RY xV)⟩
       . exact htest.elim
     refine wpAny_bind (wpAny_mono tests (fun ok sV zp0 => ?_) fun _ _ e => e.elim); obtain ⟨HV, hp, ciV, itV, hIV, hJV⟩ := zp0; cases ok with
     | false =>
       simp only [Bool.false_eq_true, if_false] at hp ⊢; exact wpAny_pure ⟨rfl, again_ok ciV itV hIV hJV hp⟩
     | true =>
       simp only [if_true] at hp ⊢; cases gs with
       | nil =>
         have hn : gens[depth + 1]? = none := by
           have := congrArg (·[0]?) hgs'; simpa using this
         (refine (Eq.symm hn) ▸ ?_); obtain ⟨hacc, hp⟩ := hp; dsimp only; refine wpAny_bind (wpAny_bind (qaj hp (ciV.frep O) (fun y HZ sZ vZ hk FZ hvZ xZ => wpAny_bind ?_) fun _ _ o => qif o)); have ciZ := ciV.on FZ.rep xZ; obtain ⟨itZ, hIZ⟩ := itV.on hIV ciV.rep xZ; obtain ⟨itsZ, hlZ, hvsZ⟩ := ciZ.list; refine append_at (hsz := by rw [size_toArray, ← hvsZ.length]; exact le_trans hacc (by decide)) hlZ fun h₆ hsX hDX => wpAny_pure ?_; obtain ⟨oIZ, vIZ, eIZ, dIZ⟩ := itZ.there; have oX : Only D sZ.heap h₆ := ⟨fun b o hb e => (hsX.2 b hb).trans e⟩; have hDi : ∀ o, sZ.heap.get? D = some o -> qb0 o.cls = false := fun o e => by rw [hlZ] at e; obtain rfl := sj0_ e; rfl
         obtain ⟨mL', ⟨oL', es', ep', hL', dL', _⟩, _⟩ := id ciZ.fr.loc; have nDL : D ≠ env.locals := fun e => by rw [← e, hlZ] at hL'; obtain rfl := sj0_ hL'; exact nomatch dL'
         have nDC : ∀ k ∈ env.cells, D ≠ k.2 := fun k hk e => by
           obtain ⟨_, ⟨vO, o, e', dk⟩, _⟩ := ciZ.fr.cfree k hk; rw [← e, hlZ] at e'; obtain rfl := sj0_ e'; exact nomatch dk
         have ciX : CI c env D HO sO mW HZ (accJ ++ [y]) { sZ with heap := h₆ } := ⟨oX.rep (t := sZ.toks) ciZ.rep ciZ.free (RO.gnone hDO) hDi, ciZ.fr.only oX hDi nDL nDC, ciZ.step.only (t := sZ.toks) oX hDO, ciZ.free, itsZ ++ [vZ], by rw [hDX, qqs], (hvsZ.mono (oX.tk hDi)).append ⟨vZ, [], rfl, hvZ.mono (oX.tk hDi), rfl⟩⟩; have neJ : ∀ J o vs, sZ.heap.get? J = some o -> o.data = .fields vs -> J ≠ D := fun J o vs e hd z => by rw [z, hlZ] at e; obtain rfl := sj0_ e; exact nomatch hd
         have itX : ItR h₆ I (i + 1) ik := itZ.keeps (fun o e zp0 => by obtain ⟨vs, hd⟩ := zp0; exact oX.keep _ _ (neJ _ _ _ e hd) e) (oX.tk hDi); exact wpAny_pure ⟨rfl, again_ok ciX itX hIZ ((hJV.trans (.of_step ciV.rep xZ)).trans ⟨fun J o vs e hd h _ => ⟨oX.keep _ _ (neJ _ _ _ e hd) e, h⟩, oX.tk hDi⟩) hk⟩
       | cons g' gs' =>
         have hn : gens[depth + 1]? = some g' := by
           have := congrArg (·[0]?) hgs'; simpa using this
         obtain ⟨_, hasync', hfold', _⟩ := hown g' (mem_of_getElem? hn); (refine (Eq.symm hn) ▸ ?_); dsimp only; (refine (Eq.symm hasync') ▸ ?_); simp only [bne_self_eq_false, Bool.false_eq_true, if_false]; refine wpAny_bind (qaj hp (ciV.frep O) (fun y HZ sZ vZ ⟨ik', xs', hik, hk⟩ FZ hvZ xZ => wpAny_bind (wpAny_standAt ?_)) fun _ _ o => qif o); have ciZ := ciV.on FZ.rep xZ; obtain ⟨itZ, hIZ⟩ := itV.on hIV ciV.rep xZ; rw [hfold' vZ]; refine wpAny_bind (wpAny_pure (wpAny_bind (wpAny_holding (wpAny_mono (qkz (E := fun _ _ => False) FZ.rep hvZ hik) (fun it' sX zp0 => ?_) fun _ _ e => e.elim)))); obtain ⟨I', h₆, e1, e2, itX', kk, hI'⟩ := zp0; subst e1 e2; have RX : Rep c HZ { sZ with heap := h₆ } := FZ.rep.silent kk rfl rfl; have xX : Step HZ sZ HZ { sZ with heap := h₆ } := .silent kk; have ciX := ciZ.on RX xX; obtain ⟨itX, hIX⟩ := itZ.on hIZ ciZ.rep xX; have hIO' : sO.heap.get? I' = none := ciZ.step.old hI'; have hne : I ≠ I' := fun z => by
           obtain ⟨o, vs, e, _⟩ := itZ.there; rw [z, hI'] at e; exact nomatch e
         refine wpAny_bind (wpAny_runOwn (h := none) ?_); have key := ih (depth + 1) hgs' (List.cons_ne_nil _ _) ik' xs' I' mW HZ accJ { sZ with heap := h₆ } _ ciX hIO' itX' (FZ.rep.fresh hI') hk; refine codeAny_mono (qfu hn hasync' key fun Q E h => qjx itX' h) fun r sD zp0 => ?_; obtain ⟨hr, mD, HD, accD, hkD, ciD, hJD⟩ := zp0; subst hr; obtain ⟨o6, vs6, e6, d6⟩ := itX.there; obtain ⟨e7, hID⟩ := hJD.k I o6 vs6 e6 d6 hIX hne; have itD : ItR sD.heap I (i + 1) ik := itX.keeps (fun o e zp0 => by obtain ⟨vs, hd⟩ := zp0; exact (hJD.k I o vs e hd hIX hne).1) hJD.tk; have hJZ := hJV.trans (.of_step ciV.rep xZ); have hJX := hJZ.trans (.of_step ciZ.rep xX); refine wpAny_pure ⟨rfl, again_ok ciD itD hID ⟨fun J o vs e hd h hn => ?_, hJX.tk.trans hJD.tk⟩ hkD⟩; obtain ⟨eZ, _⟩ := hJZ.k J o vs e hd h hn; obtain ⟨eX, hX'⟩ := hJX.k J o vs e hd h hn; exact hJD.k J o vs eX hd hX' fun z => by rw [z, hI'] at eZ; cases eZ
end
def qgu (cells : List (Str × Addr)) : List (Str × NameKind) -> List (Str × Addr) -> Option (List (Str × Addr))
 | [], acc => some acc
 | (n, k) :: r, acc => if k == .free then (match cells.lookup n with | some a => qgu cells r ((n, a) :: acc) | none => none) else qgu cells r acc
theorem qqf {env : Env} : ∀ {names : List (Str × NameKind)} {acc cl : List (Str × Addr)}, qgu env.cells names acc = some cl →
   (forIn names acc fun (x : Str × NameKind) (r : List (Str × Addr)) => if (x.2 == .free) = true then do let a ← cellOf env x.1; pure (ForInStep.yield ((x.1, a) :: r)) else (pure (ForInStep.yield r) : Sem _)) = pure cl := by
 intro names
 induction names with
 | nil =>
   intro acc cl h; obtain rfl := sj0_ h; rw [List.forIn_nil]
 | cons pz r ih =>
   obtain ⟨n, k⟩ := pz; intro acc cl h; unfold qgu at h; rw [List.forIn_cons]; split at h
   . rename_i hk; split at h
     . rename_i a ha; have hc : cellOf env n = pure a := by unfold cellOf; rw [ha]
       simp only [hk, if_true, hc]; exact ih h
     . exact nomatch h
   . rename_i hk; have hk' : (k == NameKind.free) = false := by simpa using hk
     simp only [hk', Bool.false_eq_true, if_false]; exact ih h
theorem qev {scope : Scope} {env : Env} {cl : List (Str × Addr)} (h : qgu env.cells scope.names [] = some cl) : closureFor scope env = pure cl := by
 have := qqf h
 first
   | exact this
   | (simp only [] at this ⊢; exact this)
   | (show (forIn scope.names [] _ >>= _) = _; (refine (Eq.symm this) ▸ ?_); rfl)
theorem qny {cells : List (Str × Addr)} : ∀ {names : List (Str × NameKind)} {acc cl : List (Str × Addr)}, qgu cells names acc = some cl -> ∀ p ∈ cl, p ∈ acc ∨ (cells.lookup p.1 = some p.2 ∧ (p.1, NameKind.free) ∈ names) := by
 intro names
 induction names with
 | nil =>
   intro acc cl h p hp; obtain rfl := sj0_ h; exact .inl hp
 | cons pz r ih =>
   obtain ⟨n, k⟩ := pz; intro acc cl h p hp; unfold qgu at h; split at h
   . rename_i hk; have hk : k = .free := beq_iff_eq.mp hk; split at h
     . rename_i a ha; rcases ih h p hp with q | ⟨q1, q2⟩
       . rcases mem_cons.mp q with rfl | q
         . exact .inr ⟨ha, by (refine (Eq.symm hk) ▸ ?_); exact mem_cons_self ..⟩
         . exact .inl q
       . exact .inr ⟨q1, mem_cons_of_mem _ q2⟩
     . exact nomatch h
   . rcases ih h p hp with q | ⟨q1, q2⟩
     . exact .inl q
     . exact .inr ⟨q1, mem_cons_of_mem _ q2⟩
theorem qkp {cells : List (Str × Addr)} : ∀ {names : List (Str × NameKind)} {acc cl : List (Str × Addr)}, qgu cells names acc = some cl -> (names.map (·.1)).Nodup -> (acc.map (·.1)).Nodup -> (∀ p ∈ acc, p.1 ∉ names.map (·.1)) -> (cl.map (·.1)).Nodup := by
 intro names
 induction names with
 | nil =>
   intro acc cl h _ h2 _; obtain rfl := sj0_ h; exact h2
 | cons pz r ih =>
   obtain ⟨n, k⟩ := pz; intro acc cl h h1 h2 h3; unfold qgu at h; simp only [map_cons, nodup_cons] at h1; split at h
   . split at h
     . refine ih h h1.2 ?_ fun p hp => ?_
       . simp only [map_cons, nodup_cons]; refine ⟨fun z => ?_, h2⟩; obtain ⟨p, hp, e⟩ := mem_map.mp z; exact h3 p hp (by (refine (Eq.symm e) ▸ ?_); simp)
       . rcases mem_cons.mp hp with rfl | hp
         . exact h1.1
         . exact fun z => h3 p hp (by simp only [map_cons, mem_cons]; exact .inr z)
     . exact nomatch h
   . exact ih h h1.2 h2 fun p hp z => h3 p hp (by simp only [map_cons, mem_cons]; exact .inr z)
theorem qk1 {M : Model} {A : Around} {E : Value -> Shared -> Prop} {s : Shared} {scope : Scope} {env : Env} {globals : Addr} {cl : List (Str × Addr)} {qual : Str} {Q : Env -> Shared -> Prop}
   (h : Q { scope, locals := s.heap.objs.size, globals, cells := cellsFrom (s.heap.objs.size + 1) scope.names cl, qual, func := none, code := env.code, frame := env.frame, builtins := env.builtins } { s with heap := pushCells (s.heap.push { cls := .type "dict", data := .dict #[] }) scope.names }) :
   wpAny M A (newFunctionEnv scope globals cl [] qual none .none (some env)) Q E s := by
 refine wpAny_bind (wpAny_alloc ?_); refine wpAny_bind (wpAny_layCells _ (fun name kind cells => by rfl) scope.names cl _ _ ?_); rw [Heap.size_push]; exact wpAny_pure h
theorem qct : ∀ (names : List (Str × NameKind)) (n : Nat) (acc : List (Str × Addr)), cellsFrom n names acc = cellsFrom n names [] ++ acc := by
 intro names
 induction names with
 | nil =>
   intro _ _; exact rfl
 | cons pz r ih =>
   obtain ⟨name, kind⟩ := pz; intro n acc; unfold cellsFrom; split
   . rw [ih (n + 1) ((name, n) :: acc), ih (n + 1) [(name, n)]]; simp
   . exact ih n acc
theorem qgs : ∀ {names : List (Str × NameKind)} {n : Nat} {p : Str × Addr}, p ∈ cellsFrom n names [] -> (p.1, NameKind.cell) ∈ names := by
 intro names
 induction names with
 | nil =>
   intro _ _ h; exact nomatch h
 | cons pz r ih =>
   obtain ⟨name, kind⟩ := pz; intro n p h; unfold cellsFrom at h; split at h
   . rename_i hk; rw [qct] at h; rcases mem_append.mp h with h | h
     . exact mem_cons_of_mem _ (ih h)
     . rw [mem_singleton.mp h, ← beq_iff_eq.mp hk]; exact mem_cons_self ..
   . exact mem_cons_of_mem _ (ih h)
theorem qdn {β : Type} {x : Str} : ∀ {l r : List (Str × β)}, (l ++ r).lookup x = (l.lookup x).or (r.lookup x) := by
 intro l
 induction l with
 | nil =>
   intro r; rfl
 | cons pz l ih =>
   obtain ⟨y, b⟩ := pz; intro r; rw [List.cons_append, lookup_cons, lookup_cons]; cases x == y
   . exact ih
   . rfl
theorem qmz {names : List (Str × NameKind)} {x : Str} {k k' : NameKind} (hn : (names.map (·.1)).Nodup) (h : (x, k) ∈ names) (h' : (x, k') ∈ names) : k = k' := by
 have a := qbj hn h; have b := qbj hn h'; rw [a] at b; obtain rfl := sj0_ b; rfl
def qby (scope : Scope) (cl : List (Str × Addr)) (C : Addr) (env : Env) : Env :=
 { scope := relabel scope env, locals := C, globals := env.globals, cells := cellsFrom (C + 1) scope.names cl, qual := env.qual, func := none, code := env.code, frame := env.frame, builtins := env.builtins }
def capM (cl : List (Str × Addr)) (m : Map) : Map := fun x => if (cl.lookup x).isSome then m x else none
def relK (env : Env) (n : Str) (k : NameKind) : NameKind := if (k == NameKind.free && env.scope.kind == .function && env.kindOf n == some .cell) then .cell else k
theorem qk0 {f : Str -> NameKind -> NameKind} {x : Str} : ∀ {names : List (Str × NameKind)}, (names.map fun p => (p.1, f p.1 p.2)).lookup x = (names.lookup x).map (f x) := by
 intro names
 induction names with
 | nil =>
   exact rfl
 | cons pz r ih =>
   obtain ⟨n, k⟩ := pz; rw [map_cons, lookup_cons, lookup_cons]; by_cases hx : x = n
   . subst hx; simp
   . rw [beq_eq_false_iff_ne.mpr hx]; exact ih
theorem qco {scope : Scope} {env : Env} {x : Str} : (relabel scope env).names.lookup x = (scope.names.lookup x).map (relK env x) := by
 have e : (relabel scope env).names = scope.names.map fun p => (p.1, relK env p.1 p.2) := by
   unfold relabel relK; refine map_congr_left fun p _ => ?_; obtain ⟨n, k⟩ := p; dsimp only; split <;> rfl
 (refine (Eq.symm e) ▸ ?_); exact qk0
theorem qpi (env : Env) (n : Str) : relK env n .free = .cell ∨ relK env n .free = .free := by
 unfold relK; split
 . exact .inl rfl
 . exact .inr rfl
section
variable {c : Cx} {q : Md} {d : Nat} {A : Around} {env : Env} {m : Map} {H : AH} {P : V -> AH -> Prop} {X : Exc -> AH -> Prop} {pos : Pos} {elt : Expr} {g : Comprehension} {gs : List Comprehension} {scope : Scope} {cl : List (Str × Addr)}
structure qgi (scope : Scope) (cl : List (Str × Addr)) (env : Env) (gens : List Comprehension) : Prop where
 clos : qgu env.cells scope.names [] = some cl
 kind : scope.kind = .function
 nd : (scope.names.map (·.1)).Nodup
 loc : ((cl.map (·.1)).all fun n => env.kindOf n != some .local) = true
 gens : ∀ g ∈ gens, g.is_async = 0 ∧ (∀ C x, foldedSetIterable g.iter (qby scope cl C env) x = pure x) ∧ (∀ C, qj0 (qby scope cl C env) g.target) ∧ ∀ y ∈ tgtNames g.target, scope.names.lookup y = some .local ∨ scope.names.lookup y = some .cell
theorem qn3 {s sV : Shared} {C : Addr} (K : qgi scope cl env (g :: gs)) (F : FRep c q d A env m H s) (R : Rep c H sV) (kk : ∀ b o, s.heap.get? b = some o -> sV.heap.get? b = some o)
   (hC : s.heap.get? C = none) (hns : sV.heap.Ns C fun _ => none) (hcells : CellsOk sV.heap (C + 1) (cellsFrom (C + 1) scope.names [])) (hnew : ∀ b, C + 1 ≤ b -> s.heap.get? b = none) : qaz c (qby scope cl C env) (capM cl m) H sV.heap := by
 have mem := qny K.clos; have ndn := qkp K.clos K.nd nodup_nil (fun _ h => nomatch h); have tk : TK s.heap sV.heap := TK.of_keeps kk; have inCl : ∀ p ∈ cl, env.cells.lookup p.1 = some p.2 ∧ (p.1, NameKind.free) ∈ scope.names := fun p hp => by
   rcases mem p hp with h | h
   . exact nomatch h
   . exact h
 have kindCl : ∀ p ∈ cl, (qby scope cl C env).kindOf p.1 = some .cell ∨ (qby scope cl C env).kindOf p.1 = some .free := fun p hp => by
   show (relabel scope env).names.lookup p.1 = _ ∨ (relabel scope env).names.lookup p.1 = _; rw [qco, qbj K.nd (inCl p hp).2]; exact (qpi env p.1).imp (fun h => congrArg some h) (fun h => congrArg some h)
 have oldCell : ∀ p ∈ cl, H p.2 = none ∧ (∃ vO, sV.heap.IsCell p.2 vO) ∧ c.g.get? p.2 = none ∧ ∃ o, s.heap.get? p.2 = some o := fun p hp => by
   refine hide fun Pz bkz => ?_; obtain ⟨a, ⟨vO, o, e, hd⟩, b⟩ := F.fr.cfree (p.1, p.2) (qat (inCl p hp).1); refine bkz ?_; exact ⟨a, ⟨vO, o, kk _ _ e, hd⟩, b, o, e⟩
 have split : cellsFrom (C + 1) scope.names cl = cellsFrom (C + 1) scope.names [] ++ cl := qct _ _ _; refine ⟨K.kind, F.fr.glob, F.fr.bltn, ⟨_, hns, fun x v hx hk => ?_⟩, fun x v hx hk => ?_, F.rep.fresh hC, F.rep.gnone hC, fun p hp => ?_, ?_⟩
 . unfold capM at hx; split at hx
   . rename_i hs; obtain ⟨k, hk'⟩ := Option.isSome_iff_exists.mp hs; rcases kindCl _ (qat hk') with h | h <;> (rw [h] at hk; exact nomatch hk)
   . exact nomatch hx
 . unfold capM at hx; split at hx
   . rename_i hs; obtain ⟨k, hk'⟩ := Option.isSome_iff_exists.mp hs; have hm := qat hk'; have nl : env.kindOf x ≠ some .local := by
       have := all_eq_true.mp K.loc x (mem_map_of_mem (f := (·.1)) hm); simpa using this
     refine hide fun Pz bkz => ?_; obtain ⟨_, k', u, e1, ⟨o, e2, hd⟩, hv⟩ := F.fr.cel x v hx nl; refine bkz ?_; have ek : k' = k := by
       have h1 := (inCl _ hm).1; dsimp only at h1; rw [e1] at h1; obtain rfl := sj0_ h1; rfl
     subst ek; refine ⟨kindCl _ hm, k', u, ?_, ⟨o, kk _ _ e2, hd⟩, hv.mono tk⟩; show (cellsFrom (C + 1) scope.names cl).lookup x = _; (refine (Eq.symm split) ▸ ?_; refine (Eq.symm qdn) ▸ ?_); cases hl : (cellsFrom (C + 1) scope.names []).lookup x with
     | none => exact hk'
     | some k'' => exact absurd (qmz K.nd (qgs (qat hl)) (inCl _ hm).2) (by decide)
   . exact nomatch hx
 . have hp' : p ∈ cellsFrom (C + 1) scope.names [] ++ cl := by (refine split ▸ ?_); exact hp
   rcases mem_append.mp hp' with h | h
   . obtain ⟨a, b⟩ := hcells.empty p.1 p.2 h; exact ⟨F.rep.fresh (hnew _ b), ⟨_, a⟩, F.rep.gnone (hnew _ b)⟩
   . obtain ⟨a, b, e, _⟩ := oldCell p h; exact ⟨a, b, e⟩
 . show ((cellsFrom (C + 1) scope.names cl).map (·.2)).Nodup; rw [split, map_append, nodup_append]; refine ⟨pairwise_map.mpr hcells.apart, ?_, fun a ha b hb e => ?_⟩
   . refine pairwise_map.mpr ?_; have hp := pairwise_map.mp ndn; refine hp.imp_of_mem fun {a b} ha hb hne e => hne ?_; have h1 := qat (inCl a ha).1; have h2 := qat (inCl b hb).1; rw [e] at h1; exact qjr F.fr.nd h1 h2
   . obtain ⟨p, hp, rfl⟩ := mem_map.mp ha; obtain ⟨p', hp', rfl⟩ := mem_map.mp hb; obtain ⟨_, b⟩ := hcells.empty p.1 p.2 hp; obtain ⟨_, _, _, o, eo⟩ := oldCell p' hp'; have e' : p.2 = p'.2 := e; rw [← e', hnew _ b] at eo; exact nomatch eo
theorem qht (hq : q = .quiet) (K : qgi scope cl env (g :: gs)) {ik : IK} {xs : List V} {s : Shared} {x : V} {v : Value} {Q : Value -> Shared -> Prop} {E : Value -> Shared -> Prop} {use : Option (Value -> Sem Unit)} {Kc : Map -> AH -> List V -> Prop} (F : FRep c q d A env m H s) (hv : VR s.heap x v) (hik : qcw H x = some ik)
   (hc : ∀ C, compItems (fun H => ik.items H = some xs) (qbh c q d A (qby scope cl C env) elt (g :: gs)) xs (capM cl m) H [] Kc)
   (fin : ∀ C D s' m' H' acc, Kc m' H' acc -> CI c (qby scope cl C env) D H s m' H' acc s' -> s.heap.get? C = none -> s.heap.get? D = none -> compPost c.M A E use Q (.ref D) C (.ok .next) s') :
   wpAny c.M A (pyIter v) (fun it sW => wpAny c.M A (newList []) (fun acc sY => wpAny c.M A (newFunctionEnv scope env.globals cl [] env.qual none .none (some env)) (fun cenv sV =>
     codeAny c.M A (.compStart (.ListComp elt (g :: gs) scope pos) 0 it acc { cenv with scope := relabel scope env }) (compPost c.M A E use Q acc cenv.locals) sV) E sY) E sW) E s := by
 refine wpAny_mono (qkz (E := E) F.rep hv hik) (fun it sW zp0 => ?_) fun _ _ e => e; obtain ⟨I, hW, e1, e2, itW, kW, hI⟩ := zp0; subst e1 e2; refine wpAny_newList ?_ (by decide); generalize hhY : ({ s with heap := hW } : Shared).heap.push { cls := Value.type "list", data := Data.seq ([] : List Value).toArray } = h₃; dsimp only at hhY ⊢; have kY : ∀ b o, hW.get? b = some o -> h₃.get? b = some o := fun b o e => by (refine hhY ▸ ?_); exact Heap.get?_push_of_some _ e
 have hDY : h₃.get? hW.objs.size = some (lst []) := by (refine hhY ▸ ?_); exact Heap.get?_push_size _ rfl
 refine qk1 ?_; dsimp only; generalize hhV : pushCells (h₃.push { cls := .type "dict", data := .dict #[] }) scope.names = hV; have k₄ : ∀ b o, h₃.get? b = some o -> hV.get? b = some o := fun b o e => by (refine hhV ▸ ?_); exact pushCells_keeps _ _ _ _ (Heap.get?_push_of_some _ e)
 have kk : ∀ b o, s.heap.get? b = some o -> hV.get? b = some o := fun b o e => k₄ _ _ (kY _ _ (kW _ _ e)); have hns : hV.Ns h₃.objs.size fun _ => none := by (refine hhV ▸ ?_); exact (Heap.Ns.new h₃ (.type "dict")).keeps (pushCells_keeps _ _)
 have ltW : ∀ b, hW.objs.size ≤ b -> s.heap.get? b = none := fun b hb => by
   cases e : s.heap.get? b with
   | none => rfl
   | some o => exact absurd (Heap.lt_size (kW _ _ e)) (Nat.not_lt.mpr hb)
 have sY : h₃.objs.size = hW.objs.size + 1 := by rw [← hhY, Heap.size_push]
 have hC : s.heap.get? h₃.objs.size = none := ltW _ (by (refine (Eq.symm sY) ▸ ?_); exact le_succ _); have hD : s.heap.get? hW.objs.size = none := ltW _ (le_refl _); have hcells : CellsOk hV (h₃.objs.size + 1) (cellsFrom (h₃.objs.size + 1) scope.names []) := by
   have := cellsFrom_ok scope.names (h₃.push { cls := .type "dict", data := .dict #[] }) (h₃.objs.size + 1) [] ⟨fun _ _ hm => (nomatch hm), List.Pairwise.nil⟩ (by rw [Heap.size_push]; exact le_refl _); rw [Heap.size_push, hhV] at this; exact this
 have hnew : ∀ b, h₃.objs.size + 1 ≤ b -> s.heap.get? b = none := fun b hb => ltW b (by rw [sY] at hb; lia); have RV : Rep c H { s with heap := hV } := F.rep.silent kk rfl rfl; have FV := qn3 (g := g) (gs := gs) (sV := { s with heap := hV }) K F RV kk hC hns hcells hnew; have ci : CI c (qby scope cl h₃.objs.size env) hW.objs.size H s (capM cl m) H [] { s with heap := hV } := ⟨RV, FV, .silent kk, F.rep.fresh hD, [], k₄ _ _ hDY, rfl⟩; have itV : ItR hV I 0 ik := itW.keeps (fun o e _ => k₄ _ _ (kY _ _ e)) (TK.of_keeps fun b o e => k₄ _ _ (kY _ _ e)); have hown : ∀ g' ∈ g :: gs, qj0 (qby scope cl h₃.objs.size env) g'.target ∧ g'.is_async = 0 ∧ (∀ x, foldedSetIterable g'.iter (qby scope cl h₃.objs.size env) x = pure x) ∧ ∀ y ∈ tgtNames g'.target, ∀ b, qqr (qby scope cl h₃.objs.size env) y b -> s.heap.get? b = none := by
   intro g' hg'; refine hide fun Pz bkz => ?_; obtain ⟨a1, a2, a3, a4⟩ := K.gens g' hg'; refine bkz ?_; refine ⟨a3 _, a1, a2 _, fun y hy b hl => ?_⟩; rcases hl with ⟨_, rfl⟩ | ⟨hk, hl⟩
   . exact hC
   . have hyc : scope.names.lookup y = some .cell := by
       rcases a4 y hy with h | h
       . exact absurd (by show (relabel scope env).names.lookup y = _; (refine (Eq.symm qco) ▸ ?_; refine (Eq.symm h) ▸ ?_); rfl) hk
       . exact h
     have hl : (cellsFrom (h₃.objs.size + 1) scope.names cl).lookup y = some b := hl; rw [qct, qdn] at hl; obtain ⟨k, hk'⟩ := Option.isSome_iff_exists.mp (cellsFrom_some scope.names (h₃.objs.size + 1) [] (.inl hyc)); rw [hk'] at hl; obtain rfl := sj0_ hl; exact hnew _ (hcells.empty _ _ (qat hk')).2
 have key := qmk (pos := pos) (scope := scope) (F.ok.quiet hq) F.rep F.ok hown hD (g :: gs) 0 rfl (List.cons_ne_nil _ _) ik xs I (capM cl m) H [] { s with heap := hV } Kc ci hI itV (F.rep.fresh hI) (hc _); refine codeAny_mono (qfu (g := g) rfl (K.gens g (mem_cons_self ..)).1 key fun Q E h => qjx itV h) fun r s' zp0 => ?_; obtain ⟨hr, m', H', acc, hk, ci', _⟩ := zp0; subst hr; exact fin h₃.objs.size hW.objs.size s' m' H' acc hk ci' hC hD
theorem qjb {scope : Scope} (hnd : (scope.names.map (·.1)).Nodup) : ∀ z ∈ scope.names, z.2 = .local -> scope.names.lookup z.1 = some .local := fun z hz h => by
 have := qbj (k := z.2) hnd hz; rw [this, h]
theorem qn4 {s s' : Shared} {C D : Addr} {m' : Map} {H' : AH} {acc : List V} {env' : Env} {h' : Heap} (hL : env'.locals = C) (ci : CI c env' D H s m' H' acc s') (hC : s.heap.get? C = none) (hD : s.heap.get? D = none) (F : Rep c H s) (hs : Heap.SameBut C s'.heap h') :
   Rep c (upd H' D (.list acc)) { s' with heap := h' } ∧ Step H s (upd H' D (.list acc)) { s' with heap := h' } := by
 have o : Only C s'.heap h' := ⟨fun b o hb e => (hs.2 b hb).trans e⟩; refine hide fun Pz bkz => ?_; obtain ⟨mL, ⟨oL, es, ep, eL, dL, _⟩, _⟩ := ci.fr.loc; refine bkz ?_; rw [hL] at eL; have hi : ∀ o, s'.heap.get? C = some o -> qb0 o.cls = true -> qkw o.data = true -> False := fun o e _ hd => by rw [eL] at e; obtain rfl := sj0_ e; rw [dL] at hd; exact nomatch hd
 have tk : TK s'.heap h' := fun a ob e hc hd => o.keep a ob (fun z => by subst z; exact hi ob e hc hd) e; have HC : H' C = none := by have := ci.fr.free; rw [hL] at this; exact this
 have gC : c.g.get? C = none := F.gnone hC; have R : Rep c H' { s' with heap := h' } := by
   refine ⟨fun b ob e => o.keep b ob (fun q => by subst q; rw [gC] at e; exact nomatch e) (ci.rep.keep b ob e), ci.rep.gens, ci.rep.os, fun a ao e => ?_, ci.rep.new⟩; obtain ⟨ob, eo, _⟩ := ci.rep.there e; exact (ci.rep.at_ a ao e).mono tk ((o.keep a ob (fun q => by subst q; rw [HC] at e; exact nomatch e) eo).trans eo.symm)
 obtain ⟨its, hl, hv⟩ := ci.list; have nCD : D ≠ C := fun z => by rw [z, eL] at hl; obtain rfl := sj0_ hl; exact nomatch dL
 exact ⟨R.add (F.gnone hD) ⟨its.toArray, its.length, o.keep _ _ nCD hl, hv.mono tk⟩, (ci.step.only (t := s'.toks) o hC).add fun _ => hD⟩
theorem qiv (hq : q = .quiet) (K : qgi scope cl env (g :: gs)) (hs : ∀ x, foldedSetIterable g.iter env x = pure x)
   (h : awE c q d A env g.iter m H (fun x HJ => ∃ ik xs, qcw HJ x = some ik ∧ ∀ C, compItems (fun H => ik.items H = some xs) (qbh c q d A (qby scope cl C env) elt (g :: gs)) xs (capM cl m) HJ [] fun _ H' acc => ∀ a, H' a = none -> P (.ref a) (upd H' a (.list acc))) X) : awE c q d A env (.ListComp elt (g :: gs) scope pos) m H P X := by
 intro s F; have ha : firstAsync (g :: gs) = false := by
   refine hide fun Pz bkz => ?_; obtain ⟨t, i, f, a⟩ := g; refine bkz ?_; have := (K.gens _ (mem_cons_self ..)).1; dsimp only at this; show (a != 0) = false; (refine (Eq.symm this) ▸ ?_); rfl
 have he : eval (.ListComp elt (g :: gs) scope pos) env = comprehension (.ListComp elt (g :: gs) scope pos) scope env (firstIterPos (g :: gs) pos) (newList []) false (eval g.iter env) := by
   show comprehension (.ListComp elt (g :: gs) scope pos) scope env (firstIterPos (g :: gs) pos) (newList []) (firstAsync (g :: gs)) (firstIter (g :: gs) env) = _; (refine (Eq.symm ha) ▸ ?_); cases g; rfl
 show wpAny _ _ (eval (.ListComp elt (g :: gs) scope pos) env) _ _ _; (refine (Eq.symm he) ▸ ?_); refine wpAny_comprehension_free (use := none) rfl hs (qev K.clos) K.kind (qjb K.nd) (qaj h F (fun x HJ sJ v zp0 F₁ hv S => ?_) fun _ _ o => o); obtain ⟨ik, xs, hik, hc⟩ := zp0; refine qht hq K F₁ hv hik hc fun C D s' m' H' acc hk ci hC hD => ?_; obtain ⟨mL, hns, _⟩ := id ci.fr.loc; refine ⟨mL, hns, fun h' hs' => ?_⟩; obtain ⟨R, st⟩ := qn4 rfl ci hC hD F₁.rep hs'; exact ⟨.ref D, _, hk D ci.free, rfl, R, S.trans st⟩
theorem qhi {P : Fl -> Map -> AH -> Prop} {X : Exc -> Map -> AH -> Prop} {y : Str} {py spos : Pos} (hq : q = .quiet) (hy : qan env y) (hsw : swapsWith (.ListComp elt (g :: gs) scope pos) (some (.Name y py)) spos.line env = pure true) (K : qgi scope cl env (g :: gs)) (hs : ∀ x, foldedSetIterable g.iter env x = pure x)
   (h : awE c q d A env g.iter m H (fun x HJ => ∃ ik xs, qcw HJ x = some ik ∧ ∀ C, compItems (fun H => ik.items H = some xs) (qbh c q d A (qby scope cl C env) elt (g :: gs)) xs (capM cl m) HJ [] fun _ H' acc => ∀ a, H' a = none -> P .next (set m y (.ref a)) (upd H' a (.list acc))) fun k H' => X k m H') :
   awS c q d A env (.Assign [.Name y py] (.ListComp elt (g :: gs) scope pos) spos) m H P X := by
 intro s S; have ha : firstAsync (g :: gs) = false := by
   obtain ⟨t, i, f, a⟩ := g; have := (K.gens _ (mem_cons_self ..)).1; dsimp only at this; show (a != 0) = false; (refine (Eq.symm this) ▸ ?_); rfl
 show wpAny _ _ (exec (.Assign [.Name y py] (.ListComp elt (g :: gs) scope pos) spos) env) _ _ _; rw [exec_Assign_Name_used _ _ _ _ hsw]; refine wpAny_bind (wpAny_standAt (wpAny_bind ?_)); have he : ∀ u, (comprehension (.ListComp elt (g :: gs) scope pos) scope env (firstIterPos (g :: gs) pos) (newList []) (firstAsync (g :: gs)) (firstIter (g :: gs) env) u) = comprehension (.ListComp elt (g :: gs) scope pos) scope env (firstIterPos (g :: gs) pos) (newList []) false (eval g.iter env) u := fun u => by
   (refine (Eq.symm ha) ▸ ?_); cases g; rfl
 show wpAny _ A (do let _ ← comprehension (.ListComp elt (g :: gs) scope pos) scope env (firstIterPos (g :: gs) pos) (newList []) (firstAsync (g :: gs)) (firstIter (g :: gs) env) (some (assign (.Name y py) env))) _ _ s; rw [he]; refine wpAny_bind (wpAny_mono (wpAny_comprehension_free (use := some (assign (.Name y py) env)) (Q := fun _ s' => OutS c env H s P .next s') rfl hs (qev K.clos) K.kind (qjb K.nd) (qaj h S.toFRep (fun x HJ sJ v zp0 F₁ hv st => ?_) fun _ _ o => o.toS S.toFRep)) (fun _ s' hq => wpAny_pure (wpAny_pure hq)) fun _ _ e => e); obtain ⟨ik, xs, hik, hc⟩ := zp0; refine qht hq K F₁ hv hik hc fun C D s' m' H' acc hk ci hC hD => ?_; obtain ⟨its, hl, hvs⟩ := ci.list; have F' := F₁.fr.step F₁.rep ci.step; have R' : Rep c (upd H' D (.list acc)) s' := ci.rep.add (F₁.rep.gnone hD) ⟨its.toArray, its.length, hl, hvs⟩; have add : ∀ {h}, qaz c env m H' h -> (h.get? D = some (lst its)) -> qaz c env m (upd H' D (.list acc)) h := fun {h} F e => by
   have ne : ∀ b, (∀ o, h.get? b = some o -> (∃ es n, o.data = .dict es n) ∨ ∃ v, o.data = .cell v) -> (∃ o, h.get? b = some o) -> b ≠ D := fun b hb ⟨o, eo⟩ z => by
     subst z; rw [e] at eo; obtain rfl := sj0_ eo; rcases hb _ e with ⟨_, _, z⟩ | ⟨_, z⟩ <;> exact nomatch z
   refine hide fun Pz bkz => ?_; obtain ⟨mO, ⟨oL, es, ep, hL, dL, hr⟩, hm⟩ := F.loc; refine bkz ?_; refine ⟨F.kind, F.glob, F.bltn, ⟨mO, ⟨oL, es, ep, hL, dL, hr⟩, hm⟩, F.cel, (qa5 _ _ (ne _ (fun o eo => by rw [hL] at eo; obtain rfl := sj0_ eo; exact .inl ⟨_, _, dL⟩) ⟨_, hL⟩)).trans F.free, F.low, fun k hk => ?_, F.nd⟩; refine hide fun Pz bkz => ?_; obtain ⟨a, ⟨vO, o, eo, dk⟩, b⟩ := F.cfree k hk; refine bkz ?_; exact ⟨(qa5 _ _ (ne _ (fun o' eo' => by rw [eo] at eo'; obtain rfl := sj0_ eo'; exact .inr ⟨_, dk⟩) ⟨_, eo⟩)).trans a, ⟨vO, o, eo, dk⟩, b⟩
 have F'' := add F' hl; show wpAny _ A (assign (.Name y py) env (.ref D)) _ _ s'; refine wpAny_assign_Name (wpAny_mono (qcp (x := .ref D) R' F'' rfl hy) (fun _ sW zp0 => ?_) fun _ _ e => e); obtain ⟨RW, FW, xW, kW⟩ := zp0; refine hide fun Pz bkz => ?_; obtain ⟨mC, ⟨oC, esC, epC, eC, dC, rC⟩, _⟩ := ci.fr.loc; have eC : s'.heap.get? C = some oC := eC; obtain ⟨mO, ⟨oL, es, ep, hL, dL, hr⟩, _⟩ := id F₁.fr.loc; refine bkz ?_; have nCL : C ≠ env.locals := fun z => by rw [z, hL] at hC; exact nomatch hC
 have nCC : ∀ k ∈ env.cells, C ≠ k.2 := fun k hk z => by
   obtain ⟨_, ⟨vO, o, eo, _⟩, _⟩ := F₁.fr.cfree k hk; rw [z, eo] at hC; exact nomatch hC
 have eW : sW.heap.get? C = some oC := kW _ _ eC (fun _ => nCL) fun _ hl' => nCC _ (qat hl') rfl; refine ⟨mC, ⟨oC, esC, epC, eW, dC, rC⟩, fun h' hs' => ?_⟩; have o : Only C sW.heap h' := ⟨fun b o hb e => (hs'.2 b hb).trans e⟩; have tk : TK sW.heap h' := fun a ob e hc hd => o.keep a ob (fun z => by subst z; rw [eW] at e; obtain rfl := sj0_ e; rw [dC] at hd; exact nomatch hd) e; have nCD : C ≠ D := fun z => by rw [← z, eC] at hl; obtain rfl := sj0_ hl; exact nomatch dC
 have HC : upd H' D (.list acc) C = none := (qa5 _ _ nCD).trans ci.fr.free; have gC : c.g.get? C = none := F₁.rep.gnone hC; have RY : Rep c (upd H' D (.list acc)) { sW with heap := h' } := by
   refine ⟨fun b ob e => o.keep b ob (fun q => by subst q; rw [gC] at e; exact nomatch e) (RW.keep b ob e), RW.gens, RW.os, fun a ao e => ?_, RW.new⟩; obtain ⟨ob, eo, _⟩ := RW.there e; exact (RW.at_ a ao e).mono tk ((o.keep a ob (fun q => by subst q; rw [HC] at e; exact nomatch e) eo).trans eo.symm)
 have st' : Step H s (upd H' D (.list acc)) s' := (st.trans ci.step).add fun _ => st.old hD; exact ⟨.next, _, _, hk D ci.free, rfl, RY, FW.onlyT o tk nCL nCC, (st'.toF.trans xW).only (t := sW.toks) o (st.old hC) fun _ => trivial⟩
end
def kRun {α : Type} (K : Frag) (S : Setting) (tO : Nat) : Nat -> Nat -> Sem α -> Option (α × Nat)
 | 0, _, _ => none
 | n + 1, i, t => match t with
   | .pure a => some (a, i)
   | .rule _ k => kRun K S tO n i (k ())
   | .at _ k => kRun K S tO n i (k ())
   | .point _ k => kRun K S tO n i (k ())
   | .ask k => kRun K S tO n i (k S)
   | .fresh k => kRun K S tO n (i + 1) (k (tO + i))
   | .load a _ k => match K.lookup a with
     | some o => kRun K S tO n i (k o)
     | none => none
   | _ => none
theorem qfj {α : Type} {prog : Program} {w : World} {A : Around} {E : Value -> Shared -> Prop} {K : Frag} {Q : α -> Shared -> Prop} {h : Heap} {g : Array GenState} {d : Drawn} {os : OsState} {tO : Nat} (X : K.In h) {r : α} {i' : Nat} :
   ∀ (n i : Nat) (t : Sem α), kRun K ⟨prog, w.params⟩ tO n i t = some (r, i') -> Q r ⟨h, g, d, tO + i', os⟩ -> wpAny (model prog w) A t Q E ⟨h, g, d, tO + i, os⟩ := by
 intro n
 induction n with
 | zero => exact fun _ _ e => nomatch e
 | succ n ih =>
   intro i t e q; cases t with
   | pure a =>
     have e : some (a, i) = some (r, i') := e; obtain ⟨rfl, rfl⟩ := Prod.mk.inj (sj0_ e); exact wpAny_pure q
   | rule _ k => exact fun Γ p hΓ => ih i (k ()) e q Γ p hΓ
   | «at» pos k => exact fun Γ p hΓ => ih i (k ()) e q Γ pos hΓ
   | point _ k => exact fun Γ p hΓ => ih i (k ()) e q Γ p hΓ
   | ask k => exact fun Γ p hΓ => ih i (k _) e q Γ p hΓ
   | fresh k => exact fun Γ p hΓ => ih (i + 1) (k _) e q Γ p hΓ
   | load a part k =>
     have e : (match K.lookup a with | some o => kRun K ⟨prog, w.params⟩ tO n i (k o) | none => none) = some (r, i') := e; cases ho : K.lookup a with
     | none => rw [ho] at e; exact nomatch e
     | some o =>
       rw [ho] at e; exact wpAny_bind (m := loadPart a part) (f := k) (wpAny_loadPart (X _ _ ho) (ih i _ e q))
   | _ => exact nomatch (show (none : Option (α × Nat)) = some (r, i') from e)
theorem qii : PlainAttrs "re.Pattern" := ⟨⟨"object.__getattribute__", by rw [typeLookup_type, builtinLookup_eq_fast]; kernel_rfl, by decide +kernel⟩, by rw [typeLookup_type, builtinLookup_eq_fast]; kernel_rfl⟩
theorem qej : Slot "re.Pattern" "search" "re.Pattern.search" :=
 .of (owner := "re.Pattern") (n := "search") (by rw [typeLookup_type, builtinLookup_eq_fast]; kernel_rfl) (by decide +kernel) (by decide +kernel) (by decide +kernel)
   (.inr (by decide +kernel)) (by rw [isSubtype_type]; kernel_rfl)
theorem qhm : typeOf (.builtin "re.Pattern.search") = pure (.type "method_descriptor") := by show builtinType _ = _; rw [builtinType_eq_fast]; kernel_rfl
theorem qg0 : entryFor table "re.Pattern.search" = some Builtin.«re.Pattern.search» := entryFor_of_tree (by kernel_rfl)
theorem qf4 (a b : Value) : argsOk "re.Pattern.search" ⟨[a, b], []⟩ := by
 unfold argsOk; kernel_rfl

theorem qf7 {M : Model} {A : Around} {E : Value -> Shared -> Prop} {s : Shared} {a : Addr} {o : Obj} {pl : Sem Bool} {Q : Value × List Value -> Shared -> Prop} (ho : s.heap.get? a = some o) (hc : o.cls = .type "re.Pattern") (hd : o.dict = none)
   (h : Q (.builtin "re.Pattern.search", [.ref a]) s) : wpAny M A (getMethod (.ref a) (Str.ofString "search") pl) Q E s :=
 getMethod_builtin (T := "re.Pattern") ⟨o, ho, hc⟩ qii qej qhm (fun b e => by cases e; exact ⟨o, ho, hd⟩) h
def qbz (K : Frag) (a : Addr) (x : Str) : Prop := ∀ (prog : Program) (w : World) (A : Around) (E : Value -> Shared -> Prop) (Q : Fin -> Shared -> Prop) (s : Shared) (tk : Nat), K.In s.heap -> Q (.done (.ret .none)) s -> wpAny (model prog w) A (Builtin.«re.Pattern.search» ⟨[.ref a, .str x tk], []⟩) Q E s
theorem qgt {K : Frag} {a : Addr} {x : Str} (e : ∀ (S : Setting) (tO tk : Nat), kRun K S tO 200 0 (Builtin.«re.Pattern.search» ⟨[.ref a, .str x tk], []⟩) = some (.done (.ret .none), 0)) : qbz K a x :=
 fun _ _ _ _ _ s tk X h => qfj (tO := s.toks) X 200 0 _ (e _ _ tk) h
section
variable {c : Cx} {q : Md} {d : Nat} {A : Around} {env : Env} {m : Map} {H : AH} {P : V -> AH -> Prop} {X : Exc -> AH -> Prop} {pos : Pos} {fl : Option Addr} {K : Frag} {p : Program} {loose : List Str} {mg mb : Str -> Option Value}
theorem qhn {a : Addr} {o : Obj} {P : Value -> List V -> Prop} (G : Gd K p loose mg mb c.g) (ho : K.lookup a = some o) (hc : o.cls = .type "re.Pattern") (hd : o.dict = none) (h : P (.builtin "re.Pattern.search") [.ref a]) : awM c q d A true (.ref a) (Str.ofString "search") H P := by
 intro E oe env s v B hv; obtain rfl := hv; show wpAny c.M A (getMethod (.ref a) _ _) _ E s; exact qf7 (B.rep.keep _ _ (G.X _ _ ho)) hc hd ⟨[.ref a], h, ⟨_, [], rfl, rfl, rfl⟩, B.rep, .refl _ _⟩
theorem qei {a : Addr} {o : Obj} {x : Str} (G : Gd K p loose mg mb c.g) (ho : K.lookup a = some o) (hc : o.cls = .type "re.Pattern") (hx : qbz K a x) (h : P .none H) : qa7 c q d A fl (.builtin "re.Pattern.search") [.ref a, .str x] [] H P X := by
 intro s ws kvs B hv hk; obtain rfl := qa1 hk; obtain ⟨u, _, rfl, hu, v, _, rfl, ⟨t, rfl⟩, rfl⟩ := hv; obtain rfl := hu; have X := G.X.keeps B.rep.keep; exact wpAny_call_entry qej ⟨o, X _ _ ho, hc⟩ qg0 (hx _ _ _ _ _ _ _ X ⟨_, rfl, .here (x := .none) B.rep rfl h⟩) (qf4 _ _)
end
section
variable {c : Cx} {q : Md} {d : Nat} {A : Around} {env : Env} {m : Map} {H : AH} {P : V -> AH -> Prop} {X : Exc -> AH -> Prop} {pos : Pos} {fl : Option Addr} {K : Frag} {p : Program} {loose : List Str} {mg mb : Str -> Option Value}
theorem qgr {x : V} {T : String} (hT : qcx H x = some T) (h : P (.imm (.type T)) H) : qa7 c q d A fl (.type "type") [x] [] H P X := by
 intro s ws kvs B hv hk; obtain rfl := qa1 hk; obtain ⟨v, _, rfl, hv, rfl⟩ := hv; refine call_type_of (qgf B.rep hv hT) ?_ (.here (x := .imm _) B.rep rfl h); have : T ≠ "builtin_function_or_method" := by
   cases x with
   | ref a =>
     simp only [qcx] at hT; split at hT <;> (first | (obtain rfl := sj0_ hT) | (exact nomatch hT) | cases hT) <;> decide
   | str _ => obtain rfl := sj0_ hT; decide
   | int _ => obtain rfl := sj0_ hT; decide
   | tup _ => obtain rfl := sj0_ hT; decide
   | _ => exact nomatch hT
 exact beq_eq_false_iff_ne.mpr fun z => this (Value.type.inj z)
theorem qop {a b : String} (h : P (.bool (a == b)) H) : awO c q d A fl (fun vs => compareOp .Is (vs.getD 0 .none) (vs.getD 1 .none)) [.imm (.type a), .imm (.type b)] H P X := by
 intro s vs B hv; obtain ⟨v, _, rfl, hv, u, _, rfl, hu, rfl⟩ := hv; obtain rfl := hu; obtain rfl := hv; have e : ((Value.type a) == (Value.type b)) = (a == b) := by
   by_cases hab : a = b
   . subst hab; simp
   . rw [beq_eq_false_iff_ne.mpr hab]; exact beq_eq_false_iff_ne.mpr fun z => hab (Value.type.inj z)
 exact wpAny_is_plain rfl (by show OutE c H s P (Value.bool ((Value.type a) == (Value.type b))) s; (refine (Eq.symm e) ▸ ?_); exact .here (x := .bool _) B.rep rfl h)
theorem qmq {a b : String} (h : P (.bool (!(a == b))) H) : awO c q d A fl (fun vs => compareOp .IsNot (vs.getD 0 .none) (vs.getD 1 .none)) [.imm (.type a), .imm (.type b)] H P X := by
 intro s vs B hv; obtain ⟨v, _, rfl, hv, u, _, rfl, hu, rfl⟩ := hv; obtain rfl := hu; obtain rfl := hv; have e : ((Value.type a) == (Value.type b)) = (a == b) := by
   by_cases hab : a = b
   . subst hab; simp
   . rw [beq_eq_false_iff_ne.mpr hab]; exact beq_eq_false_iff_ne.mpr fun z => hab (Value.type.inj z)
 exact wpAny_isNot_plain rfl (by show OutE c H s P (Value.bool (!((Value.type a) == (Value.type b)))) s; (refine (Eq.symm e) ▸ ?_); exact .here (x := .bool _) B.rep rfl h)
theorem qrs {e i : Expr} (hns : ∀ a b p, i ≠ .Slice a b none p)
   (h : awE c q d A env e m H (fun x HJ => awE c q d A env i m HJ (fun y HW => ∃ T id, qcx HW x = some T ∧ typeLookup (.type T) (Str.ofString "__getitem__") = pure (some (.builtin id)) ∧ awO c q d A env.frame (fun vs => getItem (vs.getD 0 .none) (vs.getD 1 .none)) [x, y] HW P X) X) X) : awE c q d A env (.Subscript e i pos) m H P X := by
 intro s F; refine Subscript_ (qaj h F (fun x HJ sJ v hp F₁ hv S => qaj hp F₁ (fun y HW sW u zp0 FW hu SW => ?_) fun _ _ => OutX.from S) fun _ _ o => o); obtain ⟨T, id, hT, hl, hq⟩ := zp0; have hvW := hv.mono (F₁.rep.tk SW); have hsub : subscripted i false v u = operate [v, u] (getItem v u) := by
   cases i with
   | Slice a b st p =>
     cases st with
     | none => exact absurd rfl (hns a b p)
     | some _ => rfl
   | _ => rfl
 exact tail_any (qgf FW.rep hvW hT) hl (awT.from (S.trans SW) (hq sW [v, u] FW.toBRep ⟨v, [u], rfl, hvW, u, [], rfl, hu, rfl⟩)) hsub
theorem qqk {a : Addr} {vs : List V} {i : Nat} {x : V} (ha : H a = some (.list vs)) (hx : vs[i]? = some x) (hi : i < 100000) (h : P x H) : awO c q d A fl (fun vs => getItem (vs.getD 0 .none) (vs.getD 1 .none)) [.ref a, .int i] H P X := by
 intro s ws B hv; obtain ⟨v, _, rfl, hv, u, _, rfl, ⟨t, rfl⟩, rfl⟩ := hv; obtain rfl := hv; obtain ⟨items, n, e, hr⟩ := B.rep.at_ _ _ ha; obtain ⟨v, hv1, hv2⟩ := hr.get hx; exact wpAny_getItem_list (items := items) ⟨_, e, rfl, n, rfl⟩ (by lia) (by lia) (by rw [Int.toNat_natCast, ← Array.getElem?_toList]; exact hv1) (.here B.rep hv2 h)
theorem qpl {i n : Nat} (h : i < n) : seqIndex? (i : Int) n = some i := by
 show (if (decide (0 ≤ if (i : Int) < 0 then (i : Int) + n else i) && decide ((if (i : Int) < 0 then (i : Int) + n else i) < n)) = true then some (if (i : Int) < 0 then (i : Int) + n else i).toNat else none) = some i; rw [if_neg (Int.not_lt.mpr (Int.natCast_nonneg i)), decide_eq_true (Int.natCast_nonneg i), decide_eq_true (Int.ofNat_lt.mpr h)]; rfl
theorem qr3 {vs : List V} {i : Nat} {x : V} (hx : vs[i]? = some x) (hi : i < 100000) (h : P x H) : awO c q d A fl (fun vs => getItem (vs.getD 0 .none) (vs.getD 1 .none)) [.tup vs, .int i] H P X := by
 intro s ws B hv; obtain ⟨v, _, rfl, ⟨a, ys, rfl, ht, hr⟩, u, _, rfl, ⟨t, rfl⟩, rfl⟩ := hv; obtain ⟨v, hv1, hv2⟩ := hr.get hx; have hlt : i < ys.size := by
   have := (List.getElem?_eq_some_iff.mp hv1).1
   rwa [Array.length_toList] at this
 refine PyProof.Rows.getItem_tuple (items := ys) (j := i) ht (by lia) (by lia) (qpl hlt) (by rw [← Array.getElem?_toList]; exact hv1) (.here B.rep hv2 h)
theorem qr2 {x : Str} {i : Nat} {k : Nat} (hx : x.cps[i]? = some k) (hi : i < 100000) (h : P (.str ⟨#[k]⟩) H) : awO c q d A fl (fun vs => getItem (vs.getD 0 .none) (vs.getD 1 .none)) [.str x, .int i] H P X := by
 intro s ws B hv; obtain ⟨v, _, rfl, ⟨tJ, rfl⟩, u, _, rfl, ⟨t, rfl⟩, rfl⟩ := hv; have hlt : i < x.length := (Array.getElem?_eq_some_iff.mp hx).1; refine getItem_str (c := k) ?_ ?_ (.tok (x := .str _) B.rep ⟨_, rfl⟩ h)
 . rw [Bool.or_eq_false_iff, decide_eq_false_iff_not, decide_eq_false_iff_not]; lia
 . have : seqIndex? (i : Int) x.length = some i := qpl hlt; (refine (Eq.symm this) ▸ ?_); exact hx
theorem qee {h : Heap} {k : Str} : ∀ {kvs : List (Str × V)} {ys : List (Str × Value)}, ys.map (·.1) = kvs.map (·.1) -> VRs h (kvs.map (·.2)) (ys.map (·.2)) -> match kvs.lookup k with | some x => ∃ v, valueAt ys k = some v ∧ VR h x v | none => valueAt ys k = none := by
 intro kvs
 induction kvs with
 | nil =>
   intro ys h _; cases ys with
   | nil => rfl
   | cons _ _ => exact nomatch h
 | cons pz kvs ih0 =>
   obtain ⟨n, x⟩ := pz; intro ys h1 h2; cases ys with
   | nil => exact nomatch h1
   | cons pz ys =>
     obtain ⟨n', v⟩ := pz; obtain ⟨h0, g1⟩ := List.cons.inj h1; obtain rfl : n' = n := h0; obtain ⟨y, ys', he, a, b⟩ := h2; obtain ⟨h3, h4⟩ := List.cons.inj he; obtain rfl : v = y := h3; have ih := ih0 g1 (h4.symm ▸ b); rw [lookup_cons]; by_cases hk : k = n'
     . subst hk; rw [beq_self_eq_true]; exact ⟨v, by simp [valueAt], a⟩
     . rw [beq_eq_false_iff_ne.mpr hk]; have : valueAt ((n', v) :: ys) k = valueAt ys k := by
         unfold valueAt; rw [find?_cons, decide_eq_false (fun z => hk z.symm)]
       (refine (Eq.symm this) ▸ ?_); exact ih
theorem qqi {a : Addr} {kvs : List (Str × V)} {ep : Nat} {k : Str} {x : V} (ha : H a = some (.dict kvs ep)) (hx : kvs.lookup k = some x) (h : P x H) : awO c q d A fl (fun vs => getItem (vs.getD 0 .none) (vs.getD 1 .none)) [.ref a, .str k] H P X := by
 intro s ws B hv; obtain ⟨v, _, rfl, hv, u, _, rfl, ⟨t, rfl⟩, rfl⟩ := hv; obtain rfl := hv; obtain ⟨ys, hD, hk, hr, _⟩ := B.rep.at_ _ _ ha; have hv := qee (k := k) hk hr; rw [hx] at hv; obtain ⟨v, hv1, hv2⟩ := hv; exact wpAny_getItem_of (knd := strKind c.prog c.w) (k := k) (beq_self_eq_true _) hD.dictOf.mapOf hv1 (.tok B.rep hv2 h)
theorem qd8 {a : Addr} {vs : List V} (ha : H a = some (.list vs)) (hl : vs.length ≤ 100000) (h : P (.int vs.length) H) : qa7 c q d A fl (.builtin "len") [.ref a] [] H P X := by
 intro s ws kvs B hv hk; obtain rfl := qa1 hk; obtain ⟨v, _, rfl, hv, rfl⟩ := hv; obtain rfl := hv; obtain ⟨items, n, e, hr⟩ := B.rep.at_ _ _ ha; have hs : items.size = vs.length := by rw [← Array.length_toList]; exact hr.length.symm
 refine call_len_list (items := items) ⟨_, e, rfl, n, rfl⟩ (by (refine (Eq.symm hs) ▸ ?_); lia) (.tok (x := .int vs.length) B.rep ⟨_, by rw [hs]⟩ h)
theorem qhq {vs : List V} (hl : vs.length ≤ 100000) (h : P (.int vs.length) H) : qa7 c q d A fl (.builtin "len") [.tup vs] [] H P X := by
 intro s ws kvs B hv hk; obtain rfl := qa1 hk; obtain ⟨v, _, rfl, ⟨a, ys, rfl, ht, hr⟩, rfl⟩ := hv; have hs : ys.size = vs.length := by rw [← Array.length_toList]; exact hr.length.symm
 refine len_tuple (items := ys) ht (by (refine (Eq.symm hs) ▸ ?_); lia) (.tok (x := .int vs.length) B.rep ⟨_, by rw [hs]⟩ h)
theorem qck {x y : Str} (h : P (.bool (!(x == y))) H) : awO c q d A fl (fun vs => compareOp .NotEq (vs.getD 0 .none) (vs.getD 1 .none)) [.str x, .str y] H P X := by
 intro s vs B hv; obtain ⟨v, _, rfl, ⟨t, rfl⟩, u, _, rfl, ⟨t', rfl⟩, rfl⟩ := hv; exact ne_str (.here (x := .bool _) B.rep rfl h)
theorem qmi {x y : Int} (h : P (.bool (decide (x < y))) H) : awO c q d A fl (fun vs => compareOp .Lt (vs.getD 0 .none) (vs.getD 1 .none)) [.int x, .int y] H P X := by
 intro s vs B hv; obtain ⟨v, _, rfl, ⟨t, rfl⟩, u, _, rfl, ⟨t', rfl⟩, rfl⟩ := hv; exact wpAny_lt_int (.here (x := .bool _) B.rep rfl h)
theorem qhs {x y : Int} (h : P (.bool (decide (y ≤ x))) H) : awO c q d A fl (fun vs => compareOp .GtE (vs.getD 0 .none) (vs.getD 1 .none)) [.int x, .int y] H P X := by
 intro s vs B hv; obtain ⟨v, _, rfl, ⟨t, rfl⟩, u, _, rfl, ⟨t', rfl⟩, rfl⟩ := hv; exact ge_int (.here (x := .bool _) B.rep rfl h)
theorem qfi {x y : Int} (h : P (.bool (!(x == y))) H) : awO c q d A fl (fun vs => compareOp .NotEq (vs.getD 0 .none) (vs.getD 1 .none)) [.int x, .int y] H P X := by
 intro s vs B hv; obtain ⟨v, _, rfl, ⟨t, rfl⟩, u, _, rfl, ⟨t', rfl⟩, rfl⟩ := hv; exact ne_int (.here (x := .bool _) B.rep rfl h)
end
theorem qgc {st : AH -> Prop} {turn : V -> Map -> AH -> (Fl -> Map -> AH -> Prop) -> Prop} {P : Fl -> Map -> AH -> Prop} (J : List V -> Map -> AH -> Prop)
   (nil : ∀ m H, J [] m H -> st H ∧ P .next m H)
   (cons : ∀ x r m H, J (x :: r) m H -> st H ∧ ∀ K : Fl -> Map -> AH -> Prop, (∀ m' H', J r m' H' -> K .next m' H') -> (∀ m' H', J r m' H' -> K .cont m' H') -> (∀ m' H', P .next m' H' -> K .brk m' H') -> (∀ v m' H', P (.ret v) m' H' -> K (.ret v) m' H') -> turn x m H K) :
   ∀ {xs : List V} {m : Map} {H : AH}, J xs m H -> forP st turn P xs m H
 | [], m, H, h => nil m H h
 | x :: r, m, H, h => by
   obtain ⟨a, b⟩ := cons x r m H h; exact ⟨a, b _ (fun m' H' h' => qgc J nil cons h') (fun m' H' h' => qgc J nil cons h') (fun _ _ h' => h') fun _ _ _ h' => h'⟩
theorem qja {st : AH -> Prop} {turn : V -> Map -> AH -> List V -> (Map -> AH -> List V -> Prop) -> Prop} {H : AH} (f : V -> Option V) (J : Map -> Prop) (hst : st H) :
   ∀ {xs : List V} {m : Map} {acc : List V} {K : Map -> AH -> List V -> Prop}, acc.length + xs.length ≤ 100000 -> J m -> (∀ x ∈ xs, ∀ m acc (K : Map -> AH -> List V -> Prop), acc.length ≤ 100000 -> J m -> (∀ m', J m' -> K m' H (acc ++ (f x).toList)) -> turn x m H acc K) →
     (∀ m', J m' -> K m' H (acc ++ xs.filterMap f)) -> compItems st turn xs m H acc K := by
 intro xs
 induction xs with
 | nil =>
   intro m acc K _ hj _ hk; exact ⟨hst, by simpa using hk m hj⟩
 | cons x r ih =>
   intro m acc K hl hj ht hk; simp only [length_cons] at hl; refine ⟨hst, ht x (mem_cons_self ..) m acc _ (by lia) hj fun m' hj' => ih ?_ hj' (fun y hy => ht y (mem_cons_of_mem _ hy)) fun m'' hj'' => ?_⟩
   . rw [length_append]; cases f x <;> simp <;> (first | (exact le_of_lt ‹_›) | (lia) | omega)
   . have := hk m'' hj''; rw [List.filterMap_cons] at this; cases hf : f x with
     | none => rw [hf] at this; simpa using this
     | some y => rw [hf] at this; simpa using this
theorem qb2 {c : Cx} {q : Md} {d : Nat} {A : Around} {env : Env} {elt target iter t : Expr} {x : V} {m mJ : Map} {H : AH} {acc : List V} {K : Map -> AH -> List V -> Prop} {k : Int} (hm : asgV target x m = some mJ)
   (h : awB c q d A env t mJ H (fun ok HJ => if ok then acc.length ≤ 100000 ∧ awE c q d A env elt mJ HJ (fun y HW => K mJ HW (acc ++ [y])) noX else K mJ HJ acc) noX) : qbh c q d A env elt [⟨target, iter, [t], k⟩] x m H acc K := ⟨mJ, hm, h⟩
theorem qcq {c : Cx} {q : Md} {d : Nat} {A : Around} {env : Env} {elt target iter : Expr} {x : V} {m mJ : Map} {H : AH} {acc : List V} {K : Map -> AH -> List V -> Prop} {k : Int} (hm : asgV target x m = some mJ)
   (h : acc.length ≤ 100000 ∧ awE c q d A env elt mJ H (fun y HW => K mJ HW (acc ++ [y])) noX) : qbh c q d A env elt [⟨target, iter, [], k⟩] x m H acc K := ⟨mJ, hm, h⟩
section
variable {c : Cx} {q : Md} {d : Nat} {A : Around} {env : Env} {m : Map} {H : AH} {P : V -> AH -> Prop} {X : Exc -> AH -> Prop} {pos : Pos} {fl : Option Addr} {K : Frag} {p : Program} {loose : List Str} {mg mb : Str -> Option Value}
theorem OutL.imp {H : AH} {s : Shared} {P P' : List V -> AH -> Prop} (h : ∀ x H', P x H' -> P' x H') {v : List Value} {s' : Shared} (o : OutL c H s P v s') : OutL c H s P' v s' := by
 obtain ⟨x, H', a, b, r, z⟩ := o; exact ⟨x, H', h _ _ a, b, r, z⟩
def putD (kvs : List (Str × V)) (k : Str) (x : V) : List (Str × V) := if kvs.any (fun kv => kv.1 = k) then kvs.map (fun kv => if kv.1 = k then (kv.1, x) else kv) else kvs ++ [(k, x)]
theorem qnd {h : Heap} {k : Str} {x : V} {v : Value} (hx : VR h x v) : ∀ {kvs : List (Str × V)} {ys : List (Str × Value)}, ys.map (·.1) = kvs.map (·.1) -> VRs h (kvs.map (·.2)) (ys.map (·.2)) →
   (stored ys k v).map (·.1) = (putD kvs k x).map (·.1) ∧ VRs h ((putD kvs k x).map (·.2)) ((stored ys k v).map (·.2)) := by
 have any_eq : ∀ {kvs : List (Str × V)} {ys : List (Str × Value)}, ys.map (·.1) = kvs.map (·.1) -> ys.any (fun kv => kv.1 = k) = kvs.any (fun kv => kv.1 = k) := by
   intro kvs
   induction kvs with
   | nil => intro ys h; simp at h; subst h; rfl
   | cons a l ih =>
     intro ys h; cases ys with
     | nil => simp at h
     | cons b l' =>
       simp only [map_cons, List.cons.injEq] at h; simp only [any_cons, ih h.2, h.1]
 have map_rel : ∀ {kvs : List (Str × V)} {ys : List (Str × Value)}, ys.map (·.1) = kvs.map (·.1) -> VRs h (kvs.map (·.2)) (ys.map (·.2)) →
     (ys.map (fun kv => if kv.1 = k then (kv.1, v) else kv)).map (·.1) = (kvs.map (fun kv => if kv.1 = k then (kv.1, x) else kv)).map (·.1) ∧ VRs h ((kvs.map (fun kv => if kv.1 = k then (kv.1, x) else kv)).map (·.2)) ((ys.map (fun kv => if kv.1 = k then (kv.1, v) else kv)).map (·.2)) := by
   intro kvs
   induction kvs with
   | nil => intro ys h _; simp at h; subst h; exact ⟨rfl, rfl⟩
   | cons a l ih =>
     intro ys h h2; cases ys with
     | nil => simp at h
     | cons b l' =>
       simp only [map_cons, List.cons.injEq] at h; obtain ⟨y, ys', he, e1, e2⟩ := h2; simp only [map_cons, List.cons.injEq] at he; obtain ⟨rfl, rfl⟩ := he; obtain ⟨i1, i2⟩ := ih h.2 e2; simp only [map_cons]; by_cases hk : b.1 = k
       . rw [if_pos hk, if_pos (h.1 ▸ hk)]; exact ⟨by rw [i1, h.1], v, _, rfl, hx, i2⟩
       . rw [if_neg hk, if_neg (h.1 ▸ hk)]; exact ⟨by rw [i1, h.1], _, _, rfl, e1, i2⟩
 intro kvs ys h1 h2; unfold stored putD; rw [any_eq h1]; split
 . exact map_rel h1 h2
 . refine ⟨by simp [h1], ?_⟩; rw [map_append, map_append]; exact h2.append ⟨v, [], rfl, hx, rfl⟩
theorem qfy {a : Addr} {kvs : List (Str × V)} {ep : Nat} {k : Str} {x : V} {s : Shared} {v : Value} {t : Tok} {E : Value -> Shared -> Prop} (B : BRep c q d A H s) (ha : H a = some (.dict kvs ep)) (hl : kvs.length ≤ 1000) (hv : VR s.heap x v) :
   wpAny c.M A (setItem (.ref a) (.str k t) v) (fun _ s' => ∃ ep', Rep c (upd H a (.dict (putD kvs k x) ep')) s' ∧ Step H s (upd H a (.dict (putD kvs k x) ep')) s') E s := by
 obtain ⟨ys, hD, hk, hr, hsm⟩ := B.rep.at_ _ _ ha; have hlen : ys.length = kvs.length := by simpa using congrArg List.length hk
 refine wpAny_setItem_pairs (knd := strKind c.prog c.w) (k := k) (beq_self_eq_true _) hD.dictOf (fun h' hD' hs => ?_) (by rw [hlen]; exact le_trans hl (by decide)); obtain ⟨ep', hD'⟩ := hD'.dictAt; have kk : ∀ b o, b ≠ a -> s.heap.get? b = some o -> h'.get? b = some o := fun b o hb e => (hs.2 b hb).trans e; obtain ⟨o, es, e, hx, _⟩ := id hD; have tk : TK s.heap h' := fun b o' e1 hc hd => kk b o' (fun z => by subst z; rw [e] at e1; obtain rfl := sj0_ e1; rw [hx.1] at hc; exact nomatch hc) e1; obtain ⟨r1, r2⟩ := qnd (k := k) hv hk hr; have or : OR c h' a (.dict (putD kvs k x) ep') := ⟨_, hD', r1, r2.mono tk, hsm⟩; exact ⟨ep', B.rep.put ha kk or, .put ha kk or⟩
def qto (i : Expr) (iv v ov : Value) : List Value := match i with
 | .Slice _ _ none _ => [iv, v, ov]
 | _ => [v, ov, iv]
theorem qd6 {e i : Expr} {pJ : Pos} {v : Value} : assign (.Subscript e i pJ) env v = (do
   let ov ← holding [v] (eval e env)
   let iv ← holding [v, ov] (eval i env)
   standAt pJ
   holding [v, ov, iv] (setItem ov iv v)
   release (qto i iv v ov) []) := rfl
theorem qkg {P : Fl -> Map -> AH -> Prop} {X : Exc -> Map -> AH -> Prop} {e i v : Expr} {pJ : Pos} (hsw : swapsWithSole [.Subscript e i pJ] v pos.line env = pure false) (hsw2 : swappedStores [.Subscript e i pJ] v env = pure none) (hns : ∀ a b st p, i ≠ .Slice a b st p)
   (h : awE c q d A env v m H (fun x HJ => awE c q d A env e m HJ (fun y HW => awE c q d A env i m HW (fun z HY => ∃ a kvs ep k, y = .ref a ∧ z = .str k ∧ HY a = some (.dict kvs ep) ∧ kvs.length ≤ 1000 ∧ ∀ ep', P .next m (upd HY a (.dict (putD kvs k x) ep'))) fun k H' => X k m H') fun k H' => X k m H') fun k H' => X k m H') : awS c q d A env (.Assign [.Subscript e i pJ] v pos) m H P X := by
 intro s S; refine wpAny_Assign_stores (qaj h S.toFRep (fun x HJ sJ vJ hp F₁ hvJ stJ => ?_) fun _ _ o => o.toS S.toFRep) hsw hsw2; show wpAny c.M A (assign (.Subscript e i pJ) env vJ) _ _ sJ; rw [qd6]; refine wpAny_bind (wpAny_holding (qaj hp F₁ (fun y HW sW vW hpW FW hvW st₂ => ?_) fun _ _ o => (OutX.from stJ o).toS S.toFRep)); refine wpAny_bind (wpAny_holding (qaj hpW FW (fun z HY sY vY hpY FY hvY stY => ?_) fun _ _ o => (OutX.from (stJ.trans st₂) o).toS S.toFRep)); obtain ⟨a, kvs, ep, k, rfl, rfl, ha, hl, hP⟩ := hpY; have stJWY := (stJ.trans st₂).trans stY; obtain rfl := hvW; obtain ⟨t, rfl⟩ := hvY; have hvJ' := (hvJ.mono (F₁.rep.tk st₂)).mono (FW.rep.tk stY); refine wpAny_bind (wpAny_standAt (wpAny_bind (wpAny_holding (wpAny_mono (qfy (E := qbp c env H s X) FY.toBRep ha hl hvJ') (fun _ sV zp0 => ?_) fun _ _ e => e)))); obtain ⟨ep', RV, stV⟩ := zp0; have FV := FY.step RV stV; have fin : OutS c env H s P .next sV := ⟨.next, m, _, hP ep', rfl, RV, FV.fr, (stJWY.trans stV).toF⟩
 exact wpAny_release fin
end
def qsz : Expr -> Bool
 | .Set .. => true
 | _ => false
def ql3 (t : Expr) : Bool := match tgtNames t with
 | [_] => true
 | [_, _] => true
 | _ => false
def qn2 (scope : Scope) (gens : List Comprehension) : Bool := gens.all fun g => g.is_async == 0 && !qsz g.iter && ql3 g.target && (tgtNames g.target).all fun y => scope.names.lookup y == some .local || scope.names.lookup y == some .cell
theorem qa9 {scope : Scope} {cl : List (Str × Addr)} {env : Env} {gens : List Comprehension} (h1 : qgu env.cells scope.names [] = some cl) (h2 : scope.kind = .function) (h3 : (scope.names.map (·.1)).Nodup) (h4 : ((cl.map (·.1)).all fun n => env.kindOf n != some .local) = true) (h5 : qn2 scope gens = true) : qgi scope cl env gens := by
 refine ⟨h1, h2, h3, h4, fun g hg => ?_⟩; have := all_eq_true.mp h5 g hg; simp only [Bool.and_eq_true, Bool.not_eq_true'] at this; obtain ⟨⟨⟨a, b⟩, e⟩, f⟩ := this; have names : ∀ y ∈ tgtNames g.target, scope.names.lookup y = some .local ∨ scope.names.lookup y = some .cell := fun y hy => by
   rcases Bool.or_eq_true_iff.mp (all_eq_true.mp f y hy) with z | z
   . exact .inl (beq_iff_eq.mp z)
   . exact .inr (beq_iff_eq.mp z)
 have stor : ∀ C, ∀ y ∈ tgtNames g.target, qan (qby scope cl C env) y := fun C y hy => by
   rcases names y hy with z | z
   . exact .inl (by show (relabel scope env).names.lookup y = _; rw [qco, z]; rfl)
   . refine .inr ⟨by show (relabel scope env).names.lookup y = _; rw [qco, z]; rfl, ?_⟩; exact cellsFrom_some scope.names (C + 1) cl (.inl z)
 refine ⟨beq_iff_eq.mp a, fun C x => ?_, fun C => ?_, names⟩
 . revert b; cases g.iter <;> intro b <;> first | rfl | exact nomatch b
 . have st := stor C; unfold ql3 at e; unfold qj0; revert st e; generalize tgtNames g.target = ns; intro e st
   match ns, e, st with
   | [y], _, st => exact st _ (mem_singleton.mpr rfl)
   | [a, b], _, st => exact ⟨st _ (mem_cons_self ..), st _ (mem_cons_of_mem _ (mem_singleton.mpr rfl))⟩
theorem qti {α : Type} {g : α -> V} {f : V -> Option V} {p : α -> Bool} {h : α -> V} : ∀ {ps : List α}, (∀ q ∈ ps, f (g q) = if p q then some (h q) else none) -> (ps.map g).filterMap f = (ps.filter p).map h := by
 intro ps
 induction ps with
 | nil =>
   intro _; exact rfl
 | cons q r ih =>
   intro e; have ih := ih fun q' h' => e q' (mem_cons_of_mem _ h'); rw [map_cons, List.filterMap_cons, e q (mem_cons_self ..), filter_cons]; cases p q
   . simpa using ih
   . simpa using ih
section
variable {c : Cx} {q : Md} {d : Nat} {A : Around} {m : Map} {H : AH} {P : V -> AH -> Prop} {X : Exc -> AH -> Prop} {fl : Option Addr}
abbrev SubG (c : Cx) (q : Md) (d : Nat) (A : Around) (fl : Option Addr) (x y : V) (H : AH) (P : V -> AH -> Prop) (X : Exc -> AH -> Prop) : Prop := ∃ T id, qcx H x = some T ∧ typeLookup (.type T) (Str.ofString "__getitem__") = pure (some (.builtin id)) ∧ awO c q d A fl (fun vs => getItem (vs.getD 0 .none) (vs.getD 1 .none)) [x, y] H P X
theorem qbu {vs : List V} {k : Int} {x : V} (h0 : 0 ≤ k) (h1 : k < 100000) (hx : vs[k.toNat]? = some x) (h : P x H) : SubG c q d A fl (.tup vs) (.int k) H P X :=
 ⟨"tuple", _, rfl, slot_tuple_getitem.lookup, by have := qr3 (c := c) (q := q) (d := d) (A := A) (fl := fl) (X := X) (i := k.toNat) hx (by lia) h; rwa [Int.toNat_of_nonneg h0] at this⟩
theorem qbl {a : Addr} {vs : List V} {k : Int} {x : V} (ha : H a = some (.list vs)) (h0 : 0 ≤ k) (h1 : k < 100000) (hx : vs[k.toNat]? = some x) (h : P x H) : SubG c q d A fl (.ref a) (.int k) H P X :=
 ⟨"list", _, by simp [qcx, ha], slot_list_getitem.lookup, by have := qqk (c := c) (q := q) (d := d) (A := A) (fl := fl) (X := X) (i := k.toNat) ha hx (by lia) h; rwa [Int.toNat_of_nonneg h0] at this⟩
theorem qsm {x : Str} {k : Int} {n : Nat} (h0 : 0 ≤ k) (h1 : k < 100000) (hx : x.cps[k.toNat]? = some n) (h : P (.str ⟨#[n]⟩) H) : SubG c q d A fl (.str x) (.int k) H P X :=
 ⟨"str", _, rfl, F.slot_str_getitem.lookup, by have := qr2 (c := c) (q := q) (d := d) (A := A) (fl := fl) (X := X) (i := k.toNat) hx (by lia) h; rwa [Int.toNat_of_nonneg h0] at this⟩
theorem qb6 {a : Addr} {kvs : List (Str × V)} {ep : Nat} {k : Str} {x : V} (ha : H a = some (.dict kvs ep)) (hx : kvs.lookup k = some x) (h : P x H) : SubG c q d A fl (.ref a) (.str k) H P X :=
 ⟨"dict", _, by simp [qcx, ha], F.slot_dict_getitem.lookup, qqi ha hx h⟩
end
section
variable {prog : Program} {w : World} {A : Around} {R : Result -> Shared -> Prop} {s : Shared} {K : Frag} {x C dx : Addr} {name : Str} {tk : Tok} {v : Value} {es : List DictEntry} {n : Nat}
theorem qpu {ox : Obj} (X : K.In s.heap) (I : InstAt s.heap x ox C (some (dictOf es n))) (hd : ox.dict = some dx) (hp : plainOver K C = true) (ht : takerIn K C name = some none) (hh : hasDictIn K C = true) (hl : (getL name es).isSome = true)
   (hz : (putL name (PyData.keyHash w.params name) (.str name s.toks) v es).length ≤ 1000)
   (h : R (.ok (.ret .none)) { s with heap := s.heap.update dx (Obj.putName name (PyData.keyHash w.params name) (.str name s.toks) v), toks := s.toks + 1 }) :
   codeAny (model prog w) A (.call (.builtin "object.__setattr__") ⟨[.ref x, .str name tk, v], []⟩) R s := by
 refine osa_open X I hp ht fun b => ?_; obtain ⟨cd, hc, hd'⟩ := any_some hh; obtain ⟨hx, hcl, hn, hD⟩ := I; obtain ⟨oc, odi, oda, osl⟩ := ox; dsimp only at hcl hd hD; subst hcl hd; have D : s.heap.get? dx = some (dictOf es n) := hD; have D' : (s.heap.update dx (Obj.putName name (PyData.keyHash w.params name) (.str name s.toks) v)).get? dx = some (dictOf (putL name (PyData.keyHash w.params name) (.str name s.toks) v es) (putN name es n)) := by
   have := Heap.get?_update_self (Obj.putName name (PyData.keyHash w.params name) (.str name s.toks) v) D (by rw [putName_dict]; rfl); rw [putName_dict] at this; exact this
 refine wpAny_bind (wpAny_pure (wpAny_bind (wpAny_bind (wpAny_loadPart hx (wpAny_bind ((looks_clsIn X hc).here ?_)))))); (refine (Eq.symm hd') ▸ ?_); refine wpAny_pure (a := some dx) (wpAny_bind (wpAny_pure (wpAny_bind ?_))); refine wpAny_bind (wpAny_bind (wpAny_askSetting (wpAny_pure (wpAny_bind (wpAny_mkText (wpAny_bind (wpAny_loadPart D ?_))))))); dsimp only; have c : (!es.toArray.any (·.key.isStr name) && es.toArray.any (·.refKey)) = false := by
   rw [← Array.any_toList, ← Array.any_toList]; unfold getL at hl; split at hl
   . rename_i en he; rw [any_eq_true.mpr ⟨en, List.mem_of_find?_eq_some he, List.find?_some he⟩]; rfl
   . split at hl
     . exact nomatch hl
     . rename_i z; rw [Bool.not_eq_true] at z; rw [z, Bool.and_false]
 rw [aRefKeyMayBeTheName_at, c]; refine wpAny_updatePart D (wpAny_bind (wpAny_lookBehind D' (pastItsLine_dict (by rw [size_toArray, sizeLine_eq]; exact le_trans ‹_› (nl0_ rfl))) (wpAny_pure h)))
end
def putF (fs : List (Str × V)) (name : Str) (x : V) : List (Str × V) := match fs with
 | [] => [(name, x)]
 | f :: r => if f.1 == name then (f.1, x) :: r else f :: putF r name x
theorem qlz {h h' : Heap} {name : Str} {hsh : Int} {t : Tok} {x : V} {v : Value} (tk : TK h h') (hv : VR h' x v) : ∀ {fs : List (Str × V)} {es : List DictEntry}, Paired (fun f e => (∃ t, e.key = Value.str f.1 t) ∧ VR h f.2 e.val) fs es →
   Paired (fun f e => (∃ t, e.key = Value.str f.1 t) ∧ VR h' f.2 e.val) (putF fs name x) (putL name hsh (.str name t) v es)
 := by
 intro fs es z
 induction z with
 | nil => exact .cons ⟨⟨_, rfl⟩, hv⟩ .nil
 | @cons f e fs es hd r ih =>
   obtain ⟨⟨t', hk⟩, he⟩ := hd; unfold putF putL; have e1 : e.key.isStr name = (f.1 == name) := by (refine (Eq.symm hk) ▸ ?_); rfl
   (refine (Eq.symm e1) ▸ ?_); cases f.1 == name
   . simp only [Bool.false_eq_true, if_false]; exact .cons ⟨⟨t', hk⟩, he.mono tk⟩ ih
   . simp only [if_true]; exact .cons ⟨⟨t', hk⟩, hv⟩ (qdp (fun _ _ zp0 => by obtain ⟨a, b⟩ := zp0; exact ⟨a, b.mono tk⟩) r)
theorem qfo {α β : Type} {F : α -> β -> Prop} : ∀ {lJ : List α} {lW : List β}, Paired F lJ lW -> lJ.length = lW.length := by
 intro lJ lW h
 induction h with
 | nil => rfl
 | cons _ _ ih => exact congrArg (· + 1) ih
section
variable {c : Cx} {q : Md} {d : Nat} {A : Around} {env : Env} {m : Map} {H : AH} {pos : Pos} {fl : Option Addr} {K : Frag} {p : Program} {loose : List Str} {mg mb : Str -> Option Value}
def qi3 (c : Cx) (q : Md) (d : Nat) (A : Around) (y : V) (name : Str) (x : V) (H : AH) (P : AH -> Prop) : Prop :=
 ∀ (E : Value -> Shared -> Prop) s u v, BRep c q d A H s -> VR s.heap y u -> VR s.heap x v -> wpAny c.M A (setAttr u name v) (fun _ s' => ∃ H', P H' ∧ Rep c H' s' ∧ Step H s H' s') E s
theorem ql0 {a C dd : Addr} {fs : List (Str × V)} {name : Str} {x : V} {P : AH -> Prop} (G : Gd K p loose mg mb c.g) (h1 : H a = some (.inst C dd)) (h2 : H dd = some (.ns fs)) (hs : findIn K (.ref C) "__setattr__" = some (some (.builtin "object.__setattr__"))) (hp : plainOver K C = true) (ht : takerIn K C name = some none) (hh : hasDictIn K C = true)
   (hl : fs.length ≤ 500) (h : P (upd H dd (.ns (putF fs name x)))) : qi3 c q d A (.ref a) name x H P := by
 intro E s u v B hu hv; obtain rfl := hu; obtain ⟨es, n, I, hr⟩ := qcs B.rep h1 h2; have X := G.X.keeps B.rep.keep; have hes : fs.length = es.length := qfo hr; refine set_plain X I hs (qpu (s := { s with toks := s.toks + 1 }) X I rfl hp ht hh ?_ ?_ ?_)
 . have := qib (name := name) hr; revert this; cases fs.lookup name with
   | none => intro z; (refine (Eq.symm z) ▸ ?_); rfl
   | some y => rintro ⟨v, z, _⟩; (refine (Eq.symm z) ▸ ?_); rfl
 . have := qlz (name := name) (hsh := PyData.keyHash c.w.params name) (t := s.toks + 1) (TK.refl s.heap) hv hr; rw [← qfo this]; have : ∀ fs : List (Str × V), (putF fs name x).length ≤ fs.length + 1 := by
     intro fs
     induction fs with
     | nil => simp [putF]
     | cons f r ih => unfold putF; split <;> simp; assumption
   have := this fs; lia
 . have D : s.heap.get? dd = some (dictOf es n) := I.dict; generalize hh' : s.heap.update dd (Obj.putName name (PyData.keyHash c.w.params name) (.str name (s.toks + 1)) v) = h'; have D' : h'.get? dd = some (dictOf (putL name (PyData.keyHash c.w.params name) (.str name (s.toks + 1)) v es) (putN name es n)) := by
     have := Heap.get?_update_self (Obj.putName name (PyData.keyHash c.w.params name) (.str name (s.toks + 1)) v) D (by rw [putName_dict]; rfl); rw [putName_dict, hh'] at this; exact this
   have kk : ∀ b o, b ≠ dd -> s.heap.get? b = some o -> h'.get? b = some o := fun b o hb e => by (refine hh' ▸ ?_); exact (Heap.get?_update_ne _ _ _ _ hb).trans e
   have tk : TK s.heap h' := fun b o e hc hd => kk b o (fun z => by subst z; rw [D] at e; obtain rfl := sj0_ e; exact nomatch hc) e; have or : OR c h' dd (.ns (putF fs name x)) := ⟨_, _, D', qlz tk (hv.mono tk) hr⟩; dsimp only; exact ⟨_, h, B.rep.put h2 kk or, .put h2 kk or⟩
theorem qj5 {o : Expr} {name : Str} {pJ : Pos} {v : Value} : assign (.Attribute o name pJ) env v = (do
   let ov ← holding [v] (eval o env)
   standAt pJ.atName
   holding [v, ov] (setAttr ov name v)
   release [v, ov] []) := rfl
theorem qkf {P : Fl -> Map -> AH -> Prop} {X : Exc -> Map -> AH -> Prop} {o v : Expr} {name : Str} {pJ : Pos} (hsw : swapsWithSole [.Attribute o name pJ] v pos.line env = pure false) (hsw2 : swappedStores [.Attribute o name pJ] v env = pure none)
   (h : awE c q d A env v m H (fun x HJ => awE c q d A env o m HJ (fun y HW => qi3 c q d A y name x HW fun HY => P .next m HY) fun k H' => X k m H') fun k H' => X k m H') : awS c q d A env (.Assign [.Attribute o name pJ] v pos) m H P X := by
 intro s S; refine wpAny_Assign_stores (qaj h S.toFRep (fun x HJ sJ vJ hp F₁ hvJ stJ => ?_) fun _ _ o => o.toS S.toFRep) hsw hsw2; show wpAny c.M A (assign (.Attribute o name pJ) env vJ) _ _ sJ; (refine (Eq.symm qj5) ▸ ?_); refine wpAny_bind (wpAny_holding (qaj hp F₁ (fun y HW sW vW hpW FW hvW st₂ => ?_) fun _ _ o => (OutX.from stJ o).toS S.toFRep)); refine wpAny_bind (wpAny_standAt (wpAny_bind (wpAny_holding (wpAny_mono (hpW (qbp c env H s X) sW vW vJ FW.toBRep hvW (hvJ.mono (F₁.rep.tk st₂))) (fun _ sY zp0 => ?_) fun _ _ e => e)))); obtain ⟨HY, hP, RY, stY⟩ := zp0; exact wpAny_release ⟨.next, m, HY, hP, rfl, RY, (FW.step RY stY).fr, ((stJ.trans st₂).trans stY).toF⟩
theorem qkd {P : Fl -> Map -> AH -> Prop} {X : Exc -> Map -> AH -> Prop} {y : Str} {pJ : Pos} {op : Operator} {e : Expr} {x : V} (hm : m y = some x) (hy : qan env y) (hd : (y == ("__classdict__" : Str)) = false)
   (h : awE c q d A env e m H (fun z HJ => awO c q d A env.frame (fun vs => inplaceOp op (vs.getD 0 .none) (vs.getD 1 .none)) [x, z] HJ (fun r HW => P .next (set m y r) HW) fun k H' => X k m H') fun k H' => X k m H') : awS c q d A env (.AugAssign (.Name y pJ) op e pos) m H P X := by
 intro s S; have load : wpAny c.M A (loadName env y) (fun v sJ => sJ = s ∧ VR s.heap x v) (qbp c env H s X) s := by
   by_cases hk : env.kindOf y = some .local
   . obtain ⟨mO, hn, hm'⟩ := S.fr.loc; obtain ⟨u, hu, hv⟩ := hm' y x hm hk; exact wpAny_loadName_local S.fr.kind hk hn hu ⟨rfl, hv⟩
   . obtain ⟨hk', k, u, hl, hcell, hv⟩ := S.fr.cel y x hm hk; rcases hk' with hk' | hk'
     . exact wpAny_loadName_cell S.fr.kind hk' hl hcell ⟨rfl, hv⟩
     . exact wpAny_loadName_free S.fr.kind hk' hl hcell ⟨rfl, hv⟩ hd
 refine wpAny_AugAssign_Name (wpAny_mono load (fun v sJ zp0 => ?_) fun _ _ e => e); obtain ⟨e1, hv⟩ := zp0; subst e1; refine qaj h S.toFRep (fun z HJ sW u hp F₁ hu st => ?_) fun _ _ o => o.toS S.toFRep; refine wpAny_mono (hp sW [v, u] F₁.toBRep ⟨v, [u], rfl, hv.mono (S.rep.tk st), u, [], rfl, hu, rfl⟩) (fun r sY zp0 => ?_) fun _ _ o => (OutX.from st o).toS S.toFRep; obtain ⟨x', HW, hP, hr, RW, st₂⟩ := zp0; have FW := F₁.step RW st₂; exact wpAny_mono (qcp FW.rep FW.fr hr hy) (fun _ sV zp0 => by obtain ⟨R, F, xW, _⟩ := zp0; exact ⟨.next, _, HW, hP, rfl, R, F, (st.trans st₂).toF.trans xW⟩) fun _ _ e => e
theorem qkc {P : Fl -> Map -> AH -> Prop} {X : Exc -> Map -> AH -> Prop} {o e : Expr} {name : Str} {pJ : Pos} {op : Operator}
   (h : awE c q d A env o m H (fun y HJ => awO c q d A env.frame (fun vs => getAttr (vs.getD 0 .none) name true) [y] HJ (fun x HW => awE c q d A env e m HW (fun z HY => awO c q d A env.frame (fun vs => inplaceOp op (vs.getD 0 .none) (vs.getD 1 .none)) [x, z] HY (fun r HV => qi3 c q d A y name r HV fun HZ => P .next m HZ) fun k H' => X k m H') fun k H' => X k m H') fun k H' => X k m H') fun k H' => X k m H') : awS c q d A env (.AugAssign (.Attribute o name pJ) op e pos) m H P X := by
 intro s S; refine wpAny_AugAssign_AttributeAny (qaj h S.toFRep (fun y HJ sJ vy hpJ F₁ hy stJ => ?_) fun _ _ o => o.toS S.toFRep); refine wpAny_mono (hpJ sJ [vy] F₁.toBRep ⟨vy, [], rfl, hy, rfl⟩) (fun old sW zp0 => ?_) fun _ _ o => (OutX.from stJ o).toS S.toFRep; obtain ⟨x, HW, hpW, hx, RW, st₂⟩ := zp0; have FW := F₁.step RW st₂; have stJW := stJ.trans st₂; refine qaj hpW FW (fun z HY sY vz hpY FY hz stY => ?_) fun _ _ o => (OutX.from stJW o).toS S.toFRep; have stJY := stJW.trans stY; refine wpAny_mono (hpY sY [old, vz] FY.toBRep ⟨old, [vz], rfl, hx.mono (FW.rep.tk stY), vz, [], rfl, hz, rfl⟩) (fun r sV zp0 => ?_) fun _ _ o => (OutX.from stJY o).toS S.toFRep; obtain ⟨x', HV, hpV, hr, RV, stV⟩ := zp0; have FV := FY.step RV stV; have hy' := ((hy.mono (F₁.rep.tk st₂)).mono (FW.rep.tk stY)).mono (FY.rep.tk stV); refine wpAny_mono (hpV (qbp c env H s X) sV vy r FV.toBRep hy' hr) (fun _ sZ zp0 => ?_) fun _ _ e => e; obtain ⟨HZ, hP, RZ, stZ⟩ := zp0; exact ⟨.next, m, HZ, hP, rfl, RZ, (FV.step RZ stZ).fr, ((stJY.trans stV).trans stZ).toF⟩
end
section
variable {c : Cx} {q : Md} {d : Nat} {A : Around} {env : Env} {m : Map} {H : AH} {P : V -> AH -> Prop} {X : Exc -> AH -> Prop} {pos : Pos} {fl : Option Addr} {K : Frag} {p : Program} {loose : List Str} {mg mb : Str -> Option Value}
theorem qcr {x y : Int} (h : P (.int (x + y)) H) : awO c q d A fl (fun vs => inplaceOp .Add (vs.getD 0 .none) (vs.getD 1 .none)) [.int x, .int y] H P X := by
 intro s vs B hv; obtain ⟨v, _, rfl, ⟨t, rfl⟩, u, _, rfl, ⟨t', rfl⟩, rfl⟩ := hv; exact iadd_int (.tok (x := .int _) B.rep ⟨_, rfl⟩ h)
theorem qoq {x y : Int} (h : P (.int (x - y)) H) : awO c q d A fl (fun vs => inplaceOp .Sub (vs.getD 0 .none) (vs.getD 1 .none)) [.int x, .int y] H P X := by
 intro s vs B hv; obtain ⟨v, _, rfl, ⟨t, rfl⟩, u, _, rfl, ⟨t', rfl⟩, rfl⟩ := hv; exact isub_int (.tok (x := .int _) B.rep ⟨_, rfl⟩ h)
theorem qq8 {x y : Int} (h : P (.int (x - y)) H) : awO c q d A fl (fun vs => binaryOp .Sub (vs.getD 0 .none) (vs.getD 1 .none)) [.int x, .int y] H P X := by
 intro s vs B hv; obtain ⟨v, _, rfl, ⟨t, rfl⟩, u, _, rfl, ⟨t', rfl⟩, rfl⟩ := hv; exact PyProof.Rows.sub_int (.tok (x := .int _) B.rep ⟨_, rfl⟩ h)
theorem qqu {x y : Int} (hx : x.natAbs < 2 ^ 20) (hy : y.natAbs < 2 ^ 20) (h : P (.int (x * y)) H) : awO c q d A fl (fun vs => binaryOp .Mult (vs.getD 0 .none) (vs.getD 1 .none)) [.int x, .int y] H P X := by
 intro s vs B hv; obtain ⟨v, _, rfl, ⟨t, rfl⟩, u, _, rfl, ⟨t', rfl⟩, rfl⟩ := hv; exact PyProof.Rows.mul_int (.tok (x := .int _) B.rep ⟨_, rfl⟩ h)
theorem qoe {x y : Int} (hx : x.natAbs < 2 ^ 20) (hy : y.natAbs < 2 ^ 20) (h0 : y ≠ 0) (h : P (.int (x.fdiv y)) H) : awO c q d A fl (fun vs => binaryOp .FloorDiv (vs.getD 0 .none) (vs.getD 1 .none)) [.int x, .int y] H P X := by
 intro s vs B hv; obtain ⟨v, _, rfl, ⟨t, rfl⟩, u, _, rfl, ⟨t', rfl⟩, rfl⟩ := hv; exact floordiv_int h0 (.tok (x := .int _) B.rep ⟨_, rfl⟩ h) (.inl (PyProof.noPylong_small (le_trans ‹_› (nl0_ rfl))))
theorem qmj {x y : Str} (h : P (.bool (x.cps.toList < y.cps.toList)) H) : awO c q d A fl (fun vs => compareOp .Lt (vs.getD 0 .none) (vs.getD 1 .none)) [.str x, .str y] H P X := by
 intro s vs B hv; obtain ⟨v, _, rfl, ⟨t, rfl⟩, u, _, rfl, ⟨t', rfl⟩, rfl⟩ := hv; exact PyProof.Rows.lt_str (.here (x := .bool _) B.rep rfl h)
theorem qmh {x y : Str} (h : P (.bool (y.cps.toList < x.cps.toList)) H) : awO c q d A fl (fun vs => compareOp .Gt (vs.getD 0 .none) (vs.getD 1 .none)) [.str x, .str y] H P X := by
 intro s vs B hv; obtain ⟨v, _, rfl, ⟨t, rfl⟩, u, _, rfl, ⟨t', rfl⟩, rfl⟩ := hv; exact PySem.P.gt_str (.here (x := .bool _) B.rep rfl h)
theorem qe3 {s : Shared} {a : Addr} {vs vs' : List V} {items : Array Value} {n : Nat} {f : Array Value -> Array Value} {t : Nat} (R : Rep c H s) (ha : H a = some (.list vs)) (e : s.heap.get? a = some (listOf items n)) (hf : VRs s.heap vs' (f items).toList) :
   Rep c (upd H a (.list vs')) { s with heap := s.heap.update a (Obj.mapSeq f), toks := t } ∧ Step H s (upd H a (.list vs')) { s with heap := s.heap.update a (Obj.mapSeq f), toks := t } := by
 have kk : ∀ b o, b ≠ a -> s.heap.get? b = some o -> (s.heap.update a (Obj.mapSeq f)).get? b = some o := fun b o hb e => (Heap.get?_update_other _ _ (Ne.symm hb)).trans e; have tk : TK s.heap (s.heap.update a (Obj.mapSeq f)) := fun b o e1 hc hd => kk b o (fun z => by subst z; rw [e] at e1; obtain rfl := sj0_ e1; exact nomatch hc) e1; have hD := Heap.get?_update_self (Obj.mapSeq f) e rfl; have or : OR c (s.heap.update a (Obj.mapSeq f)) a (.list vs') := ⟨f items, _, hD, hf.mono tk⟩; exact ⟨R.put ha kk or, .put ha kk or⟩
theorem qh5 {a b : Addr} {vs us : List V} (ha : H a = some (.list vs)) (hb : H b = some (.list us)) (hl : vs.length + us.length ≤ 100000) (h : P .none (upd H a (.list (vs ++ us)))) : qa7 c q d A fl (.builtin "list.extend") [.ref a, .ref b] [] H P X := by
 intro s ws kvs B hv hk; obtain rfl := qa1 hk; obtain ⟨u, _, rfl, hu, v, _, rfl, hv, rfl⟩ := hv; obtain rfl := hu; obtain rfl := hv; obtain ⟨items, n, e, hr⟩ := B.rep.at_ _ _ ha; obtain ⟨items2, n2, e2, hr2⟩ := B.rep.at_ _ _ hb; have hs1 : items.size = vs.length := by rw [← Array.length_toList]; exact hr.length.symm
 have hs2 : items2.size = us.length := by rw [← Array.length_toList]; exact hr2.length.symm
 have hs : items.size + items2.size ≤ 100000 := by lia
 have T := qe3 (f := fun x => x ++ items2) (t := s.toks) B.rep ha e (by rw [Array.toList_append]; exact hr.append hr2); refine call_meets PySem.F.slot_list_extend ⟨_, e, rfl⟩ PySem.F.entry_list_extend (PySem.F.args_list_extend_2 _ _) (PySem.AutoSeq1.list_extend_list_list_0 a items n b items2 n2 ?_ (le_trans (by lia) (by decide : 100000 ≤ sizeLine)) (le_trans (le_trans ‹_› (nl0_ rfl)) (by decide : 100000 ≤ sizeLine + 1))) ⟨e, e2, ?_⟩
 . rw [Bool.and_eq_true]; rintro ⟨_, z⟩; have := of_decide_eq_true z; have h2 : 100000 ≤ sizeLine := by decide
   lia
 . exact ⟨.none, _, h, rfl, T.1, T.2⟩
theorem qme {a : Addr} {vs : List V} (ha : H a = some (.list vs)) (hl : vs.length ≤ 100000) (h : P .none (upd H a (.list []))) : qa7 c q d A fl (.builtin "list.clear") [.ref a] [] H P X := by
 intro s ws kvs B hv hk; obtain rfl := qa1 hk; obtain ⟨u, _, rfl, hu, rfl⟩ := hv; obtain rfl := hu; obtain ⟨items, n, e, hr⟩ := B.rep.at_ _ _ ha; have hs1 : items.size = vs.length := by rw [← Array.length_toList]; exact hr.length.symm
 have T := qe3 (f := fun _ => #[]) (vs' := []) (t := s.toks) B.rep ha e rfl; refine call_meets PySem.F.slot_list_clear ⟨_, e, rfl⟩ PySem.F.entry_list_clear (PySem.F.args_list_clear_1 _) (PySem.AutoSeq1.list_clear_list_0 a items n (le_trans (by lia) (by decide : 100000 ≤ sizeLine))) ⟨e, ?_⟩; exact ⟨.none, _, h, rfl, T.1, T.2⟩
theorem qqe {a : Addr} {vs : List V} {x : V} (ha : H a = some (.list (vs ++ [x]))) (hl : vs.length ≤ 100000 - 1) (h : P x (upd H a (.list vs))) : qa7 c q d A fl (.builtin "list.pop") [.ref a] [] H P X := by
 intro s ws kvs B hv hk; obtain rfl := qa1 hk; obtain ⟨u, _, rfl, hu, rfl⟩ := hv; obtain rfl := hu; obtain ⟨items, n, e, hr⟩ := B.rep.at_ _ _ ha; have hr' := hr; obtain ⟨us, ws, hi, hr1, hr2⟩ := hr.split; obtain ⟨y, _, rfl, hy, rfl⟩ := hr2; obtain ⟨il⟩ := items; simp only at hi; subst hi; have hk : (us ++ [y]).toArray.size - 1 = us.length := by rw [size_toArray, length_append]; rfl
 have he : (us ++ [y]).toArray.eraseIdxIfInBounds ((us ++ [y]).toArray.size - 1) = us.toArray := by
   rw [hk]; apply Array.toList_inj.mp; simp [Array.eraseIdxIfInBounds, List.eraseIdx_append_of_length_le]
 have hy1 : (us ++ [y]).toArray[(us ++ [y]).toArray.size - 1]? = some y := by rw [hk]; simp
 have hz : (us ++ [y]).toArray.size ≤ sizeLine := by
   have := hr1.length; rw [size_toArray, length_append]; exact le_trans (by simp; lia) (by decide : 100000 ≤ sizeLine)
 have T := qe3 (f := fun xs => xs.eraseIdxIfInBounds ((us ++ [y]).toArray.size - 1)) (vs' := vs) (t := s.toks) B.rep ha e (by rw [he]; exact hr1); refine call_meets PySem.F.slot_list_pop ⟨_, e, rfl⟩ PySem.F.entry_list_pop (PySem.F.args_list_pop_1 _) (PySem.MeetsSeq.list_pop_last a _ n y hy1 hz) ⟨e, ?_⟩; exact ⟨x, _, h, hy.mono (B.rep.tk T.2), T.1, T.2⟩
end
section
open PySem.SeqAt (EqAt RcAt RcNeAt)
def upto (f : Nat -> Bool) (a b : Nat) : Bool := (List.range (min a b)).all f && a == b
theorem qj2 {f : Nat -> Bool} {a : Nat} (h : ∀ j, j < a -> f j = true) : upto f a a = true := by
 unfold upto; rw [Nat.min_self, beq_self_eq_true, Bool.and_true]; exact all_eq_true.mpr fun j hj => h j (mem_range.mp hj)
inductive EqG (H : AH) : Nat -> V -> V -> Bool -> Prop
 | str (n : Nat) (x y : Str) : EqG H n (.str x) (.str y) (x == y)
 | int (n : Nat) (x y : Int) : EqG H n (.int x) (.int y) (x == y)
 | bool (n : Nat) (x y : Bool) : EqG H n (.bool x) (.bool y) (x == y)
 | tup (n : Nat) (xs ys : List V) (f : Nat -> Bool) (h : ∀ j x y, xs[j]? = some x -> ys[j]? = some y -> EqG H n x y (f j)) : EqG H (n + 1) (.tup xs) (.tup ys) (upto f xs.length ys.length)
 | list (n : Nat) (a a' : Addr) (xs ys : List V) (f : Nat -> Bool) (ha : H a = some (.list xs)) (hb : H a' = some (.list ys)) (hs : a = a' -> upto f xs.length ys.length = true) (h : ∀ j x y, xs[j]? = some x -> ys[j]? = some y -> EqG H n x y (f j)) : EqG H (n + 1) (.ref a) (.ref a') (upto f xs.length ys.length)
theorem tuple_one {h : Heap} {a : Addr} {ws ws' : Array Value} : h.IsTuple a ws -> h.IsTuple a ws' -> ws = ws' := by
 intro z z'; obtain ⟨o, e, _, n, d⟩ := z; obtain ⟨o', e', _, n', d'⟩ := z'; obtain rfl := sj0_ (e.symm.trans e'); cases d.symm.trans d'; rfl
theorem VRs.size {h : Heap} {xs : List V} {ws : Array Value} (r : VRs h xs ws.toList) : ws.size = xs.length := Array.length_toList.symm.trans r.length.symm
theorem VRs.at {h : Heap} {xs : List V} {ws : Array Value} (r : VRs h xs ws.toList) {j : Nat} (hj : j < ws.size) : ∃ x, xs[j]? = some x ∧ VR h x ws[j] := r.get' (by simp [hj])
theorem qqh {H : AH} {h : Heap} {n : Nat} {x y : V} {b : Bool} (e : EqG H n x y b) : ∀ v, VR h x v -> VR h y v -> b = true := by
 induction e with
 | str n x y => rintro _ ⟨t, rfl⟩ ⟨t', z⟩; cases z; exact beq_self_eq_true _
 | int n x y => rintro _ ⟨t, rfl⟩ ⟨t', z⟩; cases z; exact beq_self_eq_true _
 | bool n x y => intro v hx hy; obtain rfl := hx; cases hy; exact beq_self_eq_true _
 | list n a a' xs ys f ha hb hs _ _ => intro v hx hy; obtain rfl := hx; cases hy; exact hs rfl
 | tup n xs ys f _ ih =>
   rintro _ ⟨a, ws, rfl, t, r⟩ ⟨a', ws', z, t', r'⟩; cases z; cases tuple_one t t'; rw [← r.size, ← r'.size]; refine qj2 fun j hj => ?_; obtain ⟨x, e1, r1⟩ := r.at hj; obtain ⟨y, e2, r2⟩ := r'.at hj; exact ih j x y e1 e2 _ r1 r2
def seqV : V -> Bool
 | .tup _ => true
 | .ref _ => true
 | _ => false
inductive qss (A : Around) (s : Shared) (x : V) (v u : Value) (b : Bool) : Prop
 | mk (e : EqAt A s v u b) (r : seqV x = true -> RcAt A s v u b) (t : seqV x = true -> RcNeAt A s v u (!b))
theorem qod {A : Around} {s : Shared} {xs ys : List V} {ws ws' : Array Value} {f : Nat -> Bool} (r : VRs s.heap xs ws.toList) (r' : VRs s.heap ys ws'.toList)
   (ih : ∀ j x y, xs[j]? = some x -> ys[j]? = some y -> ∀ v u, VR s.heap x v -> VR s.heap y u -> qss A s x v u (f j)) : ∀ j (h1 : j < ws.size) (h2 : j < ws'.size), EqAt A s ws[j] ws'[j] (f j) := by
 intro j h1 h2; obtain ⟨x, e1, r1⟩ := r.at h1; obtain ⟨y, e2, r2⟩ := r'.at h2; exact (ih j x y e1 e2 _ _ r1 r2).1
theorem qoc {c : Cx} {H : AH} {s : Shared} (R : Rep c H s) {n : Nat} {x y : V} {b : Bool} (e : EqG H n x y b) : ∀ (A : Around), A.units + n < cLine -> ∀ (v u : Value), VR s.heap x v -> VR s.heap y u -> qss A s x v u b := by
 have e0 := e; revert e0
 induction e with
 | str n x y => rintro _ A hu _ _ ⟨t, rfl⟩ ⟨t', rfl⟩; exact ⟨(eqGives_str _ _ t t').at A s, fun z => Bool.noConfusion z, fun z => Bool.noConfusion z⟩
 | int n x y => rintro _ A hu _ _ ⟨t, rfl⟩ ⟨t', rfl⟩; exact ⟨(MeetsSeq.EqGives.int _ _ t t').at A s, fun z => Bool.noConfusion z, fun z => Bool.noConfusion z⟩
 | bool n x y => intro _ A hu v u hx hy; obtain rfl := hx; obtain rfl := hy; exact ⟨SeqAt.EqAt.bool_bool _ _, fun z => Bool.noConfusion z, fun z => Bool.noConfusion z⟩
 | tup n xs ys f h0 ih =>
   intro e0 A hu v u hx hy; refine hide fun Pz bk => ?_; obtain ⟨a, ws, ea, t, r⟩ := id hx; obtain ⟨a', ws', ea', t', r'⟩ := id hy; have he := qod (A := A.in1) r r' fun j x y e1 e2 => ih j x y e1 e2 (h0 j x y e1 e2) A.in1 (by show A.units + 1 + n < cLine; lia); have k1 := RcAt.tuples (A := A) t t' (by lia) he; have k2 := RcNeAt.tuples (A := A) t t' (by lia) he; rw [r.size, r'.size, ← ea, ← ea'] at k1 k2; refine bk ⟨?_, fun _ => k1, fun _ => k2⟩; by_cases hne : v = u
   . rw [← hne] at hy ⊢; rw [qqh e0 v hx hy]; exact SeqAt.EqAt.same _
   . rw [ea, ea'] at hne k1 ⊢; exact SeqAt.EqAt.of_refs (fun z => hne (congrArg Value.ref z)) k1
 | list n a a' xs ys f ha hb hs h0 ih =>
   intro e0 A hu v u hx hy; refine hide fun Pz bk => ?_; obtain ⟨ws, n1, e1, r⟩ := R.at_ _ _ ha; obtain ⟨ws', n2, e2, r'⟩ := R.at_ _ _ hb; have l1 : s.heap.IsList a ws := ⟨_, e1, rfl, n1, rfl⟩; have l2 : s.heap.IsList a' ws' := ⟨_, e2, rfl, n2, rfl⟩; have he := qod (A := A.in1) r r' fun j x y e1 e2 => ih j x y e1 e2 (h0 j x y e1 e2) A.in1 (by show A.units + 1 + n < cLine; lia); have key : RcAt A s (.ref a) (.ref a') (upto f xs.length ys.length) ∧ RcNeAt A s (.ref a) (.ref a') (!upto f xs.length ys.length) := by
     rw [← r.size, ← r'.size]; unfold upto; by_cases hl : ws.size = ws'.size
     . rw [← hl, Nat.min_self, beq_self_eq_true, Bool.and_true]; exact ⟨RcAt.lists l1 l2 hl (by lia) he, RcNeAt.lists l1 l2 hl (by lia) he⟩
     . rw [beq_eq_false_iff_ne.mpr hl, Bool.and_false]; exact ⟨RcAt.lists_lengths l1 l2 (bne_iff_ne.mpr hl) (by lia), RcNeAt.lists_lengths l1 l2 (bne_iff_ne.mpr hl) (by lia)⟩
   obtain rfl := hx; obtain rfl := hy; refine bk ⟨?_, fun _ => key.1, fun _ => key.2⟩; by_cases hne : a = a'
   . rw [hs hne, hne]; exact SeqAt.EqAt.same _
   . exact SeqAt.EqAt.of_refs hne key.1
section
variable {c : Cx} {q : Md} {d : Nat} {A : Around} {env : Env} {m : Map} {H : AH} {P : V -> AH -> Prop} {X : Exc -> AH -> Prop} {pos : Pos} {fl : Option Addr}
theorem qgg {h : Heap} (O : Ok c q d A H h) {n : Nat} (hn : n ≤ 100) : A.units + n < cLine := by
 have := O.units; have h2 : cLine = 9900 := rfl; lia
theorem qfh {x y : V} {n : Nat} {b : Bool} (hq : seqV x = true) (hn : n ≤ 100) (he : EqG H n x y b) (h : P (.bool b) H) : awO c q d A fl (fun vs => compareOp .Eq (vs.getD 0 .none) (vs.getD 1 .none)) [x, y] H P X := by
 intro s vs B hv; obtain ⟨v, _, rfl, hv, u, _, rfl, hu, rfl⟩ := hv; exact (qoc B.rep he A (qgg B.ok hn) _ _ hv hu).2 hq _ _ _ _ (.here (x := .bool _) B.rep rfl h)
theorem qrw {x y : V} {n : Nat} {b : Bool} (hq : seqV x = true) (hn : n ≤ 100) (he : EqG H n x y b) (h : P (.bool (!b)) H) : awO c q d A fl (fun vs => compareOp .NotEq (vs.getD 0 .none) (vs.getD 1 .none)) [x, y] H P X := by
 intro s vs B hv; obtain ⟨v, _, rfl, hv, u, _, rfl, hu, rfl⟩ := hv; exact (qoc B.rep he A (qgg B.ok hn) _ _ hv hu).3 hq _ _ _ _ (.here (x := .bool _) B.rep rfl h)
def qr8 (x : Str) : Value -> Bool
 | .str y _ => y == x
 | _ => false
theorem qrb {h : Heap} (x : Str) : ∀ {ys : List Str} {ws : List Value}, VRs h (ys.map V.str) ws -> ws.any (qr8 x) = ys.contains x := by
 intro ys
 induction ys with
 | nil =>
   intro _ e; obtain rfl := e; rfl
 | cons y ys ih =>
   intro _ e; obtain ⟨_, ws, rfl, ⟨t, rfl⟩, r⟩ := e; rw [any_cons, ih r, List.contains_cons]; exact congrArg (· || ys.contains x) BEq.comm
theorem qsq {s : Shared} {x : Str} {t : Tok} {A : Around} : ∀ {ys : List Str} {ws : List Value}, VRs s.heap (ys.map V.str) ws -> ∀ w ∈ ws, EqAt A s w (.str x t) (qr8 x w) := by
 intro ys
 induction ys with
 | nil =>
   intro _ e w hw; obtain rfl := e; cases hw
 | cons y ys ih =>
   intro _ e w hw; obtain ⟨_, ws, rfl, ⟨t', rfl⟩, r⟩ := e; rcases mem_cons.mp hw with rfl | hw
   . exact (eqGives_str _ _ t' t).at A s
   . exact ih r w hw
theorem qoo {a : Addr} {x : Str} {ys : List Str} (ha : H a = some (.list (ys.map V.str))) (h : P (.bool (ys.contains x)) H) : awO c q d A fl (fun vs => compareOp .In (vs.getD 0 .none) (vs.getD 1 .none)) [.str x, .ref a] H P X := by
 intro s vs B hv; obtain ⟨v, _, rfl, ⟨t, rfl⟩, u, _, rfl, hu, rfl⟩ := hv; obtain rfl := hu; obtain ⟨items, k, e, hr⟩ := B.rep.at_ _ _ ha; refine SeqAt.in_listAt (qr8 x) ⟨_, e, rfl, k, rfl⟩ (fun y hy => qsq hr y (Array.mem_toList_iff.mpr hy)) ?_; rw [← Array.any_toList, qrb x hr]; exact .here (x := .bool _) B.rep rfl h
end
end
section
variable {c : Cx} {q : Md} {d : Nat} {A : Around} {env : Env} {m : Map} {H : AH} {P : V -> AH -> Prop} {X : Exc -> AH -> Prop} {pos : Pos} {fl : Option Addr} {K : Frag} {p : Program} {loose : List Str} {mg mb : Str -> Option Value}
theorem qdr {n : Nat} (h : n ≤ 100000) : n ≤ sizeLine := le_trans h (by decide)
theorem OutE.newList {s : Shared} {items : Array Value} {vs : List V} {t : Nat} (R : Rep c H s) (hr : VRs s.heap vs items.toList) (h : ∀ a, H a = none -> P (.ref a) (upd H a (.list vs))) : OutE c H s P (.ref s.heap.objs.size) { s with heap := s.heap.push { cls := .type "list", data := .seq items }, toks := t } := by
 have tk : TK s.heap (s.heap.push { cls := .type "list", data := .seq items }) := TK.of_keeps fun _ _ e => Heap.get?_push_of_some _ e; exact ⟨.ref _, _, h _ (R.fresh (get?_size _)), rfl, R.push _ t (.list vs) ⟨items, 0, Heap.get?_push_size _ rfl, hr.mono tk⟩, .push ..⟩
theorem qni {a b : Addr} {vs us : List V} (ha : H a = some (.list vs)) (hb : H b = some (.list us)) (hl : vs.length + us.length ≤ 100000) (h : ∀ n, H n = none -> P (.ref n) (upd H n (.list (vs ++ us)))) : awO c q d A fl (fun vs => binaryOp .Add (vs.getD 0 .none) (vs.getD 1 .none)) [.ref a, .ref b] H P X := by
 intro s ws B hv; obtain ⟨v, _, rfl, hv, u, _, rfl, hu, rfl⟩ := hv; obtain rfl := hv; obtain rfl := hu; obtain ⟨items, n, e, hr⟩ := B.rep.at_ _ _ ha; obtain ⟨items2, n2, e2, hr2⟩ := B.rep.at_ _ _ hb; have hs1 : items.size = vs.length := by rw [← Array.length_toList]; exact hr.length.symm
 have hs2 : items2.size = us.length := by rw [← Array.length_toList]; exact hr2.length.symm
 refine concat_meets ⟨_, e, rfl⟩ ⟨_, e2, rfl⟩ noFill_list_add seq_list_add PySem.F.slot_list_add PySem.F.entry_list_add (PySem.F.args_list_add_2 _ _) (list_addW a b items items2 n n2 none none #[] #[] (by (refine (Eq.symm hs1) ▸ ?_; refine (Eq.symm hs2) ▸ ?_); exact qdr hl)) ⟨e, e2, ?_⟩; exact OutE.newList B.rep (by rw [Array.toList_append]; exact hr.append hr2) h
theorem qi7 {a : Addr} {vs : List V} (ha : H a = some (.list vs)) (hl : vs.length ≤ 100000) (h : P (.tup vs) H) : qa7 c q d A fl (.type "tuple") [.ref a] [] H P X := by
 intro s ws kvs B hv hk; obtain rfl := qa1 hk; obtain ⟨v, _, rfl, hv, rfl⟩ := hv; obtain rfl := hv; obtain ⟨items, n, e, hr⟩ := B.rep.at_ _ _ ha; have hs1 : items.size = vs.length := by rw [← Array.length_toList]; exact hr.length.symm
 refine call_tuple_list (items := items) ⟨_, e, rfl, n, rfl⟩ (fun h' hk => ?_) (by (refine (Eq.symm hs1) ▸ ?_); exact qdr hl); have k : ∀ b o, s.heap.get? b = some o -> (h'.push { cls := .type "tuple", data := .seq items }).get? b = some o := fun b o e => Heap.get?_push_of_some _ (hk b o e); exact ⟨.tup vs, H, h, ⟨_, items, rfl, ⟨_, Heap.get?_push_size _ rfl, rfl, 0, rfl⟩, hr.mono (TK.of_keeps k)⟩, B.rep.silent k rfl rfl, .silent k⟩
theorem OutE.newAt {s : Shared} {items : Array Value} {vs : List V} {h' : Heap} {n t : Nat} (R : Rep c H s) (k : ∀ b o, s.heap.get? b = some o -> h'.get? b = some o) (e : h'.get? s.heap.objs.size = some (listOf items n)) (hr : VRs s.heap vs items.toList) (h : ∀ a, H a = none -> P (.ref a) (upd H a (.list vs))) : OutE c H s P (.ref s.heap.objs.size) { s with heap := h', toks := t } :=
 ⟨.ref _, _, h _ (R.fresh (get?_size _)), rfl, (R.silent (s' := { s with heap := h', toks := t }) k rfl rfl).add (R.gnone (get?_size _)) ⟨items, n, e, hr.mono (TK.of_keeps k)⟩, (Step.silent (s' := { s with heap := h', toks := t }) k).add fun _ => get?_size _⟩
theorem qkm {a : Addr} {vs : List V} (ha : H a = some (.list vs)) (hl : vs.length ≤ 100000) (h : ∀ n, H n = none -> P (.ref n) (upd H n (.list vs))) : qa7 c q d A fl (.type "list") [.ref a] [] H P X := by
 intro s ws kvs B hv hk; obtain rfl := qa1 hk; obtain ⟨v, _, rfl, hv, rfl⟩ := hv; obtain rfl := hv; obtain ⟨items, n, e, hr⟩ := B.rep.at_ _ _ ha; have hs1 : items.size = vs.length := by rw [← Array.length_toList]; exact hr.length.symm
 exact call_list_seq a (.inl rfl) e rfl rfl (fun h' c' k e' => OutE.newAt B.rep k e' hr h) (by (refine (Eq.symm hs1) ▸ ?_); exact qdr hl)
def ql1 (x : Str) : List V := x.cps.toList.map fun k => .str ⟨#[k]⟩
theorem qpn {h : Heap} {x : Str} : ∀ {cs : List Nat} {i : Nat} {vs : List Value}, x.cps.toList.drop i = cs -> vs.length = cs.length -> (∀ j v, vs[j]? = some v -> SignAt x (i + j) v) -> VRs h (cs.map fun k => .str ⟨#[k]⟩) vs := by
 intro cs
 induction cs with
 | nil =>
   intro i vs _ hl _; cases vs with
   | nil => rfl
   | cons _ _ => exact nomatch hl
 | cons k cs ih =>
   intro i vs hc hl hv; cases vs with
   | nil => exact nomatch hl
   | cons v vs =>
     obtain ⟨k', u, hk, rfl⟩ := hv 0 v rfl; have e : x.cps.toList[i]? = some k := by
       have := congrArg (fun l => l[0]?) hc; simpa using this
     rw [Nat.add_zero, ← Array.getElem?_toList, e] at hk; obtain rfl := sj0_ hk; refine ⟨_, vs, rfl, ⟨u, rfl⟩, ih (i := i + 1) ?_ (Nat.succ.inj hl) fun j w hw => ?_⟩
     . have := congrArg (fun l => l.drop 1) hc; simpa [List.drop_drop, add_comm] using this
     . have := hv (j + 1) w hw
       rwa [show i + (j + 1) = i + 1 + j from by rw [Nat.add_assoc, add_comm 1 j]] at this
theorem qkn {x : Str} (hq : q = .quiet) (hl : x.length ≤ 100000) (h : ∀ n, H n = none -> P (.ref n) (upd H n (.list (ql1 x)))) : qa7 c q d A fl (.type "list") [.str x] [] H P X := by
 intro s ws kvs B hv hk; obtain rfl := qa1 hk; obtain ⟨v, _, rfl, ⟨t, rfl⟩, rfl⟩ := hv; refine call_list_str (B.ok.quiet hq) x t (fun h' tk acc c' k e hi => ?_) (qdr hl); refine OutE.newAt B.rep k e ?_ h; refine qpn (x := x) (i := 0) rfl ?_ fun j v hv => ?_
 . rw [Array.length_toList, Array.length_toList, hi.1]
 . rw [zero_add]; exact hi.2 j v (by rw [← Array.getElem?_toList]; exact hv)
theorem qff {n : Nat} (hn : n < 1000000) (h : P (.rng n) H) : qa7 c q d A fl (.type "range") [.int n] [] H P X := by
 intro s ws kvs B hv hk; obtain rfl := qa1 hk; obtain ⟨v, _, rfl, ⟨t, rfl⟩, rfl⟩ := hv; refine call_range_1 ?_; have k : ∀ b o, s.heap.get? b = some o -> (s.heap.push { cls := .type "range", data := .fields #[.int 0 s.toks, .int n t, .int 1 (s.toks + 1)] }).get? b = some o := fun b o e => Heap.get?_push_of_some _ e; exact ⟨.rng n, H, h, ⟨_, _, _, _, rfl, IsRange.new .., hn⟩, B.rep.silent k rfl rfl, .silent k⟩
theorem qhp {x : Str} (hl : x.length ≤ 100000) (h : P (.int x.length) H) : qa7 c q d A fl (.builtin "len") [.str x] [] H P X := by
 intro s ws kvs B hv hk; obtain rfl := qa1 hk; obtain ⟨v, _, rfl, ⟨t, rfl⟩, rfl⟩ := hv; exact PySem.P.len_str (by lia) (.tok (x := .int _) B.rep ⟨_, rfl⟩ h)
theorem qr7 {a : Addr} {kvs : List (Str × V)} {ep : Nat} {k : Str} (ha : H a = some (.dict kvs ep)) (h : P (.bool (kvs.lookup k).isSome) H) : awO c q d A fl (fun vs => compareOp .In (vs.getD 0 .none) (vs.getD 1 .none)) [.str k, .ref a] H P X := by
 intro s ws B hv; obtain ⟨u, _, rfl, ⟨t, rfl⟩, v, _, rfl, hv, rfl⟩ := hv; obtain rfl := hv; obtain ⟨ys, hD, hk, hr, hs⟩ := B.rep.at_ _ _ ha; have hv := qee (k := k) hk hr; refine wpAny_in_of (knd := strKind c.prog c.w) (k := k) (beq_self_eq_true _) hs hD.dictOf.mapOf ?_; have e : (valueAt ys k).isSome = (kvs.lookup k).isSome := by
   cases hl : kvs.lookup k with
   | none => rw [hl] at hv; (refine (Eq.symm hv) ▸ ?_); rfl
   | some x => rw [hl] at hv; obtain ⟨v, h1, _⟩ := hv; (refine (Eq.symm h1) ▸ ?_); rfl
 (refine (Eq.symm e) ▸ ?_); exact .tok (x := .bool _) B.rep rfl h
theorem qet {a : Addr} {kvs : List (Str × V)} {ep : Nat} {k : Str} (ha : H a = some (.dict kvs ep)) (h : P ((kvs.lookup k).getD .none) H) : qa7 c q d A fl (.builtin "dict.get") [.ref a, .str k] [] H P X := by
 intro s ws kvs' B hv hk; obtain rfl := qa1 hk; obtain ⟨v, _, rfl, hv, u, _, rfl, ⟨t, rfl⟩, rfl⟩ := hv; obtain rfl := hv; obtain ⟨ys, hD, hk, hr, hs⟩ := B.rep.at_ _ _ ha; have hv := qee (k := k) hk hr; refine call_meetsIn PySem.F.slot_dict_get hD.dictOf.typeIs PySem.F.entry_dict_get (PySem.F.args_dict_get_2 _ _) (meets_dict_get (strKind c.prog c.w) (k := k) a (beq_self_eq_true _) hs) ⟨_, hD.dictOf.mapOf, ?_⟩; cases hl : kvs.lookup k with
 | none => rw [hl] at hv h; (refine (Eq.symm hv) ▸ ?_); exact .tok (x := .none) B.rep rfl h
 | some x => rw [hl] at hv h; obtain ⟨v, h1, h2⟩ := hv; (refine (Eq.symm h1) ▸ ?_); exact .tok (x := x) B.rep h2 h
theorem qko {a : Addr} {kvs : List (Str × V)} {ep : Nat} (ha : H a = some (.dict kvs ep)) (h : P (.vals a) H) : qa7 c q d A fl (.builtin "dict.values") [.ref a] [] H P X := by
 intro s ws kvs' B hv hk; obtain rfl := qa1 hk; obtain ⟨v, _, rfl, hv, rfl⟩ := hv; obtain rfl := hv; obtain ⟨ys, hD, hk, hr, hs⟩ := B.rep.at_ _ _ ha; refine call_meetsIn PySem.F.slot_dict_values hD.dictOf.typeIs PySem.F.entry_dict_values (PySem.F.args_dict_values_1 _) (meets_dict_values (strKind c.prog c.w) a hs) ⟨⟨_, hD.dictOf⟩, ?_⟩; have k : ∀ b o, s.heap.get? b = some o -> (s.heap.push { cls := .type "dict_values", data := .fields #[.ref a] }).get? b = some o := fun b o e => Heap.get?_push_of_some _ e; exact ⟨.vals a, H, h, ⟨_, rfl, _, Heap.get?_push_size _ rfl, rfl, rfl⟩, B.rep.silent k rfl rfl, .silent k⟩
theorem qnw (h : ∀ a, H a = none -> P (.ref a) (upd H a (.set []))) : qa7 c q d A fl (.type "set") [] [] H P X := by
 intro s ws kvs' B hv hk; obtain rfl := qa1 hk; obtain rfl := hv; refine call_set_0 fun led => ?_; refine ⟨.ref _, _, h _ (B.rep.fresh (get?_size _)), rfl, B.rep.push _ s.toks (.set []) ?_, .push ..⟩; exact ⟨fun _ => false, (setObjOf_fresh led).setOf (Heap.get?_push_size _ rfl) (by decide), fun x => by simp, .nil⟩
theorem qh7 {a : Addr} {xs : List Str} {k : Str} (ha : H a = some (.set xs)) (hl : xs.length < 1000) (h : P .none (upd H a (.set (if k ∈ xs then xs else xs ++ [k])))) : qa7 c q d A fl (.builtin "set.add") [.ref a, .str k] [] H P X := by
 intro s ws kvs' B hv hk; obtain rfl := qa1 hk; obtain ⟨v, _, rfl, hv, u, _, rfl, ⟨t, rfl⟩, rfl⟩ := hv; obtain rfl := hv; obtain ⟨S, hS, hm, hnd⟩ := B.rep.at_ _ _ ha; refine call_set_add (knd := strKind c.prog c.w) (k := k) (beq_self_eq_true _) rfl hS (by have : scanBound = 4096 := rfl; exact lt_of_le_of_lt ‹_› (nl0_ rfl)) fun h' hs hS' => ?_; have kk : ∀ b o, b ≠ a -> s.heap.get? b = some o -> h'.get? b = some o := fun b o hb e => (hs.2 b hb).trans e; have or : OR c h' a (.set (if k ∈ xs then xs else xs ++ [k])) := by
   refine ⟨fun k' => S k' || decide (k' = k), ?_, ?_, ?_⟩
   . by_cases hk : k ∈ xs
     . rw [if_pos ((hm k).mpr hk)] at hS'; rw [if_pos hk]; exact hS'
     . have hn : S k = false := by cases hz : S k with | false => rfl | true => exact absurd ((hm k).mp hz) hk
       rw [hn] at hS'; rw [if_neg hk, length_append]; exact hS'
   . intro x; rw [Bool.or_eq_true, decide_eq_true_iff, hm]; by_cases hk : k ∈ xs
     . rw [if_pos hk]; exact ⟨fun z => z.elim id fun z => z ▸ hk, .inl⟩
     . rw [if_neg hk, mem_append, mem_singleton]
   . by_cases hk : k ∈ xs
     . rw [if_pos hk]; exact hnd
     . rw [if_neg hk, nodup_append]; exact ⟨hnd, by simp, fun x hx y hy => by rw [mem_singleton] at hy; subst hy; exact fun z => hk (z ▸ hx)⟩
 exact ⟨.none, _, h, rfl, B.rep.put (t := s.toks + 1) ha kk or, .put ha kk or⟩
theorem qrh {a : Addr} {xs : List Str} {k : Str} (ha : H a = some (.set xs)) (h : P (.bool (xs.contains k)) H) : awO c q d A fl (fun vs => compareOp .In (vs.getD 0 .none) (vs.getD 1 .none)) [.str k, .ref a] H P X := by
 intro s ws B hv; obtain ⟨u, _, rfl, ⟨t, rfl⟩, v, _, rfl, hv, rfl⟩ := hv; obtain rfl := hv; obtain ⟨S, hS, hm, hnd⟩ := B.rep.at_ _ _ ha; have e : S k = xs.contains k := by rw [Bool.eq_iff_iff, hm, contains_iff_mem]
 refine wpAny_inSet_of (knd := strKind c.prog c.w) (k := k) (beq_self_eq_true _) rfl hS ?_; (refine (Eq.symm e) ▸ ?_); exact .tok (x := .bool _) B.rep rfl h
theorem qnu {a : Addr} {x : Str} {ys : List Str} (ha : H a = some (.list (ys.map V.str))) (hok : JoinOk x ys = true) (h : P (.str (Txt.join x ys)) H) : qa7 c q d A fl (.builtin "str.join") [.str x, .ref a] [] H P X := by
 intro s ws kvs' B hv hk; obtain rfl := qa1 hk; obtain ⟨u, _, rfl, ⟨t, rfl⟩, v, _, rfl, hv, rfl⟩ := hv; obtain rfl := hv; obtain ⟨items, n, e, hr⟩ := B.rep.at_ _ _ ha; have key : ∀ {ys : List Str} {vs : List Value}, VRs s.heap (ys.map V.str) vs -> ∃ l : List (Str × Tok), vs = strValues l ∧ l.map (·.1) = ys := by
   intro ys
   induction ys with
   | nil => intro vs h; obtain rfl := h; exact ⟨[], rfl, rfl⟩
   | cons y ys ih =>
     intro vs h; obtain ⟨v, vs, rfl, ⟨t, rfl⟩, hr⟩ := h; obtain ⟨l, h1, h2⟩ := ih hr; exact ⟨(y, t) :: l, by (refine (Eq.symm h1) ▸ ?_); rfl, by simp [h2]⟩
 obtain ⟨l, h1, h2⟩ := key hr; refine SC.join (l := l) (texts := ys) ⟨_, e, rfl, n, by rw [← h1, Array.toArray_toList]⟩ h2 hok fun t' k => .tok (x := .str _) B.rep ⟨_, rfl⟩ h
end
section
variable {prog : Program} {w : World} {A : Around} {E : Value -> Shared -> Prop} {s : Shared} {env : Env}
theorem qgj {value : Expr} {lower upper : Option Expr} {p pos : Pos} {T id : String} {Q : Value -> Shared -> Prop}
   (hl : typeLookup (.type T) "__getitem__" = pure (some (.builtin id)))
   (h : wpAny (model prog w) A (eval value env) (fun o sJ => wpAny (model prog w) A (eval (.Slice lower upper none p) env) (fun i sW => sW.TypeIs o T ∧ wpAny (model prog w) A (getItem o i) Q E sW) E sJ) E s) :
   wpAny (model prog w) A (eval (.Subscript value (.Slice lower upper none p) pos) env) Q E s := by
 rw [eval_Subscript]; refine wpAny_bind (wpAny_mono h (fun o sJ h₁ => wpAny_bind (wpAny_holding (wpAny_mono h₁ (fun i sW hW => wpAny_bind (wpAny_standAt ?_)) fun _ _ x => x)))
   fun _ _ x => x)
 have fin : wpAny (model prog w) A (operate [i, o] (getItem o i)) (fun r sY => wpAny (model prog w) A (letTemporaryGo value o r >>= fun _ => pure r) Q E sY) E sW :=
   wpAny_operating (wpAny_mono hW.2 (fun r sY h₃ => wpAny_bind (wpAny_letTemporaryGo (wpAny_pure h₃))) fun _ _ x => x)
 first
   | (refine wpAny_bind ?_
      rw [getitemInPython_of_ne hW.1.not_modules]; refine wpAny_bind (wpAny_specialOf hW.1 hl ?_)
      first
        | exact wpAny_pure (wpAny_bind fin)
        | exact wpAny_bind (wpAny_pure (wpAny_bind fin))
        | exact wpAny_bind fin)
   | (refine wpAny_bind (wpAny_specialOf hW.1 hl ?_)
      first
        | exact wpAny_bind (wpAny_pure (wpAny_bind fin))
        | exact wpAny_bind fin)
end
theorem VRs.take {h : Heap} : ∀ {xs : List V} {vs : List Value} (n : Nat), VRs h xs vs -> VRs h (xs.take n) (vs.take n) := by
 intro xs
 induction xs with
 | nil => intro vs n e; obtain rfl := e; cases n <;> rfl
 | cons x xs ih =>
   intro vs n e; obtain ⟨y, ys, rfl, a, b⟩ := e; cases n with
   | zero => rfl
   | succ n => exact ⟨y, _, rfl, a, ih n b⟩
theorem VRs.drop {h : Heap} : ∀ {xs : List V} {vs : List Value} (n : Nat), VRs h xs vs -> VRs h (xs.drop n) (vs.drop n) := by
 intro xs
 induction xs with
 | nil => intro vs n e; obtain rfl := e; cases n <;> rfl
 | cons x xs ih =>
   intro vs n e; obtain ⟨y, ys, rfl, a, b⟩ := e; cases n with
   | zero => exact ⟨y, ys, rfl, a, b⟩
   | succ n => exact ih n b
inductive qf3 : V -> Option Nat -> Prop
 | none : qf3 .none none
 | int (n : Nat) : qf3 (.int n) (some n)
theorem qf3.part {h : Heap} {x : V} {lo : Option Nat} {v : Value} (hp : qf3 x lo) (hv : VR h x v) : IsPart v (lo.map fun n => (n : Int)) := by
 cases hp with
 | none => obtain rfl := hv; exact .none
 | int n => obtain ⟨t, rfl⟩ := hv; exact .int _ _
def sliceV {α : Type} (l : List α) (lo hi : Option Nat) : List α := (match hi with | none => l | some b => l.take b).drop (lo.getD 0)
theorem ql2 (items : Array Value) (lo hi : Option Nat) : (slicePick items (lo.map fun n => (n : Int)) (hi.map fun n => (n : Int)) none).toList = sliceV items.toList lo hi := by
 rw [slicePick_plain]; obtain ⟨l⟩ := items; have hl : ∀ a b : Nat, (l.drop (min a l.length)).take (min b l.length - min a l.length) = (l.take b).drop a := by
   intro a b; rw [List.drop_take]; rcases Nat.le_total a l.length with h | h
   . rw [Nat.min_eq_left h]; rcases Nat.le_total b l.length with h' | h'
     . rw [Nat.min_eq_left h']
     . rw [Nat.min_eq_right h', List.take_of_length_le (by simp), List.take_of_length_le (by simp; lia)]
   . rw [Nat.min_eq_right h, List.drop_of_length_le (le_refl _), List.drop_of_length_le h]; simp
 cases lo with
 | none =>
   cases hi with
   | none => show ((l.drop 0).take (l.length - 0)) = l.drop 0; simp
   | some b => show ((l.drop 0).take (clipAt l.length (b : Int) - 0)) = (l.take b).drop 0; rw [clipAt_nat]; have := hl 0 b; rwa [Nat.zero_min] at this
 | some a =>
   cases hi with
   | none => show ((l.drop (clipAt l.length (a : Int))).take (l.length - clipAt l.length (a : Int))) = l.drop a; rw [clipAt_nat]; have := hl a l.length; rwa [Nat.min_self, List.take_length] at this
   | some b => show ((l.drop (clipAt l.length (a : Int))).take (clipAt l.length (b : Int) - clipAt l.length (a : Int))) = (l.take b).drop a; rw [clipAt_nat, clipAt_nat]; exact hl a b
section
variable {c : Cx} {q : Md} {d : Nat} {A : Around} {env : Env} {m : Map} {H : AH} {P : V -> AH -> Prop} {X : Exc -> AH -> Prop} {pos : Pos} {fl : Option Addr} {K : Frag} {p : Program} {loose : List Str} {mg mb : Str -> Option Value}
def qc3 (c : Cx) (q : Md) (d : Nat) (A : Around) (env : Env) (o : Option Expr) (m : Map) (H : AH) (P : V -> AH -> Prop) (X : Exc -> AH -> Prop) : Prop :=
 match o with
 | none => P .none H
 | some e => awE c q d A env e m H P X
theorem qc3.ok {o : Option Expr} (h : qc3 c q d A env o m H P X) {s : Shared} (F : FRep c q d A env m H s) : awT c A env.frame (evalPart o env) H P X s := by
 cases o with
 | none => exact wpAny_pure ⟨.none, H, h, rfl, F.rep, .refl _ _⟩
 | some e => exact h s F
theorem ql8 {value : Expr} {lower upper : Option Expr} {pp : Pos}
   (h : awE c q d A env value m H (fun x HJ => qc3 c q d A env lower m HJ (fun y HW => qc3 c q d A env upper m HW (fun z HY => ∃ a vs lo hi, x = .ref a ∧ HY a = some (.list vs) ∧ vs.length ≤ 100000 ∧ qf3 y lo ∧ qf3 z hi ∧
     ∀ n, HY n = none -> P (.ref n) (upd HY n (.list (sliceV vs lo hi)))) X) X) X) : awE c q d A env (.Subscript value (.Slice lower upper none pp) pos) m H P X := by
 intro s F; refine qgj (T := "list") list_getitem_lookup (qaj h F (fun x HJ sJ v hp F₁ hv S => ?_) fun _ _ o => o); refine wpAny_Slice (wpAny_mono (hp.ok F₁) (fun vl sW hvl => ?_) fun _ _ o => o.from S); obtain ⟨y, HW, hpW, hy, RW, SW⟩ := hvl; have FW := F₁.step RW SW; refine wpAny_mono (hpW.ok FW) (fun vu sY hvu => ?_) fun _ _ o => o.from (S.trans SW); obtain ⟨z, HY, ⟨a, vs, lo, hi, rfl, ha, hl, hlo, hhi, hpY⟩, hz, RY, SY⟩ := hvu; obtain rfl := hv; obtain ⟨items, n, e, hr⟩ := RY.at_ _ _ ha; have hs1 : items.size = vs.length := by rw [← Array.length_toList]; exact hr.length.symm
 have hL : sY.heap.IsList a items := ⟨_, e, rfl, n, rfl⟩; have hy' := hy.mono (RW.tk SY); rw [evalPart_none]; refine wpAny_pure ⟨(hL.push _).typeIs, wpAny_getItem_list_slice (hL.push _) (Heap.IsSliceOf.new ..) (hlo.part hy') (hhi.part hz) .none (by decide) ?_ (by (refine (Eq.symm hs1) ▸ ?_); exact qdr hl)⟩; have RV := RY.push0 { cls := .type "slice", data := .fields #[vl, vu, .none] } sY.toks; have SV := Step.push0 HY sY { cls := .type "slice", data := .fields #[vl, vu, .none] } sY.toks; have tkV := RY.tk SV; refine OutE.from (S.trans (SW.trans (SY.trans SV))) ?_; exact OutE.newList (s := { sY with heap := sY.heap.push { cls := .type "slice", data := .fields #[vl, vu, .none] }, toks := sY.toks }) (t := sY.toks) RV (by rw [ql2]; unfold sliceV; cases hi <;> first | exact (hr.mono tkV).drop _ | exact ((hr.mono tkV).take _).drop _) hpY
theorem qg8 (l : Addr) (items : Array Value) (hfit : (items.size : Int) < 2 ^ 63) : Meets (Builtin.«bool.__new__» ⟨[.type "bool", .ref l], []⟩) (fun _ R s => s.heap.IsList l items ∧ R (.ok (.ret (.bool (!items.isEmpty)))) { s with toks := s.toks + 1 + 1 }) :=
 Meets.of_wp fun prog w A R s hs => by
   obtain ⟨hp, g, d, tk, os⟩ := s; obtain ⟨hl, hs⟩ := hs; have f1 := PySem.F.conv_sub_bool
   repeat (any_goals (first | assumption | (with_reducible refine wpAny_truthy_list hl hfit ?_) | wp_step))
   all_goals first | exact ⟨_, rfl, hs⟩ | exact hs | skip
theorem qkj {a : Addr} {vs : List V} (ha : H a = some (.list vs)) (hl : vs.length ≤ 100000) (h : P (.bool (!vs.isEmpty)) H) : qa7 c q d A fl (.type "bool") [.ref a] [] H P X := by
 intro s ws kvs B hv hk; obtain rfl := qa1 hk; obtain ⟨v, _, rfl, hv, rfl⟩ := hv; obtain rfl := hv; obtain ⟨items, n, e, hr⟩ := B.rep.at_ _ _ ha; have hs1 : items.size = vs.length := by rw [← Array.length_toList]; exact hr.length.symm
 refine call_bool_1 (qg8 a items (by lia)) ⟨⟨_, e, rfl, n, rfl⟩, ?_⟩; have : (!items.isEmpty) = !vs.isEmpty := by
   congr 1; rw [Bool.eq_iff_iff, List.isEmpty_iff, Array.isEmpty_iff, ← List.length_eq_zero_iff, ← Array.size_eq_zero_iff, hs1]
 (refine (Eq.symm this) ▸ ?_); exact ⟨rfl, .tok (x := .bool _) B.rep rfl h⟩
theorem qqj {a : Addr} {vs : List V} {x : V} (ha : H a = some (.list (vs ++ [x]))) (hl : vs.length < 100000) (h : P x H) : awO c q d A fl (fun vs => getItem (vs.getD 0 .none) (vs.getD 1 .none)) [.ref a, .int (-1)] H P X := by
 intro s ws B hv; obtain ⟨v, _, rfl, hv, u, _, rfl, ⟨t, rfl⟩, rfl⟩ := hv; obtain rfl := hv; obtain ⟨items, n, e, hr⟩ := B.rep.at_ _ _ ha; have hs1 : items.size = vs.length + 1 := by rw [← Array.length_toList, ← hr.length]; simp
 obtain ⟨v, hv1, hv2⟩ := hr.get (i := vs.length) (x := x) (by simp); refine wpAny_getItem_list_neg (items := items) ⟨_, e, rfl, n, rfl⟩ (by decide) (by lia) (by decide) ?_ (.here B.rep hv2 h); rw [show ((-1 : Int) + items.size).toNat = vs.length by lia, ← Array.getElem?_toList]; exact hv1
end
section
variable {c : Cx} {q : Md} {d : Nat} {A : Around} {env : Env} {m : Map} {H : AH} {pos : Pos} {fl : Option Addr} {K : Frag} {p : Program} {loose : List Str} {mg mb : Str -> Option Value} {P : Fl -> Map -> AH -> Prop} {X : Exc -> Map -> AH -> Prop}
theorem qft {y : Str} {e : Expr} {a b : List Stmt} {pJ pW pY pV : Pos} {kn : Nat} (hy : qan env y)
   (h : awE c q d A env e m H (fun x HJ => ∃ z, qsc x = some z ∧ if z then awSs c q d A env a (set m y x) HJ P X else awSs c q d A env b (set m y x) HJ P X) fun k H' => X k m H') :
   awS c q d A env (.If (.Compare (.NamedExpr (.Name y pJ) e pW) [.Is] [.Constant .none kn pY] pV) a b pos) m H P X := by
 intro s S; refine wpAny_If (wpAny_isTrue_Compare1 (wpAny_NamedExpr (qaj h S.toFRep (fun x HJ sJ v hp F₁ hv xJ => ?_) fun _ _ o => o.toS S.toFRep)) rfl); obtain ⟨z, hz, hp⟩ := hp; refine wpAny_assign_Name (wpAny_mono (qcp F₁.rep F₁.fr hv hy) (fun _ sW ⟨RW, FW, xW, hkeep⟩ => ?_) fun _ _ o => o); have SW := S.stepF RW FW (xJ.toF.trans xW); have hvW : VR sW.heap x v := hv.mono (F₁.fr.tk F₁.rep xW); have hc := qad (c := c) (q := q) (d := d) (A := A) (env := env) (m := set m y x) (H := HJ) (pos := pY) (P := fun z H' => z = .none ∧ H' = HJ) (X := fun _ _ => False) (k := .none) (n := kn) (v := .none) rfl ⟨rfl, rfl⟩; refine wpAny_mono (hc sW SW.toFRep) (fun u sY ho => ?_) fun _ _ ⟨_, _, f, _, _, _⟩ => f.elim; obtain ⟨zY, HY, ⟨rfl, rfl⟩, hu, RY, xY⟩ := ho; have SY := SW.step RY xY; have hn := qic (c := c) (q := q) (d := d) (A := A) (H := HY) (fl := env.frame) (P := fun w H' => w = .bool z ∧ H' = HY) (X := fun _ _ => False) hz ⟨rfl, rfl⟩; refine wpAny_mono (hn sY [v, u] SY.toBRep ⟨v, [u], rfl, hvW.mono (RW.tk xY), u, [], rfl, hu, rfl⟩) (fun w sV ho => ?_) fun _ _ ⟨_, _, f, _, _, _⟩ => f.elim; obtain ⟨zV, HV, ⟨rfl, rfl⟩, hw, RV, xV⟩ := ho; obtain rfl := hw; have SV := SY.step RV xV; have x := (xJ.toF.trans xW).trans (xY.toF.trans xV.toF)
 refine wpAny_truthy_bool ?_; cases z
 . exact wpAny_mono (hp sV SV) (fun _ _ => OutS.from x) fun _ _ => qbp.from x
 . exact wpAny_mono (hp sV SV) (fun _ _ => OutS.from x) fun _ _ => qbp.from x
theorem qkb {yJ yW : Str} {pJ pW : Pos} {e : Expr} (h1 : qan env yJ) (h2 : qan env yW) (he : (assignEach [.Name yJ pJ, .Name yW pW] env).map (·.2) = [assign (.Name yJ pJ) env, assign (.Name yW pW) env]) (hw : swappedStores [.Name yJ pJ, .Name yW pW] e env = pure none)
   (h : awE c q d A env e m H (fun x HJ => P .next (set (set m yJ x) yW x) HJ) fun k H' => X k m H') : awS c q d A env (.Assign [.Name yJ pJ, .Name yW pW] e pos) m H P X := by
 intro s S; refine wpAny_Assign_two (qaj h S.toFRep (fun x HJ sJ v hp F₁ hv xJ => ?_) fun _ _ o => o.toS S.toFRep) he hw; refine wpAny_assign_Name (wpAny_mono (qcp F₁.rep F₁.fr hv h1) (fun _ sW ⟨RW, FW, xW, _⟩ => ?_) fun _ _ o => o); refine wpAny_assign_Name (wpAny_mono (qcp RW FW (hv.mono (F₁.fr.tk F₁.rep xW)) h2) (fun _ sY zp0 => ?_) fun _ _ o => o); obtain ⟨RY, FY, xY, _⟩ := zp0; exact ⟨.next, _, HJ, hp, rfl, RY, FY, (xJ.toF.trans xW).trans xY⟩
theorem qfe {y : Str} {o i e : Expr} {pJ pW : Pos} (hy : qan env y) (he : (assignEach [.Subscript o i pJ, .Name y pW] env).map (·.2) = [assign (.Subscript o i pJ) env, assign (.Name y pW) env]) (hw : swappedStores [.Subscript o i pJ, .Name y pW] e env = pure none)
   (h : awE c q d A env e m H (fun x HJ => awE c q d A env o m HJ (fun z HW => awE c q d A env i m HW (fun u HY => ∃ a kvs ep k, z = .ref a ∧ u = .str k ∧ HY a = some (.dict kvs ep) ∧ kvs.length ≤ 1000 ∧ ∀ ep', P .next (set m y x) (upd HY a (.dict (putD kvs k x) ep'))) fun k H' => X k m H') fun k H' => X k m H') fun k H' => X k m H') :
   awS c q d A env (.Assign [.Subscript o i pJ, .Name y pW] e pos) m H P X := by
 intro s S; refine wpAny_Assign_two (qaj h S.toFRep (fun x HJ sJ vJ hp F₁ hvJ stJ => ?_) fun _ _ o => o.toS S.toFRep) he hw; rw [qd6]; refine wpAny_bind (wpAny_holding (qaj hp F₁ (fun y' HW sW vW hpW FW hvW st₂ => ?_) fun _ _ o => (OutX.from stJ o).toS S.toFRep)); refine wpAny_bind (wpAny_holding (qaj hpW FW (fun z HY sY vY hpY FY hvY stY => ?_) fun _ _ o => (OutX.from (stJ.trans st₂) o).toS S.toFRep)); obtain ⟨a, kvs, ep, k, rfl, rfl, ha, hl, hP⟩ := hpY; have stJWY := (stJ.trans st₂).trans stY; obtain rfl := hvW; obtain ⟨t, rfl⟩ := hvY; have hvJ' := (hvJ.mono (F₁.rep.tk st₂)).mono (FW.rep.tk stY); refine wpAny_bind (wpAny_standAt (wpAny_bind (wpAny_holding (wpAny_mono (qfy (E := qbp c env H s X) FY.toBRep ha hl hvJ') (fun _ sV zp0 => ?_) fun _ _ e => e)))); obtain ⟨ep', RV, stV⟩ := zp0; have FV := FY.step RV stV; have fin : wpAny c.M A (assign (.Name y pW) env vJ) (fun _ s' => OutS c env H s P .next s') (qbp c env H s X) sV :=
   wpAny_assign_Name (wpAny_mono (qcp RV FV.fr (hvJ'.mono (FY.rep.tk stV)) hy) (fun _ sZ zp0 => by obtain ⟨RZ, FZ, xZ, _⟩ := zp0; exact ⟨.next, _, _, hP ep', rfl, RZ, FZ, ((stJWY.trans stV).toF).trans xZ⟩) fun _ _ o => o)
 exact wpAny_release fin
theorem qjl {h : Heap} {k : Str} : ∀ {kvs : List (Str × V)} {ys : List (Str × Value)}, ys.map (·.1) = kvs.map (·.1) -> VRs h (kvs.map (·.2)) (ys.map (·.2)) →
   (without ys k).map (·.1) = (kvs.filter fun kv => decide (kv.1 ≠ k)).map (·.1) ∧ VRs h ((kvs.filter fun kv => decide (kv.1 ≠ k)).map (·.2)) ((without ys k).map (·.2)) := by
 intro kvs
 induction kvs with
 | nil =>
   intro ys h _; cases ys with
   | nil => exact ⟨rfl, rfl⟩
   | cons _ _ => exact nomatch h
 | cons pz kvs ih =>
   obtain ⟨n, x⟩ := pz; intro ys h1 h2; cases ys with
   | nil => exact nomatch h1
   | cons pz ys =>
     obtain ⟨n', v⟩ := pz; obtain ⟨h0, g1⟩ := List.cons.inj h1; obtain rfl : n' = n := h0; obtain ⟨y, ys', he, a, b⟩ := h2; obtain ⟨h3, h4⟩ := List.cons.inj he; obtain rfl : v = y := h3; obtain ⟨i1, i2⟩ := ih g1 (h4.symm ▸ b); unfold without at i1 i2 ⊢; by_cases hk : n' = k
     . rw [List.filter_cons_of_neg (by simpa using hk), List.filter_cons_of_neg (by simpa using hk)]; exact ⟨i1, i2⟩
     . rw [List.filter_cons_of_pos (by simpa using hk), List.filter_cons_of_pos (by simpa using hk)]; exact ⟨by rw [map_cons, map_cons, i1], _, _, rfl, a, i2⟩
theorem qke {o i : Expr} {pJ : Pos}
   (h : awE c q d A env o m H (fun z HW => awE c q d A env i m HW (fun u HY => ∃ a kvs ep k, z = .ref a ∧ u = .str k ∧ HY a = some (.dict kvs ep) ∧ kvs.length ≤ 1000 ∧ (kvs.lookup k).isSome = true ∧ ∀ ep', P .next m (upd HY a (.dict (kvs.filter fun kv => decide (kv.1 ≠ k)) ep'))) fun k H' => X k m H') fun k H' => X k m H') :
   awS c q d A env (.Delete [.Subscript o i pJ] pos) m H P X := by
 intro s S; refine wpAny_Delete (wpAny_deleteEach_cons (delete_Subscript (qaj h S.toFRep (fun y' HW sW vW hpW FW hvW st₂ => ?_) fun _ _ o => o.toS S.toFRep))); refine qaj hpW FW (fun z HY sY vY hpY FY hvY stY => ?_) fun _ _ o => (OutX.from st₂ o).toS S.toFRep; obtain ⟨a, kvs, ep, k, rfl, rfl, ha, hl, hin, hP⟩ := hpY; obtain rfl := hvW; obtain ⟨t, rfl⟩ := hvY; obtain ⟨ys, hD, hk, hr, hsm⟩ := FY.rep.at_ _ _ ha; have hlen : ys.length = kvs.length := by simpa using congrArg List.length hk
 have hv := qee (k := k) hk hr; obtain ⟨x, hx⟩ := Option.isSome_iff_exists.mp hin; rw [hx] at hv; obtain ⟨v, hv1, _⟩ := hv; refine wpAny_delItem_slot hD.dictOf.typeIs (by decide) PySem.F.slot_dict_delitem
   (call_meetsIn PySem.F.slot_dict_delitem hD.dictOf.typeIs PySem.F.entry_dict_delitem (PySem.F.args_dict_delitem_2 _ _) (meets_dict_delitem_pairs (strKind c.prog c.w) (k := k) a (beq_self_eq_true _)) ⟨ys, hD.dictOf, (by rw [hlen]; exact le_trans hl (by decide)), by rw [hv1]; rfl, fun h' hmm hs => ?_⟩)
 obtain ⟨ep', hD'⟩ := hmm.dictAt; have kk : ∀ b o, b ≠ a -> sY.heap.get? b = some o -> h'.get? b = some o := fun b o hb e => (hs.2 b hb).trans e; obtain ⟨o, es, e, hx', _⟩ := id hD; have tk : TK sY.heap h' := fun b o' e1 hc hd => kk b o' (fun z => by subst z; rw [e] at e1; obtain rfl := sj0_ e1; rw [hx'.1] at hc; exact nomatch hc) e1; obtain ⟨r1, r2⟩ := qjl (k := k) hk hr; have or : OR c h' a (.dict (kvs.filter fun kv => decide (kv.1 ≠ k)) ep') := ⟨_, hD', r1, r2.mono tk, hsm⟩; have RV := FY.rep.put (t := sY.toks + 1) ha kk or; have stV := Step.put (s := sY) (t := sY.toks + 1) ha kk or; exact wpAny_deleteEach_nil ⟨.next, m, _, hP ep', rfl, RV, (FY.step RV stV).fr, ((st₂.trans stY).trans stV).toF⟩
end
section
open PySem
section
theorem qh9 : entryFor table "proto.unchain" = some Builtin.«proto.unchain» := entryFor_of_fast (by kernel_rfl)
section
variable {α : Type} {prog : Program} {w : World} {A : Around} {E : Value -> Shared -> Prop} {s : Shared} {a : Addr} {ob : Obj} {vs : Array Value}
theorem qil {e : Addr} {oe : Obj} {ve : Array Value} {Q : α -> Shared -> Prop} (hh : A.handled = some (.ref a)) (ho : s.heap.get? a = some ob) (hd : ob.data = .fields vs) (h2 : vs[2]? = some .none) (hne : a ≠ e) (he : s.heap.get? e = some oe) (hde : oe.data = .fields ve) (hsz : 2 < ve.size)
   (h : E (.ref e) { s with heap := s.heap.update e (Obj.mapFields (·.setIfInBounds 2 (.ref a))) }) : wpAny (model prog w) A (raiseNew (.ref e) : Sem α) Q E s := by
 unfold raiseNew; refine wpAny_bind (wpAny_handled ?_); (refine (Eq.symm hh) ▸ ?_); dsimp only; rw [if_pos (show (Value.ref a != Value.ref e) = true from by rw [bne_iff_ne]; intro z; exact hne (Value.ref.inj z))]; have hu : wpAny (model prog w) A (updateField e 2 (.ref a)) (fun _ s' => wpAny (model prog w) A (throw (.ref e) : Sem α) Q E s') E s := by
   unfold updateField; refine wpAny_bind (wpAny_load he ?_); (refine (Eq.symm hde) ▸ ?_); dsimp only; rw [if_pos hsz]; exact wpAny_update he (wpAny_throw h)
 have hr : wpAny (model prog w) A (holding [.ref e] (runValue (.builtin "proto.unchain" ⟨[.ref e, .ref a, .ref a, .bool false], []⟩))) (fun _ s' => s' = s) E s := by
   refine wpAny_holding (wpAny_runValue (codeAny_builtin qh9 ?_)); unfold Builtin.«proto.unchain»; refine wpAny_bind (wpAny_field ho hd h2 ?_); rw [if_pos (show (Value.none == Value.none) = true from rfl)]; exact wpAny_pure rfl
 first
   | exact wpAny_bind (wpAny_bind (wpAny_mono hr (fun _ s' z => by subst z; exact hu) fun _ _ z => z))
   | exact wpAny_bind (wpAny_mono hr (fun _ s' z => by subst z; exact wpAny_bind hu) fun _ _ z => z)
theorem qce {cls msg : String} {Q : α -> Shared -> Prop} (hp : PlainExc cls) (hh : A.handled = some (.ref a)) (ho : s.heap.get? a = some ob) (hd : ob.data = .fields vs) (h2 : vs[2]? = some .none)
   (h : ∀ h' tk e, Heap.NewExcOf s.heap h' e cls -> E (.ref e) { s with heap := h', toks := tk }) :
   wpAny (model prog w) A (raiseErrorWords cls msg : Sem α) Q E s := by
 unfold raiseErrorWords; refine wpAny_bind (wpAny_mkText (wpAny_bind ?_)); unfold newExc newTuple; refine wpAny_bind (wpAny_newObj_type ?_); refine wpAny_bind (m := firstArgMember _ _) (wpAny_of_eq (a := Value.none) (by simp only [firstArgMember, hp.first]; rfl) ?_); rw [hp.own]; refine wpAny_newObj_type ?_; have hlt := Heap.lt_size ho; refine qil hh (Heap.get?_push_of_some _ (Heap.get?_push_of_some _ ho)) hd h2 (ne_of_lt (by rw [Heap.size_push]; exact Nat.lt_succ_of_lt hlt)) (Heap.get?_push_size _ rfl) rfl (nl0_ rfl) ?_; refine h _ _ _ ⟨fun b o hb => ?_, Heap.get?_none_of_le (by simp), _, _, Heap.get?_update_self _ (Heap.get?_push_size _ rfl) rfl, rfl, rfl, by rfl⟩; have hlb := Heap.lt_size hb; rw [Heap.get?_update_other _ _ (ne_of_gt (by rw [Heap.size_push]; exact Nat.lt_succ_of_lt hlb))]; exact Heap.get?_push_of_some _ (Heap.get?_push_of_some _ hb)
theorem qf6 {l : Addr} {items : Array Value} {k : Int} {t : Tok} {Q : Value -> Shared -> Prop} (hh : A.handled = some (.ref a)) (hoa : s.heap.get? a = some ob) (hda : ob.data = .fields vs) (h2 : vs[2]? = some .none) (hl : s.heap.IsList l items)
   (h0 : 0 ≤ k) (hout : (items.size : Int) ≤ k) (hhi : k < 2 ^ 63)
   (hE : ∀ h' tk e, Heap.NewExcOf s.heap h' e "IndexError" -> E (.ref e) { s with heap := h', toks := tk }) :
   wpAny (model prog w) A (getItem (.ref l) (.int k t)) Q E s := by
 obtain ⟨o, ho, hc, ne, hd⟩ := id hl; have hfit : Builtin.List.listFitsIndex k = true := fitsIndex_both (by lia) hhi; unfold getItem
 try with_reducible refine wpAny_holding ?_
 first | refine wpAny_bind (wpAny_pure ?_) | skip
 refine wpAny_bind (wpAny_sequenceKey hl.typeIs (by decide) ?_); refine wpAny_bind (wpAny_callSpecial?_slot (name := Str.ofString "__getitem__") hl.typeIs slot_list_getitem
   (wpAny_call_entry slot_list_getitem hl.typeIs entry_list_getitem ?_ (args_list_getitem _ _)))
 show wpAny _ _ (Builtin.List.listSubscript? (.int k t) >>= _) _ _ s; refine wpAny_bind (wpAny_listSubscript_int hfit ?_); clear hfit hhi; cases k with
 | negSucc j => exact absurd h0 (by have := Int.negSucc_lt_zero j; lia)
 | ofNat j =>
   have hx : items[j]? = none := Array.getElem?_eq_none (by have : (items.size : Int) ≤ (j : Int) := hout; lia); show wpAny _ _ ((seqItemAt l j >>= fun r => pure (r.map (j, ·))) >>= _) _ _ s; refine wpAny_bind (wpAny_bind (wpAny_seqItemAt ho hd (wpAny_pure ?_))); (refine (Eq.symm hx) ▸ ?_); have hh' : A.in1.handled = some (.ref a) := hh
   first
     | exact wpAny_bind (wpAny_rule (qce plainExc_IndexError hh' hoa hda h2 hE))
     | exact wpAny_bind (wpAny_rule (wpAny_bind (qce plainExc_IndexError hh' hoa hda h2 hE)))
     | exact wpAny_bind (wpAny_bind (wpAny_rule (qce plainExc_IndexError hh' hoa hda h2 hE)))
     | exact wpAny_rule (qce plainExc_IndexError hh' hoa hda h2 hE)
end
end
section
section
variable {c : Cx} {q : Md} {d : Nat} {A : Around} {env : Env} {m : Map} {H : AH} {P : V -> AH -> Prop} {X : Exc -> AH -> Prop} {pos : Pos} {fl : Option Addr} {K : Frag} {p : Program} {loose : List Str} {mg mb : Str -> Option Value}
theorem OutX.newExc {s : Shared} {h' : Heap} {tk : Nat} {e : Addr} {cls : String} (R : Rep c H s) (hx : Heap.NewExc s.heap h' e cls) (hi : qb0 (.type cls) = false) (h : X (.b cls) H) : OutX c fl H s X (.ref e) { s with heap := h', toks := tk } := by
 obtain ⟨ob, t, e1, e2, e3⟩ := hx.there; exact ⟨.b cls, H, h, ⟨e, ob, _, .none, rfl, hx.new, R.fresh hx.new, e1, ⟨e2, hi, fun _ => rfl⟩, e3, rfl, .inl rfl⟩, R.silent (s' := { s with heap := h', toks := tk }) hx.keeps rfl rfl, .silent hx.keeps⟩
theorem OutX.newExcOf {s : Shared} {h' : Heap} {tk : Nat} {e : Addr} {cls : String} (R : Rep c H s) (hx : Heap.NewExcOf s.heap h' e cls) (hi : qb0 (.type cls) = false) (h : X (.ch cls) H) : OutX c fl H s X (.ref e) { s with heap := h', toks := tk } := by
 obtain ⟨ob, vs, e1, e2, e3, e4⟩ := hx.there; exact ⟨.ch cls, H, h, ⟨e, ob, vs, .none, rfl, hx.new, R.fresh hx.new, e1, ⟨e2, hi, (fun z => by cases z)⟩, e3, e4, .inl rfl⟩, R.silent (s' := { s with heap := h', toks := tk }) hx.keeps rfl rfl, .silent hx.keeps⟩
theorem qr1 {a : Addr} {vs : List V} {i : Nat} (hq : q ≠ .loose) (ha : H a = some (.list vs)) (hi : vs.length ≤ i) (hi' : i < 100000) (h : X (match q with | .quiet => .b "IndexError" | _ => .ch "IndexError") H) : awO c q d A fl (fun vs => getItem (vs.getD 0 .none) (vs.getD 1 .none)) [.ref a, .int i] H P X := by
 intro s ws B hv; obtain ⟨v, _, rfl, hv, u, _, rfl, ⟨t, rfl⟩, rfl⟩ := hv; obtain rfl := hv; obtain ⟨items, n, e, hr⟩ := B.rep.at_ _ _ ha; have hs1 : items.size = vs.length := by rw [← Array.length_toList]; exact hr.length.symm
 cases q with
 | loose => exact absurd rfl hq
 | quiet => exact wpAny_getItem_list_out (B.ok.quiet rfl) (items := items) ⟨_, e, rfl, n, rfl⟩ (.inr (by lia)) (by lia) (by lia) fun h' tk ex hx => OutX.newExc B.rep hx rfl h
 | held =>
   obtain ⟨b, ob, ve, h1, h2, h3, h4, h5⟩ := B.ok.hnd rfl; exact qf6 h1 h3 h4 h5 (items := items) ⟨_, e, rfl, n, rfl⟩ (by lia) (by lia) (by lia) fun h' tk ex hx => OutX.newExcOf B.rep hx rfl h
end
end
end
inductive ExcN (h₀ : Heap) (H : AH) (h : Heap) (k : Exc) (e : Addr) : Prop
 | mk (ob : Obj) (vs : Array Value) (T : Addr) (oT : Obj) (ts : Array Value) (b : h₀.get? e = none) (c : H e = none) (d : h.get? e = some ob) (f : ob.cls = k.cls ∧ qb0 k.cls = false ∧ (k.plain = true -> vs[2]? = some .none)) (g : ob.data = .fields vs) (i : vs[1]? = some (.ref T)) (j : T ≠ e) (l : h₀.get? T = none) (n : H T = none) (o : h.get? T = some oT) (p : qb0 oT.cls = false ∧ oT.data = .fields ts) (q : 3 < ts.size)
inductive OutN (c : Cx) (env : Env) (H : AH) (s : Shared) (X : Exc -> Map -> AH -> Prop) (e : Addr) (s' : Shared) : Prop
 | mk (k : Exc) (m' : Map) (H' : AH) (a : X k m' H') (b : ExcN s.heap H' s'.heap k e) (r : Rep c H' s') (F : qaz c env m' H' s'.heap) (z : qbx env H s H' s')
section
variable {c : Cx} {q : Md} {d : Nat} {A A' : Around} {env : Env} {m : Map} {H : AH} {X : Exc -> Map -> AH -> Prop}
theorem SRep.mark {s : Shared} {md : Md} {e : Addr} (S : SRep c q d A env m H s) (h1 : md ≠ .quiet) (h2 : md = .held -> H e = none ∧ ∃ ob vs, s.heap.get? e = some ob ∧ ob.data = .fields vs ∧ vs[2]? = some .none) : SRep c md d (A.mark (some (.ref e))) env m H s := by
 refine hide fun Pz bkz => ?_; obtain ⟨⟨⟨R, O⟩, F⟩, f, t⟩ := S; refine bkz ?_; refine ⟨⟨⟨R, ⟨O.depth, O.units, fun z => absurd z h1, fun z => ?_, O.stack⟩⟩, F⟩, f, t⟩; refine hide fun Pz bkz => ?_; obtain ⟨a, ob, vs, b, c', d'⟩ := h2 z; refine bkz ?_; exact ⟨e, ob, vs, rfl, a, b, c', d'⟩
theorem ExcN.keep {h₀ : Heap} {mJ : Map} {HJ HW : AH} {sJ sW : Shared} {k : Exc} {e : Addr} (x : ExcN h₀ HJ sJ.heap k e) (F : qaz c env mJ HJ sJ.heap) (y : qbx env HJ sJ HW sW) : ExcN h₀ HW sW.heap k e := by
 refine hide fun Pz bkz => ?_; obtain ⟨ob, vs, T, oT, ts, a1, a2, a3, ⟨a4, a5, a5'⟩, a6, a7, a8, a9, b1, b2, ⟨b3, b4⟩, b5⟩ := x; obtain ⟨mO, ⟨oL, es, ep, hL, hLd, _⟩, _⟩ := F.loc; refine bkz ?_; have nl : ∀ {b o vs}, sJ.heap.get? b = some o -> o.data = .fields vs -> b ≠ env.locals ∧ ∀ k ∈ env.cells, b ≠ k.2 := fun {b o vs} e1 e2 =>
   ⟨(fun z => by rw [z, hL] at e1; obtain rfl := sj0_ e1; rw [e2] at hLd; exact nomatch hLd), (fun k hk z => by
     obtain ⟨_, ⟨vO, ok, ek, dk⟩, _⟩ := F.cfree k hk; rw [z, ek] at e1; obtain rfl := sj0_ e1; rw [e2] at dk; exact nomatch dk)⟩
 obtain ⟨o1, e1, k1⟩ := y.kept e ob a3 a2 (nl a3 a6).1 (nl a3 a6).2; obtain ⟨o2, e2, k2⟩ := y.kept T oT b2 b1 (nl b2 b4).1 (nl b2 b4).2; exact ⟨o1, vs, T, o2, ts, a1, y.free a2 a3, e1, ⟨k1.data.2.1.trans a4, a5, a5'⟩, k1.data.1.trans a6, a7, a8, a9, y.free b1 b2, e2, ⟨by rw [k2.data.2.1]; exact b3, k2.data.1.trans b4⟩, b5⟩
theorem qcz {h₀ : Heap} {mJ : Map} {HJ : AH} {sJ : Shared} {k : Exc} {e : Addr} {fv : Option Addr} {E : Value -> Shared -> Prop} (hg : ∀ b, h₀.get? b = none -> c.g.get? b = none) (x : ExcN h₀ HJ sJ.heap k e) (R : Rep c HJ sJ) (F : qaz c env mJ HJ sJ.heap) :
   wpAny c.M A (setFlight (.ref e) fv) (fun _ sW => ExcN h₀ HJ sW.heap k e ∧ Rep c HJ sW ∧ qaz c env mJ HJ sW.heap ∧ (∀ HO sO, sO.heap = h₀ -> qbx env HO sO HJ sJ -> qbx env HO sO HJ sW) ∧ (∀ L, fv = some L -> ExcR (some L) h₀ HJ sW.heap k (.ref e)) ∧ TK sJ.heap sW.heap) E sJ := by
 refine hide fun Pz bkz => ?_; obtain ⟨ob, vs, T, oT, ts, a1, a2, a3, ⟨a4, a5, a5'⟩, a6, a7, a8, a9, b1, b2, ⟨b3, b4⟩, b5⟩ := x; refine bkz ?_; refine wpAny_bind (wpAny_field a3 a6 a7 ?_); rw [if_pos (show (Value.ref T != Value.none) = true from by rfl)]; refine wpAny_setField b2 b4 b5 ?_; have y : qcc c [T] [] HJ sJ.heap := ⟨fun b hb => by rw [mem_singleton.mp hb]; exact ⟨b1, hg _ a9, fun o ho => by rw [b2] at ho; obtain rfl := sj0_ ho; exact ⟨b3, ts, b4⟩⟩, fun b hb => nomatch hb⟩; have z : qbt [T] [] sJ.heap (sJ.heap.update T (Obj.mapFields (·.setIfInBounds 3 (fv.elim .none fun f => rawInt f)))) := qbt.update _ _ (mem_singleton.mpr rfl) fun o ho => by rw [b2] at ho; obtain rfl := sj0_ ho; exact Obj.isFreed_of_fields (Obj.data_mapFields b4 _)
 have e3 := (Heap.get?_update_other sJ.heap (Obj.mapFields (·.setIfInBounds 3 (fv.elim .none fun f => rawInt f))) a8).trans a3; have e4 := Heap.get?_update_self (Obj.mapFields (·.setIfInBounds 3 (fv.elim .none fun f => rawInt f))) b2 (Obj.isFreed_of_fields (Obj.data_mapFields b4 _)); refine ⟨⟨ob, vs, T, _, _, a1, a2, e3, ⟨a4, a5, a5'⟩, a6, a7, a8, a9, b1, e4, ⟨(congrArg qb0 (Obj.cls_mapFields _ _)).trans b3, Obj.data_mapFields b4 _⟩, by simpa using b5⟩, R.nudge z y, F.nudge z y, fun HO sO hs w => w.nudge z y fun b hb => by rw [mem_singleton.mp hb, hs]; exact a9, fun L hL => ?_, z.tk y⟩; subst hL; refine ⟨e, ob, vs, _, rfl, a1, a2, e3, ⟨a4, a5, a5'⟩, a6, a7, .inr ⟨T, _, _, rfl, a8, a9, b1, e4, ⟨(congrArg qb0 (Obj.cls_mapFields _ _)).trans b3, Obj.data_mapFields b4 _⟩, .inr ⟨L, rfl, ?_⟩⟩⟩; simp [b5]
theorem OutF.toN {s s' : Shared} {ex : Value} {E : Value -> Shared -> Prop} (S : SRep c q d A env m H s) (o : OutF c env H s X ex s') : ∃ e, ex = .ref e ∧ wpAny c.M A' (setFlight ex none) (fun _ s'' => OutN c env H s X e s'') E s' := by
 obtain ⟨k, m', H', hx, ⟨e, ob, vs, T, oT, ts, rfl, hen, hHe, he, hcls, hd, h1, hTe, hTn, hHT, hT, ⟨hTc, hdT⟩, h3⟩, R, F, x⟩ := o; refine ⟨e, rfl, ?_⟩; have n : ExcN s.heap H' s'.heap k e := ⟨ob, vs, T, oT, ts, hen, hHe, he, hcls, hd, h1, hTe, hTn, hHT, hT, ⟨hTc, hdT⟩, (Array.getElem?_eq_some_iff.mp h3).1⟩; exact wpAny_mono (qcz (fun b hb => S.rep.gnone hb) n R F) (fun _ sW zp0 => by obtain ⟨nW, RW, FW, w, _⟩ := zp0; exact ⟨k, m', H', hx, nW, RW, FW, w H s rfl x⟩) fun _ _ z => z
variable {P : Fl -> Map -> AH -> Prop} {pos hpos : Pos}
theorem qhc {s s' : Shared} {ex : Value} {e : Addr} (S : SRep c q d A env m H s) (o : qbp c env H s X ex s') : notedBy c.M (A.mark (some (.ref e))) env (cameBackBy c.M A env (qbp c env H s X)) ex s' :=
 wpAny_mono (qfl (E := cameBackBy c.M A env (qbp c env H s X)) (S.mark (md := .loose) (e := e) (fun z => nomatch z) (fun z => nomatch z)) o) (fun _ _ o' => qnr S o') fun _ _ e => e
theorem qlh {body orelse suite : List Stmt} {bO : Stmt} {t : Expr} {T : String}
   (hexc : isSubtype (.type T) (.type "BaseException") = pure true) (hnt : isSubtype (.type ((Manifest.find? T).elim "type" fun x => x.metatype)) (.type "tuple") = pure false) (hsub : isSubtype (.type T) (.type T) = pure true)
   (ht : ∀ A' m' H', awE c .loose d A' env t m' H' (fun x HJ => x = .imm (.type T) ∧ HJ = H') fun _ _ => False)
   (h : awSs c q d A env body m H (fun f m' H' => match f with | .next => awSs c q d A env orelse m' H' P X | f => P f m' H') fun k m' H' => k.cls = .type T ∧ ∀ e, awSs c .loose d (A.mark (some (.ref e))) env (bO :: suite) m' H' P X) :
   awS c q d A env (.Try body [.ExceptHandler (some t) none (bO :: suite) hpos] orelse [] pos) m H P X := by
 intro s S; refine wpAny_Try_except (wpAny_mono (h s S) (fun f sJ ⟨g, m', H', hp, hf, R, F, x⟩ => ?_) fun ex sJ o => ?_)
 . cases g with
   | next => obtain rfl := hf; exact wpAny_mono (hp sJ (S.stepF R F x)) (fun _ _ => OutS.from x) fun _ _ => qbp.from x
   | brk => obtain rfl := hf; exact ⟨.brk, m', H', hp, rfl, R, F, x⟩
   | cont => obtain rfl := hf; exact ⟨.cont, m', H', hp, rfl, R, F, x⟩
   | ret v => obtain ⟨u, rfl, hv⟩ := hf; exact ⟨.ret v, m', H', hp, ⟨u, rfl, hv⟩, R, F, x⟩
 . refine wpAny_mono (qfl (E := qbp c env H s X) S o) (fun _ sW oW => ?_) fun _ _ e => e; obtain ⟨e, rfl, hw⟩ := oW.toN (A' := A) (E := qbp c env H s X) S; refine wpAny_mono hw (fun _ sY zp0 => ?_) fun _ _ e => e; obtain ⟨k, m', H', ⟨hk, hx⟩, n, R, F, x⟩ := zp0; have SY := S.stepF R F x; have MY := SY.mark (md := .loose) (e := e) (fun z => nomatch z) (fun z => nomatch z); refine wpAny_handleBy_builtin (b := true) hexc hnt hsub (wpAny_mono (ht _ m' H' sY MY.toFRep) (fun cv sV oV => ?_) fun _ _ ⟨_, _, f, _, _, _⟩ => f.elim); refine hide fun Pz bkz => ?_; obtain ⟨xV, HV, ⟨rfl, rfl⟩, hv, RV, stV⟩ := oV; refine bkz ?_; have nV := n.keep F stV.toF; have FV := F.step R stV; refine ⟨hv, ?_, ?_⟩
   . obtain ⟨ob, _, _, _, _, _, _, e3, ⟨e4, _⟩, _⟩ := nV; exact ⟨ob, e3, e4.trans hk⟩
   . rw [if_pos rfl]; refine wpAny_mono (qcz (A := A.mark (some (.ref e))) (E := fun _ _ => False) (fun b hb => S.rep.gnone hb) nV RV FV) (fun _ sZ zp0 => ?_) fun _ _ z => z.elim; obtain ⟨nZ, RZ, FZ, w, _⟩ := zp0; have xZ := w H s rfl (x.trans stV.toF); have MZ := (S.stepF RZ FZ xZ).mark (md := .loose) (e := e) (fun z => nomatch z) (fun z => nomatch z); exact wpAny_mono (hx e sZ MZ) (fun _ _ o => OutS.from xZ o) fun ex s' o => qhc S (qbp.from xZ o)
theorem qqb {body fs : List Stmt} {fO : Stmt}
   (h : awSs c q d A env body m H (fun f m' H' => awSs c q d A env (fO :: fs) m' H' (fun g m'' H'' => match g with | .next => P f m'' H'' | g => P g m'' H'') X)
     fun k m' H' => k.plain = true ∧ ∀ e, awSs c .held d (A.mark (some (.ref e))) env (fO :: fs) m' H' (fun g m'' H'' => match g with | .next => X k m'' H'' | g => P g m'' H'') X) :
   awS c q d A env (.Try body [] [] (fO :: fs) pos) m H P X := by
 intro s S; have plain : ∀ {g m' H' f sJ}, FlR sJ.heap g f -> Rep c H' sJ -> qaz c env m' H' sJ.heap -> qbx env H s H' sJ -> awSs c q d A env (fO :: fs) m' H' (fun g' m'' H'' => match g' with | .next => P g m'' H'' | g' => P g' m'' H'') X →
     wpAny c.M A (execs (fO :: fs) env) (fun g s' => match g with | .next => OutS c env H s P f s' | g => OutS c env H s P g s') (notedBy c.M A env (cameBackBy c.M A env (qbp c env H s X))) sJ := by
   intro g m' H' f sJ hf R F x hp; refine wpAny_mono (hp sJ (S.stepF R F x)) (fun f' sW zp0 => ?_) fun ex s' o => qfm S (qbp.from x o); obtain ⟨g', m'', H'', hp', hf', R', F', x'⟩ := zp0; cases g' with
   | next =>
     obtain rfl := hf'; refine ⟨g, m'', H'', hp', ?_, R', F', x.trans x'⟩; cases g with
     | ret v => obtain ⟨u, rfl, hv⟩ := hf; exact ⟨u, rfl, hv.mono (F.tk R x')⟩
     | next => exact hf
     | brk => exact hf
     | cont => exact hf
   | brk => obtain rfl := hf'; exact ⟨.brk, m'', H'', hp', rfl, R', F', x.trans x'⟩
   | cont => obtain rfl := hf'; exact ⟨.cont, m'', H'', hp', rfl, R', F', x.trans x'⟩
   | ret v => obtain ⟨u, rfl, hv⟩ := hf'; exact ⟨.ret v, m'', H'', hp', ⟨u, rfl, hv⟩, R', F', x.trans x'⟩
 refine wpAny_Try_finally (wpAny_mono (h s S) (fun f sJ ⟨g, m', H', hp, hf, R, F, x⟩ => ?_) fun ex sJ o => ?_)
 . cases g with
   | next => obtain rfl := hf; exact wpAny_execs_nil (plain (g := .next) rfl R F x hp)
   | brk => obtain rfl := hf; exact plain (g := .brk) rfl R F x hp
   | cont => obtain rfl := hf; exact plain (g := .cont) rfl R F x hp
   | ret v => obtain ⟨u, rfl, hv⟩ := hf; exact plain (g := .ret v) ⟨u, rfl, hv⟩ R F x hp
 . refine wpAny_mono (qfl (E := FinallyRaised c.prog c.w A (qbp c env H s X) env (fO :: fs) (OutS c env H s P)) S o) (fun _ sW oW => ?_) fun _ _ e => e; have oY := OutF.toX S.fl oW; refine ⟨?_, wpAny_mono (qfl (E := qbp c env H s X) S oY) (fun _ sW' oW' => ?_) fun _ _ e => e⟩
   . obtain ⟨_, _, _, _, ⟨e, _, _, _, _, _, rfl, _⟩, _⟩ := oW; exact ref_ne_byPass e
   obtain ⟨e, rfl, hw⟩ := oW'.toN (A' := A) (E := qbp c env H s X) S; refine wpAny_mono hw (fun _ sY zp0 => ?_) fun _ _ e => e; obtain ⟨k, m', H', ⟨hk, hx⟩, n, R, F, x⟩ := zp0; have SY := S.stepF R F x; have MY := SY.mark (md := .held) (e := e) (fun z => nomatch z) (fun _ => by
     obtain ⟨ob, vs, _, _, _, _, a2, a3, ⟨_, _, a5⟩, a6, _⟩ := n; exact ⟨a2, ob, vs, a3, a6, a5 hk⟩)
   refine wpAny_mono (hx e sY MY) (fun f' sV zp0 => ?_) fun ex s' o => qhc S (qbp.from x o); obtain ⟨g', m'', H'', hp', hf', R', F', x'⟩ := zp0; have nV := n.keep F x'; cases g' with
   | next =>
     obtain rfl := hf'; show wpAny c.M A (PySem.passOn "try.finally" (.ref e) env) _ _ sV; obtain ⟨ob, vs, T, oT, ts, a1, a2, a3, a4, a6, a7, _⟩ := id nV; refine wpAny_bind (wpAny_field a3 a6 a7 ?_); rw [if_neg (show ¬ ((Value.ref T == Value.none) = true) from by simp)]; refine wpAny_bind (wpAny_mono (qcz (A := A) (E := fun _ _ => False) (fun b hb => S.rep.gnone hb) nV R' F') (fun _ sZ ⟨nZ, RZ, FZ, w, hr, tkZ⟩ => ?_) fun _ _ z => z.elim); exact wpAny_throw ⟨k, m'', H'', hp', by rw [S.fl]; exact hr _ S.fl, RZ, FZ, w H s rfl (x.trans x')⟩
   | brk => obtain rfl := hf'; exact wpAny_mono (qcz (A := A) (E := fun _ _ => False) (fun b hb => S.rep.gnone hb) nV R' F') (fun _ sZ ⟨nZ, RZ, FZ, w, hr, tkZ⟩ => ⟨.brk, m'', H'', hp', rfl, RZ, FZ, w H s rfl (x.trans x')⟩) fun _ _ z => z.elim
   | cont => obtain rfl := hf'; exact wpAny_mono (qcz (A := A) (E := fun _ _ => False) (fun b hb => S.rep.gnone hb) nV R' F') (fun _ sZ ⟨nZ, RZ, FZ, w, hr, tkZ⟩ => ⟨.cont, m'', H'', hp', rfl, RZ, FZ, w H s rfl (x.trans x')⟩) fun _ _ z => z.elim
   | ret v => obtain ⟨u, rfl, hv⟩ := hf'; exact wpAny_mono (qcz (A := A) (E := fun _ _ => False) (fun b hb => S.rep.gnone hb) nV R' F') (fun _ sZ ⟨nZ, RZ, FZ, w, hr, tkZ⟩ => ⟨.ret v, m'', H'', hp', ⟨u, rfl, hv.mono tkZ⟩, RZ, FZ, w H s rfl (x.trans x')⟩) fun _ _ z => z.elim
end
section
variable {c : Cx} {q : Md} {d : Nat} {A : Around} {env : Env} {m : Map} {H : AH} {K : Frag} {p : Program} {loose : List Str} {mg mb : Str -> Option Value}
 {name qual : Str} {params : Arguments} {body : List Stmt} {scope : Scope} {dV kV doc pm cdv ct oc : Value} {an od : Option Addr} {osl : Array (Option Value)} {f : Addr}
theorem qob (G : Gd K p loose mg mb c.g)
   (ho : K.lookup f = some ⟨oc, od, .func (fnOf name qual params body scope dV kV doc pm an cdv ct), osl⟩) (hcd : codeIn K cdv qual = true)
   {args : List V} {kw : List (Str × V)} {P : V -> AH -> Prop} {X : Exc -> AH -> Prop}
   (hnd : ((cellsFrom 0 scope.names []).map (·.1)).Nodup)
   (hb : ∀ s vs kvs, Rep c H s -> K.In s.heap -> VRs s.heap args vs -> KwR s.heap kw kvs -> ∃ (binds : List (Str × V)) (HW : AH) (bs : List (Str × Value)) (sW : Shared),
     (∀ (M : Model) (A : Around) (E : Value -> Shared -> Prop) (Q : List (Str × Value) -> Shared -> Prop), Q bs sW -> wpAny M A (bindArgs (fnOf name qual params body scope dV kV doc pm an cdv ct) ⟨vs, kvs⟩) Q E s) ∧
     bs.map (·.1) = binds.map (·.1) ∧ VRs sW.heap (binds.map (·.2)) (bs.map (·.2)) ∧ Rep c HW sW ∧ Step H s HW sW ∧
     (binds.all fun y => scope.names.lookup y.1 == some .local || scope.names.lookup y.1 == some .cell) = true ∧ (binds.map (·.1)).Nodup ∧
     ∀ A L, awSs c .quiet d A (envOfC qual scope L f cdv) body (mapOf binds) HW (fun fl m' H' => P (match fl with | .ret v => v | _ => .none) H') fun k _ H' => X k H')
   (hco : scope.isCoroutine = false := by rfl) (hgen : scope.isGenerator = false := by rfl) (hkd : scope.kind = .function := by rfl) : qbg c (d + 1) (.ref f) args kw H P X := by
 intro A sO vs kvs BO hv hkw; have XO := G.X.keeps BO.rep.keep; obtain ⟨binds, HW, bs, s, hbs, hb1, hb2, R, stO, hkind, hbd, h⟩ := hb sO vs kvs BO.rep XO hv hkw; have B := BO.step R stO; have X' := G.X.keeps B.rep.keep; have T' := G.T.keeps B.rep.keep; have hroom : A.depth < recursionLimit := by
   have := B.ok.depth; show A.depth < 1000; omega
 refine codeAny_call_function hroom (XO _ _ ho) rfl hco hgen rfl (codeRec_of XO hcd) (hbs _ _ _ _ ?_); have hkind' : (bs.all fun y => scope.names.lookup y.1 == some .local || scope.names.lookup y.1 == some .cell) = true := by
   rw [all_eq_true] at hkind ⊢; intro y hy; have : y.1 ∈ binds.map (·.1) := by (refine hb1 ▸ ?_); exact mem_map_of_mem (f := (·.1)) hy
   obtain ⟨z, hz, e⟩ := mem_map.mp this; (refine e ▸ ?_); exact hkind z hz
 refine wpAny_newFunctionEnv_cells hkd (kindsX hkind' _) fun env' he s' x => ?_; subst he; refine ⟨T'.nolimit.keeps x.toInCall.keep, codeAny_func ?_⟩; obtain ⟨S, kk⟩ := qfv (f := f) (cdv := cdv) (qual := qual) (d := d) B (le_refl _) x hb1 hb2 hkind hnd hbd hkd; have toStep : ∀ {H' s''}, qbx (envOfC qual scope s.heap.objs.size f cdv) HW s' H' s'' -> Step H sO H' s'' := fun {H' s''} y => by
   have ne : ∀ b o, s.heap.get? b = some o -> b ≠ s.heap.objs.size ∧ ∀ k ∈ cellsFrom (s.heap.objs.size + 1) scope.names [], b ≠ k.2 := fun b o e =>
     ⟨ne_of_lt (Heap.lt_size e), fun k hk => ne_of_lt (lt_trans (Heap.lt_size e) (x.above k.1 k.2 hk))⟩
   refine stO.trans ⟨fun b o e n => y.kept b o (kk b o e) n (ne b o e).1 (ne b o e).2, fun b o e n => ?_, fun b o e => y.alive b o (kk b o e)⟩; have z := y.new b o e n; cases e2 : s.heap.get? b with
   | none => rfl
   | some o2 => rw [kk b o2 e2] at z; cases z
 refine wpAny_mono (h _ _ s' S) (fun fl s'' ⟨g, m', H', hp, hf, R, F, y⟩ => ?_) fun e s'' o => ?_
 . cases g with
   | ret v => obtain ⟨u, rfl, hu⟩ := hf; exact ⟨v, H', hp, hu, R, toStep y⟩
   | next => obtain rfl := hf; exact ⟨.none, H', hp, rfl, R, toStep y⟩
   | brk => obtain rfl := hf; exact ⟨.none, H', hp, rfl, R, toStep y⟩
   | cont => obtain rfl := hf; exact ⟨.none, H', hp, rfl, R, toStep y⟩
 . refine wpAny_mono (qlr (E := fun _ _ => False) S o) (fun _ sY zp0 => ?_) fun _ _ z => z.elim; obtain ⟨k, m', H', hx, hex, R, y⟩ := zp0; refine ⟨k, H', hx, hex.from fun b hb => stO.old ?_, R, toStep y⟩; cases e2 : s.heap.get? b with
   | none => rfl
   | some o2 => rw [kk b o2 e2] at hb; cases hb
end
section
open PySem.Builtin PySem.Builtin.ObjectAttr PySem.Builtin.Getset_descriptor
section
variable {prog : Program} {w : World} {A : Around} {R : Result -> Shared -> Prop} {s : Shared} {K : Frag} {x C : Addr}
theorem qnb {ox : Obj} {od : Option Obj} {v : Value} {p i : Nat} (X : K.In s.heap) (I : InstAt s.heap x ox C od) (hp : slotIn K p C = some i) (hi : i < 1000)
   (h : R (.ok (.ret .none)) { s with heap := s.heap.update x fun o => { o with slots := (o.slots ++ Array.replicate (i + 1 - o.slots.size) none).setIfInBounds i (some v) } }) :
   codeAny (model prog w) A (.call (.builtin "member_descriptor.__set__") ⟨[.ref p, .ref x, v], []⟩) R s := by
 obtain ⟨n, tn, owner, behind, tb, d, sl, cd, ho, hc, hm, hb, rfl⟩ := slot_of X hp; obtain ⟨hh, g, dr, t, os⟩ := s; have L0 := I.type (M := model prog w); have L1 := looks_mroIn (M := model prog w) X hm; have L2 : Looks (model prog w) hh (Slots.slotNamesOf (.ref C)) cd.slotNames := (looks_clsIn X hc).andThen .now; have hx := I.at_; dsimp only at ho hx L0 L1; have f0 := looks_field (M := model prog w) ho 0 (v := .str n tn) rfl; have f1 := looks_field (M := model prog w) ho 1 (v := owner) rfl; have f3 := looks_field (M := model prog w) ho 3 (v := .builtin "proto.slot#set") rfl; have f4 := looks_field (M := model prog w) ho 4 (v := .int behind tb) rfl; refine codeAny_call_builtin KF.slot_mset.plain KF.entry_mset (KF.slot_mset.check _ _ _ _ _ _ _ _ ⟨_, ho, rfl⟩ (KF.args_mset _ _ _) ?_); have f5 : Looks (model prog w) hh (descrItself (.ref p)) [.ref p] := ((Looks.ld (part := none) ho).andThen .now).andThen (Looks.of_pure (by kernel_rfl))
 repeat lk
 refine ⟨Code.quiet_builtin _ (by decide +kernel), codeAny_builtin KF.entry_slotset ?_⟩; unfold Builtin.«proto.slot#set» Slots.target
 repeat lk
 rw [if_neg hb]; refine wpAny_pure (wpAny_bind ?_); unfold setSlotAt; dsimp only; rw [if_neg (by rw [sizeLine_eq]; lia)]; exact wpAny_updatePart hx (wpAny_pure h)
end
theorem qm1 {α β : Type} {F : α -> β -> Prop} : ∀ {lJ : List α} {lW : List β} {i : Nat} {a : α}, Paired F lJ lW -> lJ[i]? = some a -> ∃ b, lW[i]? = some b ∧ F a b := by
 intro lJ lW i a h
 induction h generalizing i a with
 | nil => exact fun h => nomatch h
 | cons hd t ih =>
   intro h; cases i with
   | zero => obtain rfl := sj0_ h; exact ⟨_, rfl, hd⟩
   | succ i => exact ih h
theorem qih {α β : Type} {F : α -> β -> Prop} : ∀ {lJ lJ' : List α} {lW lW' : List β}, Paired F lJ lW -> Paired F lJ' lW' -> Paired F (lJ ++ lJ') (lW ++ lW')
 := by
 intro lJ lJ' lW lW' z h
 induction z with
 | nil => exact h
 | cons hd _ ih => exact .cons hd ih
theorem qm3 {α β : Type} {F : α -> β -> Prop} {a : α} {b : β} (h : F a b) : ∀ {lJ : List α} {lW : List β} (i : Nat), Paired F lJ lW -> Paired F (lJ.set i a) (lW.set i b) := by
 intro lJ lW i h
 induction h generalizing i with
 | nil => exact .nil
 | cons hd t ih =>
   cases i with
   | zero => exact .cons ‹F a b› t
   | succ i => exact .cons hd (ih i)
theorem qm2 {α β : Type} {F : α -> β -> Prop} {a : α} {b : β} (h : F a b) : ∀ n, Paired F (List.replicate n a) (List.replicate n b) := by
 intro n
 induction n with
 | zero => exact .nil
 | succ n ih => exact .cons h ih
def qij (fs : List (Option V)) (i : Nat) (x : V) : List (Option V) := (fs ++ List.replicate (i + 1 - fs.length) none).set i (some x)
section
variable {c : Cx} {q : Md} {d : Nat} {A : Around} {env : Env} {m : Map} {H : AH} {P : V -> AH -> Prop} {X : Exc -> AH -> Prop} {pos : Pos} {fl : Option Addr} {K : Frag} {p : Program} {loose : List Str} {mg mb : Str -> Option Value}
theorem qjz {a C dd : Addr} {fs : List (Option V)} {ns : List (Str × V)} {s : Shared} (R : Rep c H s) (h1 : H a = some (.slots C dd fs)) (h2 : H dd = some (.ns ns)) : ∃ sl es n, InstAt s.heap a { cls := .ref C, dict := some dd, data := .plain, slots := sl } C (some (dictOf es n)) ∧ Paired (OptR s.heap) fs sl.toList := by
 obtain ⟨sl, e, hp⟩ := R.at_ _ _ h1; obtain ⟨es, n, e2, _⟩ := R.at_ _ _ h2; exact ⟨sl, es, n, ⟨e, rfl, rfl, e2⟩, hp⟩
theorem qbr {a C dd pp : Addr} {i : Nat} {fs : List (Option V)} {ns : List (Str × V)} {name : Str} {x : V} {expr : Bool} (G : Gd K p loose mg mb c.g) (h1 : H a = some (.slots C dd fs)) (h2 : H dd = some (.ns ns)) (hg : plainGet K C name = true) (hc : isClsIn K C = true)
   (ha : findIn K (.ref C) name = some (some (.ref pp))) (hn : specialIn K (.ref pp) "__get__" = some (some (.builtin "member_descriptor.__get__"))) (ht : takesIn K (.ref pp) = some true) (hp : slotIn K pp C = some i) (hl : fs[i]? = some (some x)) (hx : ∀ i, x ≠ .imm (.builtin i)) (h : P x H) : awO c q d A fl (fun vs => getAttr (vs.getD 0 .none) name expr) [.ref a] H P X := by
 intro s vs B hv; obtain ⟨v, _, rfl, hv, rfl⟩ := hv; obtain rfl := hv; obtain ⟨sl, es, n, I, hr⟩ := qjz B.rep h1 h2; obtain ⟨y, hy, v, rfl, hv⟩ := qm1 hr hl; have X' := G.X.keeps B.rep.keep; have hh : handedIn v = true := by
   cases v <;> try rfl
   rename_i i'; cases x with
   | imm u => obtain rfl := hv; exact absurd rfl (hx i')
   | none => cases hv
   | bool b => cases hv
   | ref a => cases hv
   | int i => obtain ⟨t, z⟩ := hv; cases z
   | str i => obtain ⟨t, z⟩ := hv; cases z
   | tup i => obtain ⟨t, ws, z, _⟩ := hv; cases z
   | rng i => obtain ⟨_, _, _, _, z, _⟩ := hv; cases z
   | vals i => obtain ⟨t, z, _⟩ := hv; cases z
 refine get_bind X' I (plainGet_of hg).1 (findObj_data hc ha hn ht) (plainGet_of hg).2 (wpAny_call (slot_get (s := { s with toks := s.toks + 1 }) X' I hp ?_ (handed_on hh (.tok B.rep hv h)))); show (sl[i]?).join = some v; rw [← Array.getElem?_toList, hy]; rfl
theorem qpm {a C dd pp : Addr} {i : Nat} {fs : List (Option V)} {ns : List (Str × V)} {name : Str} {x : V} {P : AH -> Prop} (G : Gd K p loose mg mb c.g) (h1 : H a = some (.slots C dd fs)) (h2 : H dd = some (.ns ns)) (hs : findIn K (.ref C) "__setattr__" = some (some (.builtin "object.__setattr__"))) (hp : plainOver K C = true)
   (ht : takerIn K C name = some (some (.ref pp))) (hT : typeIn K (.ref pp) = some (.type "member_descriptor")) (hi : slotIn K pp C = some i) (hz : i < 1000) (h : P (upd H a (.slots C dd (qij fs i x)))) : qi3 c q d A (.ref a) name x H P := by
 intro E s u v B hu hv; obtain rfl := hu; obtain ⟨sl, es, n, I, hr⟩ := qjz B.rep h1 h2; have X' := G.X.keeps B.rep.keep; refine set_plain X' I hs (osa_descr (s := { s with toks := s.toks + 1 }) KF.slot_mset X' I hp ht hT (qnb (s := { s with toks := s.toks + 1 }) X' I hi hz ?_)); have e := Heap.get?_update_self (fun o : Obj => { o with slots := (o.slots ++ Array.replicate (i + 1 - o.slots.size) none).setIfInBounds i (some v) }) I.at_ rfl; have kk : ∀ b o, b ≠ a -> s.heap.get? b = some o -> (s.heap.update a fun o : Obj => { o with slots := (o.slots ++ Array.replicate (i + 1 - o.slots.size) none).setIfInBounds i (some v) }).get? b = some o := fun b o hb e => (Heap.get?_update_ne _ _ _ _ hb).trans e; have tk : TK s.heap (s.heap.update a fun o : Obj => { o with slots := (o.slots ++ Array.replicate (i + 1 - o.slots.size) none).setIfInBounds i (some v) }) := fun b o e1 hc hd => kk b o (fun z => by subst z; rw [I.at_] at e1; obtain rfl := sj0_ e1; cases hc) e1; have or : OR c (s.heap.update a fun o : Obj => { o with slots := (o.slots ++ Array.replicate (i + 1 - o.slots.size) none).setIfInBounds i (some v) }) a (.slots C dd (qij fs i x)) := by
   refine ⟨_, e, ?_⟩; have hlen : fs.length = sl.size := by rw [qfo hr, Array.length_toList]
   rw [Array.toList_setIfInBounds, Array.toList_append, Array.toList_replicate]; unfold qij; rw [hlen]; exact qm3 ⟨v, rfl, hv.mono tk⟩ i (qih (qdp (fun _ _ z => z.mono tk) hr) (qm2 (F := OptR _) (a := none) (b := none) rfl _))
 exact ⟨_, h, B.rep.put h1 kk or, .put h1 kk or⟩
theorem qgq {C fI : Addr} {args : List V} {kw : List (Str × V)} {ao : Addr -> AO} (G : Gd K p loose mg mb c.g) (hm : makesIn K C = true) (hi : findIn K (.ref C) "__init__" = some (some (.ref fI))) (hf : typeIn K (.ref fI) = some (.type "function"))
   (hao : ∀ dd, ao dd = .inst C dd ∨ ao dd = .slots C dd [])
   (h : ∀ dd a, dd ≠ a -> H dd = none -> H a = none -> qbg c d (.ref fI) (.ref a :: args) kw (upd (upd H dd (.ns [])) a (ao dd)) (fun r H' => r = .none ∧ P (.ref a) H') X) : qbg c (d + 1) (.ref C) args kw H P X := by
 intro A s vs kvs B hv hkw; have X' := G.X.keeps B.rep.keep; obtain ⟨hh, g, dr, t, os⟩ := s; refine make_core (makes_of X' hm) (looks_findIn X' hi) (fun self => bind_fn X' self hf) (.inl rfl) ?_; have RJ := B.rep.push emptyDict t (.ns []) ⟨[], 0, Heap.get?_push_size _ rfl, .nil⟩; have stJ := Step.push H ⟨hh, g, dr, t, os⟩ emptyDict t (.ns []); have RW := RJ.push (instObj C hh.objs.size) t (ao hh.objs.size) (by
   rcases hao hh.objs.size with z | z <;> rw [z]
   . exact Heap.get?_push_size _ rfl
   . exact ⟨#[], Heap.get?_push_size _ rfl, .nil⟩)
 have st₂ := stJ.trans (Step.push _ _ (instObj C hh.objs.size) t (ao hh.objs.size)); have hsz : (hh.push emptyDict).objs.size = hh.objs.size + 1 := Heap.size_push _ _; have e1 : H hh.objs.size = none := B.rep.fresh (get?_size _); have e2 : H (hh.objs.size + 1) = none := B.rep.fresh (Heap.get?_none_of_le (le_succ _)); have BW := B.step RW st₂; dsimp only at RW st₂ BW; rw [hsz] at RW st₂ BW; have tk := B.rep.tk st₂; have BY : BRep c .quiet d (A.under (.builtin "type.__call__" ⟨.ref C :: vs, kvs⟩)) (upd (upd H hh.objs.size (.ns [])) (hh.objs.size + 1) (ao hh.objs.size)) ⟨(hh.push emptyDict).push (instObj C hh.objs.size), g, dr, t, os⟩ := by
   obtain ⟨R, O⟩ := BW; refine ⟨R, ⟨?_, ?_, O.quiet, (fun z => by cases z), O.stack⟩⟩
   . have := O.depth; show A.depth + 1 + 5 * d ≤ 900; lia
   . have := O.units; show A.units + 1 + 50 * d ≤ 9000; lia
 refine codeAny_mono (h hh.objs.size (hh.objs.size + 1) (ne_of_lt (Nat.lt_succ_self _)) e1 e2 _ _ (.ref (hh.objs.size + 1) :: vs) kvs BY ⟨_, _, rfl, rfl, hv.mono tk⟩ ⟨hkw.1, hkw.2.mono tk⟩) fun r s' o => ?_; cases r with
 | error e => exact OutX.from st₂ o
 | ok f =>
   cases f with
   | ret v =>
     obtain ⟨y, H', ⟨rfl, hp⟩, hv, R', st'⟩ := o; obtain rfl := hv; exact ⟨rfl, _, H', hp, rfl, R', st₂.trans st'⟩
   | next => exact o
   | brk => exact o
   | cont => exact o
end
end
section
variable {prog : Program} {w : World} {A : Around} {E : Value -> Shared -> Prop} {s : Shared}
theorem qgy {h : Heap} {d : Addr} {ys : List (Str × Value)} {ep : Nat} (x : h.DictAt (strKind prog w) d ys ep) (o : Obj) : (h.push o).DictAt (strKind prog w) d ys ep := let ⟨ob, es, e, r⟩ := x; ⟨ob, es, Heap.get?_push_of_some _ e, r⟩
theorem qmr {d : Addr} {ep : Nat} {env : Env} {target : Expr} {body : List Stmt} {Q : Flow -> Shared -> Prop} (hD : s.heap.DictAt (strKind prog w) d [] ep) (hd : (d == sysModules) = false) (hh : A.handled = none)
   (h : ∀ h', (∀ b o, s.heap.get? b = some o -> h'.get? b = some o) -> Q .next { s with heap := h' }) :
   wpAny (model prog w) A (call (.builtin "dict.items") [.ref d]) (fun x sJ => wpAny (model prog w) A (pyIter x) (fun it sW =>
     codeAny (model prog w) A (.forLoop target it body [] env) (fun r s' => match r with | .ok f => Q f s' | .error e => cameBackBy (model prog w) A env E e s') sW) E sJ) E s := by
 refine call_meetsIn PySem.F.slot_dict_items hD.dictOf.typeIs PySem.F.entry_dict_items (PySem.F.args_dict_items_1 _) (meets_dict_items (strKind prog w) d hd) ⟨⟨[], hD.dictOf⟩, ?_⟩; show wpAny (model prog w) A (pyIter (.ref s.heap.objs.size)) _ E { s with heap := s.heap.push { cls := .type "dict_items", data := .fields #[.ref d] } }; have u1 : ∀ b o, s.heap.get? b = some o -> (s.heap.push { cls := .type "dict_items", data := .fields #[.ref d] }).get? b = some o := fun b o e => Heap.get?_push_of_some _ e; have at1 := qgy hD { cls := .type "dict_items", data := .fields #[.ref d] }; refine wpAny_pyIter_items ⟨_, Heap.get?_push_size _ rfl, rfl, rfl⟩ at1 ?_; generalize hH1 : s.heap.push { cls := .type "dict_items", data := .fields #[.ref d] } = H1 at u1 at1 ⊢; have u2 : ∀ b o, H1.get? b = some o -> (H1.push { cls := .type "dict_itemiterator", data := .fields #[.none, .bool false, .ref d, .int 0 0, .int ([] : List (Str × Value)).length 0, .int ep 0, .none, .none] }).get? b = some o := fun b o e => Heap.get?_push_of_some _ e; have gI : (H1.push { cls := .type "dict_itemiterator", data := .fields #[.none, .bool false, .ref d, .int 0 0, .int ([] : List (Str × Value)).length 0, .int ep 0, .none, .none] }).get? H1.objs.size = some { cls := .type "dict_itemiterator", data := .fields #[.none, .bool false, .ref d, .int 0 0, .int ([] : List (Str × Value)).length 0, .int ep 0, .none, .none] } := Heap.get?_push_size _ rfl
 have at2 := qgy at1 { cls := .type "dict_itemiterator", data := .fields #[.none, .bool false, .ref d, .int 0 0, .int ([] : List (Str × Value)).length 0, .int ep 0, .none, .none] }; generalize hH2 : H1.push { cls := .type "dict_itemiterator", data := .fields #[.none, .bool false, .ref d, .int 0 0, .int ([] : List (Str × Value)).length 0, .int ep 0, .none, .none] } = H2 at u2 gI at2 ⊢; refine codeAny_forLoop_any (fun k s' => s' = { s with heap := H2 }) ?_ 1 rfl; rintro k s' rfl; refine wpAny_pyNext_items_end hh gI at2 rfl fun h' hx => ?_; refine wpAny_execs_nil (h h' fun b o e => hx b o ?_ (u2 b o (u1 b o e))); exact ne_of_lt (lt_of_lt_of_le (Heap.lt_size e) (by rw [← hH1, Heap.size_push]; exact le_succ _))
end
section
variable {c : Cx} {q : Md} {d : Nat} {A : Around} {env : Env} {m : Map} {H : AH} {pos ipos apos : Pos} {P : Fl -> Map -> AH -> Prop} {X : Exc -> Map -> AH -> Prop}
theorem qh4 {o target : Expr} {body : List Stmt} (hh : q = .quiet) (hs : ∀ x, foldedSetIterable (.Call (.Attribute o (Str.ofString "items") apos) [] [] ipos) env x = pure x) (hab : attributeBase o (Str.ofString "items") env (eval o env) = eval o env) (hpos : (apos.endLine == ipos.line) = true)
   (h : awE c q d A env o m H (fun x HJ => ∃ a ep, x = .ref a ∧ HJ a = some (.dict [] ep) ∧ P .next m HJ) fun k H' => X k m H') : awS c q d A env (.For target (.Call (.Attribute o (Str.ofString "items") apos) [] [] ipos) body [] pos) m H P X := by
 intro s S; have hq : A.handled = none := S.ok.quiet hh; refine wpAny_For ?_ hs; show wpAny c.M A (do
   let ov ← attributeBase o (Str.ofString "items") env (eval o env)
   standAt apos.atName
   methodCall o (Str.ofString "items") apos ipos env ov 0 (backTo ipos (starEach [] env)) (backToKw ipos (keywordEach [] env))) _ _ s
 (refine (Eq.symm hab) ▸ ?_); refine wpAny_bind (qaj h S.toFRep (fun x HJ sJ v ⟨a, ep, hx, ha, hp⟩ F₁ hv st => wpAny_bind (wpAny_standAt ?_)) fun _ _ o => o.toS S.toFRep); subst hx; obtain rfl := hv; obtain ⟨ys, hD, hk, hr, hsm⟩ := F₁.rep.at_ _ _ ha; obtain rfl : ys = [] := by simpa using hk
 have hT := qgf F₁.rep (x := .ref a) rfl (show qcx HJ (.ref a) = some "dict" by simp only [qcx, ha]); have hnd := qfz F₁.rep (x := .ref a) rfl (show qcx HJ (.ref a) = some "dict" by simp only [qcx, ha]) (by decide); refine wpAny_bind (wpAny_holding ?_); show wpAny c.M A (getMethod (.ref a) (Str.ofString "items") _) _ _ sJ; refine getMethod_builtin hT PySem.F.plainAttrs_dict PySem.F.slot_dict_items PySem.F.type_dict_items hnd ?_; have hmp : ∀ few, methodCallPos few o env apos ipos = pure ipos := fun few => by unfold methodCallPos; (refine (Eq.symm hpos) ▸ ?_); simp
 rw [hmp]; refine wpAny_bind (wpAny_pure ?_); refine callWith_of rfl (qab (c := c) "dict.items") ?_; show wpAny c.M A (evalArgs _ true [] []) _ _ sJ; refine evalArgs_nil3 ⟨F₁.rep.keep, ?_⟩; refine qmr hD hsm hq fun h' hk' => ?_; have RW : Rep c HJ { sJ with heap := h' } := F₁.rep.silent hk' rfl rfl; have st₂ : Step HJ sJ HJ { sJ with heap := h' } := .silent hk'; exact ⟨.next, m, HJ, hp, rfl, RW, (F₁.step RW st₂).fr, (st.trans st₂).toF⟩
end
def Ext (H H' : AH) : Prop := ∀ a o, H a = some o -> H' a = some o
theorem Ext.refl (H : AH) : Ext H H := fun _ _ h => h
theorem Ext.trans {HJ HW HY : AH} (x : Ext HJ HW) (y : Ext HW HY) : Ext HJ HY := fun a o h => y a o (x a o h)
theorem Ext.get {H H' : AH} (x : Ext H H') {a : Addr} {o : AO} (h : H a = some o) : H' a = some o := x a o h
theorem Ext.none {H H' : AH} (x : Ext H H') {a : Addr} (h : H' a = none) : H a = none := by
 cases e : H a with
 | none => rfl
 | some o => rw [x a o e] at h; exact nomatch h
theorem Ext.upd {H H' : AH} (x : Ext H H') {a : Addr} {o : AO} (h : H a = Option.none) : Ext H (Mine.upd H' a o) := fun b ob hb => by
 rw [qa5 _ _ (fun z => by rw [z, h] at hb; exact nomatch hb)]; exact x b ob hb
theorem Ext.fresh {H : AH} {a : Addr} {o : AO} (h : H a = Option.none) : Ext H (Mine.upd H a o) := (Ext.refl H).upd h
theorem Ext.ne {H : AH} {a b : Addr} {o : AO} (ha : H a = some o) (hb : H b = Option.none) : a ≠ b := fun z => by rw [z, hb] at ha; exact nomatch ha
def Mod (H : AH) (a : Addr) (H' : AH) : Prop := ∀ b, b ≠ a -> H' b = H b
theorem Mod.upd (H : AH) (a : Addr) (o : AO) : Mod H a (Mine.upd H a o) := fun b h => qa5 H o h
theorem Mod.get {H H' : AH} {a b : Addr} {o : AO} (x : Mod H a H') (hn : b ≠ a) (h : H b = some o) : H' b = some o := (x b hn).trans h
theorem Mod.ext {H HJ H' : AH} {a : Addr} (x : Mod HJ a H') (e : Ext H HJ) (hn : H a = none) : Ext H H' := fun b o hb => by
 rw [x b (Ext.ne hb hn)]; exact e b o hb
theorem qcd {α : Type} {st : AH -> Prop} {turn : V -> Map -> AH -> (Fl -> Map -> AH -> Prop) -> Prop} {P : Fl -> Map -> AH -> Prop} (g : α -> V) {xs : List α} (J : List α -> List α -> Map -> AH -> Prop)
   (nil : ∀ m H, J xs [] m H -> st H ∧ P .next m H)
   (cons : ∀ dn x r m H, xs = dn ++ x :: r -> J dn (x :: r) m H -> st H ∧ ∀ K : Fl -> Map -> AH -> Prop, (∀ m' H', J (dn ++ [x]) r m' H' -> K .next m' H') -> (∀ m' H', J (dn ++ [x]) r m' H' -> K .cont m' H') -> (∀ m' H', P .next m' H' -> K .brk m' H') -> (∀ v m' H', P (.ret v) m' H' -> K (.ret v) m' H') -> turn (g x) m H K)
   {m : Map} {H : AH} (h : J [] xs m H) : forP st turn P (xs.map g) m H := by
 have key : ∀ r dn m H, xs = dn ++ r -> J dn r m H -> forP st turn P (r.map g) m H := by
   intro r
   induction r with
   | nil => intro dn m H e hj; rw [append_nil] at e; subst e; exact nil m H hj
   | cons x r ih =>
     intro dn m H e hj; obtain ⟨a, b⟩ := cons dn x r m H e hj; have e' : xs = (dn ++ [x]) ++ r := by rw [e]; simp
     exact ⟨a, b _ (fun m' H' h' => ih _ m' H' e' h') (fun m' H' h' => ih _ m' H' e' h') (fun _ _ h' => h') fun _ _ _ h' => h'⟩
 exact key xs [] m H rfl h
theorem qa0 {α : Type} {st : AH -> Prop} {turn : V -> Map -> AH -> List V -> (Map -> AH -> List V -> Prop) -> Prop} (g : α -> V) (f : α -> Option V) (J : Map -> AH -> Prop) (hst : ∀ m H, J m H -> st H) :
   ∀ {xs : List α} {m : Map} {H : AH} {acc : List V} {K : Map -> AH -> List V -> Prop}, acc.length + xs.length ≤ 100000 -> J m H →
     (∀ x ∈ xs, ∀ m H acc (K : Map -> AH -> List V -> Prop), acc.length ≤ 100000 -> J m H -> (∀ m' H', J m' H' -> K m' H' (acc ++ (f x).toList)) -> turn (g x) m H acc K) →
     (∀ m' H', J m' H' -> K m' H' (acc ++ xs.filterMap f)) -> compItems st turn (xs.map g) m H acc K := by
 intro xs
 induction xs with
 | nil =>
   intro m H acc K _ hj _ hk; exact ⟨hst m H hj, by simpa using hk m H hj⟩
 | cons x r ih =>
   intro m H acc K hl hj ht hk; simp only [length_cons] at hl; refine ⟨hst m H hj, ht x (mem_cons_self ..) m H acc _ (by lia) hj fun m' H' hj' => ih ?_ hj' (fun y hy => ht y (mem_cons_of_mem _ hy)) fun m'' H'' hj'' => ?_⟩
   . rw [length_append]; cases f x <;> simp <;> (first | (exact le_of_lt ‹_›) | (lia) | omega)
   . have := hk m'' H'' hj''; rw [List.filterMap_cons] at this; cases e : f x <;> rw [e] at this <;> simpa using this
section
variable {c : Cx} {q : Md} {d : Nat} {A : Around} {env : Env} {m : Map} {H : AH} {P : V -> AH -> Prop} {X : Exc -> AH -> Prop} {pos : Pos} {fl : Option Addr} {K : Frag} {p : Program} {loose : List Str} {mg mb : Str -> Option Value}
abbrev New (H : AH) (o : AO) (P : V -> AH -> Prop) : Prop := ∀ a H', Ext H H' -> H a = none -> H' a = some o -> P (.ref a) H'
theorem New.use {o : AO} (h : New H o P) : ∀ a, H a = none -> P (.ref a) (upd H a o) := fun a ha => h a _ (Ext.fresh ha) ha (qai _ _ _)
theorem qno {es : List Expr} (h : awL c q d A env es m H (fun xs HJ => xs.length ≤ 1000 ∧ New HJ (.list xs) P) X) : awE c q d A env (.List es pos) m H P X :=
 qld (fun s pos F => wpAny_mono (h s pos F) (fun _ _ o => OutL.imp (fun _ _ zp0 => by obtain ⟨a, b⟩ := zp0; exact ⟨a, b.use⟩) o) fun _ _ o => o)
theorem qd7 (G : Gd K p loose mg mb c.g) (h : New H (.dict [] 0) P) : awE c q d A env (.Dict [] [] pos) m H P X := qnm G h.use
theorem qci {a b : Addr} {vs us : List V} (ha : H a = some (.list vs)) (hb : H b = some (.list us)) (hl : vs.length + us.length ≤ 100000) (h : New H (.list (vs ++ us)) P) : awO c q d A fl (fun vs => binaryOp .Add (vs.getD 0 .none) (vs.getD 1 .none)) [.ref a, .ref b] H P X := qni ha hb hl h.use
theorem qi6 {a : Addr} {vs : List V} (ha : H a = some (.list vs)) (hl : vs.length ≤ 100000) (h : New H (.list vs) P) : qa7 c q d A fl (.type "list") [.ref a] [] H P X := qkm ha hl h.use
theorem qmf (h : New H (.set []) P) : qa7 c q d A fl (.type "set") [] [] H P X := qnw h.use
theorem qma {value : Expr} {lower upper : Option Expr} {pp : Pos}
   (h : awE c q d A env value m H (fun x HJ => qc3 c q d A env lower m HJ (fun y HW => qc3 c q d A env upper m HW (fun z HY => ∃ a vs lo hi, x = .ref a ∧ HY a = some (.list vs) ∧ vs.length ≤ 100000 ∧ qf3 y lo ∧ qf3 z hi ∧ New HY (.list (sliceV vs lo hi)) P) X) X) X) : awE c q d A env (.Subscript value (.Slice lower upper none pp) pos) m H P X := by
 have im : ∀ {e : Option Expr} {m : Map} {H : AH} {P P' : V -> AH -> Prop}, (∀ x H, P x H -> P' x H) -> qc3 c q d A env e m H P X -> qc3 c q d A env e m H P' X := by
   intro e m H P P' hp h; cases e with
   | none => exact hp _ _ h
   | some e => exact fun s F => wpAny_mono (h s F) (fun _ _ o => OutE.mono hp o) fun _ _ o => o
 refine ql8 (fun s F => wpAny_mono (h s F) (fun _ _ o => OutE.mono (fun x HJ h1 => im (fun y HW h2 => im (fun z HY h3 => ?_) h2) h1) o) fun _ _ o => o); obtain ⟨a, vs, lo, hi, h1, h2, h3, h4, h5, h6⟩ := h3; exact ⟨a, vs, lo, hi, h1, h2, h3, h4, h5, h6.use⟩
theorem qa2 {a : Addr} {x : V} {vs : List V} (ha : H a = some (.list vs)) (hl : vs.length ≤ 100000) (h : ∀ H', Mod H a H' -> H' a = some (.list (vs ++ [x])) -> P .none H') : qa7 c q d A fl (.builtin "list.append") [.ref a, x] [] H P X := qel ha hl (h _ (Mod.upd _ _ _) (qai _ _ _))
theorem qc4 {a b : Addr} {vs us : List V} (ha : H a = some (.list vs)) (hb : H b = some (.list us)) (hl : vs.length + us.length ≤ 100000) (h : ∀ H', Mod H a H' -> H' a = some (.list (vs ++ us)) -> P .none H') : qa7 c q d A fl (.builtin "list.extend") [.ref a, .ref b] [] H P X := qh5 ha hb hl (h _ (Mod.upd _ _ _) (qai _ _ _))
theorem qdy {a : Addr} {vs : List V} {x : V} (ha : H a = some (.list (vs ++ [x]))) (hl : vs.length ≤ 100000 - 1) (h : ∀ H', Mod H a H' -> H' a = some (.list vs) -> P x H') : qa7 c q d A fl (.builtin "list.pop") [.ref a] [] H P X := qqe ha hl (h _ (Mod.upd _ _ _) (qai _ _ _))
theorem qkk {a : Addr} {vs : List V} (ha : H a = some (.list vs)) (hl : vs.length ≤ 100000) (h : ∀ H', Mod H a H' -> H' a = some (.list []) -> P .none H') : qa7 c q d A fl (.builtin "list.clear") [.ref a] [] H P X := qme ha hl (h _ (Mod.upd _ _ _) (qai _ _ _))
theorem qh6 {a : Addr} {xs : List Str} {k : Str} (ha : H a = some (.set xs)) (hl : xs.length < 1000) (h : ∀ H', Mod H a H' -> H' a = some (.set (if k ∈ xs then xs else xs ++ [k])) -> P .none H') : qa7 c q d A fl (.builtin "set.add") [.ref a, .str k] [] H P X := qh7 ha hl (h _ (Mod.upd _ _ _) (qai _ _ _))
end
section
theorem qec : Slot "list_iterator" "__getattribute__" "object.__getattribute__" :=
 .of (owner := "object") (n := "__getattribute__") (by rw [typeLookup_type, builtinLookup_eq_fast]; kernel_rfl) (by decide +kernel) (by decide +kernel) (by decide +kernel)
   (.inl (by decide +kernel)) (by rw [isSubtype_type]; kernel_rfl)
theorem qg4 : typeLookup (.type "list_iterator") "__getattr__" = pure none := by rw [typeLookup_type, builtinLookup_eq_fast]; kernel_rfl
theorem qkt : entryFor table "object.__getattribute__" = some Builtin.«object.__getattribute__» := by first | exact entryFor_of_fast (by kernel_rfl) | exact entryFor_of_tree (by kernel_rfl)
theorem ql6 (a b : Value) : argsOk "object.__getattribute__" ⟨[a, b], []⟩ := by unfold argsOk; kernel_rfl
theorem qh0 : typeOf (.builtin "list_iterator.__next__") = pure (.type "wrapper_descriptor") := by first | rfl | kernel_rfl
theorem qox : typeLookup (.type "wrapper_descriptor") "__get__" = pure (some (.builtin "wrapper_descriptor.__get__")) := by rw [typeLookup_type, builtinLookup_eq_fast]; kernel_rfl
theorem qhg : Slot "wrapper_descriptor" "__get__" "wrapper_descriptor.__get__" :=
 .of (owner := "wrapper_descriptor") (n := "__get__") (by rw [typeLookup_type, builtinLookup_eq_fast]; kernel_rfl) (by decide +kernel) (by decide +kernel) (by decide +kernel)
   (.inl (by decide +kernel)) (by rw [isSubtype_type]; kernel_rfl)
theorem qjg : entryFor table "wrapper_descriptor.__get__" = some Builtin.«wrapper_descriptor.__get__» := by first | exact entryFor_of_fast (by kernel_rfl) | exact entryFor_of_tree (by kernel_rfl)
theorem qj4 (a b c : Value) : argsOk "wrapper_descriptor.__get__" ⟨[a, b, c], []⟩ := by unfold argsOk; kernel_rfl
theorem qoy : typeLookup (.type "wrapper_descriptor") "__set__" = pure none := by rw [typeLookup_type, builtinLookup_eq_fast]; kernel_rfl
theorem qow : typeLookup (.type "wrapper_descriptor") "__delete__" = pure none := by rw [typeLookup_type, builtinLookup_eq_fast]; kernel_rfl
variable {prog : Program} {w : World} {A : Around} {E : Value -> Shared -> Prop}
theorem qm8 {s : Shared} {it : Addr} {o : Obj} {P : PySem.Fin -> Shared -> Prop} (hx : s.heap.get? it = some o) (hc : o.cls = .type "list_iterator")
   (h : P (.done (.ret (.ref s.heap.objs.size))) { s with heap := s.heap.push { cls := .type "method-wrapper", data := .fields #[.builtin "list_iterator.__next__", .ref it] } }) :
   wpAny (model prog w) A (Builtin.«wrapper_descriptor.__get__» ⟨[.builtin "list_iterator.__next__", .ref it, .type "list_iterator"], []⟩) P E s := by
 obtain ⟨hp, g, d, tk, os⟩ := s; have hT : (⟨hp, g, d, tk, os⟩ : Shared).TypeIs (.ref it) "list_iterator" := ⟨_, hx, hc⟩; have hsub : isSubtype (.type "list_iterator") (.type "list_iterator") = pure true := by rw [isSubtype_type]; kernel_rfl
 have hcut : ".".intercalate ("list_iterator.__next__".cutAt '.').dropLast = "list_iterator" := by decide +kernel
 unfold Builtin.«wrapper_descriptor.__get__»
 repeat (any_goals (first | assumption | wp_step))
 (refine (Eq.symm hcut) ▸ ?_)
 repeat (any_goals (first | assumption | wp_step))
theorem qjj {s : Shared} {it : Addr} {o : Obj} {Q : Value -> Shared -> Prop} (hx : s.heap.get? it = some o) (hc : o.cls = .type "list_iterator") (hd : o.dict = none) (hdat : ∃ vs, o.data = .fields vs)
   (h : Q (.ref s.heap.objs.size) { s with heap := s.heap.push { cls := .type "method-wrapper", data := .fields #[.builtin "list_iterator.__next__", .ref it] }, toks := s.toks + 1 }) :
   wpAny (model prog w) A (getAttr (.ref it) (Str.ofString "__next__") true) Q E s := by
 obtain ⟨c, dct, dat, sl⟩ := o; obtain ⟨vs, hdat⟩ := hdat; simp only at hc hdat hd; subst hc hdat hd; obtain ⟨hp, g, d, tk, os⟩ := s; have hT : ∀ tk', (⟨hp, g, d, tk', os⟩ : Shared).TypeIs (.ref it) "list_iterator" := fun _ => ⟨_, hx, rfl⟩; have f3 := qec.lookup; have f4 := qec.bind (.ref it); have f5 := qg4; have f6 := slot_listiter_next.lookup; have f7 := qox; have f8 := qoy; have f9 := qow; have f10 := qh0; unfold getAttr getAttrBy
 repeat (any_goals (first | assumption | exact hT _ | wp_step))
 refine codeAny_call_builtin qec.plain qkt (qec.check _ _ _ _ _ _ _ _ (hT _) (ql6 _ _) ?_); unfold Builtin.«object.__getattribute__»
 repeat (any_goals (first | assumption | exact hT _ | wp_step))
 refine codeAny_call_builtin qhg.plain qjg (qhg.check _ _ _ _ _ _ _ _ ?_ (qj4 _ _ _) (qm8 hx rfl ?_))
 . exact qh0
 repeat (any_goals (first | assumption | exact hT _ | wp_step))
theorem qh8 {it : Addr} : checkBoundCall "list_iterator.__next__" ⟨[.ref it], []⟩ = pure () := by first | kernel_rfl | rfl
theorem qik {as : Args} : (Code.builtin "list_iterator.__next__" as).quiet = true := Code.quiet_builtin _ (by decide +kernel)
theorem qi8 {s : Shared} {x it : Addr} {Q : Value -> Shared -> Prop} (hx : s.heap.get? x = some { cls := .type "method-wrapper", data := .fields #[.builtin "list_iterator.__next__", .ref it] })
   (h : wpAny (model prog w) (A.under (.builtin "list_iterator.__next__" ⟨[.ref it], []⟩)) (Builtin.«list_iterator.__next__» ⟨[.ref it], []⟩) (fun f s' => match f with | .done (.ret v) => Q v s' | _ => False) E s) : wpAny (model prog w) A (call (.ref x) []) Q E s := by
 refine wpAny_call (codeAny_of_tree ?_); show wpAny _ A.in1 (callAny (.ref x) ⟨[], []⟩) _ _ s; delta callAny; refine wpAny_bind (wpAny_load hx ?_); simp only [show (Value.type "method-wrapper" == Value.type "method" || Value.type "method-wrapper" == Value.type "builtin_function_or_method" || Value.type "method-wrapper" == Value.type "method-wrapper") = true by decide, if_true]; show wpAny _ A.in1 (if (Value.type "method-wrapper" != Value.type "method") = true then do
       checkBoundCall "list_iterator.__next__" { pos := [.ref it] }
       again (Code.builtin "list_iterator.__next__" { pos := [.ref it] }) else _) _ _ s
 rw [if_pos (by decide)]; refine wpAny_bind (wpAny_of_eq (a := ()) qh8 ?_); refine wpAny_pure ⟨qik, codeAny_builtin entry_listiter_next (wpAny_mono h (fun f s' hf => ?_) fun _ _ z => z)⟩; cases f with
 | done f => cases f with
   | ret v => exact hf
   | _ => exact hf.elim
 | again c' => exact hf.elim
theorem qhj {s : Shared} {it l : Addr} {i : Nat} {items : Array Value} {x : Value} {P : PySem.Fin -> Shared -> Prop} (ho : s.heap.get? it = some { cls := .type "list_iterator", data := .fields #[.ref l, .int i 0] })
   (hl : s.heap.IsList l items) (hx : items[i]? = some x)
   (hQ : P (.done (.ret x)) { s with heap := s.heap.update it (Obj.mapFields (·.setIfInBounds 1 (rawInt ((i : Int) + 1)))) }) : wpAny (model prog w) A (Builtin.«list_iterator.__next__» ⟨[.ref it], []⟩) P E s := by
 obtain ⟨ol, hol, _, nl, hdl⟩ := hl; show wpAny _ _ (field (.ref it) 0 >>= _) _ _ s; refine wpAny_bind (wpAny_field ho rfl (x := .ref l) rfl ?_); show wpAny _ _ (if (Value.ref l == Value.none) = true then _ else _) _ _ s; rw [if_neg (show ¬ ((Value.ref l == Value.none) = true) from Bool.false_ne_true)]; show wpAny _ _ (field (.ref it) 1 >>= _) _ _ s; refine wpAny_bind (wpAny_field ho rfl (x := .int i 0) rfl ?_); show wpAny _ _ (seqItems? (.ref l) >>= _) _ _ s; refine wpAny_bind (wpAny_seqItems hol hdl ?_); simp only [Int.toNat_natCast, hx]; exact wpAny_bind (wpAny_setField ho rfl (nl0_ rfl) (wpAny_pure hQ))
structure qro (h h' : Heap) (e : Addr) : Prop where
 keeps : ∀ b o, h.get? b = some o -> h'.get? b = some o
 new : h.get? e = none
 there : ∃ ob vs, h'.get? e = some ob ∧ ob.cls = .type "StopIteration" ∧ ob.data = .fields vs ∧ vs[1]? = some .none ∧ vs[2]? = some .none
theorem qie {s : Shared} {it l : Addr} {i : Nat} {items : Array Value} {P : PySem.Fin -> Shared -> Prop} (hh : A.handled = none) (ho : s.heap.get? it = some { cls := .type "list_iterator", data := .fields #[.ref l, .int i 0] })
   (hl : s.heap.IsList l items) (hx : items[i]? = none)
   (hQ : ∀ h' e, qro (s.heap.update it (Obj.mapFields (·.setIfInBounds 0 .none))) h' e -> E (.ref e) { s with heap := h' }) : wpAny (model prog w) A (Builtin.«list_iterator.__next__» ⟨[.ref it], []⟩) P E s := by
 obtain ⟨ol, hol, _, nl, hdl⟩ := hl; show wpAny _ _ (field (.ref it) 0 >>= _) _ _ s; refine wpAny_bind (wpAny_field ho rfl (x := .ref l) rfl ?_); show wpAny _ _ (if (Value.ref l == Value.none) = true then _ else _) _ _ s; rw [if_neg (show ¬ ((Value.ref l == Value.none) = true) from Bool.false_ne_true)]; show wpAny _ _ (field (.ref it) 1 >>= _) _ _ s; refine wpAny_bind (wpAny_field ho rfl (x := .int i 0) rfl ?_); show wpAny _ _ (seqItems? (.ref l) >>= _) _ _ s; refine wpAny_bind (wpAny_seqItems hol hdl ?_); simp only [Int.toNat_natCast, hx]; refine wpAny_bind (wpAny_rule (wpAny_bind (wpAny_setField ho rfl (nl0_ rfl) ?_))); show wpAny _ _ (newExc (.type "StopIteration") [] >>= _) _ _ _; refine wpAny_bind ?_; simp only [newExc, newTuple]; refine wpAny_bind (wpAny_newObj_type ?_ (by size_fits)); refine wpAny_bind (m := firstArgMember _ _) (wpAny_of_eq (a := Value.none) rfl ?_); refine wpAny_newObj_type ?_ (by size_fits); delta raiseNew; refine wpAny_bind (wpAny_handled ?_); (refine (Eq.symm hh) ▸ ?_); refine wpAny_bind (wpAny_pure (wpAny_throw ?_)); refine hQ _ _ ⟨fun b o e => Heap.get?_push_of_some _ (Heap.get?_push_of_some _ e), Heap.get?_none_of_le ?_, _, _, Heap.get?_push_size _ rfl, rfl, rfl, ?_, ?_⟩
 . rw [Heap.push]; simp
 . rw [Array.getElem?_append_left (nl0_ rfl)]; rfl
 . rw [Array.getElem?_append_left (nl0_ rfl)]; rfl
end
section
variable {c : Cx} {q : Md} {d : Nat} {A : Around} {env : Env} {m : Map} {H : AH} {P : V -> AH -> Prop} {X : Exc -> AH -> Prop} {pos : Pos} {fl : Option Addr} {K : Frag} {p : Program} {loose : List Str} {mg mb : Str -> Option Value}
theorem qql {it l : Addr} {i : Nat} (h1 : H it = some (.iter l i)) (h : New H (.next it) P) : awO c q d A fl (fun vs => getAttr (vs.getD 0 .none) (Str.ofString "__next__") true) [.ref it] H P X := by
 intro s vs B hv; obtain ⟨v, _, rfl, hv, rfl⟩ := hv; obtain rfl := hv; have e := B.rep.at_ _ _ h1; refine qjj e rfl rfl ⟨_, rfl⟩ ?_; exact ⟨.ref s.heap.objs.size, _, h.use _ (B.rep.free (le_refl _)), rfl, B.rep.push _ (s.toks + 1) (.next it) (Heap.get?_push_size _ rfl), Step.push _ _ _ _ _⟩
theorem qkl {l : Addr} {vs : List V} (ha : H l = some (.list vs)) (h : New H (.iter l 0) P) : qa7 c q d A fl (.builtin "iter") [.ref l] [] H P X := by
 intro s vs kvs B hv hk; obtain rfl := qa1 hk; obtain ⟨v, _, rfl, hv, rfl⟩ := hv; obtain rfl := hv; obtain ⟨items, n, e, hr⟩ := B.rep.at_ _ _ ha; refine call_function_entry (by decide +kernel) (by decide +kernel) kdk_entry_iter (kdk_args_iter _) ?_; unfold Builtin.«iter»; refine wpAny_bind (m := someArgs "iter" 1 2 _) (wpAny_of_eq (a := [Value.ref l]) rfl ?_); show wpAny _ _ (pyIter (.ref l) >>= _) _ _ _; refine wpAny_bind (wpAny_pyIter_list ⟨_, e, rfl, n, rfl⟩ ?_); refine wpAny_pure ⟨_, rfl, ?_⟩; exact ⟨.ref s.heap.objs.size, _, h.use _ (B.rep.free (le_refl _)), rfl, B.rep.push _ s.toks (.iter l 0) (Heap.get?_push_size _ rfl), Step.push _ _ _ _ _⟩
theorem qiu {fe : Expr} (hfe : ∀ o n ap, fe ≠ .Attribute o n ap)
   (h : awE c q d A env fe m H (fun x HJ => ∃ a it l i vs, x = .ref a ∧ HJ a = some (.next it) ∧ HJ it = some (.iter l i) ∧ HJ l = some (.list vs) ∧
     (match vs[i]? with
     | some y => ∀ H', Mod HJ it H' -> H' it = some (.iter l (i + 1)) -> P y H'
     | none => q = .quiet ∧ ∀ H', Mod HJ it H' -> H' it = none -> X (.b "StopIteration") H')) X) : awE c q d A env (.Call fe [] [] pos) m H P X := by
 intro s F; have he := qd0 (env := env) [] [] pos hfe; show wpAny _ _ (eval (.Call fe [] [] pos) env) _ _ _; (refine (Eq.symm he) ▸ ?_); refine wpAny_bind (qaj h F (fun x HJ sJ v zp F₁ hv S => ?_) fun _ _ o => o); obtain ⟨a, it, l, i, vs, hx, h1, h2, h3, hp⟩ := zp; subst hx; obtain rfl := hv; refine awT.from S ?_; have e1 := F₁.rep.at_ _ _ h1; have e2 := F₁.rep.at_ _ _ h2; obtain ⟨items, n, e3, hr⟩ := F₁.rep.at_ _ _ h3; have key : awT c A env.frame (call (.ref a) [] []) HJ P X sJ := by
   refine qi8 e1 ?_; cases hy : vs[i]? with
   | some y =>
     rw [hy] at hp; obtain ⟨v, hv1, hv2⟩ := hr.get hy; refine qhj e2 ⟨_, e3, rfl, n, rfl⟩ (by simpa using hv1) ?_; have on : Only it sJ.heap (sJ.heap.update it (Obj.mapFields (·.setIfInBounds 1 (rawInt ((i : Int) + 1))))) := ⟨fun b o hb eb => ((Heap.SameBut.update ..).2 b hb).trans eb⟩; have or : OR c (sJ.heap.update it (Obj.mapFields (·.setIfInBounds 1 (rawInt ((i : Int) + 1))))) it (.iter l (i + 1)) := by
       show Heap.get? _ _ = _; rw [Heap.get?_update_self _ e2 rfl]; simp [Obj.mapFields, rawInt]
     have tk : TK sJ.heap (sJ.heap.update it (Obj.mapFields (·.setIfInBounds 1 (rawInt ((i : Int) + 1))))) := on.tk fun o eo => by rw [e2] at eo; obtain rfl := sj0_ eo; rfl
     exact ⟨y, _, hp _ (Mod.upd _ _ _) (qai _ _ _), hv2.mono tk, F₁.rep.put (t := sJ.toks) h2 (fun b o hb eb => on.keep b o hb eb) or, Step.put (c := c) (t := sJ.toks) h2 (fun b o hb eb => on.keep b o hb eb) or⟩
   | none =>
     rw [hy] at hp; obtain ⟨hq, hp⟩ := hp; have hnone : items[i]? = none := by
       have hl := hr.length; rw [List.getElem?_eq_none_iff] at hy; rw [Array.getElem?_eq_none_iff]; simp at hl; omega
     refine qie (F₁.ok.quiet hq) e2 ⟨_, e3, rfl, n, rfl⟩ hnone fun h' e hx => ?_; have on : Only it sJ.heap (sJ.heap.update it (Obj.mapFields (·.setIfInBounds 0 .none))) := ⟨fun b o hb eb => ((Heap.SameBut.update ..).2 b hb).trans eb⟩
     let HW : AH := fun b => if b = it then none else HJ b
     have less : ∀ b o, HW b = some o -> HJ b = some o := fun b o hb => by
       by_cases z : b = it
       . simp only [HW, z, if_true] at hb; exact nomatch hb
       . simp only [HW, z, if_false] at hb; exact hb
     have hit : HW it = none := if_pos rfl; have RW : Rep c HW { sJ with heap := sJ.heap.update it (Obj.mapFields (·.setIfInBounds 0 .none)) } := on.rep (t := sJ.toks) (F₁.rep.less less) hit (F₁.rep.new _ _ h2) fun o eo => by rw [e2] at eo; obtain rfl := sj0_ eo; rfl
     have SW : Step HJ sJ HW { sJ with heap := sJ.heap.update it (Obj.mapFields (·.setIfInBounds 0 .none)) } := by
       refine ⟨fun b o eb nb => ⟨o, on.keep b o (fun z => by rw [z, h2] at nb; exact nomatch nb) eb, .refl _⟩, (fun b o eb nb => by rw [less b o eb] at nb; exact nomatch nb), fun b o eb => ?_⟩; by_cases z : b = it
       . subst z; exact ⟨_, Heap.get?_update_self _ e2 rfl⟩
       . exact ⟨o, on.keep b o z eb⟩
     refine OutX.from SW ?_; obtain ⟨ob, ws, o1, o2, o3, o4, o5⟩ := hx.there; exact ⟨.b "StopIteration", HW, hp HW (fun b hb => if_neg hb) hit, ⟨e, ob, ws, .none, rfl, hx.new, RW.fresh hx.new, o1, ⟨o2, rfl, fun _ => o5⟩, o3, o4, .inl rfl⟩, RW.silent (s' := { sJ with heap := h' }) hx.keeps rfl rfl, .silent hx.keeps⟩
 show wpAny _ _ (callWith pos (.ref a) [] [] []) _ _ _; refine wpAny_bind (wpAny_holding (evalArgs_nil3 (wpAny_bind (wpAny_standAt ?_)))); refine wpAny_bind (m := keeperOf (.ref a)) ?_; refine wpAny_bind (wpAny_load e1 ?_); simp only [show (Value.type "method-wrapper" != Value.type "method") = true by decide, show (Value.type "method-wrapper" == Value.type "builtin_function_or_method" || Value.type "method-wrapper" == Value.type "method-wrapper") = true by decide, if_true]; refine wpAny_pure ?_; exact wpAny_bind (wpAny_mono key (fun r sW hr => wpAny_bind (wpAny_holding (wpAny_point (wpAny_pure hr)))) fun _ _ x => x)
end
section
variable {c : Cx} {q : Md} {d : Nat} {A : Around} {env : Env} {m : Map} {H : AH} {pos : Pos} {fl : Option Addr} {K : Frag} {p : Program} {loose : List Str} {mg mb : Str -> Option Value}
inductive qsu (K : Frag) (name : Str) (H : AH) (go : Addr -> Addr -> Prop) (x : V) : Prop
 | mk (a C dd f : Addr) (fs : List (Str × V)) (hx : x = .ref a) (h1 : H a = some (.inst C dd)) (h2 : H dd = some (.ns fs)) (hg : plainGet K C name = true) (hh : hasDictIn K C = true) (hf : findIn K (.ref C) name = some (some (.ref f))) (ht : isFn K (.ref f) = true) (hfn : fnIn K f = true)
     (hgf : specialIn K (.ref f) "__get__" = some (some (.builtin "function.__get__"))) (htk : takesIn K (.ref f) = some false) (hc : copiedNames.contains name = false) (hl : fs.lookup name = none) (hp : go a f)
theorem qiw {o : Expr} {name : Str} {apos : Pos} {args : List Expr} {P : V -> AH -> Prop} {X : Exc -> AH -> Prop} (G : Gd K p loose mg mb c.g) (hfew : methodCallForm (args.length + 0) (backTo pos (starEach args env)) (backToKw pos (keywordEach [] env)) = false) (hab : attributeBase o name env (eval o env) = eval o env) (hpos : (apos.endLine == pos.line) = true) (hst : (backTo pos (starEach args env)).any (·.1) = true) (hq : q = .quiet)
   (h : awE c q d A env o m H (fun x HJ => qsu K name HJ (fun a f => qc2 c q d A env args [] m HJ (fun xs kw HW => qbg c d (.ref f) (.ref a :: xs) kw HW P X) X) x) X) : awE c q d A env (.Call (.Attribute o name apos) args [] pos) m H P X := by
 intro s F; subst hq; show wpAny c.M A (do
   let ov ← attributeBase o name env (eval o env)
   standAt apos.atName
   methodCall o name apos pos env ov (args.length + 0) (backTo pos (starEach args env)) (backToKw pos (keywordEach [] env))) _ _ s
 (refine (Eq.symm hab) ▸ ?_); refine wpAny_bind (qaj h F (fun x HJ sJ v hm F₁ hv S => ?_) fun _ _ o => o); obtain ⟨a, C, dd, f, fs, hx, h1, h2, hg, hh, hf, ht, hfn, hgf, htk, hc, hl, hp⟩ := hm; subst hx; obtain rfl := hv; refine wpAny_bind (wpAny_standAt ?_); unfold methodCall; (refine (Eq.symm hfew) ▸ ?_); obtain ⟨es, n, I, hpr⟩ := qcs F₁.rep h1 h2; have hg' := qib (name := name) hpr; rw [hl] at hg'; have X' := G.X.keeps F₁.rep.keep; refine wpAny_bind (wpAny_holding (wpAny_bind (m := getAttr (.ref a) name true) (get_bind X' I (plainGet_of hg).1 (findObj_fn hh hf hgf htk hc (by show lookIn name (dictOf es n) = _; rw [lookIn_dict, hg'])) (plainGet_of hg).2
   (wpAny_call (fn_get (s := { sJ with toks := sJ.toks + 1 }) X' (beq_iff_eq.mp ht) (handed_on rfl ?_))))))
 refine wpAny_pure ?_; have hmp : ∀ few, methodCallPos few o env apos pos = pure pos := fun few => by unfold methodCallPos; (refine (Eq.symm hpos) ▸ ?_); simp
 rw [hmp]; refine wpAny_bind (wpAny_pure ?_); have RW := F₁.rep.push0 (methodObj (.ref f) (.ref a)) (sJ.toks + 1); have SW := Step.push0 HJ sJ (methodObj (.ref f) (.ref a)) (sJ.toks + 1); have FW := F₁.step RW SW; refine awT.from (S.trans SW) ?_; have e0 : (sJ.heap.push (methodObj (.ref f) (.ref a))).get? sJ.heap.objs.size = some (methodObj (.ref f) (.ref a)) := Heap.get?_push_size _ rfl; have key : wpAny c.M A (evalArgs (.ref sJ.heap.objs.size) true (backTo pos (starEach args env)) []) (fun b sY => MethP K sJ.heap.objs.size f (.ref a) sY.heap ∧ wpAny c.M A (call (.ref sJ.heap.objs.size) ([] ++ b.pos) b.kw) (OutE c HJ { sJ with heap := sJ.heap.push (methodObj (.ref f) (.ref a)), toks := sJ.toks + 1 } P) (OutX c env.frame HJ { sJ with heap := sJ.heap.push (methodObj (.ref f) (.ref a)), toks := sJ.toks + 1 } X) sY) (OutX c env.frame HJ { sJ with heap := sJ.heap.push (methodObj (.ref f) (.ref a)), toks := sJ.toks + 1 } X) { sJ with heap := sJ.heap.push (methodObj (.ref f) (.ref a)), toks := sJ.toks + 1 } := by
   refine wpAny_mono (hp _ pos (.ref sJ.heap.objs.size) FW) (fun b sY zp0 => ?_) fun _ _ o => o; obtain ⟨xs, kw, HY, hc3, hv3, hk3, RY, SY⟩ := zp0; have hH : HJ sJ.heap.objs.size = none := F₁.rep.free (le_refl _); obtain ⟨o', e', k'⟩ := SY.kept _ _ e0 hH; have e3 : sY.heap.get? sJ.heap.objs.size = some (methodObj (.ref f) (.ref a)) := by
     rw [k'.eq (fun es n z => by cases z)] at e'; exact e'
   refine ⟨⟨e3, G.X.keeps RY.keep⟩, awT.from SY ?_⟩; refine wpAny_call (ks_codeAny_call_bound e3 ?_); refine codeAny_mono (hc3 A sY (.ref a :: b.pos) b.kw (FW.toBRep.step RY SY) ⟨_, _, rfl, rfl, hv3⟩ hk3) fun r s' o => ?_; cases r with
   | ok f => cases f <;> exact o
   | error e =>
     obtain ⟨k, H', a, b, r, z⟩ := o; exact ⟨k, H', a, b.anyFl, r, z⟩
 exact ks_call hst (fun h X => keeps_M hfn h X) key
theorem qp7 {v : Expr} {P : V -> AH -> Prop} {X : Exc -> AH -> Prop} (h : awE c q d A env v m H P X) : awE c q d A env (.JoinedStr [v] pos) m H P X := fun s F => wpAny_JoinedStr_one (h s F)
theorem qre {h : Heap} : ∀ {ss : List Str} {vs : List Value}, VRs h (ss.map V.str) vs -> StrsAre vs ss := by
 intro ss
 induction ss with
 | nil =>
   intro _ e; obtain rfl := e; exact .nil
 | cons x ss ih =>
   intro _ e; obtain ⟨y, ys, rfl, ⟨t, rfl⟩, b⟩ := e; exact .cons x t (ih b)
theorem qq6 {h : Heap} : ∀ {ss : List Str} {vs : List Value}, StrsAre vs ss -> VRs h (ss.map V.str) vs
 := by
 intro ss vs z
 induction z with
 | nil => rfl
 | cons x t _ ih => exact ⟨_, _, rfl, ⟨t, rfl⟩, ih⟩
theorem qf5 {a : Addr} {ss : List Str} {P : V -> AH -> Prop} {X : Exc -> AH -> Prop} (ha : H a = some (.list (ss.map V.str))) (hl : ss.length < 64) (h : ∀ ss' : List Str, ss'.Perm ss -> sortedS ss' = true -> New H (.list (ss'.map V.str)) P) : qa7 c q d A fl (.builtin "sorted") [.ref a] [] H P X := by
 intro s vs kvs B hv hk; obtain rfl := qa1 hk; obtain ⟨v, _, rfl, hv, rfl⟩ := hv; obtain rfl := hv; obtain ⟨items, n, e, hr⟩ := B.rep.at_ _ _ ha; have hS := qre hr; refine sorted_strs (vs := items.toList) ⟨_, e, rfl, n, by rfl⟩ hS (by rw [← hr.length]; simpa using hl) fun out ss' h1 h2 h3 => ?_; obtain ⟨e', he'⟩ := sortedAll_at s.heap items.toList out; have k : ∀ b o, s.heap.get? b = some o -> (sortedAll s.heap items.toList out).get? b = some o := fun b o => sortedAll_old; have hfr : s.heap.get? (s.heap.objs.size + 1) = none := Heap.get?_none_of_le (le_succ _); have RJ : Rep c H { s with heap := sortedAll s.heap items.toList out } := B.rep.silent k rfl rfl; have SJ : Step H s H { s with heap := sortedAll s.heap items.toList out } := .silent k; exact ⟨.ref (s.heap.objs.size + 1), _, (h ss' h2 h3).use _ (B.rep.fresh hfr), rfl, RJ.add (B.rep.gnone hfr) ⟨out, e', he', qq6 h1⟩, SJ.add fun _ => hfr⟩
section
variable {P : Fl -> Map -> AH -> Prop} {X : Exc -> Map -> AH -> Prop}
theorem qiz {x : Str} {np cpos : Pos} {args : List Expr} {C : Addr} {B newId initId : String} {bm : List Value} (G : Gd K p loose mg mb c.g) (hq : q = .quiet) (FB : ExcBaseFacts B newId initId bm) (hk : env.kindOf x = some .globalImplicit) (ex : nsIn K mainGlobals x = some (some (.ref C))) (hx : excIn K C bm newId = true) (hplain : (backTo cpos (starEach args env)).any (·.1) = false) (hd : (x == ("__debug__" : Str)) = false)
   (h : qc2 c q d A env args [] m H (fun xs kw HJ => kw = [] ∧ xs.length ≤ 1000 ∧ X (.own C) m HJ) fun k H' => X k m H') : awS c q d A env (.Raise (some (.Call (.Name x np) args [] cpos)) none pos) m H P X := by
 intro s S; have O := own_of_in G.X G.T ex hx; obtain ⟨tl, N, nm, qn, bs, hdct, sn, sub, ab, col, dd, k0, k1, k2, k3, k5, mN, hC, hN, hni, T⟩ := O.obj; refine wpAny_Raise_call_subT (C := C) (nm := nm) (q := qn) (N := N) (bs := bs) (bm := tl) (hdct := hdct) (sn := sn) (sub := sub) (ab := ab) (col := col) (dd := dd) (k0 := k0) (k1 := k1) (k2 := k2) (k3 := k3) (k5 := k5)
   FB (mN := mN) (T.hasType FB.hasBase) (S.ok.quiet hq) hplain hni ?_
 refine wpAny_mono (qa4 (c := c) (q := q) (d := d) (A := A) (env := env) (m := m) (H := H) (P := fun y H' => y = .ref C ∧ H' = H) (X := fun _ _ => False) G hk ex ⟨rfl, rfl⟩ hd s S.toFRep) (fun v sJ zp0 => ?_) fun _ _ ⟨_, _, z, _, _, _⟩ => z.elim; obtain ⟨y, HJ, ⟨hy, hH⟩, hv, RJ, SJ⟩ := zp0; subst hy hH; obtain rfl := hv; refine ⟨rfl, wpAny_mono (h sJ cpos (.ref C) (S.toFRep.step RJ SJ)) (fun a sW zp0 => ?_) fun e sW o => (OutX.from SJ o).toS S.toFRep⟩; obtain ⟨xs, kw, HW, ⟨hkw, hl, hX⟩, hv2, hk2, RW, SW⟩ := zp0; subst hkw; obtain ⟨ap, akw⟩ := a; obtain rfl := qa1 hk2; refine ⟨rfl, by rw [← hv2.length]; exact le_trans hl (by decide), RW.keep _ _ hC, hN.keeps RW.keep, T.keeps RW.keep, fun h' e hm => ?_⟩; obtain ⟨t, ht, _, _⟩ := hm.there; have RY : Rep c HW { sW with heap := h' } := RW.silent hm.keeps rfl rfl; have SY : Step HW sW HW { sW with heap := h' } := .silent hm.keeps; refine OutX.toS S.toFRep (OutX.from (SJ.trans SW) ⟨.own C, HW, hX, ?_, RY, SY⟩); exact ⟨e, _, _, .none, rfl, hm.new, RW.fresh hm.new, ht, ⟨rfl, rfl, fun _ => rfl⟩, rfl, rfl, .inl rfl⟩
end
end
noncomputable def stN (i : Nat) : Stmt := pw_om0166_02.main.body.getD i (.Pass ⟨0, 0, 0, 0⟩)
noncomputable def stM (i j : Nat) : Stmt := match stN i with
 | .ClassDef _ _ _ b _ _ _ _ _ _ _ => b.getD j (.Pass ⟨0, 0, 0, 0⟩)
 | s => s
inductive Lt (s : Stmt) (a : Arguments) (b : List Stmt) (c : Scope) : Prop
 | mk (n : Str) (d : List Expr) (r : Option Expr) (t : List TypeParam) (u : Option Scope) (e : Str) (p : Pos) (h : s = .FunctionDef n a b d r t c u e p)
noncomputable def kh (P : Params) (s : Str) : Int := PyData.keyHash P s
noncomputable abbrev tU (a : Array Value) : Obj := { cls := .type "tuple", data := .seq a }
noncomputable abbrev en (P : Params) (k : Str) (t : Nat) (v : Value) : DictEntry := ⟨kh P k, .str k t, v⟩
noncomputable abbrev fK (n q : Str) (a : Arguments) (b : List Stmt) (e : Scope) (d k : Value) (m : Str) (t c : Nat) : Obj := { cls := .type "function", data := .func { name := n, qualname := q, params := a, body := .stmts b, scope := e, globals := 3, closure := [], defaults := d, kwdefaults := k, pyModule := .str m t, code := .ref c } }
noncomputable abbrev co (n q : Str) (t : Nat) (l a b c d : Int) (r : Nat) (bo : Bool) (r2 : Nat) (v1 v2 v3 v4 : Value) (u : Int) : Obj := { cls := .type "code", data := .fields #[.str n t, .str q (t + 1), .str "/claim/cut.py" (t + 2), .int l 0, .int a 0, .int b 0, .int c 0, .int d 0, .ref r, .bool bo, .int 276 0, .ref r2, v1, v2, v3, v4, .int u 0, .int l 0, .str "/claim/cut.py" (u.toNat + 1)] }
noncomputable def KF : Params -> Frag := by
 refine' (fun
 {a1 b1 c1} (_ : Lt (stM 7 0) a1 b1 c1)
 {a2 b2 c2} (_ : Lt (stM 7 1) a2 b2 c2)
 {a3 b3 c3} (_ : Lt (stM 7 2) a3 b3 c3)
 {a4 b4 c4} (_ : Lt (stM 7 3) a4 b4 c4)
 {a5 b5 c5} (_ : Lt (stM 7 4) a5 b5 c5)
 {a6 b6 c6} (_ : Lt (stM 7 5) a6 b6 c6)
 {a7 b7 c7} (_ : Lt (stM 7 7) a7 b7 c7)
 {a8 b8 c8} (_ : Lt (stM 7 8) a8 b8 c8)
 {a9 b9 c9} (_ : Lt (stM 7 9) a9 b9 c9)
 {a10 b10 c10} (_ : Lt (stM 7 10) a10 b10 c10)
 {a11 b11 c11} (_ : Lt (stM 7 16) a11 b11 c11)
 {a12 b12 c12} (_ : Lt (stM 11 1) a12 b12 c12)
 {a13 b13 c13} (_ : Lt (stM 13 0) a13 b13 c13)
 {a14 b14 c14} (_ : Lt (stM 13 1) a14 b14 c14)
 {a15 b15 c15} (_ : Lt (stM 13 2) a15 b15 c15)
 {a16 b16 c16} (_ : Lt (stM 13 3) a16 b16 c16)
 {a17 b17 c17} (_ : Lt (stM 13 4) a17 b17 c17)
 {a18 b18 c18} (_ : Lt (stM 13 5) a18 b18 c18)
 {a19 b19 c19} (_ : Lt (stM 13 7) a19 b19 c19)
 {a20 b20 c20} (_ : Lt (stM 13 8) a20 b20 c20)
 {a21 b21 c21} (_ : Lt (stN 15) a21 b21 c21)
 {a22 b22 c22} (_ : Lt (stN 17) a22 b22 c22)
 {a23 b23 c23} (_ : Lt (stN 18) a23 b23 c23)
 {a24 b24 c24} (_ : Lt (stN 19) a24 b24 c24)
 {a25 b25 c25} (_ : Lt (stN 20) a25 b25 c25)
 {a26 b26 c26} (_ : Lt (stN 21) a26 b26 c26)
 {a27 b27 c27} (_ : Lt (stN 22) a27 b27 c27)
 {a28 b28 c28} (_ : Lt (stN 23) a28 b28 c28)
 {a29 b29 c29} (_ : Lt (stN 24) a29 b29 c29)
 {a30 b30 c30} (_ : Lt (stN 25) a30 b30 c30)
 {a31 b31 c31} (_ : Lt (stN 26) a31 b31 c31)
 {a32 b32 c32} (_ : Lt (stN 27) a32 b32 c32)
 {a33 b33 c33} (_ : Lt (stN 28) a33 b33 c33)
   P =>
 (nat_lit 3, { cls := .type "dict", data := .dict #[en P "__name__" 165 (.str "law_om0166_02" 750), en P "__doc__" 166 .none, en P "__package__" 167 .none, ⟨kh P "__loader__", .str "__loader__" 168, .builtin "__main__.__loader__#opaque"⟩, en P "__spec__" 169 .none, en P "__annotations__" 170 (.ref 6), en P "__builtins__" 171 (.ref 4), en P "__file__" 173 (.str "/claim/cut.py" 172), en P "__cached__" 174 .none, en P "_sre" 275 (.ref 12), en P "_wall" 288 (.ref 38), en P "tspecials" 324 (.ref 43), en P "_name_disallowed_re" 350 (.ref 48), en P "_value_disallowed_re" 384 (.ref 53), en P "_formatparam" 394 (.ref 61), en P "Headers" 551 (.ref 182), ⟨kh P "_NODE_OUT", .str "_NODE_OUT" 556, .int (-1) 555⟩, ⟨kh P "_NODE_DONE", .str "_NODE_DONE" 559, .int (-2) 558⟩, en P "_NodeInfo" 596 (.ref 205), en P "CycleError" 614 (.ref 220), en P "TopologicalSorter" 733 (.ref 302), en P "sorted_list_difference" 749 (.ref 313), en P "_law_things" 758 (.ref 320), en P "_law_pairs" 764 (.ref 325), en P "_law_closed" 770 (.ref 330), en P "_law_has_four" 781 (.ref 337), en P "_law_needs" 791 (.ref 344), en P "_law_rounds" 803 (.ref 351), en P "_law_below" 809 (.ref 356), en P "_law_mark" 821 (.ref 363), en P "_law_found" 827 (.ref 368), en P "_law_folded" 833 (.ref 373), en P "_law_read" 839 (.ref 378), en P "law" 845 (.ref 383)] 34 }) ::
 (nat_lit 43, { cls := .type "re.Pattern", data := .fields #[.str "[ \\(\\)<>@,;:\\\\\"/\\[\\]\\?=]" 292, .int 32 323, .int 0 0, .none, .none, .ref 42, .int 0 0] }) ::
 (nat_lit 47, tU #[.int 14 0, .int 10 0, .int 4 0, .int 1 0, .int 1 0, .int 22 0, .int 0 0, .int 31 0, .int 16 0, .int 127 0, .int 0 0, .int 13 0, .int 7 0, .int 22 0, .int 0 0, .int 31 0, .int 16 0, .int 127 0, .int 0 0, .int 1 0]) ::
 (nat_lit 48, { cls := .type "re.Pattern", data := .fields #[.str "[\\x00-\\x1F\\x7F]" 326, .int 32 349, .int 0 0, .none, .none, .ref 47, .int 0 0] }) ::
 (nat_lit 52, tU #[.int 14 0, .int 14 0, .int 4 0, .int 1 0, .int 1 0, .int 9 0, .int 4294966783 0, .int 0 0, .int 0 0, .int 2147483648 0, .int 0 0, .int 0 0, .int 0 0, .int 0 0, .int 0 0, .int 13 0, .int 11 0, .int 9 0, .int 4294966783 0, .int 0 0, .int 0 0, .int 2147483648 0, .int 0 0, .int 0 0, .int 0 0, .int 0 0, .int 0 0, .int 1 0]) ::
 (nat_lit 53, { cls := .type "re.Pattern", data := .fields #[.str "[\\x00-\\x08\\x0A-\\x1F\\x7F]" 352, .int 32 383, .int 0 0, .none, .none, .ref 52, .int 0 0] }) ::
 (nat_lit 69, tU #[.none]) ::
 (nat_lit 75, co "__init__" "Headers.__init__" 407 20 2 0 0 3 70 true 71 .none (.ref 72) (.ref 73) (.ref 74) 414) ::
 (nat_lit 76, fK "__init__" "Headers.__init__" a1 b1 c1 (.ref 69) .none "cpy313.wsgiref.headers" 289 75) ::
 (nat_lit 82, co "_convert_string_type" "Headers._convert_string_type" 417 30 2 0 1 3 77 true 78 .none (.ref 79) (.ref 80) (.ref 81) 424) ::
 (nat_lit 83, fK "_convert_string_type" "Headers._convert_string_type" a2 b2 c2 .none .none "cpy313.wsgiref.headers" 289 82) ::
 (nat_lit 89, co "__len__" "Headers.__len__" 427 38 1 0 0 3 84 true 85 .none (.ref 86) (.ref 87) (.ref 88) 431) ::
 (nat_lit 90, fK "__len__" "Headers.__len__" a3 b3 c3 .none .none "cpy313.wsgiref.headers" 289 89) ::
 (nat_lit 96, co "__setitem__" "Headers.__setitem__" 434 41 3 0 0 3 91 true 92 .none (.ref 93) (.ref 94) (.ref 95) 440) ::
 (nat_lit 97, fK "__setitem__" "Headers.__setitem__" a4 b4 c4 .none .none "cpy313.wsgiref.headers" 289 96) ::
 (nat_lit 101, co "__delitem__" "Headers.__delitem__" 443 45 2 0 0 3 98 true 99 .none .none .none (.ref 100) 446) ::
 (nat_lit 102, fK "__delitem__" "Headers.__delitem__" a5 b5 c5 .none .none "cpy313.wsgiref.headers" 289 101) ::
 (nat_lit 108, co "__getitem__" "Headers.__getitem__" 449 49 2 0 0 3 103 true 104 .none (.ref 105) (.ref 106) (.ref 107) 454) ::
 (nat_lit 109, fK "__getitem__" "Headers.__getitem__" a6 b6 c6 .none .none "cpy313.wsgiref.headers" 289 108) ::
 (nat_lit 120, co "get_all" "Headers.get_all" 465 55 2 0 0 3 117 true 118 .none .none .none (.ref 119) 468) ::
 (nat_lit 121, fK "get_all" "Headers.get_all" a7 b7 c7 .none .none "cpy313.wsgiref.headers" 289 120) ::
 (nat_lit 122, tU #[.none]) ::
 (nat_lit 128, co "get" "Headers.get" 471 59 3 0 0 3 123 true 124 .none (.ref 125) (.ref 126) (.ref 127) 479) ::
 (nat_lit 129, fK "get" "Headers.get" a8 b8 c8 (.ref 122) .none "cpy313.wsgiref.headers" 289 128) ::
 (nat_lit 133, co "keys" "Headers.keys" 482 66 1 0 0 3 130 true 131 .none .none .none (.ref 132) 485) ::
 (nat_lit 134, fK "keys" "Headers.keys" a9 b9 c9 .none .none "cpy313.wsgiref.headers" 289 133) ::
 (nat_lit 138, co "values" "Headers.values" 488 69 1 0 0 3 135 true 136 .none .none .none (.ref 137) 491) ::
 (nat_lit 139, fK "values" "Headers.values" a10 b10 c10 .none .none "cpy313.wsgiref.headers" 289 138) ::
 (nat_lit 178, co "add_header" "Headers.add_header" 530 87 3 0 0 11 173 true 174 .none (.ref 175) (.ref 176) (.ref 177) 540) ::
 (nat_lit 179, fK "add_header" "Headers.add_header" a11 b11 c11 .none .none "cpy313.wsgiref.headers" 289 178) ::
 (nat_lit 181, { cls := .type "dict", data := .dict #[en P "__module__" 402 (.str "cpy313.wsgiref.headers" 289), en P "__firstlineno__" 406 (.int 18 405), en P "__init__" 416 (.ref 76), en P "_convert_string_type" 426 (.ref 83), en P "__len__" 433 (.ref 90), en P "__setitem__" 442 (.ref 97), en P "__delitem__" 448 (.ref 102), en P "__getitem__" 456 (.ref 109), en P "__contains__" 464 (.ref 116), en P "get_all" 470 (.ref 121), en P "get" 481 (.ref 129), en P "keys" 487 (.ref 134), en P "values" 493 (.ref 139), en P "items" 500 (.ref 146), en P "__repr__" 507 (.ref 153), en P "__str__" 513 (.ref 158), en P "__bytes__" 520 (.ref 165), en P "setdefault" 529 (.ref 172), en P "add_header" 542 (.ref 179), en P "__static_attributes__" 544 (.ref 180), en P "__dict__" 546 (.ref 183), en P "__weakref__" 548 (.ref 184), en P "__doc__" 549 .none] 4 }) ::
 (nat_lit 182, { cls := .type "type", data := .cls { name := "Headers", bases := [.type "object"], mro := [.ref 182, .type "object"], ns := 181, qualname := "Headers" }, slots := #[none, none, some (.str "Headers" 395), some (.str "Headers" 403), some (.builtin "object.__new__"), some (.bool true)] }) ::
 (nat_lit 183, { cls := .type "getset_descriptor", data := .fields #[.str "__dict__" 545, .ref 182, .builtin "function.__dict__", .builtin "function.__dict__#set"] }) ::
 (nat_lit 184, { cls := .type "getset_descriptor", data := .fields #[.str "__weakref__" 547, .ref 182, .builtin "ExceptionGroup.__weakref__", .none] }) ::
 (nat_lit 200, co "__init__" "_NodeInfo.__init__" 576 106 2 0 0 3 195 true 196 .none (.ref 197) (.ref 198) (.ref 199) 581) ::
 (nat_lit 201, fK "__init__" "_NodeInfo.__init__" a12 b12 c12 .none .none "cpy313.graphlib" 552 200) ::
 (nat_lit 204, { cls := .type "dict", data := .dict #[en P "__module__" 567 (.str "cpy313.graphlib" 552), en P "__firstlineno__" 571 (.int 103 570), en P "__slots__" 575 (.ref 194), en P "__init__" 583 (.ref 201), en P "__static_attributes__" 587 (.ref 202), en P "node" 589 (.ref 206), en P "npredecessors" 591 (.ref 207), en P "successors" 593 (.ref 208), en P "__doc__" 594 .none] 5 }) ::
 (nat_lit 205, { cls := .type "type", data := .cls { name := "_NodeInfo", bases := [.type "object"], mro := [.ref 205, .type "object"], ns := 204, qualname := "_NodeInfo", hasDict := false, slotNames := ["node", "npredecessors", "successors"] }, slots := #[none, none, some (.str "_NodeInfo" 560), some (.str "_NodeInfo" 568), some (.builtin "object.__new__"), some (.bool false)] }) ::
 (nat_lit 206, { cls := .type "member_descriptor", data := .fields #[.str "node" 588, .ref 205, .builtin "proto.slot", .builtin "proto.slot#set", .int 2 0] }) ::
 (nat_lit 207, { cls := .type "member_descriptor", data := .fields #[.str "npredecessors" 590, .ref 205, .builtin "proto.slot", .builtin "proto.slot#set", .int 1 0] }) ::
 (nat_lit 208, { cls := .type "member_descriptor", data := .fields #[.str "successors" 592, .ref 205, .builtin "proto.slot", .builtin "proto.slot#set", .int 0 0] }) ::
 (nat_lit 219, { cls := .type "dict", data := .dict #[en P "__module__" 604 (.str "cpy313.graphlib" 552), en P "__firstlineno__" 608 (.int 110 607), en P "__static_attributes__" 609 (.ref 218), en P "__weakref__" 611 (.ref 221), en P "__doc__" 612 .none] 3 }) ::
 (nat_lit 220, { cls := .type "type", data := .cls { name := "CycleError", bases := [.type "ValueError"], mro := [.ref 220, .type "ValueError", .type "Exception", .type "BaseException", .type "object"], ns := 219, qualname := "CycleError" }, slots := #[some (.ref 211), none, some (.str "CycleError" 597), some (.str "CycleError" 605), some (.builtin "ValueError.__new__"), some (.bool true)] }) ::
 (nat_lit 221, { cls := .type "getset_descriptor", data := .fields #[.str "__weakref__" 610, .ref 220, .builtin "ExceptionGroup.__weakref__", .none] }) ::
 (nat_lit 231, tU #[.none]) ::
 (nat_lit 237, co "__init__" "TopologicalSorter.__init__" 627 114 2 0 0 3 232 true 233 .none (.ref 234) (.ref 235) (.ref 236) 634) ::
 (nat_lit 238, fK "__init__" "TopologicalSorter.__init__" a13 b13 c13 (.ref 231) .none "cpy313.graphlib" 552 237) ::
 (nat_lit 244, co "_get_nodeinfo" "TopologicalSorter._get_nodeinfo" 637 123 2 0 0 3 239 true 240 .none (.ref 241) (.ref 242) (.ref 243) 643) ::
 (nat_lit 245, fK "_get_nodeinfo" "TopologicalSorter._get_nodeinfo" a14 b14 c14 .none .none "cpy313.graphlib" 552 244) ::
 (nat_lit 251, co "add" "TopologicalSorter.add" 646 128 2 0 0 7 246 true 247 .none (.ref 248) (.ref 249) (.ref 250) 655) ::
 (nat_lit 252, fK "add" "TopologicalSorter.add" a15 b15 c15 .none .none "cpy313.graphlib" 552 251) ::
 (nat_lit 256, co "prepare" "TopologicalSorter.prepare" 658 137 1 0 0 3 253 true 254 .none .none .none (.ref 255) 661) ::
 (nat_lit 257, fK "prepare" "TopologicalSorter.prepare" a16 b16 c16 .none .none "cpy313.graphlib" 552 256) ::
 (nat_lit 263, co "get_ready" "TopologicalSorter.get_ready" 664 145 1 0 0 3 258 true 259 .none (.ref 260) (.ref 261) (.ref 262) 671) ::
 (nat_lit 264, fK "get_ready" "TopologicalSorter.get_ready" a17 b17 c17 .none .none "cpy313.graphlib" 552 263) ::
 (nat_lit 270, co "is_active" "TopologicalSorter.is_active" 674 156 1 0 0 3 265 true 266 .none (.ref 267) (.ref 268) (.ref 269) 678) ::
 (nat_lit 271, fK "is_active" "TopologicalSorter.is_active" a18 b18 c18 .none .none "cpy313.graphlib" 552 270) ::
 (nat_lit 284, co "done" "TopologicalSorter.done" 688 164 1 0 0 7 279 true 280 .none (.ref 281) (.ref 282) (.ref 283) 699) ::
 (nat_lit 285, fK "done" "TopologicalSorter.done" a19 b19 c19 .none .none "cpy313.graphlib" 552 284) ::
 (nat_lit 291, co "_find_cycle" "TopologicalSorter._find_cycle" 702 187 1 0 0 3 286 true 287 .none (.ref 288) (.ref 289) (.ref 290) 712) ::
 (nat_lit 292, fK "_find_cycle" "TopologicalSorter._find_cycle" a20 b20 c20 .none .none "cpy313.graphlib" 552 291) ::
 (nat_lit 301, { cls := .type "dict", data := .dict #[en P "__module__" 622 (.str "cpy313.graphlib" 552), en P "__firstlineno__" 626 (.int 112 625), en P "__init__" 636 (.ref 238), en P "_get_nodeinfo" 645 (.ref 245), en P "add" 657 (.ref 252), en P "prepare" 663 (.ref 257), en P "get_ready" 673 (.ref 264), en P "is_active" 680 (.ref 271), en P "__bool__" 687 (.ref 278), en P "done" 701 (.ref 285), en P "_find_cycle" 714 (.ref 292), en P "static_order" 721 (.ref 299), en P "__static_attributes__" 726 (.ref 300), en P "__dict__" 728 (.ref 303), en P "__weakref__" 730 (.ref 304), en P "__doc__" 731 .none] 4 }) ::
 (nat_lit 302, { cls := .type "type", data := .cls { name := "TopologicalSorter", bases := [.type "object"], mro := [.ref 302, .type "object"], ns := 301, qualname := "TopologicalSorter" }, slots := #[none, none, some (.str "TopologicalSorter" 615), some (.str "TopologicalSorter" 623), some (.builtin "object.__new__"), some (.bool true)] }) ::
 (nat_lit 303, { cls := .type "getset_descriptor", data := .fields #[.str "__dict__" 727, .ref 302, .builtin "function.__dict__", .builtin "function.__dict__#set"] }) ::
 (nat_lit 304, { cls := .type "getset_descriptor", data := .fields #[.str "__weakref__" 729, .ref 302, .builtin "ExceptionGroup.__weakref__", .none] }) ::
 (nat_lit 312, co "sorted_list_difference" "sorted_list_difference" 736 219 2 0 0 3 307 true 308 .none (.ref 309) (.ref 310) (.ref 311) 747) ::
 (nat_lit 313, fK "sorted_list_difference" "sorted_list_difference" a21 b21 c21 .none .none "cpy313.unittest.util" 734 312) ::
 (nat_lit 319, co "_law_things" "_law_things" 752 252 1 0 0 3 314 true 315 .none (.ref 316) (.ref 317) (.ref 318) 756) ::
 (nat_lit 320, fK "_law_things" "_law_things" a22 b22 c22 .none .none "law_om0166_02" 750 319) ::
 (nat_lit 324, co "_law_pairs" "_law_pairs" 759 254 1 0 0 3 321 true 322 .none .none .none (.ref 323) 762) ::
 (nat_lit 325, fK "_law_pairs" "_law_pairs" a23 b23 c23 .none .none "law_om0166_02" 750 324) ::
 (nat_lit 329, co "_law_closed" "_law_closed" 765 268 2 0 0 3 326 true 327 .none .none .none (.ref 328) 768) ::
 (nat_lit 330, fK "_law_closed" "_law_closed" a24 b24 c24 .none .none "law_om0166_02" 750 329) ::
 (nat_lit 336, co "_law_has_four" "_law_has_four" 771 275 1 0 0 3 331 true 332 .none (.ref 333) (.ref 334) (.ref 335) 779) ::
 (nat_lit 337, fK "_law_has_four" "_law_has_four" a25 b25 c25 .none .none "law_om0166_02" 750 336) ::
 (nat_lit 343, co "_law_needs" "_law_needs" 782 281 1 0 0 3 338 true 339 .none (.ref 340) (.ref 341) (.ref 342) 789) ::
 (nat_lit 344, fK "_law_needs" "_law_needs" a26 b26 c26 .none .none "law_om0166_02" 750 343) ::
 (nat_lit 350, co "_law_rounds" "_law_rounds" 792 286 2 0 0 3 345 true 346 .none (.ref 347) (.ref 348) (.ref 349) 801) ::
 (nat_lit 351, fK "_law_rounds" "_law_rounds" a27 b27 c27 .none .none "law_om0166_02" 750 350) ::
 (nat_lit 355, co "_law_below" "_law_below" 804 297 3 0 0 3 352 true 353 .none .none .none (.ref 354) 807) ::
 (nat_lit 356, fK "_law_below" "_law_below" a28 b28 c28 .none .none "law_om0166_02" 750 355) ::
 (nat_lit 362, co "_law_mark" "_law_mark" 810 306 4 0 0 3 357 true 358 .none (.ref 359) (.ref 360) (.ref 361) 819) ::
 (nat_lit 363, fK "_law_mark" "_law_mark" a29 b29 c29 .none .none "law_om0166_02" 750 362) ::
 (nat_lit 367, co "_law_found" "_law_found" 822 314 3 0 0 3 364 true 365 .none .none .none (.ref 366) 825) ::
 (nat_lit 368, fK "_law_found" "_law_found" a30 b30 c30 .none .none "law_om0166_02" 750 367) ::
 (nat_lit 372, co "_law_folded" "_law_folded" 828 321 3 0 0 3 369 true 370 .none .none .none (.ref 371) 831) ::
 (nat_lit 373, fK "_law_folded" "_law_folded" a31 b31 c31 .none .none "law_om0166_02" 750 372) ::
 (nat_lit 377, co "_law_read" "_law_read" 834 338 1 0 0 3 374 true 375 .none .none .none (.ref 376) 837) ::
 (nat_lit 378, fK "_law_read" "_law_read" a32 b32 c32 .none .none "law_om0166_02" 750 377) ::
 (nat_lit 382, co "law" "law" 840 355 1 0 0 3 379 true 380 .none .none .none (.ref 381) 843) ::
 (nat_lit 383, fK "law" "law" a33 b33 c33 .none .none "law_om0166_02" 750 382) :: []) ?h1 ?h2 ?h3 ?h4 ?h5 ?h6 ?h7 ?h8 ?h9 ?h10 ?h11 ?h12 ?h13 ?h14 ?h15 ?h16 ?h17 ?h18 ?h19 ?h20 ?h21 ?h22 ?h23 ?h24 ?h25 ?h26 ?h27 ?h28 ?h29 ?h30 ?h31 ?h32 ?h33
 all_goals try (refine' Lt.mk _ _ _ _ _ _ _ ?z; (case z => ((conv => lhs; whnf) <;> exact rfl)))
abbrev rw1 : OpenLaw := rw_om0166_02
noncomputable abbrev vw : Program := view rw1.row.toRowW.prog [0, 1, 2, 7, 8, 9, 10, 12, 13, 14, 15, 16, 17, 18, 19, 20, 21, 22, 23, 24, 25, 26, 27, 28]
abbrev lse : List Str := ["tspecials", "_name_disallowed_re", "_value_disallowed_re", "_formatparam", "_NodeInfo"]
noncomputable def Hk : Hook := kHook KF [3, 43, 47, 48, 52, 53, 69, 75, 76, 82, 83, 89, 90, 96, 97, 101, 102, 108, 109, 120, 121, 122, 128, 129, 133, 134, 138, 139, 178, 179, 181, 182, 183, 184, 200, 201, 204, 205, 206, 207, 208, 219, 220, 221, 231, 237, 238, 244, 245, 251, 252, 256, 257, 263, 264, 270, 271, 284, 285, 291, 292, 301, 302, 303, 304, 312, 313, 319, 320, 324, 325, 329, 330, 336, 337, 343, 344, 350, 351, 355, 356, 362, 363, 367, 368, 372, 373, 377, 378, 382, 383] (fun _ => by kernel_rfl)
noncomputable def fA : Stmt -> Arguments
 | .FunctionDef _ a _ _ _ _ _ _ _ _ => a
 | _ => ⟨[], [], none, [], [], none, []⟩
noncomputable def fB : Stmt -> List Stmt
 | .FunctionDef _ _ b _ _ _ _ _ _ _ => b
 | _ => []
noncomputable def fS : Stmt -> Scope
 | .FunctionDef _ _ _ _ _ _ s _ _ _ => s
 | _ => { kind := .function, names := [], isGenerator := false, isCoroutine := false }
noncomputable abbrev nF (a : Array Value) : Obj := { cls := .none, data := .fields a }
noncomputable abbrev f0 (n q : Str) (s : Stmt) : Obj := { cls := .none, data := .func { name := n, qualname := q, params := fA s, body := .stmts (fB s), scope := fS s, globals := 0, closure := [], defaults := .none, kwdefaults := .none } }
noncomputable abbrev f1 (n q : Str) (s : Stmt) (d k : Value) (m : Str) (t c : Nat) : Obj := { cls := .type "function", data := .func { name := n, qualname := q, params := fA s, body := .stmts (fB s), scope := fS s, globals := 3, closure := [], defaults := d, kwdefaults := k, pyModule := .str m t, code := .ref c } }
noncomputable abbrev pw : Program := rw1.row.toRowW.prog
noncomputable def b0 (w : World) : Shared := match (PySem.W.Fast.tw10274390034422433532 PySem.W.Fast.tw14364793385576792824 (opening pw) w 4892 (PySem.W.Fast.tw1435165496053646825 (opening pw)).1 (PySem.W.Fast.tw1435165496053646825 (opening pw)).2).bind (PySem.W.Fast.tw14289696077712309145 pw) with
 | some s => s
 | none => (start (opening pw)).1
noncomputable def dE (P : Params) : List DictEntry := [
 en P "__doc__" 166 .none,
 en P "__package__" 167 .none,
 ⟨kh P "__loader__", .str "__loader__" 168, .builtin "__main__.__loader__#opaque"⟩,
 en P "__spec__" 169 .none,
 en P "__annotations__" 170 (.ref 6),
 en P "__builtins__" 171 (.ref 4),
 en P "__file__" 173 (.str "/claim/cut.py" 172),
 en P "__cached__" 174 .none,
 en P "_sre" 275 (.ref 12),
 en P "_wall" 288 (.ref 38),
 en P "tspecials" 324 (.ref 43),
 en P "_name_disallowed_re" 350 (.ref 48),
 en P "_value_disallowed_re" 384 (.ref 53),
 en P "_formatparam" 394 (.ref 61),
 en P "Headers" 551 (.ref 182),
 ⟨kh P "_NODE_OUT", .str "_NODE_OUT" 556, .int (-1) 555⟩,
 ⟨kh P "_NODE_DONE", .str "_NODE_DONE" 559, .int (-2) 558⟩,
 en P "_NodeInfo" 596 (.ref 205),
 en P "CycleError" 614 (.ref 220),
 en P "TopologicalSorter" 733 (.ref 302),
 en P "sorted_list_difference" 749 (.ref 313),
 en P "_law_things" 758 (.ref 320),
 en P "_law_pairs" 764 (.ref 325),
 en P "_law_closed" 770 (.ref 330),
 en P "_law_has_four" 781 (.ref 337),
 en P "_law_needs" 791 (.ref 344),
 en P "_law_rounds" 803 (.ref 351),
 en P "_law_below" 809 (.ref 356),
 en P "_law_mark" 821 (.ref 363),
 en P "_law_found" 827 (.ref 368),
 en P "_law_folded" 833 (.ref 373),
 en P "_law_read" 839 (.ref 378),
 en P "law" 845 (.ref 383)]
noncomputable def fE : List Value := [.int 2 0, .int 0 0, .ref 37, .int 9 0, .int 0 0, .ref 60, .int 18 0, .int 0 0, .ref 67, .int 103 0, .int 0 0, .ref 192, .int 110 0, .int 0 0, .ref 216, .int 112 0, .int 0 0, .ref 229, .int 219 0, .int 0 0, .ref 312, .int 252 0, .int 0 0, .ref 319, .int 254 0, .int 0 0, .ref 324, .int 268 0, .int 0 0, .ref 329, .int 275 0, .int 0 0, .ref 336, .int 281 0, .int 0 0, .ref 343, .int 286 0, .int 0 0, .ref 350, .int 297 0, .int 0 0, .ref 355, .int 306 0, .int 0 0, .ref 362, .int 314 0, .int 0 0, .ref 367, .int 321 0, .int 0 0, .ref 372, .int 338 0, .int 0 0, .ref 377, .int 355 0, .int 0 0, .ref 382]
noncomputable def g1 (P : Params) : List Obj := [
 co "<module>" "<module>" 277 1 0 0 0 0 28 false 29 .none .none .none .none 280,
 { cls := .type "frame", slots := #[some (.ref 30), some (.ref 3), some (.ref 3), none, some (.str "__main__" 164), none, some (.ref 0)] },
 tU #[],
 nF #[],
 tU #[.str "k" 285],
 tU #[],
 f0 "_wall" "_wall" (stN 1),
 co "_wall" "_wall" 282 2 1 0 0 3 32 true 33 .none (.ref 34) (.ref 35) (.ref 36) 286,
 f1 "_wall" "_wall" (stN 1) .none .none "__main__" 164 37,
 { cls := .type "list", data := .seq #[.int 14 294, .int 14 295, .int 4 296, .int 1 297, .int 1 298, .int 9 299, .int 0 300, .int 4227896069 301, .int 939524097 302, .int 0 303, .int 0 304, .int 0 305, .int 0 306, .int 0 307, .int 0 308, .int 13 309, .int 11 310, .int 9 311, .int 0 312, .int 4227896069 313, .int 939524097 314, .int 0 315, .int 0 316, .int 0 317, .int 0 318, .int 0 319, .int 0 320, .int 1 321] },
 { cls := .type "dict", data := .dict #[] },
 tU #[.none],
 tU #[.int 14 0, .int 14 0, .int 4 0, .int 1 0, .int 1 0, .int 9 0, .int 0 0, .int 4227896069 0, .int 939524097 0, .int 0 0, .int 0 0, .int 0 0, .int 0 0, .int 0 0, .int 0 0, .int 13 0, .int 11 0, .int 9 0, .int 0 0, .int 4227896069 0, .int 939524097 0, .int 0 0, .int 0 0, .int 0 0, .int 0 0, .int 0 0, .int 0 0, .int 1 0],
 { cls := .type "re.Pattern", data := .fields #[.str "[ \\(\\)<>@,;:\\\\\"/\\[\\]\\?=]" 292, .int 32 323, .int 0 0, .none, .none, .ref 42, .int 0 0] },
 { cls := .type "list", data := .seq #[.int 14 328, .int 10 329, .int 4 330, .int 1 331, .int 1 332, .int 22 333, .int 0 334, .int 31 335, .int 16 336, .int 127 337, .int 0 338, .int 13 339, .int 7 340, .int 22 341, .int 0 342, .int 31 343, .int 16 344, .int 127 345, .int 0 346, .int 1 347] },
 { cls := .type "dict", data := .dict #[] },
 tU #[.none],
 tU #[.int 14 0, .int 10 0, .int 4 0, .int 1 0, .int 1 0, .int 22 0, .int 0 0, .int 31 0, .int 16 0, .int 127 0, .int 0 0, .int 13 0, .int 7 0, .int 22 0, .int 0 0, .int 31 0, .int 16 0, .int 127 0, .int 0 0, .int 1 0],
 { cls := .type "re.Pattern", data := .fields #[.str "[\\x00-\\x1F\\x7F]" 326, .int 32 349, .int 0 0, .none, .none, .ref 47, .int 0 0] },
 { cls := .type "list", data := .seq #[.int 14 354, .int 14 355, .int 4 356, .int 1 357, .int 1 358, .int 9 359, .int 4294966783 360, .int 0 361, .int 0 362, .int 2147483648 363, .int 0 364, .int 0 365, .int 0 366, .int 0 367, .int 0 368, .int 13 369, .int 11 370, .int 9 371, .int 4294966783 372, .int 0 373, .int 0 374, .int 2147483648 375, .int 0 376, .int 0 377, .int 0 378, .int 0 379, .int 0 380, .int 1 381] },
 { cls := .type "dict", data := .dict #[] },
 tU #[.none],
 tU #[.int 14 0, .int 14 0, .int 4 0, .int 1 0, .int 1 0, .int 9 0, .int 4294966783 0, .int 0 0, .int 0 0, .int 2147483648 0, .int 0 0, .int 0 0, .int 0 0, .int 0 0, .int 0 0, .int 13 0, .int 11 0, .int 9 0, .int 4294966783 0, .int 0 0, .int 0 0, .int 2147483648 0, .int 0 0, .int 0 0, .int 0 0, .int 0 0, .int 0 0, .int 1 0],
 { cls := .type "re.Pattern", data := .fields #[.str "[\\x00-\\x08\\x0A-\\x1F\\x7F]" 352, .int 32 383, .int 0 0, .none, .none, .ref 52, .int 0 0] },
 tU #[.none, .int 1 385],
 tU #[],
 nF #[],
 tU #[.str "param" 389, .str "value" 390, .str "quote" 391],
 tU #[],
 f0 "_formatparam" "_formatparam" (stN 6),
 co "_formatparam" "_formatparam" 386 9 3 0 0 3 55 true 56 .none (.ref 57) (.ref 58) (.ref 59) 392,
 f1 "_formatparam" "_formatparam" (stN 6) (.ref 54) .none "cpy313.wsgiref.headers" 289 60]
noncomputable def g2 (P : Params) : List Obj := [
 tU #[],
 { cls := .type "builtin_function_or_method", data := .fields #[.builtin "type.__prepare__", .type "type"] },
 { cls := .type "dict", data := .dict #[en P "__module__" 402 (.str "cpy313.wsgiref.headers" 289), en P "__qualname__" 404 (.str "Headers" 403), en P "__firstlineno__" 406 (.int 18 405), en P "__init__" 416 (.ref 76), en P "_convert_string_type" 426 (.ref 83), en P "__len__" 433 (.ref 90), en P "__setitem__" 442 (.ref 97), en P "__delitem__" 448 (.ref 102), en P "__getitem__" 456 (.ref 109), en P "__contains__" 464 (.ref 116), en P "get_all" 470 (.ref 121), en P "get" 481 (.ref 129), en P "keys" 487 (.ref 134), en P "values" 493 (.ref 139), en P "items" 500 (.ref 146), en P "__repr__" 507 (.ref 153), en P "__str__" 513 (.ref 158), en P "__bytes__" 520 (.ref 165), en P "setdefault" 529 (.ref 172), en P "add_header" 542 (.ref 179), en P "__static_attributes__" 544 (.ref 180)] 21 },
 tU #[],
 nF #[.int 20 0, .int 4 0, .ref 75, .int 30 0, .int 4 0, .ref 82, .int 38 0, .int 4 0, .ref 89, .int 41 0, .int 4 0, .ref 96, .int 45 0, .int 4 0, .ref 101, .int 49 0, .int 4 0, .ref 108, .int 52 0, .int 4 0, .ref 115, .int 55 0, .int 4 0, .ref 120, .int 59 0, .int 4 0, .ref 128, .int 66 0, .int 4 0, .ref 133, .int 69 0, .int 4 0, .ref 138, .int 72 0, .int 4 0, .ref 145, .int 75 0, .int 4 0, .ref 152, .int 78 0, .int 4 0, .ref 157, .int 81 0, .int 4 0, .ref 164, .int 84 0, .int 4 0, .ref 171, .int 87 0, .int 4 0, .ref 178],
 co "Headers" "Headers" 397 18 0 0 0 0 65 false 66 .none .none .none .none 400,
 { cls := .type "frame", slots := #[some (.ref 67), some (.ref 3), some (.ref 64), none, some (.str "cpy313.wsgiref.headers" 289), none, some (.ref 0)] },
 tU #[.none],
 tU #[],
 nF #[],
 tU #[.str "self" 410, .str "headers" 411, .str "k" 412, .str "v" 413],
 tU #[],
 f0 "__init__" "Headers.__init__" (stM 7 0),
 co "__init__" "Headers.__init__" 407 20 2 0 0 3 70 true 71 .none (.ref 72) (.ref 73) (.ref 74) 414,
 f1 "__init__" "Headers.__init__" (stM 7 0) (.ref 69) .none "cpy313.wsgiref.headers" 289 75,
 tU #[],
 nF #[],
 tU #[.str "self" 420, .str "value" 421, .str "name" 422, .str "regex" 423],
 tU #[],
 f0 "_convert_string_type" "Headers._convert_string_type" (stM 7 1),
 co "_convert_string_type" "Headers._convert_string_type" 417 30 2 0 1 3 77 true 78 .none (.ref 79) (.ref 80) (.ref 81) 424,
 f1 "_convert_string_type" "Headers._convert_string_type" (stM 7 1) .none .none "cpy313.wsgiref.headers" 289 82,
 tU #[],
 nF #[],
 tU #[.str "self" 430],
 tU #[],
 f0 "__len__" "Headers.__len__" (stM 7 2),
 co "__len__" "Headers.__len__" 427 38 1 0 0 3 84 true 85 .none (.ref 86) (.ref 87) (.ref 88) 431,
 f1 "__len__" "Headers.__len__" (stM 7 2) .none .none "cpy313.wsgiref.headers" 289 89,
 tU #[],
 nF #[],
 tU #[.str "self" 437, .str "name" 438, .str "val" 439],
 tU #[],
 f0 "__setitem__" "Headers.__setitem__" (stM 7 3),
 co "__setitem__" "Headers.__setitem__" 434 41 3 0 0 3 91 true 92 .none (.ref 93) (.ref 94) (.ref 95) 440,
 f1 "__setitem__" "Headers.__setitem__" (stM 7 3) .none .none "cpy313.wsgiref.headers" 289 96,
 tU #[],
 nF #[],
 f0 "__delitem__" "Headers.__delitem__" (stM 7 4),
 co "__delitem__" "Headers.__delitem__" 443 45 2 0 0 3 98 true 99 .none .none .none (.ref 100) 446,
 f1 "__delitem__" "Headers.__delitem__" (stM 7 4) .none .none "cpy313.wsgiref.headers" 289 101,
 tU #[],
 nF #[],
 tU #[.str "self" 452, .str "name" 453],
 tU #[],
 f0 "__getitem__" "Headers.__getitem__" (stM 7 5),
 co "__getitem__" "Headers.__getitem__" 449 49 2 0 0 3 103 true 104 .none (.ref 105) (.ref 106) (.ref 107) 454,
 f1 "__getitem__" "Headers.__getitem__" (stM 7 5) .none .none "cpy313.wsgiref.headers" 289 108,
 tU #[],
 nF #[],
 tU #[.str "self" 460, .str "name" 461],
 tU #[],
 f0 "__contains__" "Headers.__contains__" (stM 7 6),
 co "__contains__" "Headers.__contains__" 457 52 2 0 0 3 110 true 111 .none (.ref 112) (.ref 113) (.ref 114) 462,
 f1 "__contains__" "Headers.__contains__" (stM 7 6) .none .none "cpy313.wsgiref.headers" 289 115,
 tU #[],
 nF #[],
 f0 "get_all" "Headers.get_all" (stM 7 7),
 co "get_all" "Headers.get_all" 465 55 2 0 0 3 117 true 118 .none .none .none (.ref 119) 468,
 f1 "get_all" "Headers.get_all" (stM 7 7) .none .none "cpy313.wsgiref.headers" 289 120,
 tU #[.none],
 tU #[],
 nF #[],
 tU #[.str "self" 474, .str "name" 475, .str "default" 476, .str "k" 477, .str "v" 478],
 tU #[],
 f0 "get" "Headers.get" (stM 7 8),
 co "get" "Headers.get" 471 59 3 0 0 3 123 true 124 .none (.ref 125) (.ref 126) (.ref 127) 479,
 f1 "get" "Headers.get" (stM 7 8) (.ref 122) .none "cpy313.wsgiref.headers" 289 128,
 tU #[],
 nF #[],
 f0 "keys" "Headers.keys" (stM 7 9),
 co "keys" "Headers.keys" 482 66 1 0 0 3 130 true 131 .none .none .none (.ref 132) 485,
 f1 "keys" "Headers.keys" (stM 7 9) .none .none "cpy313.wsgiref.headers" 289 133,
 tU #[],
 nF #[],
 f0 "values" "Headers.values" (stM 7 10),
 co "values" "Headers.values" 488 69 1 0 0 3 135 true 136 .none .none .none (.ref 137) 491,
 f1 "values" "Headers.values" (stM 7 10) .none .none "cpy313.wsgiref.headers" 289 138,
 tU #[],
 nF #[],
 tU #[.str "self" 497],
 tU #[],
 f0 "items" "Headers.items" (stM 7 11),
 co "items" "Headers.items" 494 72 1 0 0 3 140 true 141 .none (.ref 142) (.ref 143) (.ref 144) 498,
 f1 "items" "Headers.items" (stM 7 11) .none .none "cpy313.wsgiref.headers" 289 145,
 tU #[],
 nF #[],
 tU #[.str "self" 504],
 tU #[],
 f0 "__repr__" "Headers.__repr__" (stM 7 12),
 co "__repr__" "Headers.__repr__" 501 75 1 0 0 3 147 true 148 .none (.ref 149) (.ref 150) (.ref 151) 505,
 f1 "__repr__" "Headers.__repr__" (stM 7 12) .none .none "cpy313.wsgiref.headers" 289 152,
 tU #[],
 nF #[],
 f0 "__str__" "Headers.__str__" (stM 7 13),
 co "__str__" "Headers.__str__" 508 78 1 0 0 3 154 true 155 .none .none .none (.ref 156) 511,
 f1 "__str__" "Headers.__str__" (stM 7 13) .none .none "cpy313.wsgiref.headers" 289 157,
 tU #[],
 nF #[],
 tU #[.str "self" 517],
 tU #[],
 f0 "__bytes__" "Headers.__bytes__" (stM 7 14),
 co "__bytes__" "Headers.__bytes__" 514 81 1 0 0 3 159 true 160 .none (.ref 161) (.ref 162) (.ref 163) 518,
 f1 "__bytes__" "Headers.__bytes__" (stM 7 14) .none .none "cpy313.wsgiref.headers" 289 164,
 tU #[],
 nF #[],
 tU #[.str "self" 524, .str "name" 525, .str "value" 526],
 tU #[],
 f0 "setdefault" "Headers.setdefault" (stM 7 15),
 co "setdefault" "Headers.setdefault" 521 84 3 0 0 3 166 true 167 .none (.ref 168) (.ref 169) (.ref 170) 527,
 f1 "setdefault" "Headers.setdefault" (stM 7 15) .none .none "cpy313.wsgiref.headers" 289 171,
 tU #[],
 nF #[],
 tU #[.str "self" 533, .str "_name" 534, .str "_value" 535, .str "_params" 536, .str "parts" 537, .str "k" 538, .str "v" 539],
 tU #[],
 f0 "add_header" "Headers.add_header" (stM 7 16),
 co "add_header" "Headers.add_header" 530 87 3 0 0 11 173 true 174 .none (.ref 175) (.ref 176) (.ref 177) 540,
 f1 "add_header" "Headers.add_header" (stM 7 16) .none .none "cpy313.wsgiref.headers" 289 178,
 tU #[.str "_headers" 543],
 { cls := .type "dict", data := .dict #[en P "__module__" 402 (.str "cpy313.wsgiref.headers" 289), en P "__firstlineno__" 406 (.int 18 405), en P "__init__" 416 (.ref 76), en P "_convert_string_type" 426 (.ref 83), en P "__len__" 433 (.ref 90), en P "__setitem__" 442 (.ref 97), en P "__delitem__" 448 (.ref 102), en P "__getitem__" 456 (.ref 109), en P "__contains__" 464 (.ref 116), en P "get_all" 470 (.ref 121), en P "get" 481 (.ref 129), en P "keys" 487 (.ref 134), en P "values" 493 (.ref 139), en P "items" 500 (.ref 146), en P "__repr__" 507 (.ref 153), en P "__str__" 513 (.ref 158), en P "__bytes__" 520 (.ref 165), en P "setdefault" 529 (.ref 172), en P "add_header" 542 (.ref 179), en P "__static_attributes__" 544 (.ref 180), en P "__dict__" 546 (.ref 183), en P "__weakref__" 548 (.ref 184), en P "__doc__" 549 .none] 4 },
 { cls := .type "type", data := .cls { name := "Headers", bases := [.type "object"], mro := [.ref 182, .type "object"], ns := 181, qualname := "Headers" }, slots := #[none, none, some (.str "Headers" 395), some (.str "Headers" 403), some (.builtin "object.__new__"), some (.bool true)] },
 { cls := .type "getset_descriptor", data := .fields #[.str "__dict__" 545, .ref 182, .builtin "function.__dict__", .builtin "function.__dict__#set"] },
 { cls := .type "getset_descriptor", data := .fields #[.str "__weakref__" 547, .ref 182, .builtin "ExceptionGroup.__weakref__", .none] },
 { cls := .type "super", data := .fields #[.ref 182, .ref 182, .ref 182] },
 { cls := .type "builtin_function_or_method", data := .fields #[.builtin "object.__init_subclass__", .ref 182] }]
noncomputable def g3 (P : Params) : List Obj := [
 tU #[],
 { cls := .type "builtin_function_or_method", data := .fields #[.builtin "type.__prepare__", .type "type"] },
 { cls := .type "dict", data := .dict #[en P "__module__" 567 (.str "cpy313.graphlib" 552), en P "__qualname__" 569 (.str "_NodeInfo" 568), en P "__firstlineno__" 571 (.int 103 570), en P "__slots__" 575 (.ref 194), en P "__init__" 583 (.ref 201), en P "__static_attributes__" 587 (.ref 202)] 6 },
 tU #[],
 nF #[.int 106 0, .int 4 0, .ref 200],
 co "_NodeInfo" "_NodeInfo" 562 103 0 0 0 0 190 false 191 .none .none .none .none 565,
 { cls := .type "frame", slots := #[some (.ref 192), some (.ref 3), some (.ref 189), none, some (.str "cpy313.graphlib" 552), none, some (.ref 0)] },
 tU #[.str "node" 572, .str "npredecessors" 573, .str "successors" 574],
 tU #[],
 nF #[],
 tU #[.str "self" 579, .str "node" 580],
 tU #[],
 f0 "__init__" "_NodeInfo.__init__" (stM 11 1),
 co "__init__" "_NodeInfo.__init__" 576 106 2 0 0 3 195 true 196 .none (.ref 197) (.ref 198) (.ref 199) 581,
 f1 "__init__" "_NodeInfo.__init__" (stM 11 1) .none .none "cpy313.graphlib" 552 200,
 tU #[.str "node" 584, .str "npredecessors" 585, .str "successors" 586],
 { cls := .type "list", data := .seq #[.str "node" 572, .str "npredecessors" 573, .str "successors" 574] 1 },
 { cls := .type "dict", data := .dict #[en P "__module__" 567 (.str "cpy313.graphlib" 552), en P "__firstlineno__" 571 (.int 103 570), en P "__slots__" 575 (.ref 194), en P "__init__" 583 (.ref 201), en P "__static_attributes__" 587 (.ref 202), en P "node" 589 (.ref 206), en P "npredecessors" 591 (.ref 207), en P "successors" 593 (.ref 208), en P "__doc__" 594 .none] 5 },
 { cls := .type "type", data := .cls { name := "_NodeInfo", bases := [.type "object"], mro := [.ref 205, .type "object"], ns := 204, qualname := "_NodeInfo", hasDict := false, slotNames := ["node", "npredecessors", "successors"] }, slots := #[none, none, some (.str "_NodeInfo" 560), some (.str "_NodeInfo" 568), some (.builtin "object.__new__"), some (.bool false)] },
 { cls := .type "member_descriptor", data := .fields #[.str "node" 588, .ref 205, .builtin "proto.slot", .builtin "proto.slot#set", .int 2 0] },
 { cls := .type "member_descriptor", data := .fields #[.str "npredecessors" 590, .ref 205, .builtin "proto.slot", .builtin "proto.slot#set", .int 1 0] },
 { cls := .type "member_descriptor", data := .fields #[.str "successors" 592, .ref 205, .builtin "proto.slot", .builtin "proto.slot#set", .int 0 0] },
 { cls := .type "super", data := .fields #[.ref 205, .ref 205, .ref 205] },
 { cls := .type "builtin_function_or_method", data := .fields #[.builtin "object.__init_subclass__", .ref 205] },
 tU #[.type "ValueError"],
 { cls := .type "builtin_function_or_method", data := .fields #[.builtin "type.__prepare__", .type "type"] },
 { cls := .type "dict", data := .dict #[en P "__module__" 604 (.str "cpy313.graphlib" 552), en P "__qualname__" 606 (.str "CycleError" 605), en P "__firstlineno__" 608 (.int 110 607), en P "__static_attributes__" 609 (.ref 218)] 4 },
 tU #[],
 nF #[],
 co "CycleError" "CycleError" 599 110 0 0 0 0 214 false 215 .none .none .none .none 602,
 { cls := .type "frame", slots := #[some (.ref 216), some (.ref 3), some (.ref 213), none, some (.str "cpy313.graphlib" 552), none, some (.ref 0)] },
 tU #[],
 { cls := .type "dict", data := .dict #[en P "__module__" 604 (.str "cpy313.graphlib" 552), en P "__firstlineno__" 608 (.int 110 607), en P "__static_attributes__" 609 (.ref 218), en P "__weakref__" 611 (.ref 221), en P "__doc__" 612 .none] 3 },
 { cls := .type "type", data := .cls { name := "CycleError", bases := [.type "ValueError"], mro := [.ref 220, .type "ValueError", .type "Exception", .type "BaseException", .type "object"], ns := 219, qualname := "CycleError" }, slots := #[some (.ref 211), none, some (.str "CycleError" 597), some (.str "CycleError" 605), some (.builtin "ValueError.__new__"), some (.bool true)] },
 { cls := .type "getset_descriptor", data := .fields #[.str "__weakref__" 610, .ref 220, .builtin "ExceptionGroup.__weakref__", .none] },
 { cls := .type "super", data := .fields #[.ref 220, .ref 220, .ref 220] },
 { cls := .type "builtin_function_or_method", data := .fields #[.builtin "object.__init_subclass__", .ref 220] }]
noncomputable def g4 (P : Params) : List Obj := [
 tU #[],
 { cls := .type "builtin_function_or_method", data := .fields #[.builtin "type.__prepare__", .type "type"] },
 { cls := .type "dict", data := .dict #[en P "__module__" 622 (.str "cpy313.graphlib" 552), en P "__qualname__" 624 (.str "TopologicalSorter" 623), en P "__firstlineno__" 626 (.int 112 625), en P "__init__" 636 (.ref 238), en P "_get_nodeinfo" 645 (.ref 245), en P "add" 657 (.ref 252), en P "prepare" 663 (.ref 257), en P "get_ready" 673 (.ref 264), en P "is_active" 680 (.ref 271), en P "__bool__" 687 (.ref 278), en P "done" 701 (.ref 285), en P "_find_cycle" 714 (.ref 292), en P "static_order" 721 (.ref 299), en P "__static_attributes__" 726 (.ref 300)] 14 },
 tU #[],
 nF #[.int 114 0, .int 4 0, .ref 237, .int 123 0, .int 4 0, .ref 244, .int 128 0, .int 4 0, .ref 251, .int 137 0, .int 4 0, .ref 256, .int 145 0, .int 4 0, .ref 263, .int 156 0, .int 4 0, .ref 270, .int 161 0, .int 4 0, .ref 277, .int 164 0, .int 4 0, .ref 284, .int 187 0, .int 4 0, .ref 291, .int 216 0, .int 4 0, .ref 298],
 co "TopologicalSorter" "TopologicalSorter" 617 112 0 0 0 0 227 false 228 .none .none .none .none 620,
 { cls := .type "frame", slots := #[some (.ref 229), some (.ref 3), some (.ref 226), none, some (.str "cpy313.graphlib" 552), none, some (.ref 0)] },
 tU #[.none],
 tU #[],
 nF #[],
 tU #[.str "self" 630, .str "graph" 631, .str "node" 632, .str "predecessors" 633],
 tU #[],
 f0 "__init__" "TopologicalSorter.__init__" (stM 13 0),
 co "__init__" "TopologicalSorter.__init__" 627 114 2 0 0 3 232 true 233 .none (.ref 234) (.ref 235) (.ref 236) 634,
 f1 "__init__" "TopologicalSorter.__init__" (stM 13 0) (.ref 231) .none "cpy313.graphlib" 552 237,
 tU #[],
 nF #[],
 tU #[.str "self" 640, .str "node" 641, .str "result" 642],
 tU #[],
 f0 "_get_nodeinfo" "TopologicalSorter._get_nodeinfo" (stM 13 1),
 co "_get_nodeinfo" "TopologicalSorter._get_nodeinfo" 637 123 2 0 0 3 239 true 240 .none (.ref 241) (.ref 242) (.ref 243) 643,
 f1 "_get_nodeinfo" "TopologicalSorter._get_nodeinfo" (stM 13 1) .none .none "cpy313.graphlib" 552 244,
 tU #[],
 nF #[],
 tU #[.str "self" 649, .str "node" 650, .str "predecessors" 651, .str "nodeinfo" 652, .str "pred" 653, .str "pred_info" 654],
 tU #[],
 f0 "add" "TopologicalSorter.add" (stM 13 2),
 co "add" "TopologicalSorter.add" 646 128 2 0 0 7 246 true 247 .none (.ref 248) (.ref 249) (.ref 250) 655,
 f1 "add" "TopologicalSorter.add" (stM 13 2) .none .none "cpy313.graphlib" 552 251,
 tU #[],
 nF #[],
 f0 "prepare" "TopologicalSorter.prepare" (stM 13 3),
 co "prepare" "TopologicalSorter.prepare" 658 137 1 0 0 3 253 true 254 .none .none .none (.ref 255) 661,
 f1 "prepare" "TopologicalSorter.prepare" (stM 13 3) .none .none "cpy313.graphlib" 552 256,
 tU #[],
 nF #[],
 tU #[.str "self" 667, .str "result" 668, .str "n2i" 669, .str "node" 670],
 tU #[],
 f0 "get_ready" "TopologicalSorter.get_ready" (stM 13 4),
 co "get_ready" "TopologicalSorter.get_ready" 664 145 1 0 0 3 258 true 259 .none (.ref 260) (.ref 261) (.ref 262) 671,
 f1 "get_ready" "TopologicalSorter.get_ready" (stM 13 4) .none .none "cpy313.graphlib" 552 263,
 tU #[],
 nF #[],
 tU #[.str "self" 677],
 tU #[],
 f0 "is_active" "TopologicalSorter.is_active" (stM 13 5),
 co "is_active" "TopologicalSorter.is_active" 674 156 1 0 0 3 265 true 266 .none (.ref 267) (.ref 268) (.ref 269) 678,
 f1 "is_active" "TopologicalSorter.is_active" (stM 13 5) .none .none "cpy313.graphlib" 552 270,
 tU #[],
 nF #[],
 tU #[.str "self" 684],
 tU #[],
 f0 "__bool__" "TopologicalSorter.__bool__" (stM 13 6),
 co "__bool__" "TopologicalSorter.__bool__" 681 161 1 0 0 3 272 true 273 .none (.ref 274) (.ref 275) (.ref 276) 685,
 f1 "__bool__" "TopologicalSorter.__bool__" (stM 13 6) .none .none "cpy313.graphlib" 552 277,
 tU #[],
 nF #[],
 tU #[.str "self" 691, .str "nodes" 692, .str "n2i" 693, .str "node" 694, .str "nodeinfo" 695, .str "stat" 696, .str "successor" 697, .str "successor_info" 698],
 tU #[],
 f0 "done" "TopologicalSorter.done" (stM 13 7),
 co "done" "TopologicalSorter.done" 688 164 1 0 0 7 279 true 280 .none (.ref 281) (.ref 282) (.ref 283) 699,
 f1 "done" "TopologicalSorter.done" (stM 13 7) .none .none "cpy313.graphlib" 552 284,
 tU #[],
 nF #[],
 tU #[.str "self" 705, .str "n2i" 706, .str "stack" 707, .str "itstack" 708, .str "seen" 709, .str "node2stacki" 710, .str "node" 711],
 tU #[],
 f0 "_find_cycle" "TopologicalSorter._find_cycle" (stM 13 8),
 co "_find_cycle" "TopologicalSorter._find_cycle" 702 187 1 0 0 3 286 true 287 .none (.ref 288) (.ref 289) (.ref 290) 712,
 f1 "_find_cycle" "TopologicalSorter._find_cycle" (stM 13 8) .none .none "cpy313.graphlib" 552 291,
 tU #[],
 nF #[],
 tU #[.str "self" 718],
 tU #[],
 f0 "static_order" "TopologicalSorter.static_order" (stM 13 9),
 co "static_order" "TopologicalSorter.static_order" 715 216 1 0 0 3 293 true 294 .none (.ref 295) (.ref 296) (.ref 297) 719,
 f1 "static_order" "TopologicalSorter.static_order" (stM 13 9) .none .none "cpy313.graphlib" 552 298,
 tU #[.str "_nfinished" 722, .str "_node2info" 723, .str "_npassedout" 724, .str "_ready_nodes" 725],
 { cls := .type "dict", data := .dict #[en P "__module__" 622 (.str "cpy313.graphlib" 552), en P "__firstlineno__" 626 (.int 112 625), en P "__init__" 636 (.ref 238), en P "_get_nodeinfo" 645 (.ref 245), en P "add" 657 (.ref 252), en P "prepare" 663 (.ref 257), en P "get_ready" 673 (.ref 264), en P "is_active" 680 (.ref 271), en P "__bool__" 687 (.ref 278), en P "done" 701 (.ref 285), en P "_find_cycle" 714 (.ref 292), en P "static_order" 721 (.ref 299), en P "__static_attributes__" 726 (.ref 300), en P "__dict__" 728 (.ref 303), en P "__weakref__" 730 (.ref 304), en P "__doc__" 731 .none] 4 },
 { cls := .type "type", data := .cls { name := "TopologicalSorter", bases := [.type "object"], mro := [.ref 302, .type "object"], ns := 301, qualname := "TopologicalSorter" }, slots := #[none, none, some (.str "TopologicalSorter" 615), some (.str "TopologicalSorter" 623), some (.builtin "object.__new__"), some (.bool true)] },
 { cls := .type "getset_descriptor", data := .fields #[.str "__dict__" 727, .ref 302, .builtin "function.__dict__", .builtin "function.__dict__#set"] },
 { cls := .type "getset_descriptor", data := .fields #[.str "__weakref__" 729, .ref 302, .builtin "ExceptionGroup.__weakref__", .none] },
 { cls := .type "super", data := .fields #[.ref 302, .ref 302, .ref 302] },
 { cls := .type "builtin_function_or_method", data := .fields #[.builtin "object.__init_subclass__", .ref 302] }]
noncomputable def g5 (P : Params) : List Obj := [
 tU #[],
 nF #[],
 tU #[.str "expected" 739, .str "actual" 740, .str "i" 741, .str "j" 742, .str "missing" 743, .str "unexpected" 744, .str "e" 745, .str "a" 746],
 tU #[],
 f0 "sorted_list_difference" "sorted_list_difference" (stN 15),
 co "sorted_list_difference" "sorted_list_difference" 736 219 2 0 0 3 307 true 308 .none (.ref 309) (.ref 310) (.ref 311) 747,
 f1 "sorted_list_difference" "sorted_list_difference" (stN 15) .none .none "cpy313.unittest.util" 734 312,
 tU #[],
 nF #[],
 tU #[.str "row" 755],
 tU #[],
 f0 "_law_things" "_law_things" (stN 17),
 co "_law_things" "_law_things" 752 252 1 0 0 3 314 true 315 .none (.ref 316) (.ref 317) (.ref 318) 756,
 f1 "_law_things" "_law_things" (stN 17) .none .none "law_om0166_02" 750 319,
 tU #[],
 nF #[],
 f0 "_law_pairs" "_law_pairs" (stN 18),
 co "_law_pairs" "_law_pairs" 759 254 1 0 0 3 321 true 322 .none .none .none (.ref 323) 762,
 f1 "_law_pairs" "_law_pairs" (stN 18) .none .none "law_om0166_02" 750 324,
 tU #[],
 nF #[],
 f0 "_law_closed" "_law_closed" (stN 19),
 co "_law_closed" "_law_closed" 765 268 2 0 0 3 326 true 327 .none .none .none (.ref 328) 768,
 f1 "_law_closed" "_law_closed" (stN 19) .none .none "law_om0166_02" 750 329,
 tU #[],
 nF #[],
 tU #[.str "closed" 774, .str "a" 775, .str "c" 776, .str "b" 777, .str "d" 778],
 tU #[],
 f0 "_law_has_four" "_law_has_four" (stN 20),
 co "_law_has_four" "_law_has_four" 771 275 1 0 0 3 331 true 332 .none (.ref 333) (.ref 334) (.ref 335) 779,
 f1 "_law_has_four" "_law_has_four" (stN 20) .none .none "law_om0166_02" 750 336,
 tU #[],
 nF #[],
 tU #[.str "pairs" 785, .str "needs" 786, .str "early" 787, .str "late" 788],
 tU #[],
 f0 "_law_needs" "_law_needs" (stN 21),
 co "_law_needs" "_law_needs" 782 281 1 0 0 3 338 true 339 .none (.ref 340) (.ref 341) (.ref 342) 789,
 f1 "_law_needs" "_law_needs" (stN 21) .none .none "law_om0166_02" 750 343,
 tU #[],
 nF #[],
 tU #[.str "things" 795, .str "needs" 796, .str "sorter" 797, .str "thing" 798, .str "rounds" 799, .str "group" 800],
 tU #[],
 f0 "_law_rounds" "_law_rounds" (stN 22),
 co "_law_rounds" "_law_rounds" 792 286 2 0 0 3 345 true 346 .none (.ref 347) (.ref 348) (.ref 349) 801,
 f1 "_law_rounds" "_law_rounds" (stN 22) .none .none "law_om0166_02" 750 350,
 tU #[],
 nF #[],
 f0 "_law_below" "_law_below" (stN 23),
 co "_law_below" "_law_below" 804 297 3 0 0 3 352 true 353 .none .none .none (.ref 354) 807,
 f1 "_law_below" "_law_below" (stN 23) .none .none "law_om0166_02" 750 355,
 tU #[],
 nF #[],
 tU #[.str "below" 813, .str "above" 814, .str "x" 815, .str "y" 816, .str "lower" 817, .str "upper" 818],
 tU #[],
 f0 "_law_mark" "_law_mark" (stN 24),
 co "_law_mark" "_law_mark" 810 306 4 0 0 3 357 true 358 .none (.ref 359) (.ref 360) (.ref 361) 819,
 f1 "_law_mark" "_law_mark" (stN 24) .none .none "law_om0166_02" 750 362,
 tU #[],
 nF #[],
 f0 "_law_found" "_law_found" (stN 25),
 co "_law_found" "_law_found" 822 314 3 0 0 3 364 true 365 .none .none .none (.ref 366) 825,
 f1 "_law_found" "_law_found" (stN 25) .none .none "law_om0166_02" 750 367,
 tU #[],
 nF #[],
 f0 "_law_folded" "_law_folded" (stN 26),
 co "_law_folded" "_law_folded" 828 321 3 0 0 3 369 true 370 .none .none .none (.ref 371) 831,
 f1 "_law_folded" "_law_folded" (stN 26) .none .none "law_om0166_02" 750 372,
 tU #[],
 nF #[],
 f0 "_law_read" "_law_read" (stN 27),
 co "_law_read" "_law_read" 834 338 1 0 0 3 374 true 375 .none .none .none (.ref 376) 837,
 f1 "_law_read" "_law_read" (stN 27) .none .none "law_om0166_02" 750 377,
 tU #[],
 nF #[],
 f0 "law" "law" (stN 28),
 co "law" "law" 840 355 1 0 0 3 379 true 380 .none .none .none (.ref 381) 843,
 f1 "law" "law" (stN 28) .none .none "law_om0166_02" 750 382]
noncomputable def stW (w : World) (nm : Value) (k m : Nat) (gs : List Obj) (t : Nat) : Shared := { b0 w with heap := { (b0 w).heap with objs := ⟨(b0 w).heap.objs.toList.set 3 { cls := .type "dict", data := .dict ⟨⟨kh w.params "__name__", .str "__name__" 165, nm⟩ :: (dE w.params).take k⟩ (k + 1) } ++ { cls := .type "tuple", data := .seq #[] } :: { cls := .none, data := .fields ⟨fE.take m⟩ } :: gs⟩ }, toks := t }
noncomputable def s1 (w : World) : Shared := stW w (.str "__main__" 164) 9 0 ((g1 w.params).take 2) 282
noncomputable def s2 (w : World) : Shared := stW w (.str "cpy313.wsgiref.headers" 289) 14 6 (g1 w.params) 395
noncomputable def s3 (w : World) : Shared := stW w (.str "cpy313.wsgiref.headers" 289) 15 9 (g1 w.params ++ g2 w.params) 552
noncomputable def s4 (w : World) : Shared := stW w (.str "cpy313.graphlib" 552) 19 15 (g1 w.params ++ (g2 w.params ++ g3 w.params)) 615
noncomputable def s5 (w : World) : Shared := stW w (.str "cpy313.graphlib" 552) 20 18 (g1 w.params ++ (g2 w.params ++ (g3 w.params ++ g4 w.params))) 734
noncomputable def s6 (w : World) : Shared := stW w (.str "law_om0166_02" 750) 33 57 (g1 w.params ++ (g2 w.params ++ (g3 w.params ++ (g4 w.params ++ g5 w.params)))) 846
noncomputable def ev : Env := { scope := pw.main.scope, locals := mainNs, globals := mainNs, cells := [], code := .ref 30, frame := some 31 }
noncomputable abbrev bd : List Stmt := behindTheImports pw
noncomputable abbrev cE : Code := .body bd ev
noncomputable abbrev B1 : List Frame := [topFrame ⟨0, 0, 0, 0⟩]
theorem qtj (w : World) : fencedOpening treeTable pw w 4892 = some (b0 w) := by
 have h : ((PySem.W.Fast.tw10274390034422433532 PySem.W.Fast.tw14364793385576792824 (opening pw) w 4892 (PySem.W.Fast.tw1435165496053646825 (opening pw)).1 (PySem.W.Fast.tw1435165496053646825 (opening pw)).2).bind (PySem.W.Fast.tw14289696077712309145 pw)).isSome = true := by kernel_rfl
 unfold fencedOpening b0; rw [PySem.W.Fast.te10274390034422433532, PySem.W.Fast.te14289696077712309145, PySem.W.Fast.te1435165496053646825, PySem.W.Fast.te14364793385576792824]; cases e : (PySem.W.Fast.tw10274390034422433532 PySem.W.Fast.tw14364793385576792824 (opening pw) w 4892 (PySem.W.Fast.tw1435165496053646825 (opening pw)).1 (PySem.W.Fast.tw1435165496053646825 (opening pw)).2).bind (PySem.W.Fast.tw14289696077712309145 pw) with
 | none => rw [e] at h; cases h
 | some s => rfl
theorem hpre (w : World) : topGo treeTable pw w 28 (some (.ref 6)) 12 (b0 w) (topStub pw) = some (s1 w, ⟨denote treeTable cE, cE, ⟨0, 0, 0, 0⟩, B1⟩) := by
 rw [PySem.W.Fast.te15667345088766844465, PySem.W.Fast.te14364793385576792824, PySem.W.Fast.te11892475500146522536]
 kernel_rfl
theorem hblk (w : World) : segRun treeTable pw w 28 (some (.ref 6)) 1 1 (s1 w) (blockOf bd ev cE ⟨0, 0, 0, 0⟩ B1) = some (.next, s1 w, cE, ⟨0, 0, 0, 0⟩) := by
 rw [PySem.W.Fast.te14374325043358763698, PySem.W.Fast.te14364793385576792824]
 kernel_rfl
theorem hA (w : World) : segRun treeTable pw w 28 (some (.ref 6)) 1 400 (s1 w) (piecesOf (bd.take 6) ev cE ⟨0, 0, 0, 0⟩ B1) = some (.next, s2 w, cE, ⟨9, 0, 17, 20⟩) := by
 rw [PySem.W.Fast.te14374325043358763698, PySem.W.Fast.te14364793385576792824]
 kernel_rfl
theorem hB (w : World) : segRun treeTable pw w 28 (some (.ref 6)) 1 800 (s2 w) (piecesOf ((bd.drop 6).take 1) ev cE ⟨9, 0, 17, 20⟩ B1) = some (.next, s3 w, cE, ⟨18, 0, 99, 93⟩) := by
 rw [PySem.W.Fast.te14374325043358763698, PySem.W.Fast.te14364793385576792824]
 kernel_rfl
theorem hC (w : World) : segRun treeTable pw w 28 (some (.ref 6)) 1 560 (s3 w) (piecesOf (((bd.drop 6).drop 1).take 5) ev cE ⟨18, 0, 99, 93⟩ B1) = some (.next, s4 w, cE, ⟨110, 0, 111, 8⟩) := by
 rw [PySem.W.Fast.te14374325043358763698, PySem.W.Fast.te14364793385576792824]
 kernel_rfl
theorem hD (w : World) : segRun treeTable pw w 28 (some (.ref 6)) 1 600 (s4 w) (piecesOf ((((bd.drop 6).drop 1).drop 5).take 1) ev cE ⟨110, 0, 111, 8⟩ B1) = some (.next, s5 w, cE, ⟨112, 0, 217, 16⟩) := by
 rw [PySem.W.Fast.te14374325043358763698, PySem.W.Fast.te14364793385576792824]
 kernel_rfl
theorem hE (w : World) : segRun treeTable pw w 28 (some (.ref 6)) 1 500 (s5 w) (piecesOf (((((bd.drop 6).drop 1).drop 5).drop 1).take 15) ev cE ⟨112, 0, 217, 16⟩ B1) = some (.next, s6 w, cE, ⟨355, 0, 366, 101⟩) := by
 rw [PySem.W.Fast.te14374325043358763698, PySem.W.Fast.te14364793385576792824]
 kernel_rfl
theorem hfin (w : World) : topRun treeTable pw w 28 (some (.ref 6)) 2 (s6 w) (restOf (((((bd.drop 6).drop 1).drop 5).drop 1).drop 15) ev cE ⟨355, 0, 366, 101⟩ B1) = some (s6 w) := by
 rw [PySem.W.Fast.te14082659384304107361, PySem.W.Fast.te14364793385576792824]
 kernel_rfl
theorem pc {w : World} {k n N : Nat} {s s' r : Shared} {l : List Stmt} {p p' : Pos} (h : segRun treeTable pw w 28 (some (.ref 6)) 1 n s (piecesOf (l.take k) ev cE p B1) = some (.next, s', cE, p'))
   (x : topRun treeTable pw w 28 (some (.ref 6)) N s' (restOf (l.drop k) ev cE p' B1) = some r) : topRun treeTable pw w 28 (some (.ref 6)) (n + N) s (restOf l ev cE p B1) = some r := by
 have := piece_app h x
 rwa [List.take_append_drop] at this
theorem hrun (w : World) : topRun treeTable pw w 28 (some (.ref 6)) 4892 (b0 w) (topStub pw) = some (s6 w) := by
 have r1 := hfin w; have r2 := pc (hE w) r1; have r3 := pc (hD w) r2; have r4 := pc (hC w) r3; have r5 := pc (hB w) r4; have r6 := pc (hA w) r5; have r7 := piece_block (hblk w) r6; have r8 := go_top (hpre w) r7; have r9 := topRun_mono 2017 _ _ _ _ r8; exact r9
theorem hz (w : World) : ((b0 w).heap.isNs mainGlobals && (b0 w).gens.size == 0, (b0 w).heap.objs.size, (b0 w).heap.nsMap mainGlobals "__annotations__") = (true, 28, some (.ref 6)) := by kernel_rfl
theorem hl1 (w : World) : (staticsOk (importedModules pw.main.body) (b0 w).heap (s6 w).heap && namesBound pw (s6 w).heap && gensDone (s6 w) && laidKept (b0 w).heap (s6 w).heap) = true := by kernel_rfl
noncomputable abbrev Xq (s : Shared) : Bool := xlAt vw [] s && recOk (RowW.records rw1.row.toRowW) s
noncomputable abbrev sn (w : World) := PySem.W.Fast.tw4187177175401517315 vw lse (importedModules pw.main.body) Xq true (s6 w)
noncomputable abbrev gd := openGood vw lse
theorem k0 (w : World) : sn w = gd := by kernel_rfl
theorem hY (w : World) : Hook.obs Hk (s6 w) = Hook.val Hk w := by kernel_rfl
theorem kk (w : World) : openSeen vw lse (importedModules pw.main.body) Xq true (s6 w) = gd := by
 rw [PySem.W.Fast.te4187177175401517315]; exact k0 w
theorem qs1 {p q : Program} {loose : List Str} {Xt : Shared -> Bool} {α : Type} {Yf : Shared -> α} {Ya : World -> α} {N : Nat} {b s : World -> Shared} {mO : Nat} {ann : Option Value} (ho : ∀ w, fencedOpening treeTable p w N = some (b w)) (z1 : ∀ w, ((b w).heap.isNs mainGlobals && (b w).gens.size == 0) = true) (z2 : ∀ w, (b w).heap.objs.size = mO) (z3 : ∀ w, (b w).heap.nsMap mainGlobals "__annotations__" = ann)
   (r : ∀ w, topRun treeTable p w mO ann N (b w) (topStub p) = some (s w)) (l1 : ∀ w, (staticsOk (importedModules p.main.body) (b w).heap (s w).heap && namesBound p (s w).heap && gensDone (s w) && laidKept (b w).heap (s w).heap) = true)
   (l2 : ∀ w, openSeen q loose (importedModules p.main.body) Xt true (s w) = openGood q loose) (l3 : ∀ w, Yf (s w) = Ya w) : LeftO p q loose Xt Yf Ya N := fun w => by
 have t : topFrom treeTable p w N (b w) = some (s w) := by
   unfold topFrom; simp only [z1 w, z2 w, z3 w, r w, Option.bind_some, l1 w]
 unfold openEnds; rw [ho w, Option.bind_some, t]; exact congrArg some (Prod.ext (l2 w) (l3 w))
theorem hleft : LeftO pw vw lse Xq (Hook.obs Hk) (Hook.val Hk) 4892 := qs1 qtj (fun w => (Prod.mk.inj (hz w)).1) (fun w => (Prod.mk.inj (Prod.mk.inj (hz w)).2).1) (fun w => (Prod.mk.inj (Prod.mk.inj (hz w)).2).2) hrun hl1 kk hY
theorem qtk : OpenLaw.wellSaid rw_om0166_02 = true := by
 rw [PySem.W.Fast.te9446332074065402090]
 kernel_rfl
theorem hdW (D : DefRec) (kwd : List (Str × Expr)) (h1 : defOf vw rw1.row.name = some (D, kwd)) (h2 : rw1.row.prog.theDef rw1.row.name = some (D.params, D.body, D.scope)) (h3 : kwWritten? D.params.kwonlyargs D.params.kw_defaults = some kwd) (hp : rw1.row.toRowW.promised)
   (hc : WalkO vw lse (XL vw []) Hk.says rw1.row.toRowW D kwd fun f vs => PySem.call f vs) : rw_om0166_02.Holds :=
 holds_law qtk fun sd => holds_open (q := vw) (loose := lse) (Xt := Xq) (XP := XL vw []) (Yf := Hook.obs Hk) (Ya := Hook.val Hk) (YP := Hook.says Hk) (N := 4892) hleft (Hook.of Hk) (Hook.keeps Hk) (fun s e => xl_of s (Bool.and_eq_true_iff.mp e).1) XL.keeps h1 h2 h3 (fun s e => recFacts_of (Bool.and_eq_true_iff.mp e).2) (by rfl) sd (by decide +kernel) ⟨rfl, rfl, rfl, rfl, rfl, by decide +kernel⟩ hp hc
theorem qbd {b : Bool} {p q : Prop} (h : b = true) (hp : p) : if b = true then p else q := by rw [if_pos h]; exact hp
theorem qay {b : Bool} {p q : Prop} (h : b = false) (hq : q) : if b = true then p else q := by rw [if_neg (by rw [h]; exact Bool.false_ne_true)]; exact hq
def Go (K : Fl -> Map -> AH -> Prop) : Fl -> Map -> AH -> Prop := K
theorem qmd {c : Cx} {q : Md} {d : Nat} {A : Around} {env : Env} {m : Map} {H : AH} {P : Fl -> Map -> AH -> Prop} {X : Exc -> Map -> AH -> Prop} {st : Stmt} {rest : List Stmt}
   (h : ∀ K : Fl -> Map -> AH -> Prop, (∀ m' H', awSs c q d A env rest m' H' P X -> Go K .next m' H') -> (∀ m' H', P .brk m' H' -> Go K .brk m' H') -> (∀ m' H', P .cont m' H' -> Go K .cont m' H') -> (∀ v m' H', P (.ret v) m' H' -> Go K (.ret v) m' H') -> awS c q d A env st m H (Go K) X) : awSs c q d A env (st :: rest) m H P X :=
 qdx (h (fun f m' H' => match f with | .next => awSs c q d A env rest m' H' P X | f => P f m' H') (fun _ _ x => x) (fun _ _ x => x) (fun _ _ x => x) (fun _ _ _ x => x))
def GoE (K : V -> AH -> Prop) : V -> AH -> Prop := K
theorem qi4 {c : Cx} {q : Md} {d : Nat} {A : Around} {env : Env} {m : Map} {H : AH} {P : Fl -> Map -> AH -> Prop} {X : Exc -> Map -> AH -> Prop} {pos : Pos} {y : Str} {pJ : Pos} {e : Expr} {rest : List Stmt} (hy : qan env y) (hsw : swapsWith e (some (.Name y pJ)) pos.line env = pure false)
   (h : ∀ K : V -> AH -> Prop, (∀ x HJ, awSs c q d A env rest (set m y x) HJ P X -> GoE K x HJ) -> awE c q d A env e m H (GoE K) fun k H' => X k m H') : awSs c q d A env (.Assign [.Name y pJ] e pos :: rest) m H P X :=
 qdx (qho hy hsw (h (fun x HJ => awSs c q d A env rest (set m y x) HJ P X) fun _ _ z => z))
theorem qmc {c : Cx} {q : Md} {d : Nat} {A : Around} {env : Env} {m : Map} {H : AH} {P : Fl -> Map -> AH -> Prop} {X : Exc -> Map -> AH -> Prop} {pos : Pos} {e : Expr} {rest : List Stmt} (hi : interactive env = false) (hs : swapsWith e none pos.line env = pure false)
   (h : ∀ K : V -> AH -> Prop, (∀ x HJ, awSs c q d A env rest m HJ P X -> GoE K x HJ) -> awE c q d A env e m H (GoE K) fun k H' => X k m H') : awSs c q d A env (.Expr e pos :: rest) m H P X :=
 qdx (qlg hi hs (h (fun x HJ => awSs c q d A env rest m HJ P X) fun _ _ z => z))
theorem qdb {c : Cx} {q : Md} {d : Nat} {A : Around} {env : Env} {m : Map} {H : AH} {P : Fl -> Map -> AH -> Prop} {X : Exc -> Map -> AH -> Prop} {pos : Pos} {test : Expr} {body orelse : List Stmt}
   (h : awB c q d A env test m H (fun b HJ => if b then False else awSs c q d A env orelse m HJ P X) fun k H' => X k m H') : awS c q d A env (.While test body orelse pos) m H P X :=
 qi2 (fun _ m' H' => m' = m ∧ H' = H) 0 ⟨rfl, rfl⟩ fun n m' H' ⟨e1, e2⟩ => by
   subst e1 e2; exact fun s F => wpAny_mono (h s F) (fun b s' zp0 => by obtain ⟨HJ, a, r, z⟩ := zp0; exact ⟨HJ, by cases b with | true => exact a.elim | false => exact a, r, z⟩) fun _ _ o => o
theorem qdc {c : Cx} {q : Md} {d : Nat} {A : Around} {env : Env} {m : Map} {H : AH} {P : Fl -> Map -> AH -> Prop} {X : Exc -> Map -> AH -> Prop} {pos : Pos} {test : Expr} {body orelse : List Stmt} (J : Nat -> Map -> AH -> Prop) (n : Nat) (hj : J n m H)
   (h : ∀ Y : Nat -> Map -> AH -> Prop, (∀ k m' H', J k m' H' -> Y k m' H') -> ∀ k m' H', J k m' H' -> ∀ K : Fl -> Map -> AH -> Prop, (∀ m' H', (∃ j, j < k ∧ Y j m' H') -> Go K .next m' H') -> (∀ m' H', (∃ j, j < k ∧ Y j m' H') -> Go K .cont m' H') -> (∀ m' H', P .next m' H' -> Go K .brk m' H') -> (∀ v m' H', P (.ret v) m' H' -> Go K (.ret v) m' H') →
     awB c q d A env test m' H' (fun b HJ => if b then awSs c q d A env body m' HJ (Go K) X else awSs c q d A env orelse m' HJ P X) fun k H' => X k m' H') : awS c q d A env (.While test body orelse pos) m H P X :=
 qi2 J n hj fun k m' H' j => h J (fun _ _ _ x => x) k m' H' j _ (fun _ _ x => x) (fun _ _ x => x) (fun _ _ x => x) (fun _ _ _ x => x)
theorem qas {H : AH} {a : Addr} {vs : List V} (h : H a = some (.list vs)) : qcx H (.ref a) = some "list" := by simp only [qcx, h]
theorem qfq {H : AH} {a : Addr} {kvs : List (Str × V)} {ep : Nat} (h : H a = some (.dict kvs ep)) : qcx H (.ref a) = some "dict" := by simp only [qcx, h]
theorem qpy {H : AH} {a : Addr} {xs : List Str} (h : H a = some (.set xs)) : qcx H (.ref a) = some "set" := by simp only [qcx, h]
theorem qc0 {c : Cx} {q : Md} {d : Nat} {A : Around} {env : Env} {m : Map} {H : AH} {P : V -> AH -> Prop} {X : Exc -> AH -> Prop} (h : P .none H) : qc3 c q d A env none m H P X := h
theorem qc1 {c : Cx} {q : Md} {d : Nat} {A : Around} {env : Env} {m : Map} {H : AH} {P : V -> AH -> Prop} {X : Exc -> AH -> Prop} {e : Expr} (h : awE c q d A env e m H P X) : qc3 c q d A env (some e) m H P X := h
theorem qb1 {H : AH} {a : Addr} {vs : List V} (e : H a = some (.list vs)) : qcw H (.ref a) = some (.list a) := by simp [qcw, e]
theorem qbm {H : AH} {a : Addr} {vs : List V} (e : H a = some (.list vs)) : (IK.list a).items H = some vs := by simp [IK.items, e]
abbrev kX (X : Exc -> Map -> AH -> Prop) (m : Map) : Exc -> AH -> Prop := fun k H' => X k m H'
abbrev kTup (P : V -> AH -> Prop) : List V -> AH -> Prop := fun xs HJ => xs.length ≤ 1000 ∧ P (.tup xs) HJ
abbrev kTr (P : Bool -> AH -> Prop) : V -> AH -> Prop := fun z HY => ∃ b, qe8 HY z = some b ∧ P b HY
abbrev kAp (P : List V -> List (Str × V) -> AH -> Prop) : List V -> AH -> Prop := fun xs HJ => P xs [] HJ
abbrev kAk (P : List V -> List (Str × V) -> AH -> Prop) (n : Str) (xs : List V) : V -> AH -> Prop := fun y HW => P xs [(n, y)] HW
abbrev kL2 (P : List V -> AH -> Prop) (x : V) : List V -> AH -> Prop := fun xs HW => P (x :: xs) HW
abbrev kSt (P : Fl -> Map -> AH -> Prop) (m : Map) (y : Str) : V -> AH -> Prop := fun x HJ => P .next (set m y x) HJ
abbrev kRet (P : Fl -> Map -> AH -> Prop) (m : Map) : V -> AH -> Prop := fun x HJ => P (.ret x) m HJ
abbrev kEx (P : Fl -> Map -> AH -> Prop) (m : Map) : V -> AH -> Prop := fun x HJ => P .next m HJ
abbrev kLcE (P : V -> AH -> Prop) : Map -> AH -> List V -> Prop := fun _ H' acc => ∀ a, H' a = none -> P (.ref a) (upd H' a (.list acc))
abbrev dunB (x : Str) : Bool := x == ("__debug__" : Str) || x == ("__classdict__" : Str)
theorem dun1 {x : Str} (h : dunB x = false) : (x == ("__debug__" : Str)) = false := (Bool.or_eq_false_iff.mp h).1
theorem dun2 {x : Str} (h : dunB x = false) : (x == ("__classdict__" : Str)) = false := (Bool.or_eq_false_iff.mp h).2
abbrev qq5 (e : Expr) : Bool := Nat.beq e.ctorIdx 22
abbrev qsw (e : Expr) : Bool := Nat.beq e.ctorIdx 20
abbrev qpo (e : Expr) : Bool := Nat.beq e.ctorIdx 26
theorem qig {e : Expr} (h : qq5 e = false) : ∀ e' p, e ≠ .Starred e' p := fun _ _ z => by rw [z] at h; exact Bool.noConfusion h
theorem qqw {e : Expr} (h : qsw e = false) : ∀ o n ap, e ≠ .Attribute o n ap := fun _ _ _ z => by rw [z] at h; exact Bool.noConfusion h
theorem qpc {e : Expr} (h : qpo e = false) : ∀ a b p, e ≠ .Slice a b none p := fun _ _ _ z => by rw [z] at h; exact Bool.noConfusion h
abbrev kNb (P : Fl -> Map -> AH -> Prop) (K : Fl -> Map -> AH -> Prop) : Prop := ∀ m' H', P .brk m' H' -> Go K .brk m' H'
abbrev kNc (P : Fl -> Map -> AH -> Prop) (K : Fl -> Map -> AH -> Prop) : Prop := ∀ m' H', P .cont m' H' -> Go K .cont m' H'
abbrev kNr (P : Fl -> Map -> AH -> Prop) (K : Fl -> Map -> AH -> Prop) : Prop := ∀ v m' H', P (.ret v) m' H' -> Go K (.ret v) m' H'
section
variable (c : Cx) (q : Md) (d : Nat) (A : Around) (env : Env)
section
variable (X : Exc -> AH -> Prop)
abbrev kO2 (P : V -> AH -> Prop) (f : List Value -> Sem Value) (x : V) : V -> AH -> Prop := fun y HW => awO c q d A env.frame f [x, y] HW P X
abbrev kO1 (m : Map) (P : V -> AH -> Prop) (f : List Value -> Sem Value) (r : Expr) : V -> AH -> Prop := fun x HJ => awE c q d A env r m HJ (kO2 c q d A env X P f x) X
abbrev kAt (P : V -> AH -> Prop) (f : List Value -> Sem Value) : V -> AH -> Prop := fun x HJ => awO c q d A env.frame f [x] HJ P X
abbrev kM3 (P : V -> AH -> Prop) (f : Value) (fs : List V) : List V -> List (Str × V) -> AH -> Prop := fun xs kw HW => qa7 c q d A env.frame f (fs ++ xs) kw HW P X
abbrev kM2 (m : Map) (P : V -> AH -> Prop) (args : List Expr) (kws : List Keyword) (HJ : AH) : Value -> List V -> Prop := fun f fs => qfr c f ∧ qc2 c q d A env args kws m HJ (kM3 c q d A env X P f fs) X
abbrev kM1 (m : Map) (P : V -> AH -> Prop) (few : Bool) (name : Str) (args : List Expr) (kws : List Keyword) : V -> AH -> Prop := fun x HJ => awM c q d A few x name HJ (kM2 c q d A env X m P args kws HJ)
abbrev kC2 (P : V -> AH -> Prop) (f : Value) : List V -> List (Str × V) -> AH -> Prop := fun xs kw HW => qa7 c q d A env.frame f xs kw HW P X
abbrev kC1 (m : Map) (P : V -> AH -> Prop) (args : List Expr) (kws : List Keyword) : V -> AH -> Prop := fun x HJ => ∃ f, x.val? = some f ∧ qfr c f ∧ qc2 c q d A env args kws m HJ (kC2 c q d A env X P f) X
abbrev kAk1 (m : Map) (P : List V -> List (Str × V) -> AH -> Prop) (n : Str) (ek : Expr) : List V -> AH -> Prop := fun xs HJ => awE c q d A env ek m HJ (kAk P n xs) X
abbrev kL1 (m : Map) (P : List V -> AH -> Prop) (es : List Expr) : V -> AH -> Prop := fun x HJ => awL c q d A env es m HJ (kL2 P x) X
abbrev kIfE (m : Map) (P : V -> AH -> Prop) (a b : Expr) : Bool -> AH -> Prop := fun z HJ => if z then awE c q d A env a m HJ P X else awE c q d A env b m HJ P X
abbrev kAnd (m : Map) (P : Bool -> AH -> Prop) (es : List Expr) : Bool -> AH -> Prop := fun b HJ => if b then qgm c q d A env .And es m HJ P X else P false HJ
abbrev kOr (m : Map) (P : Bool -> AH -> Prop) (es : List Expr) : Bool -> AH -> Prop := fun b HJ => if b then P true HJ else qgm c q d A env .Or es m HJ P X
abbrev kBo (m : Map) (P : V -> AH -> Prop) (op : BoolOp) (es : List Expr) : V -> AH -> Prop := fun x HJ => ∃ b, qe8 HJ x = some b ∧ if (match op, b with | .And, false => true | .Or, true => true | _, _ => false) then P x HJ else qgn c q d A env op es m HJ P X
abbrev kLc (m : Map) (P : V -> AH -> Prop) (elt : Expr) (gs : List Comprehension) (scope : Scope) (cl : List (Str × Addr)) : V -> AH -> Prop := fun x HJ => ∃ ik xs, qcw HJ x = some ik ∧ ∀ C, compItems (fun H => ik.items H = some xs) (qbh c q d A (qby scope cl C env) elt gs) xs (capM cl m) HJ [] (kLcE P)
abbrev kS2 (P : V -> AH -> Prop) (x : V) : V -> AH -> Prop := fun y HW => ∃ T id, qcx HW x = some T ∧ typeLookup (.type T) (Str.ofString "__getitem__") = pure (some (.builtin id)) ∧ awO c q d A env.frame (fun vs => getItem (vs.getD 0 .none) (vs.getD 1 .none)) [x, y] HW P X
abbrev kS1 (m : Map) (P : V -> AH -> Prop) (i : Expr) : V -> AH -> Prop := fun x HJ => awE c q d A env i m HJ (kS2 c q d A env X P x) X
end
section
variable (X : Exc -> Map -> AH -> Prop)
abbrev kNn (rest : List Stmt) (P : Fl -> Map -> AH -> Prop) (K : Fl -> Map -> AH -> Prop) : Prop := ∀ m' H', awSs c q d A env rest m' H' P X -> Go K .next m' H'
abbrev kNa (rest : List Stmt) (m : Map) (y : Str) (P : Fl -> Map -> AH -> Prop) (K : V -> AH -> Prop) : Prop := ∀ x HJ, awSs c q d A env rest (set m y x) HJ P X -> GoE K x HJ
abbrev kNe (rest : List Stmt) (m : Map) (P : Fl -> Map -> AH -> Prop) (K : V -> AH -> Prop) : Prop := ∀ x HJ, awSs c q d A env rest m HJ P X -> GoE K x HJ
abbrev kIfS (m : Map) (P : Fl -> Map -> AH -> Prop) (a b : List Stmt) : Bool -> AH -> Prop := fun z HJ => if z then awSs c q d A env a m HJ P X else awSs c q d A env b m HJ P X
abbrev kA2 (m : Map) (P : Fl -> Map -> AH -> Prop) (name : Str) (x : V) : V -> AH -> Prop := fun y HW => qi3 c q d A y name x HW fun HY => P .next m HY
abbrev kA1 (m : Map) (P : Fl -> Map -> AH -> Prop) (name : Str) (o : Expr) : V -> AH -> Prop := fun x HJ => awE c q d A env o m HJ (kA2 c q d A m P name x) (kX X m)
abbrev kI3 (m : Map) (P : Fl -> Map -> AH -> Prop) (x y : V) : V -> AH -> Prop := fun z HY => ∃ a kvs ep k, y = .ref a ∧ z = .str k ∧ HY a = some (.dict kvs ep) ∧ kvs.length ≤ 1000 ∧ ∀ ep', P .next m (upd HY a (.dict (putD kvs k x) ep'))
abbrev kI2 (m : Map) (P : Fl -> Map -> AH -> Prop) (i : Expr) (x : V) : V -> AH -> Prop := fun y HW => awE c q d A env i m HW (kI3 m P x y) (kX X m)
abbrev kI1 (m : Map) (P : Fl -> Map -> AH -> Prop) (e i : Expr) : V -> AH -> Prop := fun x HJ => awE c q d A env e m HJ (kI2 c q d A env X m P i x) (kX X m)
abbrev kGn (m : Map) (P : Fl -> Map -> AH -> Prop) (f : List Value -> Sem Value) (y : Str) (x : V) : V -> AH -> Prop := fun z HJ => awO c q d A env.frame f [x, z] HJ (kSt P m y) (kX X m)
abbrev kG3 (m : Map) (P : Fl -> Map -> AH -> Prop) (name : Str) (y : V) : V -> AH -> Prop := fun r HV => qi3 c q d A y name r HV fun HZ => P .next m HZ
abbrev kG2 (m : Map) (P : Fl -> Map -> AH -> Prop) (f : List Value -> Sem Value) (name : Str) (e : Expr) (y : V) : V -> AH -> Prop := fun x HW => awE c q d A env e m HW (fun z HY => awO c q d A env.frame f [x, z] HY (kG3 c q d A m P name y) (kX X m)) (kX X m)
abbrev kG1 (m : Map) (P : Fl -> Map -> AH -> Prop) (g f : List Value -> Sem Value) (name : Str) (e : Expr) : V -> AH -> Prop := fun y HJ => awO c q d A env.frame g [y] HJ (kG2 c q d A env X m P f name e y) (kX X m)
abbrev kTn (target : Expr) (body : List Stmt) : V -> Map -> AH -> (Fl -> Map -> AH -> Prop) -> Prop := fun x m H K => ∃ mJ, asgV target x m = some mJ ∧ awSs c q d A env body mJ H K X
abbrev kFo (m : Map) (P : Fl -> Map -> AH -> Prop) (target : Expr) (body : List Stmt) : V -> AH -> Prop := fun x HJ => ∃ ik xs, qcw HJ x = some ik ∧ forP (fun H => ik.items H = some xs) (kTn c q d A env X target body) P xs m HJ
end
end
section
variable {c : Cx} {q : Md} {d : Nat} {A : Around} {env : Env} {m : Map} {H : AH}
section
variable {P : V -> AH -> Prop} {X : Exc -> AH -> Prop} {pos : Pos}
theorem qba {l r : Expr} {op : Operator} (h : awE c q d A env l m H (kO1 c q d A env X m P (fun vs => binaryOp op (vs.getD 0 .none) (vs.getD 1 .none)) r) X) : awE c q d A env (.BinOp l op r pos) m H P X := qnl h
theorem qdi {l r : Expr} {op : CmpOp} (hb : behindInMarks op r = false) (h : awE c q d A env l m H (kO1 c q d A env X m P (fun vs => compareOp op (vs.getD 0 .none) (vs.getD 1 .none)) r) X) : awE c q d A env (.Compare l [op] [r] pos) m H P X := qj9 hb h
theorem qla {o : Expr} {name : Str} (he : eval (.Attribute o name pos) env = (do let o' ← eval o env; standAt pos.atName; let r ← holding [o'] (getAttr o' name true); letTemporaryGo o o' r; pure r))
   (h : awE c q d A env o m H (kAt c q d A env X P (fun vs => getAttr (vs.getD 0 .none) name true)) X) : awE c q d A env (.Attribute o name pos) m H P X := qp5 he h
theorem qdt {few : Bool} {o : Expr} {name : Str} {apos : Pos} {args : List Expr} {kws : List Keyword} (hfew : methodCallForm (args.length + kws.length) (backTo pos (starEach args env)) (backToKw pos (keywordEach kws env)) = few) (hab : attributeBase o name env (eval o env) = eval o env) (hpos : (apos.endLine == pos.line) = true) (hst : ∀ pos, (backToKw pos (keywordEach kws env)).any (·.1.isNone) = false) (hst2 : ∀ pos, (backTo pos (starEach args env)).any (·.1) = true -> kws = [])
   (h : awE c q d A env o m H (kM1 c q d A env X m P few name args kws) X) : awE c q d A env (.Call (.Attribute o name apos) args kws pos) m H P X := qle hfew hab hpos hst hst2 h
theorem qcf {few : Bool} {o : Expr} {name : Str} {apos : Pos} {args : List Expr} (hfew : methodCallForm (args.length + 0) (backTo pos (starEach args env)) (backToKw pos (keywordEach [] env)) = few) (hab : attributeBase o name env (eval o env) = eval o env) (hpos : (apos.endLine == pos.line) = true)
   (h : awE c q d A env o m H (kM1 c q d A env X m P few name args []) X) : awE c q d A env (.Call (.Attribute o name apos) args [] pos) m H P X := qle hfew hab hpos (fun _ => rfl) (fun _ _ => rfl) h
theorem qao {fe : Expr} {args : List Expr} (hfe : qsw fe = false) (h : awE c q d A env fe m H (kC1 c q d A env X m P args []) X) : awE c q d A env (.Call fe args [] pos) m H P X := qp6 (qqw hfe) (fun _ => rfl) (fun _ _ => rfl) h
theorem qbb {elt : Expr} {g : Comprehension} {gs : List Comprehension} {scope : Scope} {cl : List (Str × Addr)} (hq : q = .quiet) (K : qgi scope cl env (g :: gs)) (hs : ∀ x, foldedSetIterable g.iter env x = pure x) (h : awE c q d A env g.iter m H (kLc c q d A env m P elt (g :: gs) scope cl) X) : awE c q d A env (.ListComp elt (g :: gs) scope pos) m H P X := qiv hq K hs h
theorem qbc {es : List Expr} {n : Nat} (h : awL c q d A env es m H (kTup P) X) : awE c q d A env (.Tuple es n pos) m H P X := qnp h
theorem qah {e : Expr} {es : List Expr} {P : List V -> AH -> Prop} (hs : qq5 e = false) (h : awE c q d A env e m H (kL1 c q d A env X m P es) X) : awL c q d A env (e :: es) m H P X := qp9 (qig hs) h
theorem qcy {e ek : Expr} {es : List Expr} {n : Str} {kp : Pos} {P : List V -> List (Str × V) -> AH -> Prop} (hs : qq5 e = false)
   (h : awL c q d A env (e :: es) m H (kAk1 c q d A env X m P n ek) X) : qc2 c q d A env (e :: es) [⟨some n, ek, kp⟩] m H P X := qnj (qig hs) h
theorem qag {e : Expr} {es : List Expr} {P : List V -> List (Str × V) -> AH -> Prop} (hs : qq5 e = false) (h : awL c q d A env (e :: es) m H (kAp P) X) : qc2 c q d A env (e :: es) [] m H P X := qit (qig hs) h
theorem qaq {l r : Expr} {op : CmpOp} {P : Bool -> AH -> Prop} (hb : behindInMarks op r = false)
   (h : awE c q d A env l m H (kO1 c q d A env X m (kTr P) (fun vs => compareOp op (vs.getD 0 .none) (vs.getD 1 .none)) r) X) : awB c q d A env (.Compare l [op] [r] pos) m H P X := qj7 hb h
theorem qb7 {e : Expr} {P : Bool -> AH -> Prop} (hw : ∀ whole, isTrue e env whole = (do let v ← whole; standAt e.pos; holding [v] (truthy v)))
   (h : awE c q d A env e m H (kTr P) X) : awB c q d A env e m H P X := qnk hw h
theorem qbf {e : Expr} {es : List Expr} {P : Bool -> AH -> Prop} (h : awB c q d A env e m H (kAnd c q d A env X m P es) X) : qgm c q d A env .And (e :: es) m H P X := qhh h
theorem qf0 {e : Expr} {es : List Expr} {P : Bool -> AH -> Prop} (h : awB c q d A env e m H (kOr c q d A env X m P es) X) : qgm c q d A env .Or (e :: es) m H P X := qh3 h
theorem qef {op : BoolOp} {e e' : Expr} {es : List Expr} (h : awE c q d A env e m H (kBo c q d A env X m P op (e' :: es)) X) : qgn c q d A env op (e :: e' :: es) m H P X := qj8 h
theorem qir {t a b : Expr} (h : awB c q d A env t m H (kIfE c q d A env X m P a b) X) : awE c q d A env (.IfExp t a b pos) m H P X := qnn h
theorem qp0 {e i : Expr} (hns : qpo i = false) (h : awE c q d A env e m H (kS1 c q d A env X m P i) X) : awE c q d A env (.Subscript e i pos) m H P X := qrs (qpc hns) h
theorem xN {x : Str} {v : V} (hm : m x = some v) (hn : dunB x = false) (h : P v H) : awE c q d A env (.Name x pos) m H P X := qp8 hm h (dun1 hn) (dun2 hn)
theorem xLn {x : Str} {v : V} {p : Pos} {P : List V -> AH -> Prop} (hm : m x = some v) (hn : dunB x = false) (h : P [v] H) : awL c q d A env [.Name x p] m H P X := qah rfl (xN hm hn (qal h))
theorem xLm {x : Str} {v : V} {p : Pos} {es : List Expr} {P : List V -> AH -> Prop} (hm : m x = some v) (hn : dunB x = false) (h : awL c q d A env es m H (kL2 P v) X) : awL c q d A env (.Name x p :: es) m H P X := qah rfl (xN hm hn h)
theorem xAn {x : Str} {v : V} {p : Pos} {P : List V -> List (Str × V) -> AH -> Prop} (hm : m x = some v) (hn : dunB x = false) (h : P [v] [] H) : qc2 c q d A env [.Name x p] [] m H P X := qag rfl (xLn hm hn h)
theorem xSn {x : Str} {v : V} {p : Pos} {i : Expr} (hns : qpo i = false) (hm : m x = some v) (hn : dunB x = false) (h : awE c q d A env i m H (kS2 c q d A env X P v) X) : awE c q d A env (.Subscript (.Name x p) i pos) m H P X := qp0 hns (xN hm hn h)
theorem xSk {x : Str} {v : V} {p p' : Pos} {k : Const} {kn : Nat} {u : V} (hm : m x = some v) (hn : dunB x = false) (hk : qrg k = some u) (h : kS2 c q d A env X P v u H) : awE c q d A env (.Subscript (.Name x p) (.Constant k kn p') pos) m H P X := qp0 rfl (xN hm hn (qad hk h))
theorem xAt {x : Str} {v : V} {p : Pos} {name : Str} (he : eval (.Attribute (.Name x p) name pos) env = (do let o' ← eval (.Name x p) env; standAt pos.atName; let r ← holding [o'] (getAttr o' name true); letTemporaryGo (.Name x p) o' r; pure r)) (hm : m x = some v) (hn : dunB x = false)
   (h : awO c q d A env.frame (fun vs => getAttr (vs.getD 0 .none) name true) [v] H P X) : awE c q d A env (.Attribute (.Name x p) name pos) m H P X := qla he (xN hm hn h)
theorem xMn {x : Str} {v : V} {p : Pos} {name : Str} {apos : Pos} {args : List Expr} (hfew : methodCallForm (args.length + 0) (backTo pos (starEach args env)) (backToKw pos (keywordEach [] env)) = true) (hab : attributeBase (.Name x p) name env (eval (.Name x p) env) = eval (.Name x p) env) (hpos : (apos.endLine == pos.line) = true) (hm : m x = some v) (hn : dunB x = false)
   (h : awM c q d A true v name H (kM2 c q d A env X m P args [] H)) : awE c q d A env (.Call (.Attribute (.Name x p) name apos) args [] pos) m H P X := qcf hfew hab hpos (xN hm hn h)
theorem xCn {x : Str} {v : V} {p : Pos} {r : Expr} {op : CmpOp} {P : Bool -> AH -> Prop} (hb : behindInMarks op r = false) (hm : m x = some v) (hn : dunB x = false) (h : awE c q d A env r m H (kO2 c q d A env X (kTr P) (fun vs => compareOp op (vs.getD 0 .none) (vs.getD 1 .none)) v) X) : awB c q d A env (.Compare (.Name x p) [op] [r] pos) m H P X := qaq hb (xN hm hn h)
end
section
variable {P : Fl -> Map -> AH -> Prop} {X : Exc -> Map -> AH -> Prop} {pos : Pos}
theorem qbv {t : Expr} {a b : List Stmt} (h : awB c q d A env t m H (kIfS c q d A env X m P a b) (kX X m)) : awS c q d A env (.If t a b pos) m H P X := qsx h
theorem qp1 {y : Str} {pJ : Pos} {e : Expr} (hy : qan env y) (hsw : swapsWith e (some (.Name y pJ)) pos.line env = pure false) (h : awE c q d A env e m H (kSt P m y) (kX X m)) : awS c q d A env (.Assign [.Name y pJ] e pos) m H P X := qho hy hsw h
theorem qar {e : Expr} (h : awE c q d A env e m H (kRet P m) (kX X m)) : awS c q d A env (.Return (some e) pos) m H P X := qmb h
theorem qp2 {e : Expr} (hi : interactive env = false) (hs : swapsWith e none pos.line env = pure false) (h : awE c q d A env e m H (kEx P m) (kX X m)) : awS c q d A env (.Expr e pos) m H P X := qlg hi hs h
theorem qae {y : Str} {pJ : Pos} {e : Expr} {rest : List Stmt} (hy : qan env y) (hsw : swapsWith e (some (.Name y pJ)) pos.line env = pure false)
   (h : ∀ K : V -> AH -> Prop, kNa c q d A env X rest m y P K -> awE c q d A env e m H (GoE K) (kX X m)) : awSs c q d A env (.Assign [.Name y pJ] e pos :: rest) m H P X := qi4 hy hsw h
theorem qaw {e : Expr} {rest : List Stmt} (hi : interactive env = false) (hs : swapsWith e none pos.line env = pure false)
   (h : ∀ K : V -> AH -> Prop, kNe c q d A env X rest m P K -> awE c q d A env e m H (GoE K) (kX X m)) : awSs c q d A env (.Expr e pos :: rest) m H P X := qmc hi hs h
theorem qaa {st : Stmt} {rest : List Stmt}
   (h : ∀ K : Fl -> Map -> AH -> Prop, kNn c q d A env X rest P K -> kNb P K -> kNc P K -> kNr P K -> awS c q d A env st m H (Go K) X) : awSs c q d A env (st :: rest) m H P X := qmd h
theorem qcg {y : Str} {py spos : Pos} {elt : Expr} {g : Comprehension} {gs : List Comprehension} {scope : Scope} {cl : List (Str × Addr)} (hq : q = .quiet) (hy : qan env y) (hsw : swapsWith (.ListComp elt (g :: gs) scope pos) (some (.Name y py)) spos.line env = pure true) (K : qgi scope cl env (g :: gs)) (hs : ∀ x, foldedSetIterable g.iter env x = pure x)
   (h : awE c q d A env g.iter m H (kLc c q d A env m (kSt P m y) elt (g :: gs) scope cl) (kX X m)) : awS c q d A env (.Assign [.Name y py] (.ListComp elt (g :: gs) scope pos) spos) m H P X := qhi hq hy hsw K hs h
theorem qbw {o v : Expr} {name : Str} {pJ : Pos} (hsw : swapsWithSole [.Attribute o name pJ] v pos.line env = pure false) (hsw2 : swappedStores [.Attribute o name pJ] v env = pure none)
   (h : awE c q d A env v m H (kA1 c q d A env X m P name o) (kX X m)) : awS c q d A env (.Assign [.Attribute o name pJ] v pos) m H P X := qkf hsw hsw2 h
theorem qdk {e i v : Expr} {pJ : Pos} (hsw : swapsWithSole [.Subscript e i pJ] v pos.line env = pure false) (hsw2 : swappedStores [.Subscript e i pJ] v env = pure none) (hns : ∀ a b st p, i ≠ .Slice a b st p)
   (h : awE c q d A env v m H (kI1 c q d A env X m P e i) (kX X m)) : awS c q d A env (.Assign [.Subscript e i pJ] v pos) m H P X := qkg hsw hsw2 hns h
theorem qdj {y : Str} {pJ : Pos} {op : Operator} {e : Expr} {x : V} (hm : m y = some x) (hy : qan env y) (hd : (y == ("__classdict__" : Str)) = false)
   (h : awE c q d A env e m H (kGn c q d A env X m P (fun vs => inplaceOp op (vs.getD 0 .none) (vs.getD 1 .none)) y x) (kX X m)) : awS c q d A env (.AugAssign (.Name y pJ) op e pos) m H P X := qkd hm hy hd h
theorem qeg {o e : Expr} {name : Str} {pJ : Pos} {op : Operator}
   (h : awE c q d A env o m H (kG1 c q d A env X m P (fun vs => getAttr (vs.getD 0 .none) name true) (fun vs => inplaceOp op (vs.getD 0 .none) (vs.getD 1 .none)) name e) (kX X m)) : awS c q d A env (.AugAssign (.Attribute o name pJ) op e pos) m H P X := qkc h
theorem qb5 {target iter : Expr} {body : List Stmt} (hh : q = .quiet) (hs : ∀ x, foldedSetIterable iter env x = pure x) (ht : qj0 env target)
   (h : awE c q d A env iter m H (kFo c q d A env X m P target body) (kX X m)) : awS c q d A env (.For target iter body [] pos) m H P X := qrt hh hs ht h
end
end
theorem conv : ∀ {c : Cx} {d : Nat} {p loose mg mb} {H : AH} {P : V -> AH -> Prop} {X : Exc -> AH -> Prop} {st : Addr} {x : Str} {b : Bool}
   (hprog : c.prog = rw_om0166_02.row.prog) (G : Gd (KF c.w.params) p loose mg mb c.g) (hx : qbz (KF c.w.params) (if b then 48 else 53) x) (h : P (.str x) H),
   qbg c (d + 1) (.ref 83) [.ref st, .str x] [(Str.ofString "name", .bool b)] H P X := by
 w_on; k_fill; intro c d p loose mg mb H P X st x b hprog G hx h; refine' qca (binds := [(Str.ofString "self", .ref st), (Str.ofString "value", .str x), (Str.ofString "name", .bool b)]) G ?ho ?hcd ?hb ?hk ?hn ?hd ?_ ?c1 ?c2 ?c3
 case ho => k_is
 case hcd => k_is
 case hb =>
   intro s vs kvs _ hv hk; obtain ⟨v, _, rfl, a, u, _, rfl, b', rfl⟩ := hv; obtain ⟨hk1, hk2⟩ := hk; cases kvs with
   | nil => exact nomatch hk1
   | cons z r =>
     obtain ⟨_, _, e, hw, _⟩ := hk2; cases e; cases r with
     | cons _ _ => exact absurd (List.cons.inj hk1).2.symm (List.cons_ne_nil _ _)
     | nil =>
       obtain ⟨n, w⟩ := z; obtain rfl : Str.ofString "name" = n := (List.cons.inj hk1).1; exact ⟨_, BindsTo.of_eq rfl, rfl, v, _, rfl, a, u, _, rfl, b', w, _, rfl, hw, rfl⟩
 case hk => rfl
 case hn => decide +kernel
 case hd => exact of_decide_eq_true rfl
 case c1 => rfl
 case c2 => rfl
 case c3 => rfl
 intro A L; cases b
 . simp only [if_true, if_false, Bool.false_eq_true] at hx; (refine qaa fun Kz hz1 hz2 hz3 hz4 => ?_; refine qbv (qaq rfl (qao rfl (qax ‹_› rfl (by k_is) (by boot_by_name) (by decide) ?_ rfl))); refine ⟨_, rfl, (qbn _), ?_⟩; refine xAn rfl rfl ?_; refine qgr rfl ?_; refine qax ‹_› rfl (by k_is) (by boot_by_name) (by decide) ?_ rfl; refine qop ?_; refine ⟨_, rfl, ?_⟩; refine qbd rfl ?_; refine qae (.inl rfl) rfl fun Kz hz1 => ?_; refine qir (qb7 (fun _ => rfl) (xN rfl rfl ?_)); refine ⟨_, rfl, ?_⟩; refine qay rfl ?_; refine qa4 ‹_› rfl (by k_is) ?_ rfl; apply_assumption; refine qaa fun Kz hz1 hz2 hz3 hz4 => ?_; refine qbv (qb7 (fun _ => rfl) (xMn rfl rfl rfl rfl rfl ?_)); refine qhn ‹_› (by k_is) rfl rfl ⟨qab _, ?_⟩; refine xAn rfl rfl (qaf ?_); refine qei ‹_› (by k_is) rfl ‹_› ?_; refine ⟨_, rfl, ?_⟩; refine qay rfl ?_; refine qac ?_; apply_assumption; refine qaa fun Kz hz1 hz2 hz3 hz4 => ?_; refine qar (xN rfl rfl ?_); apply_assumption; apply_assumption); exact h
 . simp only [if_true, if_false, Bool.false_eq_true] at hx; (refine qaa fun Kz hz1 hz2 hz3 hz4 => ?_; refine qbv (qaq rfl (qao rfl (qax ‹_› rfl (by k_is) (by boot_by_name) (by decide) ?_ rfl))); refine ⟨_, rfl, (qbn _), ?_⟩; refine xAn rfl rfl ?_; refine qgr rfl ?_; refine qax ‹_› rfl (by k_is) (by boot_by_name) (by decide) ?_ rfl; refine qop ?_; refine ⟨_, rfl, ?_⟩; refine qbd rfl ?_; refine qae (.inl rfl) rfl fun Kz hz1 => ?_; refine qir (qb7 (fun _ => rfl) (xN rfl rfl ?_)); refine ⟨_, rfl, ?_⟩; refine qbd rfl ?_; refine qa4 ‹_› rfl (by k_is) ?_ rfl; apply_assumption; refine qaa fun Kz hz1 hz2 hz3 hz4 => ?_; refine qbv (qb7 (fun _ => rfl) (xMn rfl rfl rfl rfl rfl ?_)); refine qhn ‹_› (by k_is) rfl rfl ⟨qab _, ?_⟩; refine xAn rfl rfl (qaf ?_); refine qei ‹_› (by k_is) rfl ‹_› ?_; refine ⟨_, rfl, ?_⟩; refine qay rfl ?_; refine qac ?_; apply_assumption; refine qaa fun Kz hz1 hz2 hz3 hz4 => ?_; refine qar (xN rfl rfl ?_); apply_assumption; apply_assumption); exact h
def qeq (H : AH) (st : Addr) (ps : List (Str × Str)) : Prop := ∃ dd l, H st = some (.inst 182 dd) ∧ H dd = some (.ns [(Str.ofString "_headers", .ref l)]) ∧ H l = some (.list (ps.map fun q => .tup [.str q.1, .str q.2]))
theorem get_ : ∀ {c : Cx} {d : Nat} {p loose mg mb} {H : AH} {P : V -> AH -> Prop} {X : Exc -> AH -> Prop} {st : Addr} {x : Str} {ps : List (Str × Str)}
   (hprog : c.prog = rw_om0166_02.row.prog) (G : Gd (KF c.w.params) p loose mg mb c.g) (HA : qeq H st ps) (hx : x.length ≤ 1000) (hc : qbz (KF c.w.params) 48 (Txt.lower x)) (hps : ∀ q ∈ ps, q.1.length ≤ 1000)
   (h : P (match ps.find? fun q => Txt.lower q.1 == Txt.lower x with | some q => .str q.2 | none => .none) H),
   qbg c (d + 2) (.ref 129) [.ref st, .str x] [] H P X := by
 w_on; k_fill; intro c d p loose mg mb H P X st x ps hprog G HA hx hc hps h; obtain ⟨dd, l, h1, h2, h3⟩ := HA; refine' qca (d := d + 1) (binds := [(Str.ofString "self", .ref st), (Str.ofString "name", .str x), (Str.ofString "default", .none)]) G ?ho ?hcd ?hb ?hk ?hn ?hd ?_ ?c1 ?c2 ?c3
 case ho => k_is
 case hcd => k_is
 case hb =>
   intro s vs kvs KX hv hk; obtain rfl := qa1 hk; obtain ⟨v, _, rfl, a, u, _, rfl, b, rfl⟩ := hv; exact ⟨[(Str.ofString "self", v), (Str.ofString "name", u), (Str.ofString "default", .none)], binds_K KX rfl (by k_is) rfl rfl rfl, rfl, v, _, rfl, a, u, _, rfl, b, _, _, rfl, rfl, rfl⟩
 case hk => rfl
 case hn => decide +kernel
 case hd => exact of_decide_eq_true rfl
 case c1 => rfl
 case c2 => rfl
 case c3 => rfl
 intro A L; (refine qae (.inl rfl) rfl fun Kz hz1 => ?_; refine qdt (few := true) rfl rfl rfl (fun _ => rfl) (by intro _ h; first | rfl | cases h) ?_; refine xN rfl rfl ?_; refine qbe ‹_› ‹_› ‹_› (by k_is) (by k_is) (by k_is) rfl ⟨qap ‹_› (by k_is), ?_⟩; refine qcy rfl ?_; refine qah rfl (xMn rfl rfl rfl rfl rfl ?_); refine qa8 rfl (by decide) F.plainAttrs_str F.slot_str_lower F.type_str_lower ⟨qab _, ?_⟩; refine qav ?_; refine qaf ?_; refine qcj ‹_› ?_; refine qal ?_; refine qad rfl (qaf ?_)); refine qak (conv hprog G hc ?_); (apply_assumption; refine qaa fun Kz hz1 hz2 hz3 hz4 => ?_; refine qb5 rfl (fun _ => rfl) (⟨(Or.inl rfl : qan _ _), (Or.inl rfl : qan _ _)⟩) ?_; refine xAt rfl rfl rfl ?_; refine qam ‹_› ‹_› ‹_› (by k_is) (by k_is) (by k_is) (by k_is) rfl (by intro i h; cases h) ?_); refine ⟨.list l, ps.map (fun q => V.tup [.str q.1, .str q.2]), (qb1 h3), ?_⟩; refine qgc (fun r m' H' => H' = H ∧ ∃ rest : List (Str × Str), r = rest.map (fun q => V.tup [.str q.1, .str q.2]) ∧ (∀ q ∈ rest, q ∈ ps) ∧ (ps.find? fun q => Txt.lower q.1 == Txt.lower x) = (rest.find? fun q => Txt.lower q.1 == Txt.lower x) ∧ m' (Str.ofString "name") = some (.str (Txt.lower x)) ∧ m' (Str.ofString "default") = some .none) ?_ ?_ ⟨rfl, ps, rfl, fun _ h => h, rfl, rfl, rfl⟩
 . rintro m' H' ⟨rfl, rest, hr, _, hf, hm1, hm2⟩; cases rest with
   | cons _ _ => cases hr
   | nil =>
     refine ⟨(qbm h3), ?_⟩; rw [hf] at h; (apply_assumption; refine qaa fun Kz hz1 hz2 hz3 hz4 => ?_; refine qar ?_; refine xN ‹_› rfl ?_; apply_assumption); exact h
 . rintro v r m' H' ⟨rfl, rest, hr, hsub, hf, hm1, hm2⟩; cases rest with
   | nil => cases hr
   | cons q rest =>
     cases hr; refine ⟨(qbm h3), fun K hn _ _ hret => ⟨_, rfl, ?_⟩⟩; have hq := hps q (hsub q (mem_cons_self ..)); (refine qaa fun Kz hz1 hz2 hz3 hz4 => ?_; refine qbv (qaq rfl (xMn rfl rfl rfl rfl rfl ?_)); refine qa8 rfl (by decide) F.plainAttrs_str F.slot_str_lower F.type_str_lower ⟨qab _, ?_⟩; refine qav ?_; refine qaf ?_; refine qcj ‹_› ?_; refine xN ‹_› rfl ?_; refine qbi ?_; refine ⟨_, rfl, ?_⟩); rw [hf, find?_cons] at h; cases hb : (Txt.lower q.1 == Txt.lower x)
     . (refine qay rfl ?_; refine qac ?_; apply_assumption; refine qac ?_); refine hn _ _ ⟨rfl, rest, rfl, fun q' h' => hsub q' (mem_cons_of_mem _ h'), ?_, hm1, hm2⟩; rw [hf, find?_cons, hb]
     . rw [hb] at h; (refine qbd rfl ?_; refine qaa fun Kz hz1 hz2 hz3 hz4 => ?_; refine qar (xN rfl rfl ?_); apply_assumption; apply_assumption); refine hret _ _ _ ?_; (apply_assumption); exact h
theorem get_all : ∀ {c : Cx} {d : Nat} {p loose mg mb} {H : AH} {P : V -> AH -> Prop} {X : Exc -> AH -> Prop} {st : Addr} {x : Str} {ps : List (Str × Str)}
   (hprog : c.prog = rw_om0166_02.row.prog) (G : Gd (KF c.w.params) p loose mg mb c.g) (HA : qeq H st ps) (hx : x.length ≤ 1000) (hc : qbz (KF c.w.params) 48 (Txt.lower x)) (hps : ∀ q ∈ ps, q.1.length ≤ 1000) (hpl : ps.length ≤ 1000)
   (h : ∀ a, H a = none -> P (.ref a) (upd H a (.list ((ps.filter fun q => Txt.lower q.1 == Txt.lower x).map fun q => .str q.2)))),
   qbg c (d + 2) (.ref 121) [.ref st, .str x] [] H P X := by
 w_on; k_fill; intro c d p loose mg mb H P X st x ps hprog G HA hx hc hps hpl h; obtain ⟨dd, l, h1, h2, h3⟩ := HA; refine' qca (d := d + 1) (binds := [(Str.ofString "self", .ref st), (Str.ofString "name", .str x)]) G ?ho ?hcd ?hb ?hk ?hn ?hd ?_ ?c1 ?c2 ?c3
 case ho => k_is
 case hcd => k_is
 case hb =>
   intro s vs kvs KX hv hk; obtain rfl := qa1 hk; obtain ⟨v, _, rfl, a, u, _, rfl, b, rfl⟩ := hv; exact ⟨_, BindsTo.of_eq rfl, rfl, v, _, rfl, a, u, _, rfl, b, rfl⟩
 case hk => rfl
 case hn => decide +kernel
 case hd => exact of_decide_eq_true rfl
 case c1 => rfl
 case c2 => rfl
 case c3 => rfl
 intro A L; (refine qae (.inr ⟨rfl, rfl⟩) rfl fun Kz hz1 => ?_; refine qdt (few := true) rfl rfl rfl (fun _ => rfl) (by intro _ h; first | rfl | cases h) ?_; refine xN rfl rfl ?_; refine qbe ‹_› ‹_› ‹_› (by k_is) (by k_is) (by k_is) rfl ⟨qap ‹_› (by k_is), ?_⟩; refine qcy rfl ?_; refine qah rfl (xMn rfl rfl rfl rfl rfl ?_); refine qa8 rfl (by decide) F.plainAttrs_str F.slot_str_lower F.type_str_lower ⟨qab _, ?_⟩; refine qav ?_; refine qaf ?_; refine qcj ‹_› ?_; refine qal ?_; refine qad rfl (qaf ?_)); refine qak (conv hprog G hc ?_); (apply_assumption; refine qaa fun Kz hz1 hz2 hz3 hz4 => ?_; refine qar ?_; refine qbb rfl (qa9 rfl rfl (by decide +kernel) rfl rfl) (fun _ => rfl) ?_; refine xAt rfl rfl rfl ?_; refine qam ‹_› ‹_› ‹_› (by k_is) (by k_is) (by k_is) (by k_is) rfl (by intro i h; cases h) ?_); refine ⟨.list l, ps.map (fun q => V.tup [.str q.1, .str q.2]), (qb1 h3), fun C => ?_⟩; refine qja (fun v => match v with | .tup [.str a, .str b] => if Txt.lower a == Txt.lower x then some (.str b) else none | _ => none) (fun m => m (Str.ofString "name") = some (.str (Txt.lower x))) (qbm h3) (by simpa using le_trans hpl (by decide)) rfl ?_ ?_
 . rintro v hv m acc K hacc hm hk; obtain ⟨q, hq, rfl⟩ := mem_map.mp hv; have hq1 := hps q hq; refine qb2 rfl ?_; (refine qaq rfl (qcf (few := true) rfl rfl rfl (xSk rfl rfl rfl ?_)); refine qbu (by decide) (by decide) rfl ?_; refine qa8 rfl (by decide) F.plainAttrs_str F.slot_str_lower F.type_str_lower ⟨qab _, ?_⟩; refine qav ?_; refine qaf ?_; refine qcj ‹_› ?_; refine xN ‹_› rfl ?_; refine qbi ?_; refine ⟨_, rfl, ?_⟩); dsimp only at hk; cases hb : (Txt.lower q.1 == Txt.lower x)
   . rw [hb] at hk; (refine qay rfl ?_); simpa using hk (set m (Str.ofString "kv") (V.tup [.str q.1, .str q.2])) hm
   . rw [hb] at hk; refine qbd rfl ⟨hacc, ?_⟩; (refine xSk rfl rfl rfl ?_; refine qbu (by decide) (by decide) rfl ?_); exact hk _ hm
 . intro m' hm'; rw [qti (p := fun q : Str × Str => Txt.lower q.1 == Txt.lower x) (h := fun q => .str q.2) fun q _ => rfl, nil_append]; intro a ha; (apply_assumption); exact h a ha
theorem qol : ∀ {c : Cx} {d : Nat} {p loose mg mb} {H : AH} {P : V -> AH -> Prop} {X : Exc -> AH -> Prop} {st dd l : Addr} {ps : List (Str × Str)}
   (hprog : c.prog = rw_om0166_02.row.prog) (G : Gd (KF c.w.params) p loose mg mb c.g) (h1 : H st = some (.inst 182 dd)) (h2 : H dd = some (.ns [])) (h3 : H l = some (.list (ps.map fun q => .tup [.str q.1, .str q.2]))) (hcl : ∀ q ∈ ps, qbz (KF c.w.params) 48 q.1 ∧ qbz (KF c.w.params) 53 q.2)
   (h : P .none (upd H dd (.ns [(Str.ofString "_headers", .ref l)]))), qbg c (d + 2) (.ref 76) [.ref st, .ref l] [] H P X := by
 w_on; k_fill; intro c d p loose mg mb H P X st dd l ps hprog G h1 h2 h3 hcl h; refine' qca (d := d + 1) (binds := [(Str.ofString "self", .ref st), (Str.ofString "headers", .ref l)]) G ?ho ?hcd ?hb ?hk ?hn ?hd ?_ ?c1 ?c2 ?c3
 case ho => k_is
 case hcd => k_is
 case hb =>
   intro s vs kvs KX hv hk; obtain rfl := qa1 hk; obtain ⟨v, _, rfl, a, u, _, rfl, b, rfl⟩ := hv; exact ⟨[(Str.ofString "self", v), (Str.ofString "headers", u)], binds_K KX rfl (by k_is) rfl rfl rfl, rfl, v, _, rfl, a, u, _, rfl, b, rfl⟩
 case hk => rfl
 case hn => decide +kernel
 case hd => exact of_decide_eq_true rfl
 case c1 => rfl
 case c2 => rfl
 case c3 => rfl
 intro A L; (refine qae (.inl rfl) rfl fun Kz hz1 => ?_; refine qir (xCn rfl rfl rfl (qad rfl ?_)); refine qdd rfl ?_; refine ⟨_, rfl, ?_⟩; refine qbd rfl ?_; refine xN rfl rfl ?_; apply_assumption; refine qaa fun Kz hz1 hz2 hz3 hz4 => ?_; refine qbv (qaq rfl (qao rfl (qax ‹_› rfl (by k_is) (by boot_by_name) (by decide) ?_ rfl))); refine ⟨_, rfl, (qbn _), ?_⟩; refine xAn rfl rfl ?_; refine qgr (qas ‹_›) ?_; refine qax ‹_› rfl (by k_is) (by boot_by_name) (by decide) ?_ rfl; refine qmq ?_; refine ⟨_, rfl, ?_⟩; refine qay rfl ?_; refine qac ?_; apply_assumption; refine qaa fun Kz hz1 hz2 hz3 hz4 => ?_; refine qbw rfl rfl ?_; refine xN rfl rfl (xN rfl rfl ?_); refine ql0 ‹_› ‹_› ‹_› (by k_is) (by k_is) (by k_is) (by k_is) (by decide) ?_; apply_assumption; refine qaa fun Kz hz1 hz2 hz3 hz4 => ?_; refine qbv (qb7 (fun _ => rfl) (qad rfl ?_)); refine ⟨_, rfl, ?_⟩; refine qbd rfl ?_; refine qaa fun Kz hz1 hz2 hz3 hz4 => ?_; refine qb5 rfl (fun _ => rfl) (⟨(Or.inl rfl : qan _ _), (Or.inl rfl : qan _ _)⟩) ?_; refine xN rfl rfl ?_); have hne : l ≠ dd := fun z => by rw [z, h2] at h3; exact nomatch h3
 have h3' : (upd H dd (.ns (putF [] (Str.ofString "_headers") (.ref l)))) l = some (.list (ps.map fun q => .tup [.str q.1, .str q.2])) := by rw [qa5 _ _ hne]; exact h3
 have g1 : (upd H dd (.ns (putF [] (Str.ofString "_headers") (.ref l)))) st = some (.inst 182 dd) := by rw [qa5 _ _ (fun z => by rw [z, h2] at h1; cases h1)]; exact h1
 have g2 : (upd H dd (.ns (putF [] (Str.ofString "_headers") (.ref l)))) dd = some (.ns (putF [] (Str.ofString "_headers") (.ref l))) := qai _ _ _; refine ⟨.list l, ps.map (fun q => V.tup [.str q.1, .str q.2]), (qb1 h3'), ?_⟩; refine qgc (fun r m' H' => H' = upd H dd (.ns (putF [] (Str.ofString "_headers") (.ref l))) ∧ m' (Str.ofString "self") = some (.ref st) ∧ ∃ rest : List (Str × Str), r = rest.map (fun q => V.tup [.str q.1, .str q.2]) ∧ ∀ q ∈ rest, q ∈ ps) ?_ ?_ ⟨rfl, rfl, ps, rfl, fun _ z => z⟩
 . rintro m' H' ⟨rfl, _⟩; refine ⟨(qbm h3'), ?_⟩; (apply_assumption; refine qac ?_; apply_assumption; refine qac ?_); exact h
 . rintro v r m' H' ⟨rfl, hs, rest, hr, hsub⟩; cases rest with
   | nil => cases hr
   | cons q rest =>
     cases hr; refine ⟨(qbm h3'), fun K hn _ _ _ => ⟨_, rfl, ?_⟩⟩; obtain ⟨c1, c2⟩ := hcl q (hsub q (mem_cons_self ..)); (refine qaw rfl rfl fun Kz hz1 => ?_; refine qdt (few := true) rfl rfl rfl (fun _ => rfl) (by intro _ h; first | rfl | cases h) ?_; refine xN ‹_› rfl ?_; refine qbe ‹_› ‹_› ‹_› (by k_is) (by k_is) (by k_is) rfl ⟨qap ‹_› (by k_is), ?_⟩; refine qcy rfl ?_; refine xLn rfl rfl (qad rfl (qaf ?_))); refine qak (conv (b := true) hprog G c1 ?_); (apply_assumption; refine qaw rfl rfl fun Kz hz1 => ?_; refine qdt (few := true) rfl rfl rfl (fun _ => rfl) (by intro _ h; first | rfl | cases h) ?_; refine xN ‹_› rfl ?_; refine qbe ‹_› ‹_› ‹_› (by k_is) (by k_is) (by k_is) rfl ⟨qap ‹_› (by k_is), ?_⟩; refine qcy rfl ?_; refine xLn rfl rfl ?_; refine qad rfl ?_; refine qaf ?_); refine qak (conv (b := false) hprog G c2 ?_); (apply_assumption; refine qac ?_); exact hn _ _ ⟨rfl, hs, rest, rfl, fun q' h' => hsub q' (mem_cons_of_mem _ h')⟩
theorem qon : ∀ {c : Cx} {d : Nat} {p loose mg mb} {H : AH} {P : V -> AH -> Prop} {X : Exc -> AH -> Prop} {l : Addr} {ps : List (Str × Str)}
   (hprog : c.prog = rw_om0166_02.row.prog) (G : Gd (KF c.w.params) p loose mg mb c.g) (h3 : H l = some (.list (ps.map fun q => .tup [.str q.1, .str q.2]))) (hcl : ∀ q ∈ ps, qbz (KF c.w.params) 48 q.1 ∧ qbz (KF c.w.params) 53 q.2)
   (h : ∀ st dd, H st = none -> H dd = none -> dd ≠ st -> P (.ref st) (upd (upd (upd H dd (.ns [])) st (.inst 182 dd)) dd (.ns [(Str.ofString "_headers", .ref l)]))), qbg c (d + 3) (.ref 182) [.ref l] [] H P X := by
 w_on; k_fill; intro c d p loose mg mb H P X l ps hprog G h3 hcl h; refine' qgq (d := d + 2) (ao := fun dd => .inst 182 dd) (fI := 76) G ?hm ?hi ?hf (fun _ => .inl rfl) ?_
 case hm => k_is
 case hi => k_is
 case hf => k_is
 intro dd a hne hdd ha; have l1 : l ≠ dd := fun z => by rw [z, hdd] at h3; exact nomatch h3
 have l2 : l ≠ a := fun z => by rw [z, ha] at h3; exact nomatch h3
 refine qol hprog G (qai _ _ _) ?_ ?_ hcl ⟨rfl, h a dd ha hdd hne⟩
 . rw [qa5 _ _ hne]; exact qai _ _ _
 . rw [qa5 _ _ l2, qa5 _ _ l1]; exact h3
theorem qtl (sep r : Str) : Txt.join sep [r] = r := by
 first | rfl | simp [Txt.join] | (unfold Txt.join; simp)
theorem qgh {H : AH} {a b : Addr} {o ob : AO} (hn : H a = none) (hb : H b = some ob) : (upd H a o) b = some ob := by rw [qa5 _ _ (fun z => by rw [z, hn] at hb; exact nomatch hb)]; exact hb
theorem add_header : ∀ {c : Cx} {d : Nat} {p loose mg mb} {H : AH} {P : V -> AH -> Prop} {X : Exc -> AH -> Prop} {st dd l : Addr} {u r : Str} {vs : List V}
   (hprog : c.prog = rw_om0166_02.row.prog) (G : Gd (KF c.w.params) p loose mg mb c.g) (h1 : H st = some (.inst 182 dd)) (h2 : H dd = some (.ns [(Str.ofString "_headers", .ref l)])) (h3 : H l = some (.list vs)) (hvs : vs.length ≤ 1000)
   (hu : qbz (KF c.w.params) 48 u) (hr : qbz (KF c.w.params) 53 r) (hrl : r.length ≤ 1000)
   (h : ∀ H', (∀ a, H a ≠ none -> a ≠ l -> H' a = H a) -> H' l = some (.list (vs ++ [.tup [.str u, .str r]])) -> P .none H'), qbg c (d + 2) (.ref 179) [.ref st, .str u, .str r] [] H P X := by
 w_on; k_fill; intro c d p loose mg mb H P X st dd l u r vs hprog G h1 h2 h3 hvs hu hr hrl h; refine' qob (d := d + 1) G ?ho ?hcd ?hn ?hb ?c1 ?c2 ?c3
 case ho => k_is
 case hcd => k_is
 case hn => decide +kernel
 case c1 => rfl
 case c2 => rfl
 case c3 => rfl
 case hb =>
   intro s ws kvs R KX hv hk; obtain rfl := qa1 hk; obtain ⟨v, _, rfl, a, v', _, rfl, b, v'', _, rfl, b', rfl⟩ := hv; have hn : H s.heap.objs.size = none := R.fresh (get?_size _); refine ⟨[(Str.ofString "self", .ref st), (Str.ofString "_name", .str u), (Str.ofString "_value", .str r), (Str.ofString "_params", .ref s.heap.objs.size)], upd H s.heap.objs.size (.dict [] 0),
     [(Str.ofString "self", v), (Str.ofString "_name", v'), (Str.ofString "_value", v''), (Str.ofString "_params", .ref s.heap.objs.size)], { s with heap := s.heap.push { cls := .type "dict", data := .dict #[] } }, ?_, rfl, ?_, ?_, ?_, rfl, of_decide_eq_true rfl, ?_⟩
   . intro M A E Q hq; exact fun _ _ _ => hq
   . have tk : TK s.heap (s.heap.push { cls := .type "dict", data := .dict #[] }) := TK.of_keeps fun _ _ e => Heap.get?_push_of_some _ e; exact ⟨v, _, rfl, a.mono tk, v', _, rfl, b.mono tk, v'', _, rfl, b'.mono tk, _, _, rfl, rfl, rfl⟩
   . exact R.push _ s.toks _ ⟨[], ⟨_, #[], Heap.get?_push_size _ rfl, ⟨rfl, rfl, rfl⟩, rfl, (fun e he => by simp at he), .nil, nodup_nil⟩, rfl, rfl, G.notSm R.keep⟩
   . exact Step.push _ _ _ _ _
   . generalize s.heap.objs.size = n at hn; clear R KX a b b'; have n1 : st ≠ n := fun z => by rw [z, hn] at h1; exact nomatch h1
     have n2 : dd ≠ n := fun z => by rw [z, hn] at h2; exact nomatch h2
     have n3 : l ≠ n := fun z => by rw [z, hn] at h3; exact nomatch h3
     have k1 : (upd H n (.dict [] 0)) st = some (.inst 182 dd) := by rw [qa5 _ _ n1]; exact h1
     have k2 : (upd H n (.dict [] 0)) dd = some (.ns [(Str.ofString "_headers", .ref l)]) := by rw [qa5 _ _ n2]; exact h2
     have k3 : (upd H n (.dict [] 0)) l = some (.list vs) := by rw [qa5 _ _ n3]; exact h3
     have k4 : (upd H n (.dict [] 0)) n = some (.dict [] 0) := qai _ _ _; have k5 : ∀ a, H a ≠ none -> (upd H n (.dict [] 0)) a = H a := fun a ha => qa5 _ _ fun z => ha (by rw [z]; exact hn); generalize upd H n (.dict [] 0) = HJ at k1 k2 k3 k4 k5; intro A L; (refine qae (.inl rfl) rfl fun Kz hz1 => ?_; refine qld ?_; refine qal ?_); refine ⟨zero_le _, fun pa hpa => ?_⟩; have a1 := qgh (o := .list []) hpa k1; have a2 := qgh (o := .list []) hpa k2; have a3 := qgh (o := .list []) hpa k3; have a4 := qgh (o := .list []) hpa k4; have a5 : ∀ a, H a ≠ none -> (upd HJ pa (.list [])) a = H a := fun a ha => by
       rw [qa5 _ _ (fun z => by rw [← k5 a ha, z] at ha; exact ha hpa)]; exact k5 a ha
     have a6 : (upd HJ pa (.list [])) pa = some (.list []) := qai _ _ _; have a7 : H pa = none := by
       cases hz : H pa with
       | none => rfl
       | some o => rw [k5 pa (by rw [hz]; exact fun z => by exact nomatch z), hz] at hpa; exact nomatch hpa
     generalize upd HJ pa (.list []) = HW at a1 a2 a3 a4 a5 a6; (apply_assumption; refine qaa fun Kz hz1 hz2 hz3 hz4 => ?_; refine qbv ?_; refine xCn rfl rfl rfl ?_; refine qad rfl ?_; refine qdd rfl ?_; refine ⟨_, rfl, ?_⟩; refine qbd rfl ?_; refine qae (.inl rfl) rfl fun Kz hz1 => ?_; refine qdt (few := true) rfl rfl rfl (fun _ => rfl) (by intro _ h; first | rfl | cases h) ?_; refine xN rfl rfl ?_; refine qbe ‹_› ‹_› ‹_› (by k_is) (by k_is) (by k_is) rfl ⟨qap ‹_› (by k_is), ?_⟩; refine qcy rfl ?_; refine xLn rfl rfl ?_; refine qad rfl ?_; refine qaf ?_); refine qak (conv (b := false) hprog G hr ?_); (apply_assumption; refine qaw rfl rfl fun Kz hz1 => ?_; refine xMn rfl rfl rfl rfl rfl ?_; refine qa8 (qas ‹_›) (by decide) F.plainAttrs_list F.slot_list_append F.type_list_append ⟨qab _, ?_⟩; refine xAn rfl rfl ?_; refine qaf ?_); refine qel a6 (zero_le _) ?_; have p1 : st ≠ pa := fun z => by rw [z, a7] at h1; exact nomatch h1
     have p2 : dd ≠ pa := fun z => by rw [z, a7] at h2; exact nomatch h2
     have p3 : l ≠ pa := fun z => by rw [z, a7] at h3; exact nomatch h3
     have p4 : n ≠ pa := fun z => by rw [z, hpa] at k4; exact nomatch k4
     have b1 := (qa5 HW (.list ([] ++ [.str r])) p1).trans a1; have b2 := (qa5 HW (.list ([] ++ [.str r])) p2).trans a2; have b3 := (qa5 HW (.list ([] ++ [.str r])) p3).trans a3; have b4 := (qa5 HW (.list ([] ++ [.str r])) p4).trans a4; have b5 : ∀ a, H a ≠ none -> (upd HW pa (.list ([] ++ [.str r]))) a = H a := fun a ha => (qa5 HW _ (fun z => by rw [z] at ha; exact ha a7)).trans (a5 a ha); have b6 : (upd HW pa (.list ([] ++ [.str r]))) pa = some (.list ([r].map V.str)) := qai _ _ _; generalize upd HW pa (.list ([] ++ [.str r])) = HY at b1 b2 b3 b4 b5 b6; (apply_assumption; refine qac ?_; apply_assumption; refine qaa fun Kz hz1 hz2 hz3 hz4 => ?_; refine qh4 rfl (fun _ => rfl) rfl rfl ?_; refine xN rfl rfl ?_); refine ⟨n, 0, rfl, b4, ?_⟩; (apply_assumption; refine qaw rfl rfl fun Kz hz1 => ?_; refine qcf (few := true) rfl rfl rfl ?_; refine xAt rfl rfl rfl ?_; refine qam ‹_› ‹_› ‹_› (by k_is) (by k_is) (by k_is) (by k_is) rfl (by intro i h; cases h) ?_; refine qa8 (qas ‹_›) (by decide) F.plainAttrs_list F.slot_list_append F.type_list_append ⟨qab _, ?_⟩; refine qag rfl ?_; refine qah rfl ?_; refine qbc ?_; refine qah rfl ?_; refine qdt (few := true) rfl rfl rfl (fun _ => rfl) (by intro _ h; first | rfl | cases h) ?_; refine xN rfl rfl ?_; refine qbe ‹_› ‹_› ‹_› (by k_is) (by k_is) (by k_is) rfl ⟨qap ‹_› (by k_is), ?_⟩; refine qcy rfl ?_; refine xLn rfl rfl ?_; refine qad rfl ?_; refine qaf ?_)
     refine qak (conv (b := true) hprog G hu ?_); (refine qah rfl (qcf (few := true) rfl rfl rfl (qad rfl ?_)); refine qa8 rfl (by decide) F.plainAttrs_str F.slot_str_join F.type_str_join ⟨qab _, ?_⟩; refine xAn rfl rfl (qaf ?_)); refine qnu b6 ?_ ?_
     . unfold JoinOk; rw [StrLaws.joinFits (sep := Str.ofString "; ") (texts := [r]) (B := 1000) (fun y hy => by rw [mem_singleton.mp hy]; exact hrl) (show 1 * 1000 + 1 * (Str.ofString "; ").length ≤ 16777216 by decide +kernel)]; rfl
     rw [show Txt.join (Str.ofString "; ") [r] = r from qtl _ _]; (refine qal ?_); refine ⟨(by decide : 2 ≤ 1000), ?_⟩; (refine qal ?_; refine qaf ?_); refine qel b3 (le_trans hvs (by decide)) ?_; (apply_assumption; refine qac ?_); refine h _ (fun a ha hl => ?_) (qai _ _ _); rw [qa5 _ _ hl]; exact b5 a ha
theorem Mod.mv {H H' : AH} {a b : Addr} {o o' : AO} (m : Mod H a H') (ha : H a = some o) (hb : H b = some o') (hn : o ≠ o' := by intro z; cases z) : H' b = some o' := m.get (fun z => hn (by rw [z, ha] at hb; cases hb; rfl)) hb
theorem qcn {c : Cx} {q : Md} {d : Nat} {A : Around} {H : AH} {K : Frag} {p : Program} {loose : List Str} {mg mb : Str -> Option Value} {a C dd : Addr} {fs : List (Str × V)} {name : Str} {x : V} {P : AH -> Prop} (G : Gd K p loose mg mb c.g) (h1 : H a = some (.inst C dd)) (h2 : H dd = some (.ns fs)) (hs : findIn K (.ref C) "__setattr__" = some (some (.builtin "object.__setattr__"))) (hp : plainOver K C = true) (ht : takerIn K C name = some none) (hh : hasDictIn K C = true) (hl : fs.length ≤ 500)
   (h : ∀ H', Mod H dd H' -> H' dd = some (.ns (putF fs name x)) -> P H') : qi3 c q d A (.ref a) name x H P := ql0 G h1 h2 hs hp ht hh hl (h _ (Mod.upd _ _ _) (qai _ _ _))
theorem qb8 {c : Cx} {q : Md} {d : Nat} {A : Around} {H : AH} {K : Frag} {p : Program} {loose : List Str} {mg mb : Str -> Option Value} {a C dd pp : Addr} {i : Nat} {fs : List (Option V)} {ns : List (Str × V)} {name : Str} {x : V} {P : AH -> Prop} (G : Gd K p loose mg mb c.g) (h1 : H a = some (.slots C dd fs)) (h2 : H dd = some (.ns ns)) (hs : findIn K (.ref C) "__setattr__" = some (some (.builtin "object.__setattr__"))) (hp : plainOver K C = true)
   (ht : takerIn K C name = some (some (.ref pp))) (hT : typeIn K (.ref pp) = some (.type "member_descriptor")) (hi : slotIn K pp C = some i) (hz : i < 1000) (h : ∀ H', Mod H a H' -> H' a = some (.slots C dd (qij fs i x)) -> P H') : qi3 c q d A (.ref a) name x H P := qpm G h1 h2 hs hp ht hT hi hz (h _ (Mod.upd _ _ _) (qai _ _ _))
theorem qbq {c : Cx} {q : Md} {d : Nat} {A : Around} {fl : Option Addr} {H : AH} {P : V -> AH -> Prop} {X : Exc -> AH -> Prop} {a : Addr} {x : V} {vs : List V} (ha : H a = some (.list vs)) (hl : vs.length ≤ 100000) (h : ∀ H', Mod H a H' -> H' a = some (.list (vs ++ [x])) -> P .none H') : qa7 c q d A fl (.builtin "list.append") [.ref a, x] [] H P X := qa2 ha hl h
abbrev kLst (P : V -> AH -> Prop) : List V -> AH -> Prop := fun xs HJ => xs.length ≤ 1000 ∧ New HJ (.list xs) P
section
variable (c : Cx) (q : Md) (d : Nat) (A : Around) (env : Env) (X : Exc -> AH -> Prop)
abbrev kZ3 (P : V -> AH -> Prop) (x y : V) : V -> AH -> Prop := fun z HY => ∃ a vs lo hi, x = .ref a ∧ HY a = some (.list vs) ∧ vs.length ≤ 100000 ∧ qf3 y lo ∧ qf3 z hi ∧ New HY (.list (sliceV vs lo hi)) P
abbrev kZ2 (m : Map) (P : V -> AH -> Prop) (upper : Option Expr) (x : V) : V -> AH -> Prop := fun y HW => qc3 c q d A env upper m HW (kZ3 P x y) X
abbrev kZ1 (m : Map) (P : V -> AH -> Prop) (lower upper : Option Expr) : V -> AH -> Prop := fun x HJ => qc3 c q d A env lower m HJ (kZ2 c q d A env X m P upper x) X
end
section
variable {c : Cx} {q : Md} {d : Nat} {A : Around} {env : Env} {m : Map} {H : AH} {P : V -> AH -> Prop} {X : Exc -> AH -> Prop} {pos : Pos}
theorem qa6 {es : List Expr} (h : awL c q d A env es m H (kLst P) X) : awE c q d A env (.List es pos) m H P X := qno h
theorem qe9 {value : Expr} {lower upper : Option Expr} {pp : Pos} (h : awE c q d A env value m H (kZ1 c q d A env X m P lower upper) X) : awE c q d A env (.Subscript value (.Slice lower upper none pp) pos) m H P X := qma h
end
section
open PySem.SeqAt (EqAt RcAt RcNeAt)
section
variable {c : Cx} {q : Md} {d : Nat} {A : Around} {env : Env} {m : Map} {H : AH} {P : V -> AH -> Prop} {X : Exc -> AH -> Prop} {pos : Pos} {fl : Option Addr} {K : Frag} {p : Program} {loose : List Str} {mg mb : Str -> Option Value}
def cutS (y : Str) (k : Int) : Str := if ((Builtin.Str.strSliceIndices none (some k) 1 y.length).length == y.length) = true then y else ⟨((Builtin.Str.strSliceIndices none (some k) 1 y.length).filterMap (y.cps[·]?)).toArray⟩
theorem ql9 {value upper : Expr} {pp : Pos}
   (h : awE c q d A env value m H (fun x HJ => awE c q d A env upper m HJ (fun z HW => ∃ y k, x = .str y ∧ z = .int k ∧ y.length ≤ 1000 ∧ P (.str (cutS y k)) HW) X) X) : awE c q d A env (.Subscript value (.Slice none (some upper) none pp) pos) m H P X := by
 intro s F; refine qgj (T := "str") PySem.F.slot_str_getitem.lookup (qaj h F (fun x HJ sJ v hp F₁ hv S => ?_) fun _ _ o => o); refine wpAny_Slice ?_; rw [evalPart_none, evalPart_some]; refine wpAny_pure (qaj hp F₁ (fun z HW sW u hq FW hu SW => ?_) fun _ _ => OutX.from S); obtain ⟨y, k, rfl, rfl, hl, hpW⟩ := hq; obtain ⟨t, rfl⟩ := hv; obtain ⟨t', rfl⟩ := hu; refine wpAny_pure ⟨typeIs_str _ _ _, wpAny_getItem_str_slice (l := none) (u := some (k, t')) (st := none) ⟨_, Heap.get?_push_size _ rfl, rfl, rfl⟩ rfl ?_⟩; have RY := FW.rep.push0 { cls := .type "slice", data := .fields #[.none, .int k t', .none] } sW.toks; have SY := (S.trans SW).trans (Step.push0 HW sW { cls := .type "slice", data := .fields #[.none, .int k t', .none] } sW.toks); unfold cutS at hpW; unfold sliceMade slicePicked; simp only [Option.map_none, Option.getD_none, Option.map_some, beq_self_eq_true, Bool.true_and]; by_cases e : ((Builtin.Str.strSliceIndices none (some k) 1 y.length).length == y.length) = true
 . rw [if_pos e] at hpW ⊢; exact OutE.from SY (.here (x := .str _) RY ⟨_, rfl⟩ hpW)
 . rw [if_neg e] at hpW ⊢; have : (⟨((Builtin.Str.strSliceIndices none (some k) 1 y.length).filterMap (y.cps[·]?)).toArray⟩ : Str).length ≤ y.length := le_trans (by show (List.toArray _).size ≤ _; rw [size_toArray]; exact List.length_filterMap_le _ _) (sliceIndices_le _ _ _)
   first
     | exact ⟨le_trans this (le_trans hl (by decide)), OutE.from SY (.tok (x := .str _) RY ⟨_, rfl⟩ hpW)⟩
     | exact OutE.from SY (.tok (x := .str _) RY ⟨_, rfl⟩ hpW)
theorem VRs.reverse {h : Heap} : ∀ {xs : List V} {vs : List Value}, VRs h xs vs -> VRs h xs.reverse vs.reverse := by
 intro xs
 induction xs with
 | nil => intro vs e; obtain rfl := e; rfl
 | cons x xs ih =>
   intro vs e; obtain ⟨y, ys, rfl, a, b⟩ := e; rw [List.reverse_cons, List.reverse_cons]; exact (ih b).append ⟨y, [], rfl, a, rfl⟩
theorem qix {value : Expr} {n : Nat} {p1 p2 pp : Pos}
   (h : awE c q d A env value m H (fun x HJ => ∃ a vs, x = .ref a ∧ HJ a = some (.list vs) ∧ vs.length ≤ 100000 ∧ ∀ n, HJ n = none -> P (.ref n) (upd HJ n (.list vs.reverse))) X) : awE c q d A env (.Subscript value (.Slice none none (some (.UnaryOp .USub (.Constant (.int 1) n p1) p2)) pp) pos) m H P X := by
 intro s F; refine Subscript_ (qaj h F (fun x HJ sJ v hp F₁ hv S => ?_) fun _ _ o => o); obtain ⟨a, vs, rfl, ha, hl, hp⟩ := hp; obtain rfl := hv; refine wpAny_Slice ?_; rw [evalPart_none, evalPart_some]; refine wpAny_pure (wpAny_pure (wpAny_UnaryOp (qaj (qad (P := fun x H' => x = .int 1 ∧ H' = HJ) (X := X) (k := .int 1) rfl ⟨rfl, rfl⟩) F₁ (fun x HW sW v ⟨hx, hH⟩ FW hv SW => ?_) fun _ _ => OutX.from S))); subst hx hH; obtain ⟨t, rfl⟩ := hv; refine PyProof.Rows.neg_int ?_; have RY := FW.rep.toks (sW.toks + 1); have SY := SW.trans (Step.toks HW sW (sW.toks + 1)); obtain ⟨items, k, e, hr⟩ := RY.at_ _ _ ha; have hs1 : items.size = vs.length := by rw [← Array.length_toList]; exact hr.length.symm
 have hL : Heap.IsList sW.heap a items := ⟨_, e, rfl, k, rfl⟩; have RV := RY.push0 { cls := .type "slice", data := .fields #[.none, .none, .int (-1) sW.toks] } (sW.toks + 1); have SV := (S.trans SY).trans (Step.push0 HW { sW with toks := sW.toks + 1 } { cls := .type "slice", data := .fields #[.none, .none, .int (-1) sW.toks] } (sW.toks + 1)); have tkV := RY.tk (Step.push0 HW { sW with toks := sW.toks + 1 } { cls := .type "slice", data := .fields #[.none, .none, .int (-1) sW.toks] } (sW.toks + 1)); refine tail_any (T := "list") (hL.push _).typeIs list_getitem_lookup ?_ rfl; refine wpAny_getItem_list_slice (hL.push _) (Heap.IsSliceOf.new ..) .none .none (.int (-1) _) (by decide) ?_ (by rw [hs1]; exact qdr hl); refine OutE.from SV ?_; refine OutE.newList (s := { sW with heap := sW.heap.push { cls := .type "slice", data := .fields #[.none, .none, .int (-1) sW.toks] }, toks := sW.toks + 1 }) (t := sW.toks + 1) RV ?_ hp; rw [krv_pick]; exact (hr.mono tkV).reverse
end
end
section
open PySem.SeqAt (EqAt RcAt RcNeAt)
abbrev qau (q : Str × Str) : V := .tup [.str q.1, .str q.2]
theorem qq0 {h : Heap} {q x : Str × Str} {w : Value} (a : VR h (qau q) w) (b : VR h (qau x) w) : q = x := by
 obtain ⟨q1, q2⟩ := q; obtain ⟨x1, x2⟩ := x; obtain ⟨a1, ws, rfl, t, r⟩ := a; obtain ⟨a2, ws', z, t', r'⟩ := b; cases z; cases tuple_one t t'; obtain ⟨y1, l1, e1, ⟨t1, rfl⟩, y2, l2, rfl, ⟨t2, rfl⟩, _⟩ := r; obtain ⟨y1', l1', e1', ⟨t1', rfl⟩, y2', l2', rfl, ⟨t2', rfl⟩, _⟩ := r'; rw [e1] at e1'; cases e1'; rfl
theorem qsh {A : Around} {c : Cx} {H : AH} {s : Shared} (R : Rep c H s) (hu : A.units + 1 < cLine) {q x : Str × Str} {v u : Value} (a : VR s.heap (qau q) v) (b : VR s.heap (qau x) u) : EqAt A s v u (q == x) := by
 have e : EqG H 1 (qau q) (qau x) (q == x) := by
   have := EqG.tup (H := H) 0 [.str q.1, .str q.2] [.str x.1, .str x.2] (fun j => match j with | 0 => q.1 == x.1 | _ => q.2 == x.2) fun j x' y' h1 h2 => by
     match j, h1, h2 with
     | 0, h1, h2 => obtain rfl := sj0_ h1; obtain rfl := sj0_ h2; exact .str 0 _ _
     | 1, h1, h2 => obtain rfl := sj0_ h1; obtain rfl := sj0_ h2; exact .str 0 _ _
     | j + 2, h1, h2 => exact nomatch h1
   have z : upto (fun j => match j with | 0 => q.1 == x.1 | _ => q.2 == x.2) [V.str q.1, V.str q.2].length [V.str x.1, V.str x.2].length = (q == x) := by
     obtain ⟨q1, q2⟩ := q; obtain ⟨x1, x2⟩ := x; show (((q1 == x1) && ((q2 == x2) && true)) && true) = ((q1, q2) == (x1, x2)); rw [Bool.and_true, Bool.and_true]; rfl
   rw [z] at this; exact this
 exact (qoc R e A hu v u a b).1
section
variable {c : Cx} {q : Md} {d : Nat} {A : Around} {env : Env} {m : Map} {H : AH} {P : V -> AH -> Prop} {X : Exc -> AH -> Prop} {pos : Pos} {fl : Option Addr} {K : Frag} {p : Program} {loose : List Str} {mg mb : Str -> Option Value}
open Classical in
noncomputable def isV (h : Heap) (x : V) (w : Value) : Bool := decide (VR h x w)
theorem qlp {h : Heap} {q x : Str × Str} {w : Value} (a : VR h (qau q) w) : isV h (qau x) w = (q == x) := by
 rw [Bool.eq_iff_iff, beq_iff_eq]; exact Iff.trans (@decide_eq_true_iff _ (Classical.propDecidable _)) ⟨fun b => qq0 a b, fun e => e ▸ a⟩
theorem qjt {h : Heap} (x : Str × Str) : ∀ {ys : List (Str × Str)} {ws : List Value}, VRs h (ys.map qau) ws -> ws.any (isV h (qau x)) = ys.contains x := by
 intro ys
 induction ys with
 | nil =>
   intro _ e; obtain rfl := e; rfl
 | cons y ys ih =>
   intro _ e; obtain ⟨_, ws, rfl, a, r⟩ := e; rw [any_cons, ih r, List.contains_cons, qlp a]; exact congrArg (· || ys.contains x) BEq.comm
theorem qlx {A : Around} {s : Shared} (R : Rep c H s) (hu : A.units + 1 < cLine) {x : Str × Str} {u : Value} (b : VR s.heap (qau x) u) : ∀ {ys : List (Str × Str)} {ws : List Value}, VRs s.heap (ys.map qau) ws -> ∀ w ∈ ws, EqAt A s w u (isV s.heap (qau x) w) := by
 intro ys
 induction ys with
 | nil =>
   intro _ e w hw; obtain rfl := e; cases hw
 | cons y ys ih =>
   intro _ e w hw; obtain ⟨_, ws, rfl, a, r⟩ := e; rcases mem_cons.mp hw with rfl | hw
   . rw [qlp a]; exact qsh R hu a b
   . exact ih r w hw
theorem qlo {a : Addr} {x : Str × Str} {ys : List (Str × Str)} (ha : H a = some (.list (ys.map qau))) (h : P (.bool (ys.contains x)) H) : awO c q d A fl (fun vs => compareOp .In (vs.getD 0 .none) (vs.getD 1 .none)) [qau x, .ref a] H P X := by
 intro s vs B hv; obtain ⟨v, _, rfl, hx, u, _, rfl, hu, rfl⟩ := hv; obtain rfl := hu; obtain ⟨items, k, e, hr⟩ := B.rep.at_ _ _ ha; refine SeqAt.in_listAt (isV s.heap (qau x)) ⟨_, e, rfl, k, rfl⟩ (fun y hy => qlx B.rep (qgg (n := 2) B.ok (by decide)) hx hr y (Array.mem_toList_iff.mpr hy)) ?_; rw [← Array.any_toList, qjt x hr]; exact .here (x := .bool _) B.rep rfl h
theorem qdo {a : Addr} {x : Str × Str} {ys : List (Str × Str)} (ha : H a = some (.list (ys.map qau))) (h : P (.bool (!ys.contains x)) H) : awO c q d A fl (fun vs => compareOp .NotIn (vs.getD 0 .none) (vs.getD 1 .none)) [qau x, .ref a] H P X := by
 intro s vs B hv; obtain ⟨v, _, rfl, hx, u, _, rfl, hu, rfl⟩ := hv; obtain rfl := hu; obtain ⟨items, k, e, hr⟩ := B.rep.at_ _ _ ha; refine SeqAt.notIn_listAt (isV s.heap (qau x)) ⟨_, e, rfl, k, rfl⟩ (fun y hy => qlx B.rep (qgg (n := 2) B.ok (by decide)) hx hr y (Array.mem_toList_iff.mpr hy)) ?_; rw [← Array.any_toList, qjt x hr]; exact .here (x := .bool _) B.rep rfl h
theorem qky {x y : Str} (h : P (.bool (Txt.contains x y)) H) : awO c q d A fl (fun vs => compareOp .In (vs.getD 0 .none) (vs.getD 1 .none)) [.str y, .str x] H P X := by
 intro s vs B hv; obtain ⟨v, _, rfl, ⟨t, rfl⟩, u, _, rfl, ⟨t', rfl⟩, rfl⟩ := hv; exact PySem.P.in_str (.here (x := .bool _) B.rep rfl h)
theorem qga {x y : Str} (hl : x.length + y.length ≤ 100000) (h : P (.str (x ++ y)) H) : awO c q d A fl (fun vs => binaryOp .Add (vs.getD 0 .none) (vs.getD 1 .none)) [.str x, .str y] H P X := by
 intro s vs B hv; obtain ⟨v, _, rfl, ⟨t, rfl⟩, u, _, rfl, ⟨t', rfl⟩, rfl⟩ := hv; exact PyProof.Rows.add_str (fun _ _ => .tok (x := .str _) B.rep ⟨_, rfl⟩ h) (qdr hl)
theorem qnv {x y : Int} (hq : q = .quiet) (h : P (.int (if y > x then y else x)) H) : qa7 c q d A fl (.builtin "max") [.int x, .int y] [] H P X := by
 intro s ws kvs B hv hk; obtain rfl := qa1 hk; obtain ⟨v, _, rfl, ⟨t, rfl⟩, u, _, rfl, ⟨t', rfl⟩, rfl⟩ := hv; refine max_two_ints (B.ok.quiet hq) fun h' tk k => ?_; by_cases e : y > x
 . rw [if_pos e] at h ⊢; exact ⟨.int y, H, h, ⟨_, rfl⟩, B.rep.silent k rfl rfl, .silent k⟩
 . rw [if_neg e] at h ⊢; exact ⟨.int x, H, h, ⟨_, rfl⟩, B.rep.silent k rfl rfl, .silent k⟩
theorem BRep.in1 {s : Shared} (B : BRep c q (d + 1) A H s) : BRep c q d A.in1 H s := by
 refine ⟨B.rep, ⟨?_, ?_, B.ok.quiet, B.ok.hnd, B.ok.stack⟩⟩
 . have := B.ok.depth; show A.depth + 5 * d ≤ 900; lia
 . have := B.ok.units; show A.units + 1 + 50 * d ≤ 9000; lia
theorem qbg.in1 {f : Addr} {xs : List V} {vs : List Value} {s : Shared} (h : qbg c d (.ref f) xs [] H P X) (B : BRep c .quiet (d + 1) A H s) (hv : VRs s.heap xs vs) : wpAny c.M A.in1 (call (.ref f) vs) (OutE c H s P) (OutX c fl H s X) s :=
 qak h s vs [] B.in1 hv qfk
theorem qbg.same {f : Addr} {xs : List V} {vs : List Value} {s : Shared} (h : qbg c d (.ref f) xs [] H P X) (B : BRep c .quiet d A H s) (hv : VRs s.heap xs vs) : wpAny c.M A (call (.ref f) vs) (OutE c H s P) (OutX c fl H s X) s :=
 qak h s vs [] B hv qfk
structure OwnM (K : Frag) (C f : Addr) (nm : Str) : Prop where
 at_ : findIn K (.ref C) nm = some (some (.ref f))
 fn : isFn K (.ref f) = true
theorem qeu {a C dd f : Addr} {fs : List (Str × V)} (G : Gd K p loose mg mb c.g) (h1 : H a = some (.inst C dd)) (h2 : H dd = some (.ns fs)) (hs : OwnM K C f "__len__") (h : qbg c d (.ref f) [.ref a] [] H (fun x H' => ∃ n : Int, x = .int n ∧ 0 ≤ n ∧ n < 100000 ∧ P (.int n) H') X) : qa7 c .quiet (d + 1) A fl (.builtin "len") [.ref a] [] H P X := by
 intro s ws kvs B hv hk; obtain rfl := qa1 hk; obtain ⟨v, _, rfl, hv, rfl⟩ := hv; obtain rfl := hv; obtain ⟨es, n, I, hr⟩ := qcs B.rep h1 h2; have KX := G.X.keeps B.rep.keep; refine Calls.call_function_entry kind_len plain_len entry_len (args_len1 _) ?_; refine wpAny_bind (m := oneArg "len" _) (wpAny_pure ?_); refine wpAny_bind (m := callSpecial? (.ref a) (Str.ofString "__len__")) (special_fn KX I hs.at_ (beq_iff_eq.mp hs.fn) (wpAny_mono (h.in1 (fl := fl) B ⟨_, _, rfl, rfl, rfl⟩) (fun r s' o => ?_) fun _ _ o => o)); obtain ⟨x, H', ⟨k, rfl, k0, k1, hp⟩, ⟨t, rfl⟩, R, S⟩ := o; refine wpAny_bind (wpAny_holding (wpAny_pure ?_)); refine wpAny_bind (wpAny_letGo ?_); show wpAny _ _ (if k < 0 then _ else _) _ _ _; rw [if_neg (by lia)]; show wpAny _ _ (if k ≥ 2 ^ 63 then _ else _) _ _ _; rw [if_neg (by lia)]; exact wpAny_bind (wpAny_mkInt (wpAny_pure ⟨_, rfl, .int k, H', hp, ⟨_, rfl⟩, R.toks _, S.trans (.toks _ _ _)⟩))
end
end
structure qf2 (K : Frag) (H : AH) (a f : Addr) (nm : Str) : Prop where
 mk' ::
 ex : ∃ C dd fs, H a = some (.inst C dd) ∧ H dd = some (.ns fs) ∧ noSeq K C = true ∧ OwnM K C f nm
theorem qf2.mk {K : Frag} {H : AH} {a f C dd : Addr} {fs : List (Str × V)} {nm : Str} (h1 : H a = some (.inst C dd)) (h2 : H dd = some (.ns fs)) (h3 : noSeq K C = true) (h4 : findIn K (.ref C) nm = some (some (.ref f))) (h5 : isFn K (.ref f) = true) : qf2 K H a f nm := ⟨_, _, _, h1, h2, h3, h4, h5⟩
section
variable {c : Cx} {q : Md} {d : Nat} {A : Around} {env : Env} {m : Map} {H : AH} {pos : Pos} {fl : Option Addr} {K : Frag} {p : Program} {loose : List Str} {mg mb : Str -> Option Value}
theorem qlf {P : V -> AH -> Prop} {X : Exc -> AH -> Prop} {e i : Expr} (G : Gd K p loose mg mb c.g) (hns : ∀ a b st p, i ≠ .Slice a b st p)
   (h : awE c .quiet (d + 1) A env e m H (fun x HJ => awE c .quiet (d + 1) A env i m HJ (fun y HW => ∃ a f, x = .ref a ∧ qf2 K HW a f "__getitem__" ∧ fnIn K f = true ∧ qbg c d (.ref f) [.ref a, y] [] HW P X) X) X) : awE c .quiet (d + 1) A env (.Subscript e i pos) m H P X := by
 intro s F; refine Subscript_ (qaj h F (fun x HJ sJ v hp F₁ hv S => qaj hp F₁ (fun y HW sW u hq FW hu SW => ?_) fun _ _ => OutX.from S) fun _ _ o => o); obtain ⟨a, f, rfl, ⟨C, dd, fs, h1, h2, h3, hm⟩, hf, hc⟩ := hq; obtain rfl := hv; have hsl : subscripted i true (.ref a) u = runValue (.builtin "lifetime.subscript" ⟨[.ref a, u], []⟩) := by
   cases i with
   | Slice a b st p => exact absurd rfl (hns a b st p)
   | _ => rfl
 obtain ⟨es, n, I, hr⟩ := qcs FW.rep h1 h2; have KX := G.X.keeps FW.rep.keep; unfold fnIn at hf; split at hf
 . rename_i e0; refine wpAny_bind (wpAny_bind (wpAny_bind (I.type.here ((looks_findIn KX hm.at_).here ?_)))); dsimp only; refine wpAny_bind (wpAny_load (KX _ _ e0) (wpAny_pure ?_)); dsimp only; rw [hsl]; refine wpAny_bind (wpAny_runValue (codeAny_builtin entry_sub ?_)); refine wpAny_bind (special_fn KX I hm.at_ (beq_iff_eq.mp hm.fn) (wpAny_mono (hc.in1 (fl := env.frame) FW.toBRep ⟨_, _, rfl, rfl, u, _, rfl, hu, rfl⟩) (fun v s' z => ?_) fun _ _ o => OutX.from (S.trans SW) o)); refine wpAny_pure ?_; exact wpAny_bind (wpAny_letTemporaryGo (wpAny_pure (OutE.from (S.trans SW) z)))
 . cases hf
theorem qjy {P : V -> AH -> Prop} {X : Exc -> AH -> Prop} {a f : Addr} {y x : V} {u v : Value} {s : Shared} (G : Gd K p loose mg mb c.g) (hi : qf2 K H a f "__setitem__") (hc : qbg c d (.ref f) [.ref a, y, x] [] H P X) (B : BRep c .quiet d A H s) (hu : VR s.heap y u) (hv : VR s.heap x v) :
   wpAny c.M A (setItem (.ref a) u v) (fun _ s' => ∃ r, OutE c H s P r s') (OutX c fl H s X) s := by
 obtain ⟨C, dd, fs, h1, h2, h3, hm⟩ := hi; obtain ⟨es, n, I, hr⟩ := qcs B.rep h1 h2; have KX := G.X.keeps B.rep.keep; refine wpAny_holding (wpAny_bind (wpAny_bind (I.type.here ?_))); refine wpAny_bind ((anyM_none KX h3).here ?_); rw [if_pos (show (!false) = true from rfl)]; exact wpAny_pure (wpAny_bind (special_fn KX I hm.at_ (beq_iff_eq.mp hm.fn) (wpAny_mono (hc.same (fl := fl) B ⟨_, _, rfl, rfl, u, _, rfl, hu, v, _, rfl, hv, rfl⟩) (fun _ _ z => wpAny_pure ⟨_, z⟩) fun _ _ z => z)))
theorem qje {P : V -> AH -> Prop} {X : Exc -> AH -> Prop} {a f : Addr} {y : V} {u : Value} {s : Shared} (G : Gd K p loose mg mb c.g) (hi : qf2 K H a f "__delitem__") (hc : qbg c d (.ref f) [.ref a, y] [] H P X) (B : BRep c .quiet d A H s) (hu : VR s.heap y u) :
   wpAny c.M A (delItem (.ref a) u) (fun _ s' => ∃ r, OutE c H s P r s') (OutX c fl H s X) s := by
 obtain ⟨C, dd, fs, h1, h2, h3, hm⟩ := hi; obtain ⟨es, n, I, hr⟩ := qcs B.rep h1 h2; have KX := G.X.keeps B.rep.keep; refine wpAny_holding (wpAny_bind (wpAny_bind (I.type.here ?_))); refine wpAny_bind ((anyM_none KX h3).here ?_); rw [if_pos (show (!false) = true from rfl)]; exact wpAny_pure (wpAny_bind (special_fn KX I hm.at_ (beq_iff_eq.mp hm.fn) (wpAny_mono (hc.same (fl := fl) B ⟨_, _, rfl, rfl, u, _, rfl, hu, rfl⟩) (fun _ _ z => wpAny_pure ⟨_, z⟩) fun _ _ z => z)))
theorem qi0 {P : Fl -> Map -> AH -> Prop} {X : Exc -> Map -> AH -> Prop} {e i v : Expr} {pJ : Pos} (G : Gd K p loose mg mb c.g) (hsw : swapsWithSole [.Subscript e i pJ] v pos.line env = pure false) (hsw2 : swappedStores [.Subscript e i pJ] v env = pure none)
   (h : awE c .quiet d A env v m H (fun x HJ => awE c .quiet d A env e m HJ (fun y HW => awE c .quiet d A env i m HW (fun z HY => ∃ a f, y = .ref a ∧ qf2 K HY a f "__setitem__" ∧ qbg c d (.ref f) [.ref a, z, x] [] HY (fun _ HV => P .next m HV) fun k H' => X k m H') fun k H' => X k m H') fun k H' => X k m H') fun k H' => X k m H') : awS c .quiet d A env (.Assign [.Subscript e i pJ] v pos) m H P X := by
 intro s S; refine wpAny_Assign_stores (qaj h S.toFRep (fun x HJ sJ vJ hp F₁ hvJ stJ => ?_) fun _ _ o => o.toS S.toFRep) hsw hsw2; show wpAny c.M A (assign (.Subscript e i pJ) env vJ) _ _ sJ; rw [qd6]; refine wpAny_bind (wpAny_holding (qaj hp F₁ (fun y' HW sW vW hpW FW hvW st₂ => ?_) fun _ _ o => (OutX.from stJ o).toS S.toFRep)); refine wpAny_bind (wpAny_holding (qaj hpW FW (fun z HY sY vY hpY FY hvY stY => ?_) fun _ _ o => (OutX.from (stJ.trans st₂) o).toS S.toFRep)); obtain ⟨a, f, rfl, hi, hc⟩ := hpY; have stJWY := (stJ.trans st₂).trans stY; obtain rfl := hvW; have hvJ' := (hvJ.mono (F₁.rep.tk st₂)).mono (FW.rep.tk stY); refine wpAny_bind (wpAny_standAt (wpAny_bind (wpAny_holding (wpAny_mono (qjy (fl := env.frame) G hi hc FY.toBRep hvY hvJ') (fun _ sV z => ?_) fun _ _ o => (OutX.from stJWY o).toS S.toFRep)))); obtain ⟨r, x4, HV, hP, hr, RV, stV⟩ := z; exact wpAny_release ⟨.next, m, HV, hP, rfl, RV, (FY.step RV stV).fr, (stJWY.trans stV).toF⟩
theorem qfs {P : Fl -> Map -> AH -> Prop} {X : Exc -> Map -> AH -> Prop} {o i : Expr} {pJ : Pos} (G : Gd K p loose mg mb c.g)
   (h : awE c .quiet d A env o m H (fun z HW => awE c .quiet d A env i m HW (fun u HY => ∃ a f, z = .ref a ∧ qf2 K HY a f "__delitem__" ∧ qbg c d (.ref f) [.ref a, u] [] HY (fun _ HV => P .next m HV) fun k H' => X k m H') fun k H' => X k m H') fun k H' => X k m H') :
   awS c .quiet d A env (.Delete [.Subscript o i pJ] pos) m H P X := by
 intro s S; refine wpAny_Delete (wpAny_deleteEach_cons (delete_Subscript (qaj h S.toFRep (fun y' HW sW vW hpW FW hvW st₂ => ?_) fun _ _ o => o.toS S.toFRep))); refine qaj hpW FW (fun z HY sY vY hpY FY hvY stY => ?_) fun _ _ o => (OutX.from st₂ o).toS S.toFRep; obtain ⟨a, f, rfl, hi, hc⟩ := hpY; obtain rfl := hvW; refine wpAny_mono (qje (fl := env.frame) G hi hc FY.toBRep hvY) (fun _ sV z => ?_) fun _ _ o => (OutX.from (st₂.trans stY) o).toS S.toFRep; obtain ⟨r, x4, HV, hP, hr, RV, stV⟩ := z; exact wpAny_deleteEach_nil ⟨.next, m, HV, hP, rfl, RV, (FY.step RV stV).fr, ((st₂.trans stY).trans stV).toF⟩
end
theorem qim {prog : Program} {w : World} {A : Around} {E : Value -> Shared -> Prop} {s : Shared} {a b sl : Addr} {items new : Array Value} {n n2 : Nat} {Q : Unit -> Shared -> Prop} (ha : s.heap.get? a = some (listOf items n)) (hb : s.heap.get? b = some (listOf new n2)) (hab : a ≠ b) (hs : s.heap.IsSliceOf sl .none .none .none)
   (hl : items.size + new.size ≤ sizeLine) (h : ∀ f : Array Value -> Array Value, f items = new -> Q () { s with heap := s.heap.update a (Obj.mapSeq f) }) : wpAny (model prog w) A (setItem (.ref a) (.ref sl) (.ref b)) Q E s := by
 have hla : s.heap.IsList a items := ⟨_, ha, rfl, n, rfl⟩; obtain ⟨os, hos, hcs, hds⟩ := id hs; have hTs : s.TypeIs (.ref sl) "slice" := ⟨os, hos, hcs⟩; have hTb : s.TypeIs (.ref b) "list" := ⟨_, hb, rfl⟩; refine wpAny_holding ?_; refine wpAny_bind (wpAny_sequenceKey hla.typeIs (by decide) ?_); refine wpAny_bind (wpAny_callSpecial?_slot (name := Str.ofString "__setitem__") hla.typeIs slot_list_setitem
   (wpAny_call_entry slot_list_setitem hla.typeIs entry_list_setitem ?_ (args_list_setitem _ _ _)))
 show wpAny _ _ (Builtin.List.listSubscript? (.ref sl) >>= _) _ _ s; refine wpAny_bind ?_; refine wpAny_bind (wpAny_specialOf hTs slice_no_index ?_); simp only [Option.isNone_none, if_true]; refine wpAny_pure ?_; show wpAny _ _ (typeOf (.ref sl) >>= _) _ _ s; refine wpAny_bind (wpAny_typeOf hTs ?_); rw [if_neg (by decide)]; rw [listSliceParts_eq]; refine wpAny_bind (wpAny_bind (wpAny_field hos hds (x := .none) rfl (wpAny_bind (wpAny_listPart .none ?_)))); rw [if_neg (by decide)]; refine wpAny_bind (wpAny_field hos hds (x := .none) rfl (wpAny_bind (wpAny_listPart .none ?_))); refine wpAny_bind (wpAny_field hos hds (x := .none) rfl (wpAny_bind (wpAny_listPart .none (wpAny_pure ?_)))); dsimp only; rw [show Builtin.List.listSameRef (.ref a) (.ref b) = false from beq_eq_false_iff_ne.mpr hab]; simp only [Bool.false_eq_true, if_false]; refine wpAny_bind (wpAny_bind (wpAny_typeOf hTb ?_)); rw [if_pos (by decide)]; refine listItems_at hb rfl ?_; refine wpAny_bind (listItems_at ha rfl ?_); refine wpAny_bind (wpAny_of_eq (sliceIndices_raw none none none items.size (by decide)) ?_); have e : sliceBounds none none none items.size = (0, (items.size : Int), 1) := rfl; (refine (Eq.symm e) ▸ ?_); dsimp only
 rw [if_pos (by decide)]; refine wpAny_bind (wpAny_rule ?_); rw [if_neg (by unfold Builtin.List.listTooLong; simpa using hl)]; have ef : (fun xs : Array Value => xs.extract 0 (Int.toNat 0) ++ new ++ xs.extract (max (0 : Int) items.size).toNat xs.size) items = new := by
   apply Array.toList_inj.mp; simp
 refine wpAny_bind (listUpdate_at ha rfl ?_ ?_ ?_)
 . exact wpAny_bind (wpAny_letGo (wpAny_pure ⟨_, rfl, wpAny_pure (h _ ef)⟩))
 . lia
 . exact le_trans (le_of_eq (congrArg Array.size ef)) (by lia)
section
variable {c : Cx} {q : Md} {d : Nat} {A : Around} {env : Env} {m : Map} {H : AH} {pos : Pos}
theorem qi1 {P : Fl -> Map -> AH -> Prop} {X : Exc -> Map -> AH -> Prop} {e v : Expr} {pJ pW : Pos} (hsw : swapsWithSole [.Subscript e (.Slice none none none pW) pJ] v pos.line env = pure false) (hsw2 : swappedStores [.Subscript e (.Slice none none none pW) pJ] v env = pure none)
   (h : awE c q d A env v m H (fun x HJ => awE c q d A env e m HJ (fun y HW => ∃ a b vs us, y = .ref a ∧ x = .ref b ∧ a ≠ b ∧ HW a = some (.list vs) ∧ HW b = some (.list us) ∧ vs.length + us.length ≤ 100000 ∧ P .next m (upd HW a (.list us))) fun k H' => X k m H') fun k H' => X k m H') : awS c q d A env (.Assign [.Subscript e (.Slice none none none pW) pJ] v pos) m H P X := by
 intro s S; refine wpAny_Assign_stores (qaj h S.toFRep (fun x HJ sJ vJ hp F₁ hvJ stJ => ?_) fun _ _ o => o.toS S.toFRep) hsw hsw2; show wpAny c.M A (assign (.Subscript e (.Slice none none none pW) pJ) env vJ) _ _ sJ; rw [qd6]; refine wpAny_bind (wpAny_holding (qaj hp F₁ (fun y' HW sW vW hpW FW hvW st₂ => ?_) fun _ _ o => (OutX.from stJ o).toS S.toFRep)); obtain ⟨a, b, vs, us, rfl, rfl, hab, ha, hb, hl, hP⟩ := hpW; obtain rfl := hvW; obtain rfl := hvJ; refine wpAny_bind (wpAny_holding (wpAny_Slice ?_)); rw [evalPart_none]; refine wpAny_pure (wpAny_pure (wpAny_pure ?_)); have RY := FW.rep.push0 { cls := .type "slice", data := .fields #[.none, .none, .none] } sW.toks; have xY := Step.push0 HW sW { cls := .type "slice", data := .fields #[.none, .none, .none] } sW.toks; obtain ⟨items, n, ea, ra⟩ := RY.at_ _ _ ha; obtain ⟨new, n2, eb, rb⟩ := RY.at_ _ _ hb; have hs1 := ra.size; have hs2 := rb.size; refine wpAny_bind (wpAny_standAt (wpAny_bind (wpAny_holding (qim ea eb hab (Heap.IsSliceOf.new ..) (by rw [hs1, hs2]; exact qdr hl) fun f hf => ?_)))); have T := qe3 (f := f) (t := sW.toks) RY ha ea (by rw [hf]; exact rb); exact wpAny_release ⟨.next, m, _, hP, rfl, T.1, ((FW.step RY xY).step T.1 T.2).fr, (((stJ.trans st₂).trans xY).trans T.2).toF⟩
end
def qf1 (lt : Nat -> Nat -> Bool) (n : Nat) {α : Type} : KasT α -> (α -> Prop) -> Prop
 | .ret a, Q => Q a
 | .ask i j k, Q => i < n ∧ j < n ∧ qf1 lt n (k (lt i j)) Q
theorem qd1 {lt : Nat -> Nat -> Bool} {n : Nat} {α β : Type} {f : α -> KasT β} {Q : β -> Prop} : ∀ (t : KasT α), qf1 lt n t (fun a => qf1 lt n (f a) Q) -> qf1 lt n (t.bind f) Q := by
 intro t
 induction t with
 | ret a => exact fun h => h
 | ask i j k ih => exact fun h => ⟨h.1, h.2.1, ih _ h.2.2⟩
theorem qr5 {lt : Nat -> Nat -> Bool} {n : Nat} {α : Type} {ask : Nat -> Nat -> (Bool -> Shared -> Prop) -> Shared -> Prop} {s : Shared} (ha : ∀ i j C, i < n -> j < n -> C (lt i j) s -> ask i j C s) {Q : α -> Prop} {G : α -> Shared -> Prop} (hG : ∀ a, Q a -> G a s) : ∀ (t : KasT α), qf1 lt n t Q -> t.kasWp ask G s := by
 intro t
 induction t with
 | ret a => exact fun h => hG a h
 | ask i j k ih => exact fun h => ha i j _ h.1 h.2.1 (ih _ h.2.2)
abbrev nth (p : Array Nat) (i : Nat) : Nat := p.getD i 0
structure Tot (lt : Nat -> Nat -> Bool) (n : Nat) : Prop where
 tot : ∀ i j, i < n -> j < n -> i ≠ j -> lt i j = false -> lt j i = true
 tr : ∀ i j k, lt i j = true -> lt j k = true -> lt i k = true
structure qcu (n : Nat) (p : Array Nat) : Prop where
 sz : p.size = n
 pm : p.toList.Perm (List.range n)
theorem qsd {p : Array Nat} {i : Nat} (h : i < p.size) : nth p i ∈ p.toList := by
 have : nth p i = p[i] := by unfold nth; simp [Array.getD, h]
 (refine (Eq.symm this) ▸ ?_); exact Array.getElem_mem_toList h
theorem qcu.lt {n : Nat} {p : Array Nat} (P : qcu n p) {i : Nat} (h : i < n) : nth p i < n := mem_range.mp (P.pm.mem_iff.mp (qsd (by rw [P.sz]; exact h)))
theorem qcu.inj {n : Nat} {p : Array Nat} (P : qcu n p) {i j : Nat} (hi : i < n) (hj : j < n) (h : i ≠ j) : nth p i ≠ nth p j := by
 have hd : p.toList.Nodup := P.pm.nodup_iff.mpr List.nodup_range; have hi' : i < p.toList.length := by rw [Array.length_toList, P.sz]; exact hi
 have hj' : j < p.toList.length := by rw [Array.length_toList, P.sz]; exact hj
 have e1 : nth p i = p.toList[i] := by unfold nth; simp [Array.getD, P.sz, hi]
 have e2 : nth p j = p.toList[j] := by unfold nth; simp [Array.getD, P.sz, hj]
 (refine (Eq.symm e1) ▸ ?_; refine (Eq.symm e2) ▸ ?_); exact fun z => h ((List.getElem_inj hd).mp z)
theorem qcu.of {n : Nat} {p p' : Array Nat} (P : qcu n p) (h : p'.Perm p) : qcu n p' := ⟨h.size_eq.trans P.sz, (Array.perm_iff_toList_perm.mp h).trans P.pm⟩
def SP (lt : Nat -> Nat -> Bool) (p : Array Nat) (k : Nat) : Prop := ∀ a b, a < b -> b < k -> lt (nth p a) (nth p b) = true
def SD (lt : Nat -> Nat -> Bool) (p : Array Nat) (k : Nat) : Prop := ∀ a b, a < b -> b < k -> lt (nth p b) (nth p a) = true
section
variable {lt : Nat -> Nat -> Bool} {n : Nat} {p : Array Nat}
theorem qc6 {m : Nat} (h : 1 ≤ m) : m - 1 < m := Nat.sub_lt h Nat.one_pos
theorem qs2 {l r : Nat} (h : l < r) : l ≤ (l + r) / 2 ∧ (l + r) / 2 < r := by omega
theorem cut1 {l r m f : Nat} (h : l ≤ m) (h3 : r - l ≤ f + 1) : r - (m + 1) ≤ f := le_trans (Nat.sub_le_sub_left (Nat.succ_le_succ h) r) (Nat.pred_le_pred h3)
theorem cut2 {l r m f : Nat} (hl : l ≤ m) (h : m < r) (h3 : r - l ≤ f + 1) : m - l ≤ f := le_of_lt_succ (lt_of_lt_of_le (Nat.sub_lt_sub_right hl h) h3)
theorem SP.snoc (T : Tot lt n) {k : Nat} (h : SP lt p k) (hl : k = 0 ∨ lt (nth p (k - 1)) (nth p k) = true) : SP lt p (k + 1) := by
 intro a b hab hb; by_cases e : b < k
 . exact h a b hab e
 . obtain rfl : b = k := Nat.eq_of_lt_succ_of_not_lt hb e; rcases hl with hl | hl
   . exact absurd (hl ▸ hab) (not_lt_zero a)
   . by_cases e2 : a = b - 1
     . rw [e2]; exact hl
     . exact T.tr _ _ _ (h a (b - 1) (lt_of_le_of_ne (le_sub_one_of_lt hab) e2) (qc6 (lt_of_le_of_lt (zero_le a) hab))) hl
theorem SD.snoc (T : Tot lt n) {k : Nat} (h : SD lt p k) (hl : lt (nth p k) (nth p (k - 1)) = true) (hk : 1 ≤ k) : SD lt p (k + 1) := by
 intro a b hab hb; by_cases e : b < k
 . exact h a b hab e
 . obtain rfl : b = k := Nat.eq_of_lt_succ_of_not_lt hb e; by_cases e2 : a = b - 1
   . rw [e2]; exact hl
   . exact T.tr _ _ _ hl (h a (b - 1) (lt_of_le_of_ne (le_sub_one_of_lt hab) e2) (qc6 hk))
theorem qlk (T : Tot lt n) (P : qcu n p) {Q : Nat -> Prop} : ∀ (f m : Nat), 1 ≤ m -> m + f ≤ n -> SP lt p m -> (∀ r, m ≤ r -> r ≤ m + f -> SP lt p r -> r = m + f ∨ lt (nth p r) (nth p (r - 1)) = true -> Q r) -> qf1 lt n (kas_asc p f m) Q := by
 intro f
 induction f with
 | zero =>
   intro m _ _ hs h; exact h m (le_refl _) (le_refl _) hs (.inl rfl)
 | succ f ih =>
   intro m h1 h2 hs h; have hm : m < n := lt_of_lt_of_le (Nat.lt_add_of_pos_right (Nat.succ_pos f)) h2; have hm1 : m - 1 < n := lt_of_le_of_lt (Nat.sub_le m 1) hm; refine ⟨P.lt hm, P.lt hm1, ?_⟩; cases e : lt (p.getD m 0) (p.getD (m - 1) 0)
   . exact ih (m + 1) (Nat.le_add_left 1 m) (le_trans (le_of_eq (add_right_comm m 1 f)) h2) (hs.snoc T (.inr (T.tot _ _ (P.lt hm) (P.lt hm1) (P.inj hm hm1 (ne_of_gt (qc6 h1))) e))) fun r a1 a2 a3 a4 => h r (le_of_lt a1) (le_trans a2 (le_of_eq (add_right_comm m 1 f))) a3 (a4.imp (fun z => z.trans (add_right_comm m 1 f)) id)
   . exact h m (le_refl _) (Nat.le_add_right _ _) hs (.inr e)
theorem qoi (T : Tot lt n) (P : qcu n p) {Q : Array Nat × Nat × Nat -> Prop} : ∀ (f m : Nat), 2 ≤ m -> m + f ≤ n -> SD lt p m -> (∀ r, m ≤ r -> r ≤ m + f -> SD lt p r -> Q (p, r, 0)) -> qf1 lt n (kas_desc f p m 0) Q := by
 intro f
 induction f with
 | zero =>
   intro m _ _ hs h; exact h m (le_refl _) (le_refl _) hs
 | succ f ih =>
   intro m h1 h2 hs h; have hm : m < n := lt_of_lt_of_le (Nat.lt_add_of_pos_right (Nat.succ_pos f)) h2; have hm1 : m - 1 < n := lt_of_le_of_lt (Nat.sub_le m 1) hm; refine ⟨P.lt hm, P.lt hm1, ?_⟩; cases e : lt (p.getD m 0) (p.getD (m - 1) 0)
   . refine ⟨P.lt hm1, P.lt hm, ?_⟩; have : lt (p.getD (m - 1) 0) (p.getD m 0) = true := T.tot _ _ (P.lt hm) (P.lt hm1) (P.inj hm hm1 (ne_of_gt (qc6 (le_of_lt h1)))) e; rw [this]; exact h m (le_refl _) (Nat.le_add_right _ _) hs
   . exact ih (m + 1) (Nat.le_succ_of_le h1) (le_trans (le_of_eq (add_right_comm m 1 f)) h2) (hs.snoc T e (le_of_lt h1)) fun r a1 a2 a3 => h r (le_of_lt a1) (le_trans a2 (le_of_eq (add_right_comm m 1 f))) a3
theorem qpb {p : Array Nat} {m k : Nat} (hm : m ≤ p.size) (hk : k < m) : nth (kas_rev p 0 m) k = nth p (m - 1 - k) := by
 have e := getElem?_mirror_all (xs := p) (i := 0) (j := m) hm k; rw [if_pos ⟨zero_le _, hk⟩] at e; unfold kas_rev nth; rw [Array.getD_eq_getD_getElem?, Array.getD_eq_getD_getElem?, e, zero_add]
theorem qm5 {m : Nat} (hm : m ≤ p.size) (h : SD lt p m) : SP lt (kas_rev p 0 m) m := by
 intro a b hab hb; rw [qpb hm (lt_trans hab hb), qpb hm hb]; exact h _ _ (Nat.sub_lt_sub_left (lt_of_lt_of_le hab (le_sub_one_of_lt hb)) hab) (lt_of_le_of_lt (Nat.sub_le _ a) (qc6 (lt_of_le_of_lt (zero_le b) hb)))
theorem qok (T : Tot lt n) (P : qcu n p) {Q : Nat × Array Nat -> Prop} {m : Nat} (h1 : 1 ≤ m) (h2 : m ≤ n) (hs : SD lt p m) (h : ∀ r p', qcu n p' -> 1 ≤ r -> r ≤ n -> SP lt p' r -> Q (r, p')) : qf1 lt n (kas_tail3 m n p) Q := by
 have P' : qcu n (kas_rev p 0 m) := P.of (mirror_perm _ _ _ _); have e := le_of_eq (Nat.add_sub_cancel' h2); unfold kas_tail3; exact qd1 _ (qlk T P' _ _ h1 e (qm5 (by rw [P.sz]; exact h2) hs) fun r a1 a2 a3 _ => h r _ P' (le_trans h1 a1) (le_trans a2 e) a3)
theorem qmo (T : Tot lt n) (P : qcu n p) {Q : Nat × Array Nat -> Prop} (hn : 2 ≤ n) (h : ∀ r p', qcu n p' -> 1 ≤ r -> r ≤ n -> SP lt p' r -> Q (r, p')) : qf1 lt n (kas_count n p) Q := by
 unfold kas_count; have en := Nat.add_sub_cancel' (le_of_lt hn); refine qd1 _ (qlk T P _ _ (le_refl _) (le_of_eq en) (fun a b hab hb => absurd (lt_of_lt_of_le hab (le_of_lt_succ hb)) (not_lt_zero a)) fun r a1 a2 a3 a4 => ?_); have hr := le_trans a2 (le_of_eq en); by_cases e : r = n
 . rw [if_pos (beq_iff_eq.mpr e)]; exact h r p P a1 hr a3
 . rw [if_neg (fun z => e (beq_iff_eq.mp z))]; by_cases e2 : r > 1
   . rw [if_pos e2]; refine ⟨P.lt (le_of_lt hn), P.lt (lt_of_lt_of_le (qc6 a1) hr), ?_⟩; rw [show lt (p.getD 0 0) (p.getD (r - 1) 0) = true from a3 0 (r - 1) (Nat.sub_pos_of_lt e2) (qc6 a1)]; exact h r p P a1 hr a3
   . rw [if_neg e2]; have hl := a4.resolve_left (fun z => e (z.trans en)); obtain rfl : r = 1 := le_antisymm (Nat.le_of_not_lt e2) a1; unfold kas_descPart; have e3 := Nat.add_sub_cancel' hn; refine qd1 _ (qoi T P _ _ (le_refl _) (le_of_eq e3) (fun a b hab hb => ?_) fun r b1 b2 b3 => ?_)
     . have hb1 := le_of_lt_succ hb; obtain rfl : a = 0 := Nat.lt_one_iff.mp (lt_of_lt_of_le hab hb1); obtain rfl : b = 1 := le_antisymm hb1 hab; exact hl
     . exact qok T P (m := r) (le_of_lt b1) (le_trans b2 (le_of_eq e3)) b3 h
theorem qmp (T : Tot lt n) (P : qcu n p) {k : Nat} (hk : k < n) {Q : Nat -> Prop} : ∀ (f l r : Nat), l ≤ r -> r ≤ k -> r - l ≤ f -> (∀ a, a < l -> lt (nth p a) (nth p k) = true) -> (∀ a, r ≤ a -> a < k -> lt (nth p k) (nth p a) = true) -> SP lt p k -> (∀ i, i ≤ k -> (∀ a, a < i -> lt (nth p a) (nth p k) = true) -> (∀ a, i ≤ a -> a < k -> lt (nth p k) (nth p a) = true) -> Q i) -> qf1 lt n (kas_place p k f l r) Q := by
 intro f
 induction f with
 | zero =>
   intro l r h1 h2 h3 h4 h5 _ h; obtain rfl : l = r := le_antisymm h1 (Nat.le_of_sub_eq_zero (Nat.le_zero.mp h3)); exact h l h2 h4 h5
 | succ f ih =>
   intro l r h1 h2 h3 h4 h5 hs h; unfold kas_place; by_cases e : l ≥ r
   . rw [if_pos e]; obtain rfl : l = r := le_antisymm h1 e; exact h l h2 h4 h5
   . rw [if_neg e]; obtain ⟨m1, m2⟩ := qs2 (Nat.lt_of_not_le e); have hMk := lt_of_lt_of_le m2 h2; have hMn := lt_trans hMk hk; refine ⟨P.lt hk, P.lt hMn, ?_⟩; cases c : lt (p.getD k 0) (p.getD ((l + r) / 2) 0)
     . have c' : lt (nth p ((l + r) / 2)) (nth p k) = true := T.tot _ _ (P.lt hk) (P.lt hMn) (P.inj hk hMn (ne_of_gt hMk)) c; refine ih _ _ m2 h2 (cut1 m1 h3) (fun a ha => ?_) h5 hs h; by_cases z : a = (l + r) / 2
       . rw [z]; exact c'
       . exact T.tr _ _ _ (hs a ((l + r) / 2) (lt_of_le_of_ne (le_of_lt_succ ha) z) hMk) c'
     . refine ih _ _ m1 (le_of_lt hMk) (cut2 m1 m2 h3) h4 (fun a h6 h7 => ?_) hs h; by_cases z : a = (l + r) / 2
       . rw [z]; exact c
       . exact T.tr _ _ _ c (hs ((l + r) / 2) a (lt_of_le_of_ne h6 (fun w => z w.symm)) h7)
theorem qhy {p : Array Nat} {k i j : Nat} (hk : k < p.size) (hi : i ≤ k) : nth (bubble p k (k - i)) j = if j = i then nth p k else if i < j ∧ j ≤ k then nth p (j - 1) else nth p j := by
 have e := getElem?_bubble hk (k - i) (Nat.sub_le k i) j; have hki : k - (k - i) = i := Nat.sub_sub_self hi; rw [hki] at e; unfold nth; rw [Array.getD_eq_getD_getElem?, e]; by_cases h1 : j = i
 . rw [if_pos h1, if_pos h1, Array.getD_eq_getD_getElem?]
 . rw [if_neg h1, if_neg h1]; by_cases h2 : i < j ∧ j ≤ k
   . rw [if_pos h2, if_pos h2, Array.getD_eq_getD_getElem?]
   . rw [if_neg h2, if_neg h2, Array.getD_eq_getD_getElem?]
theorem qqm (T : Tot lt n) {Q : Array Nat -> Prop} : ∀ (f : Nat) (p : Array Nat) (k : Nat), qcu n p -> k + f = n -> 1 ≤ k -> SP lt p k -> (∀ p', qcu n p' -> SP lt p' n -> Q p') -> qf1 lt n (kas_bin f p k) Q := by
 intro f
 induction f with
 | zero =>
   intro p k P h1 _ hs h; exact h p P (by rw [← h1]; exact hs)
 | succ f ih =>
   intro p k P h1 hk hs h; unfold kas_bin; have hk1 : k < n := h1 ▸ Nat.lt_add_of_pos_right (Nat.succ_pos f); refine qd1 _ (qmp T P hk1 k 0 k (zero_le _) (le_refl _) (Nat.sub_le k 0) (fun a ha => absurd ha (not_lt_zero a)) (fun a h2 h3 => absurd h3 (Nat.not_lt.mpr h2)) hs fun i hi g1 g2 => ?_); refine ih _ (k + 1) (P.of (bubble_perm _ _ _)) ((add_right_comm k 1 f).trans h1) (Nat.le_add_left 1 k) (fun a b hab hb => ?_) h; have hsz : k < p.size := by rw [P.sz]; exact hk1
   have hbk := le_of_lt_succ hb; have hb1 := lt_of_lt_of_le (qc6 (lt_of_le_of_lt (zero_le a) hab)) hbk; rw [qhy hsz hi, qhy hsz hi]; by_cases ea : a = i
   . rw [if_pos ea, if_neg (fun z => ne_of_lt hab (ea.trans z.symm)), if_pos ⟨ea ▸ hab, hbk⟩]; exact g2 _ (le_sub_one_of_lt (ea ▸ hab)) hb1
   . rw [if_neg ea]; by_cases eb : b = i
     . rw [if_pos eb, if_neg (fun z => Nat.lt_asymm (eb ▸ hab) z.1)]; exact g1 _ (eb ▸ hab)
     . rw [if_neg eb]; by_cases ea2 : i < a ∧ a ≤ k
       . rw [if_pos ea2, if_pos ⟨lt_trans ea2.1 hab, hbk⟩]; exact hs _ _ (Nat.sub_lt_sub_right (lt_of_le_of_lt (zero_le i) ea2.1) hab) hb1
       . rw [if_neg ea2]; by_cases eb2 : i < b ∧ b ≤ k
         . rw [if_pos eb2]; by_cases z : a = b - 1
           . exact absurd ⟨lt_of_le_of_ne (z.symm ▸ le_sub_one_of_lt eb2.1) (fun w => ea w.symm), le_trans (le_of_lt hab) hbk⟩ ea2
           . exact hs _ _ (lt_of_le_of_ne (le_sub_one_of_lt hab) z) hb1
         . rw [if_neg eb2]; exact hs _ _ hab (lt_of_lt_of_le (lt_of_le_of_ne (Nat.le_of_not_lt fun w => eb2 ⟨w, hbk⟩) eb) hi)
theorem qoj (T : Tot lt n) {Q : Array Nat -> Prop} (hn : 2 ≤ n) (h : ∀ p', qcu n p' -> SP lt p' n -> Q p') : qf1 lt n (kas_sort n) Q := by
 have P : qcu n (List.toArray (List.range n)) := ⟨by simp, List.Perm.refl _⟩; unfold kas_sort; refine qd1 _ (qmo T P hn fun r p' P' h1 h2 hs => ?_); by_cases e : r < n
 . rw [if_pos e, Nat.max_eq_left h1]; exact qqm T _ _ _ P' (Nat.add_sub_cancel' h2) h1 hs h
 . rw [if_neg e]; obtain rfl : r = n := le_antisymm h2 (Nat.le_of_not_lt e); exact h p' P' hs
end
def ltP (a b : Str × Str) : Bool := if a.1 = b.1 then decide (a.2.cps.toList < b.2.cps.toList) else decide (a.1.cps.toList < b.1.cps.toList)
abbrev nthP (ps : List (Str × Str)) (i : Nat) : Str × Str := ps.getD i (⟨#[]⟩, ⟨#[]⟩)
theorem qo0 {x y : Str} (h1 : ¬ x.cps.toList < y.cps.toList) (h2 : ¬ y.cps.toList < x.cps.toList) : x = y := by
 have := List.le_antisymm (List.not_lt.mp h2) (List.not_lt.mp h1); cases x; cases y; exact congrArg Str.mk (Array.toList_inj.mp this)
section
variable {prog : Program} {w : World} {A : Around} {E : Value -> Shared -> Prop} {s : Shared}
theorem qpd {a b : Str} {t u : Tok} {Q : Bool -> Shared -> Prop} (h : Q (decide (a.cps.toList < b.cps.toList)) s) : wpAny (model prog w) A (oneLt' false (.str a t) (.str b u)) Q E s :=
 kat_one _ _ (PyProof.Rows.lt_str (Q := PySem.W.BoolBack Q) h)
theorem qsi {x y : Str × Str} {v u : Value} {Q : Bool -> Shared -> Prop} (hx : VR s.heap (qau x) v) (hy : VR s.heap (qau y) u) (h : Q (ltP x y) s) : wpAny (model prog w) A (keyLt' (tuples' true) v u) Q (fun _ _ => False) s := by
 obtain ⟨a1, ws1, rfl, ⟨o1, e1, c1, n1, d1⟩, v1, l1, q1, ⟨t1, rfl⟩, v2, l2, rfl, ⟨t2, rfl⟩, rfl⟩ := hx; obtain ⟨a2, ws2, rfl, ⟨o2, e2, c2, n2, d2⟩, u1, k1, q2, ⟨t3, rfl⟩, u2, k2, rfl, ⟨t4, rfl⟩, rfl⟩ := hy; refine kat_lt e1 d1 e2 d2 ?_; have hs1 : ws1.size = 2 := by rw [← Array.length_toList, q1]; rfl
 have hs2 : ws2.size = 2 := by rw [← Array.length_toList, q2]; rfl
 (refine (Eq.symm q1) ▸ ?_; refine (Eq.symm q2) ▸ ?_; refine (Eq.symm hs1) ▸ ?_; refine (Eq.symm hs2) ▸ ?_); unfold ltP at h; refine kat_cons (wpAny_eqBool_str ?_); by_cases e : x.1 = y.1
 . rw [if_pos e] at h; rw [decide_eq_true e]; refine kat_yes (kat_cons (wpAny_eqBool_str ?_)); by_cases f : x.2 = y.2
   . rw [decide_eq_true f]; refine kat_yes (kat_nil ?_); rw [f] at h; have : decide (y.2.cps.toList < y.2.cps.toList) = false := decide_eq_false (List.lt_irrefl _); rw [this] at h; exact h
   . rw [decide_eq_false f]; exact kat_no (qpd h)
 . rw [if_neg e] at h; rw [decide_eq_false e]; exact kat_no (oneLt_str h)
theorem qof {h : Heap} : ∀ {ps : List (Str × Str)} {vs : List Value}, VRs h (ps.map qau) vs -> ∃ fs, KatTups h vs fs ∧ fs.length = ps.length ∧ ∀ v ∈ fs, ∃ x t, v = Value.str x t := by
 intro ps
 induction ps with
 | nil =>
   intro _ e; obtain rfl := e; exact ⟨[], .nil, rfl, fun _ z => nomatch z⟩
 | cons q ps ih =>
   intro _ e; obtain ⟨_, ws, rfl, ⟨a, xs, rfl, ⟨o, ho, hc, n, hd⟩, v1, l1, q1, ⟨t1, rfl⟩, _⟩, r⟩ := e; obtain ⟨fs, h1, h2, h3⟩ := ih r; refine ⟨.str q.1 t1 :: fs, .cons ho hc hd ?_ h1, by simp [h2], fun v hv => ?_⟩
   . rw [← Array.getElem?_toList, q1]; rfl
   . rcases mem_cons.mp hv with rfl | hv
     . exact ⟨_, _, rfl⟩
     . exact h3 v hv
abbrev qjs (vs : List Value) (p : Array Nat) : Array Value := List.toArray (p.toList.map fun i => vs.getD i Value.none)
theorem qs8 {ps : List (Str × Str)} (hd : ps.Nodup) : Tot (fun i j => ltP (nthP ps i) (nthP ps j)) ps.length := by
 refine ⟨fun i j hi hj hij h => ?_, fun i j k h1 h2 => ?_⟩
 . have hne : nthP ps i ≠ nthP ps j := by
     have e1 : nthP ps i = ps[i] := by unfold nthP; simp [hi]
     have e2 : nthP ps j = ps[j] := by unfold nthP; simp [hj]
     (refine (Eq.symm e1) ▸ ?_; refine (Eq.symm e2) ▸ ?_); exact fun z => hij ((List.getElem_inj hd).mp z)
   generalize nthP ps i = x at h hne; generalize nthP ps j = y at h hne; unfold ltP at h ⊢; by_cases e : x.1 = y.1
   . rw [if_pos e] at h; rw [if_pos e.symm, decide_eq_true_iff]; refine Classical.byContradiction fun z => hne (Prod.ext e ?_); exact qo0 (of_decide_eq_false h) z
   . rw [if_neg e] at h; rw [if_neg (Ne.symm e), decide_eq_true_iff]; exact Classical.byContradiction fun z => e (qo0 (of_decide_eq_false h) z)
 . generalize nthP ps i = x at h1; generalize nthP ps j = y at h1 h2; generalize nthP ps k = z at h2; unfold ltP at h1 h2 ⊢; by_cases e1 : x.1 = y.1
   . rw [if_pos e1] at h1; by_cases e2 : y.1 = z.1
     . rw [if_pos e2] at h2; rw [if_pos (e1.trans e2), decide_eq_true_iff]; exact List.lt_trans (of_decide_eq_true h1) (of_decide_eq_true h2)
     . rw [if_neg e2] at h2; rw [if_neg (by (refine (Eq.symm e1) ▸ ?_); exact e2), e1]; exact h2
   . rw [if_neg e1] at h1; by_cases e2 : y.1 = z.1
     . rw [if_neg (by (refine e2 ▸ ?_); exact e1), ← e2]; exact h1
     . rw [if_neg e2] at h2; have h3 := List.lt_trans (of_decide_eq_true h1) (of_decide_eq_true h2); rw [if_neg (fun z' => by rw [z'] at h3; exact List.lt_irrefl _ h3), decide_eq_true_iff]; exact h3
theorem qg6 {a : Addr} {vs : List Value} {ps : List (Str × Str)} {n : Nat} {P : PySem.Fin -> Shared -> Prop} (ho : s.heap.get? a = some (seqObj "list" vs.toArray n)) (hr : VRs s.heap (ps.map qau) vs) (hd : ps.Nodup) (h64 : vs.length < 64)
   (h : ∀ p, qcu ps.length p -> SP (fun i j => ltP (nthP ps i) (nthP ps j)) p ps.length -> P (.done (.ret .none)) { s with heap := sortedHeap s.heap a vs (qjs vs p) }) :
   wpAny (model prog w) A (Builtin.«list.sort» ⟨[.ref a], []⟩) P E s := by
 rw [list_sort_plain]; have hlen : vs.length = ps.length := by have := hr.length; rw [length_map] at this; exact this.symm
 have ha : a < s.heap.objs.size := Heap.lt_size ho; have hz : vs.toArray.size ≤ sizeLine := by rw [size_toArray, sizeLine_eq]; lia
 refine wpAny_bind (listItems_at ho rfl ?_); refine wpAny_bind (listUpdate_at ho rfl ?_ hz (zero_le _)); obtain ⟨e1, ho1⟩ : ∃ e1, (s.heap.update a (Obj.mapSeq fun _ => (#[] : Array Value))).get? a = some (seqObj "list" #[] e1) := ⟨_, get?_update_seq ho fun _ => #[]⟩; refine wpAny_bind (seqEpoch_at ho1 rfl ?_); refine wpAny_bind (wpAny_newTuple ?_ (by show vs.length ≤ _; (refine (Eq.symm sizeLine_eq) ▸ ?_); exact le_trans ‹_› (nl0_ rfl))); refine wpAny_bind (wpAny_newList ?_ (zero_le _)); refine wpAny_holding ?_; have ho6 : (((s.heap.update a (Obj.mapSeq fun _ => (#[] : Array Value))).push (seqObj "tuple" vs.toArray 0)).push (seqObj "list" #[] 0)).get? a = some (seqObj "list" #[] e1) := Heap.get?_push_of_some _ (Heap.get?_push_of_some _ ho1); have tk : TK s.heap (((s.heap.update a (Obj.mapSeq fun _ => (#[] : Array Value))).push (seqObj "tuple" vs.toArray 0)).push (seqObj "list" #[] 0)) := fun b o e hc hdd => Heap.get?_push_of_some _ (Heap.get?_push_of_some _ ((Heap.get?_update_other _ _ (fun z => by
   subst z; rw [ho] at e; obtain rfl := sj0_ e; exact nomatch hc)).trans e))
 have hr6 := hr.mono tk; show wpAny (model prog w) A _ P E { s with heap := ((s.heap.update a (Obj.mapSeq fun _ => (#[] : Array Value))).push (seqObj "tuple" vs.toArray 0)).push (seqObj "list" #[] 0) }; have hP : ∀ out : Array Value, ({ s with heap := (((s.heap.update a (Obj.mapSeq fun _ => (#[] : Array Value))).push (seqObj "tuple" vs.toArray 0)).push (seqObj "list" #[] 0)).update a (Obj.mapSeq fun _ => out) } : Shared) = { s with heap := sortedHeap s.heap a vs out } := fun _ => rfl; dsimp only; have hsz : vs.toArray.size = vs.length := by rfl
 by_cases h2 : vs.toArray.size < 2
 . rw [if_pos h2, if_pos h2]; refine wpAny_bind (wpAny_pure ?_); rw [StateT.run_pure]; refine wpAny_bind (wpAny_pure ?_); dsimp only; refine wpAny_bind (seqEpoch_at ho6 rfl ?_); have ho' : (arrOf (SortSt.mk' general' (vs.toArray.zip vs.toArray) #[] 7 none)).map (·.2) = qjs vs (List.toArray (List.range ps.length)) := by
     show (vs.toArray.zip vs.toArray).map (·.2) = _; apply Array.toList_inj.mp; rw [Array.toList_map, Array.toList_zip]; show (vs.zip vs).map Prod.snd = (List.range ps.length).map fun i => vs.getD i Value.none; rw [List.map_snd_zip (le_refl _), ← hlen]; refine List.ext_getElem (by simp) fun i h3 h4 => ?_; simp [h3]
   (refine (Eq.symm ho') ▸ ?_); refine wpAny_bind (listUpdate_at ho6 rfl ?_ (zero_le _) (by show (List.toArray _).size ≤ _; rw [size_toArray, length_map, List.length_range, ← hlen, sizeLine_eq]; exact le_trans ‹_› (nl0_ rfl))); simp only [bne_self_eq_false, Bool.false_eq_true, if_false]; exact wpAny_pure (h _ ⟨by simp, List.Perm.refl _⟩ fun i j hij hj => by lia)
 . rw [if_neg h2, if_neg h2]; rw [hsz] at h2; obtain ⟨fs, k1, k2, k3⟩ := qof hr6; refine wpAny_bind (kat_kind (T := .type "str") k1 (by lia) (fun v hv => ?_) rfl ?_)
   . obtain ⟨x, t, rfl⟩ := k3 v hv; exact Looks.of_pure rfl
   refine wpAny_bind (wpAny_mono (kat_run (ks := vs) (Q := fun st' s' => ∃ p, qcu ps.length p ∧ SP (fun i j => ltP (nthP ps i) (nthP ps j)) p ps.length ∧ (arrOf st').map (·.2) = qjs vs p ∧ failedOf st' = none ∧ s' = { s with heap := ((s.heap.update a (Obj.mapSeq fun _ => (#[] : Array Value))).push (seqObj "tuple" vs.toArray 0)).push (seqObj "list" #[] 0) })
     (G := fun p s' => (qcu ps.length p ∧ SP (fun i j => ltP (nthP ps i) (nthP ps j)) p ps.length) ∧ s' = { s with heap := ((s.heap.update a (Obj.mapSeq fun _ => (#[] : Array Value))).push (seqObj "tuple" vs.toArray 0)).push (seqObj "list" #[] 0) }) rfl (by lia) h64 (fun p st' s' a1 a2 a3 a4 => ⟨p, a4.1.1, a4.1.2, kat_snds rfl a2, a3, a4.2⟩) ?_) ?_ fun _ _ z => z)
   . refine qr5 (lt := fun i j => ltP (nthP ps i) (nthP ps j)) (n := vs.length) (fun i j C hi hj hC => ?_) (fun p hp => ⟨hp, rfl⟩) _ (qoj (by (refine (Eq.symm hlen) ▸ ?_); exact qs8 hd) (by lia) fun p hp hs => by rw [hlen] at hp hs; exact ⟨hp, hs⟩); have hat : ∀ i, i < vs.length -> VR (((s.heap.update a (Obj.mapSeq fun _ => (#[] : Array Value))).push (seqObj "tuple" vs.toArray 0)).push (seqObj "list" #[] 0)) (qau (nthP ps i)) (vs.getD i Value.none) := fun i hi => by
       obtain ⟨x, hx, hv⟩ := hr6.get' (i := i) (getElem?_eq_getElem hi); rw [getElem?_map, getElem?_eq_getElem (by lia)] at hx; obtain rfl := sj0_ hx; have e1 : nthP ps i = ps[i] := by unfold nthP; simp [show i < ps.length by lia]
       have e2 : vs.getD i Value.none = vs[i] := by simp [hi]
       (refine (Eq.symm e1) ▸ ?_; refine (Eq.symm e2) ▸ ?_); exact hv
     exact qsi (hat i hi) (hat j hj) hC
   . rintro ⟨⟨⟩, st'⟩ s' ⟨p, hp, hs, hout, hf, rfl⟩; dsimp only; refine wpAny_bind (seqEpoch_at ho6 rfl ?_); dsimp only at hout; (refine (Eq.symm hout) ▸ ?_); refine wpAny_bind (listUpdate_at ho6 rfl ?_ (zero_le _) (by show (List.toArray _).size ≤ _; rw [size_toArray, length_map, Array.length_toList, hp.sz, ← hlen, sizeLine_eq]; exact le_trans ‹_› (nl0_ rfl))); (refine (Eq.symm hf) ▸ ?_); simp only [bne_self_eq_false, Bool.false_eq_true, if_false]; exact wpAny_pure (h p hp hs)
theorem qf9 {l : Addr} {vs : List Value} {ps : List (Str × Str)} {Q : Value -> Shared -> Prop} (hl : s.heap.IsList l vs.toArray) (hr : VRs s.heap (ps.map qau) vs) (hd : ps.Nodup) (h64 : vs.length < 64)
   (h : ∀ p, qcu ps.length p -> SP (fun i j => ltP (nthP ps i) (nthP ps j)) p ps.length -> Q (.ref (s.heap.objs.size + 1)) { s with heap := sortedAll s.heap vs (qjs vs p) }) :
   wpAny (model prog w) A (call (.builtin "sorted") [.ref l]) Q E s := by
 refine Calls.call_function_entry kind_sorted plain_sorted entry_sorted (args_sorted1 _) ?_; refine wpAny_bind (m := checkCount "sorted" 1 1 _) (wpAny_pure ?_); refine wpAny_bind (collect_list hl ?_ (by show vs.length ≤ sizeLine; (refine (Eq.symm sizeLine_eq) ▸ ?_); lia)); refine wpAny_bind (wpAny_newList ?_ (by show vs.length ≤ _; (refine (Eq.symm sizeLine_eq) ▸ ?_); lia)); have hsz : ((s.heap.push (seqObj "list" #[] 0)).update s.heap.objs.size (Obj.mapSeq (· ++ vs.toArray))).objs.size = s.heap.objs.size + 1 := by
   rw [Heap.size_update, size_push']
 have hoL : (((s.heap.push (seqObj "list" #[] 0)).update s.heap.objs.size (Obj.mapSeq (· ++ vs.toArray))).push (seqObj "list" vs.toArray 0)).get? (s.heap.objs.size + 1) = some (seqObj "list" vs.toArray 0) := by
   (refine hsz ▸ ?_); exact Heap.get?_push_size _ rfl
 have tk : TK s.heap (((s.heap.push (seqObj "list" #[] 0)).update s.heap.objs.size (Obj.mapSeq (· ++ vs.toArray))).push (seqObj "list" vs.toArray 0)) := fun b o e _ _ => by
   have hlt : b < s.heap.objs.size := Heap.lt_size e; exact Heap.get?_push_of_some _ ((Heap.get?_update_other _ _ (ne_of_gt hlt)).trans (Heap.get?_push_of_some _ e))
 show wpAny _ _ _ _ _ { s with heap := ((s.heap.push (seqObj "list" #[] 0)).update s.heap.objs.size (Obj.mapSeq (· ++ vs.toArray))).push (seqObj "list" vs.toArray 0) }; (refine (Eq.symm hsz) ▸ ?_); refine wpAny_bind (wpAny_holding (wpAny_call_entry slot_list_sort ⟨_, hoL, rfl⟩ entry_list_sort (qg6 hoL (hr.mono tk) hd h64 fun p a1 a2 => ⟨_, rfl, ?_⟩) (args_list_sort _))); exact wpAny_pure ⟨_, rfl, h p a1 a2⟩
end
section
variable {c : Cx} {q : Md} {d : Nat} {A : Around} {H : AH} {P : V -> AH -> Prop} {X : Exc -> AH -> Prop} {fl : Option Addr}
theorem qrd {h : Heap} {ps : List (Str × Str)} {vs : List Value} (hr : VRs h (ps.map qau) vs) : ∀ {l : List Nat}, (∀ i ∈ l, i < ps.length) -> VRs h ((l.map (nthP ps)).map qau) (l.map fun i => vs.getD i Value.none) := by
 intro l
 induction l with
 | nil =>
   intro _; exact rfl
 | cons i l ih =>
   intro hl; have hi := hl i (mem_cons_self); have e1 : nthP ps i = ps[i] := by unfold nthP; simp [hi]
   obtain ⟨v, hv, hv2⟩ := hr.get (i := i) (x := qau ps[i]) (by rw [getElem?_map, getElem?_eq_getElem hi]; rfl); have e2 : vs.getD i Value.none = v := by rw [List.getD_eq_getElem?_getD, hv]; rfl
   refine ⟨_, _, rfl, ?_, ih fun j hj => hl j (by simp [hj])⟩; show VR h (qau (nthP ps i)) (vs.getD i Value.none); (refine (Eq.symm e2) ▸ ?_; refine (Eq.symm e1) ▸ ?_); exact hv2
theorem qpr {ps : List (Str × Str)} {p : Array Nat} (hp : qcu ps.length p) (hs : SP (fun i j => ltP (nthP ps i) (nthP ps j)) p ps.length) : (p.toList.map (nthP ps)).Perm ps ∧ (p.toList.map (nthP ps)).Pairwise fun a b => ltP a b = true := by
 constructor
 . refine (hp.pm.map (nthP ps)).trans (List.Perm.of_eq ?_); refine List.ext_getElem (by simp) fun i h1 h2 => ?_; simp [nthP, h2]
 . rw [pairwise_map, List.pairwise_iff_getElem]; intro i j hi hj hij; rw [Array.length_toList, hp.sz] at hi hj; have := hs i j hij hj; have e : ∀ k, (hk : k < ps.length) -> nth p k = p.toList[k]'(by rw [Array.length_toList, hp.sz]; exact hk) := fun k hk => by unfold nth; simp [Array.getD, hp.sz, hk]
   rw [e i hi, e j hj] at this; exact this
theorem qfg {a : Addr} {ps : List (Str × Str)} (ha : H a = some (.list (ps.map qau))) (hd : ps.Nodup) (hl : ps.length < 64) (h : ∀ ps' : List (Str × Str), ps'.Perm ps -> (ps'.Pairwise fun a b => ltP a b = true) -> New H (.list (ps'.map qau)) P) : qa7 c q d A fl (.builtin "sorted") [.ref a] [] H P X := by
 intro s vs kvs B hv hk; obtain rfl := qa1 hk; obtain ⟨v, _, rfl, hv, rfl⟩ := hv; obtain rfl := hv; obtain ⟨items, n, e, hr⟩ := B.rep.at_ _ _ ha; have hsz : items.toList.length < 64 := by have := hr.length; rw [length_map] at this; lia
 refine qf9 (vs := items.toList) ⟨_, e, rfl, n, by rfl⟩ hr hd hsz fun p hp hs => ?_; obtain ⟨e', he'⟩ := sortedAll_at s.heap items.toList (qjs items.toList p); have k : ∀ b o, s.heap.get? b = some o -> (sortedAll s.heap items.toList (qjs items.toList p)).get? b = some o := fun b o => sortedAll_old; have hfr : s.heap.get? (s.heap.objs.size + 1) = none := Heap.get?_none_of_le (le_succ _); have RJ : Rep c H { s with heap := sortedAll s.heap items.toList (qjs items.toList p) } := B.rep.silent k rfl rfl; have SJ : Step H s H { s with heap := sortedAll s.heap items.toList (qjs items.toList p) } := .silent k; obtain ⟨h1, h2⟩ := qpr hp hs; exact ⟨.ref (s.heap.objs.size + 1), _, (h _ h1 h2).use _ (B.rep.fresh hfr), rfl, RJ.add (B.rep.gnone hfr) ⟨_, e', he', (qrd hr fun i hi => mem_range.mp (hp.pm.mem_iff.mp hi)).mono (TK.of_keeps k)⟩, SJ.add fun _ => hfr⟩
end
section
variable {K : Frag} {fd : FuncData}
theorem bnd1 {n1 : Str} {x1 : V} (h : ∀ v, bindArgs fd ⟨[v], []⟩ = pure [(n1, v)]) : ∀ (s : Shared) vs kvs, K.In s.heap -> VRs s.heap [x1] vs -> KwR s.heap [] kvs -> ∃ bs, BindsTo s fd ⟨vs, kvs⟩ bs ∧ bs.map (·.1) = [(n1, x1)].map (·.1) ∧ VRs s.heap ([(n1, x1)].map (·.2)) (bs.map (·.2)) := by
 intro s vs kvs _ hv hk; obtain rfl := qa1 hk; obtain ⟨v, _, rfl, a, rfl⟩ := hv; exact ⟨_, BindsTo.of_eq (h v), rfl, v, _, rfl, a, rfl⟩
theorem bnd2 {n1 n2 : Str} {x1 x2 : V} (h : ∀ v1 v2, bindArgs fd ⟨[v1, v2], []⟩ = pure [(n1, v1), (n2, v2)]) : ∀ (s : Shared) vs kvs, K.In s.heap -> VRs s.heap [x1, x2] vs -> KwR s.heap [] kvs -> ∃ bs, BindsTo s fd ⟨vs, kvs⟩ bs ∧ bs.map (·.1) = [(n1, x1), (n2, x2)].map (·.1) ∧ VRs s.heap ([(n1, x1), (n2, x2)].map (·.2)) (bs.map (·.2)) := by
 intro s vs kvs _ hv hk; obtain rfl := qa1 hk; obtain ⟨v, _, rfl, a, u, _, rfl, b, rfl⟩ := hv; exact ⟨_, BindsTo.of_eq (h v u), rfl, v, _, rfl, a, u, _, rfl, b, rfl⟩
theorem bnd3 {n1 n2 n3 : Str} {x1 x2 x3 : V} (h : ∀ v1 v2 v3, bindArgs fd ⟨[v1, v2, v3], []⟩ = pure [(n1, v1), (n2, v2), (n3, v3)]) : ∀ (s : Shared) vs kvs, K.In s.heap -> VRs s.heap [x1, x2, x3] vs -> KwR s.heap [] kvs -> ∃ bs, BindsTo s fd ⟨vs, kvs⟩ bs ∧ bs.map (·.1) = [(n1, x1), (n2, x2), (n3, x3)].map (·.1) ∧ VRs s.heap ([(n1, x1), (n2, x2), (n3, x3)].map (·.2)) (bs.map (·.2)) := by
 intro s vs kvs _ hv hk; obtain rfl := qa1 hk; obtain ⟨v, _, rfl, a, u, _, rfl, b, w, _, rfl, c, rfl⟩ := hv; exact ⟨_, BindsTo.of_eq (h v u w), rfl, v, _, rfl, a, u, _, rfl, b, w, _, rfl, c, rfl⟩
theorem bnd4 {n1 n2 n3 n4 : Str} {x1 x2 x3 x4 : V} (h : ∀ v1 v2 v3 v4, bindArgs fd ⟨[v1, v2, v3, v4], []⟩ = pure [(n1, v1), (n2, v2), (n3, v3), (n4, v4)]) : ∀ (s : Shared) vs kvs, K.In s.heap -> VRs s.heap [x1, x2, x3, x4] vs -> KwR s.heap [] kvs -> ∃ bs, BindsTo s fd ⟨vs, kvs⟩ bs ∧ bs.map (·.1) = [(n1, x1), (n2, x2), (n3, x3), (n4, x4)].map (·.1) ∧ VRs s.heap ([(n1, x1), (n2, x2), (n3, x3), (n4, x4)].map (·.2)) (bs.map (·.2)) := by
 intro s vs kvs _ hv hk; obtain rfl := qa1 hk; obtain ⟨v, _, rfl, a, u, _, rfl, b, w, _, rfl, c, z, _, rfl, d, rfl⟩ := hv; exact ⟨_, BindsTo.of_eq (h v u w z), rfl, v, _, rfl, a, u, _, rfl, b, w, _, rfl, c, z, _, rfl, d, rfl⟩
end
theorem qo8 : ∀ {c : Cx} {d : Nat} {p loose mg mb} {H : AH} {P : V -> AH -> Prop} {X : Exc -> AH -> Prop} {a dd : Addr} {x : Str}
   (hprog : c.prog = rw_om0166_02.row.prog) (G : Gd (KF c.w.params) p loose mg mb c.g) (h1 : H a = some (.slots 205 dd [])) (h2 : H dd = some (.ns []))
   (h : ∀ H' sl, H sl = none -> (∀ b o, H b = some o -> b ≠ a -> H' b = some o) -> H' a = some (.slots 205 dd [some (.str x), some (.int 0), some (.ref sl)]) -> H' sl = some (.list []) -> P .none H'), qbg c (d + 1) (.ref 201) [.ref a, .str x] [] H P X := by
 w_on; k_fill; intro c d p loose mg mb H P X a dd x hprog G h1 h2 h; refine qca (d := d) (binds := [(Str.ofString "self", .ref a), (Str.ofString "node", .str x)]) G (by k_is) (by k_is) (by exact bnd2 fun _ _ => rfl) (by rfl) (by decide +kernel) (by exact of_decide_eq_true rfl) ?_ (by rfl) (by rfl) (by rfl); intro A L; (refine qaa fun Kz hz1 hz2 hz3 hz4 => ?_; refine qbw rfl rfl ?_; refine xN rfl rfl (xN rfl rfl ?_); refine qb8 ‹_› ‹_› ‹_› (by k_is) (by k_is) (by k_is) (by k_is) (by k_is) (by decide) ?_); intro H1 m1 e1; have g1 := m1.mv h1 h2; (apply_assumption; refine qaa fun Kz hz1 hz2 hz3 hz4 => ?_; refine qbw rfl rfl ?_; refine qad rfl ?_; refine xN rfl rfl ?_; refine qb8 ‹_› ‹_› ‹_› (by k_is) (by k_is) (by k_is) (by k_is) (by k_is) (by decide) ?_); intro H2 m2 e2; have g2 := m2.mv e1 g1; (apply_assumption; refine qaa fun Kz hz1 hz2 hz3 hz4 => ?_; refine qbw rfl rfl ?_; refine qa6 ?_; refine qal ?_); refine ⟨zero_le _, fun sl H3 x3 n3 e3 => ?_⟩; have k1 := x3.get e2; have k2 := x3.get (m2.mv e1 g1); (refine xN rfl rfl ?_; refine qb8 ‹_› ‹_› ‹_› (by k_is) (by k_is) (by k_is) (by k_is) (by k_is) (by decide) ?_); intro H4 m4 e4; have k3 := m4.mv k1 e3; (apply_assumption; refine qac ?_)
 have ns : sl ≠ a := (Ext.ne e2 n3).symm; refine h H4 sl ?_ ?_ e4 k3
 . have z := (m2 sl ns).symm.trans n3; exact (m1 sl ns).symm.trans z
 . intro b o hb hn; exact m4.get hn (x3.get (m2.get hn (m1.get hn hb)))
theorem qk5 : ∀ {c : Cx} {d : Nat} {p loose mg mb} {H : AH} {P : V -> AH -> Prop} {X : Exc -> AH -> Prop} {a dd : Addr}
   (hprog : c.prog = rw_om0166_02.row.prog) (G : Gd (KF c.w.params) p loose mg mb c.g) (h1 : H a = some (.inst 302 dd)) (h2 : H dd = some (.ns []))
   (h : ∀ H' n2, H n2 = none -> (∀ b o, H b = some o -> b ≠ dd -> H' b = some o) -> H' dd = some (.ns [(Str.ofString "_node2info", .ref n2), (Str.ofString "_ready_nodes", .none), (Str.ofString "_npassedout", .int 0), (Str.ofString "_nfinished", .int 0)]) -> (∃ ep, H' n2 = some (.dict [] ep)) -> P .none H'), qbg c (d + 1) (.ref 238) [.ref a] [] H P X := by
 w_on; k_fill; intro c d p loose mg mb H P X a dd hprog G h1 h2 h; refine qca (d := d) (binds := [(Str.ofString "self", .ref a), (Str.ofString "graph", .none)]) G (by k_is) (by k_is) ?hb (by rfl) (by decide +kernel) (by exact of_decide_eq_true rfl) ?_ (by rfl) (by rfl) (by rfl)
 case hb =>
   intro s vs kvs KX hv hk; obtain rfl := qa1 hk; obtain ⟨v, _, rfl, a, rfl⟩ := hv; exact ⟨[(Str.ofString "self", v), (Str.ofString "graph", .none)], binds_K KX rfl (by k_is) rfl rfl rfl, rfl, v, _, rfl, a, _, _, rfl, rfl, rfl⟩
 intro A L; (refine qaa fun Kz hz1 hz2 hz3 hz4 => ?_; refine qbw rfl rfl ?_; refine qd7 ‹_› ?_); intro n2 H1 x1 n1 e1; have k1 := x1.get h1; have k2 := x1.get h2; (refine xN rfl rfl ?_; refine qcn ‹_› ‹_› ‹_› (by k_is) (by k_is) (by k_is) (by k_is) (by decide) ?_); intro H2 m2 e2; have k3 := m2.mv k2 k1; have k4 := m2.mv k2 e1; (apply_assumption; refine qaa fun Kz hz1 hz2 hz3 hz4 => ?_; refine qbw rfl rfl ?_; refine qad rfl ?_; refine xN rfl rfl ?_; refine qcn ‹_› ‹_› ‹_› (by k_is) (by k_is) (by k_is) (by k_is) (nl0_ rfl) ?_); intro H3 m3 e3; have k5 := m3.mv e2 k3; have k6 := m3.mv e2 k4; (apply_assumption; refine qaa fun Kz hz1 hz2 hz3 hz4 => ?_; refine qbw rfl rfl ?_; refine qad rfl ?_; refine xN rfl rfl ?_; refine qcn ‹_› ‹_› ‹_› (by k_is) (by k_is) (by k_is) (by k_is) (nl0_ rfl) ?_); intro H4 m4 e4; have k7 := m4.mv e3 k5; have k8 := m4.mv e3 k6; (apply_assumption; refine qaa fun Kz hz1 hz2 hz3 hz4 => ?_; refine qbw rfl rfl ?_; refine qad rfl ?_; refine xN rfl rfl ?_; refine qcn ‹_› ‹_› ‹_› (by k_is) (by k_is) (by k_is) (by k_is) (nl0_ rfl) ?_); intro H5 m5 e5; have k9 := m5.mv e4 k8; (apply_assumption; refine qaa fun Kz hz1 hz2 hz3 hz4 => ?_; refine qbv ?_; refine xCn rfl rfl rfl ?_; refine qad rfl ?_; refine qdd rfl ?_; refine ⟨_, rfl, ?_⟩; refine qay rfl ?_; refine qac ?_; apply_assumption; refine qac ?_)
 refine h H5 n2 n1 ?_ e5 ⟨_, k9⟩; intro b o hb hn; exact m5.get hn (m4.get hn (m3.get hn (m2.get hn (x1.get hb))))
structure Nd where
 nm : Str
 ia : Addr
 na : Addr
 sa : Addr
 np : Int
 su : List Str
def rdV : Option (Addr × List Str) -> V
 | none => .none
 | some p => .ref p.1
abbrev nsOf (n2 : Addr) (rd : Option (Addr × List Str)) (po nf : Int) : List (Str × V) := [(Str.ofString "_node2info", .ref n2), (Str.ofString "_ready_nodes", rdV rd), (Str.ofString "_npassedout", .int po), (Str.ofString "_nfinished", .int nf)]
structure Srt (B H : AH) (st dd n2 : Addr) (nds : List Nd) (rd : Option (Addr × List Str)) (po nf : Int) : Prop where
 ext : Ext B H
 o1 : B st = none
 o2 : B dd = none
 o3 : B n2 = none
 o4 : ∀ n ∈ nds, B n.ia = none ∧ B n.na = none ∧ B n.sa = none
 o5 : ∀ p, rd = some p -> B p.1 = none
 h1 : H st = some (.inst 302 dd)
 h2 : H dd = some (.ns (nsOf n2 rd po nf))
 h3 : ∃ ep, H n2 = some (.dict (nds.map fun n => (n.nm, .ref n.ia)) ep)
 h4 : ∀ n ∈ nds, H n.ia = some (.slots 205 n.na [some (.str n.nm), some (.int n.np), some (.ref n.sa)]) ∧ H n.na = some (.ns []) ∧ H n.sa = some (.list (n.su.map V.str))
 h5 : ∀ p, rd = some p -> H p.1 = some (.list (p.2.map V.str)) ∧ ∀ n ∈ nds, n.sa ≠ p.1
 d1 : (nds.map (·.nm)).Nodup
 d2 : (nds.map (·.ia)).Nodup
 d3 : (nds.map (·.sa)).Nodup
section
variable {B H H' : AH} {st dd n2 : Addr} {nds : List Nd} {rd : Option (Addr × List Str)} {po nf : Int}
theorem Srt.more (S : Srt B H st dd n2 nds rd po nf) (x : Ext H H') : Srt B H' st dd n2 nds rd po nf :=
 ⟨S.ext.trans x, S.o1, S.o2, S.o3, S.o4, S.o5, x.get S.h1, x.get S.h2, S.h3.imp fun _ => x.get, fun n hn => ⟨x.get (S.h4 n hn).1, x.get (S.h4 n hn).2.1, x.get (S.h4 n hn).2.2⟩, fun p hp => ⟨x.get (S.h5 p hp).1, (S.h5 p hp).2⟩, S.d1, S.d2, S.d3⟩
theorem Srt.base (S : Srt B H st dd n2 nds rd po nf) {a : Addr} {o : AO} (x : Ext H H') (hn : H a = none) (e : H' a = some o) : Srt (upd B a o) H' st dd n2 nds rd po nf := by
 have S' := S.more x; have ne : ∀ {b ob}, H b = some ob -> B b = none -> (upd B a o) b = none := fun {b ob} hb hB => by rw [qa5 _ _ (Ext.ne hb hn)]; exact hB
 refine ⟨fun b ob hb => ?_, ne S.h1 S.o1, ne S.h2 S.o2, S.h3.elim fun _ h => ne h S.o3, fun n hm => ⟨ne (S.h4 n hm).1 (S.o4 n hm).1, ne (S.h4 n hm).2.1 (S.o4 n hm).2.1, ne (S.h4 n hm).2.2 (S.o4 n hm).2.2⟩, fun p hp => ne (S.h5 p hp).1 (S.o5 p hp), S'.h1, S'.h2, S'.h3, S'.h4, S'.h5, S.d1, S.d2, S.d3⟩; unfold upd at hb; split at hb
 . rename_i z; obtain rfl := sj0_ hb; subst z; exact e
 . exact S'.ext.get hb
theorem Srt.out (S : Srt B H st dd n2 nds rd po nf) {a : Addr} {o o' : AO} (ha : B a = some o) (m : Mod H a H') (e : H' a = some o') : Srt (upd B a o') H' st dd n2 nds rd po nf := by
 have ne : ∀ {b}, B b = none -> b ≠ a := fun hb z => by rw [z, ha] at hb; exact nomatch hb
 have on : ∀ {b}, B b = none -> (upd B a o') b = none := fun hb => by rw [qa5 _ _ (ne hb)]; exact hb
 refine ⟨fun b ob hb => ?_, on S.o1, on S.o2, on S.o3, fun n hm => ⟨on (S.o4 n hm).1, on (S.o4 n hm).2.1, on (S.o4 n hm).2.2⟩, fun p hp => on (S.o5 p hp), m.get (ne S.o1) S.h1, m.get (ne S.o2) S.h2, S.h3.imp fun _ => m.get (ne S.o3),
   fun n hm => ⟨m.get (ne (S.o4 n hm).1) (S.h4 n hm).1, m.get (ne (S.o4 n hm).2.1) (S.h4 n hm).2.1, m.get (ne (S.o4 n hm).2.2) (S.h4 n hm).2.2⟩, fun p hp => ⟨m.get (ne (S.o5 p hp)) (S.h5 p hp).1, (S.h5 p hp).2⟩, S.d1, S.d2, S.d3⟩
 unfold upd at hb; split at hb
 . rename_i z; obtain rfl := sj0_ hb; subst z; exact e
 . rename_i z; exact m.get z (S.ext.get hb)
theorem Srt.outNe (S : Srt B H st dd n2 nds rd po nf) {a b : Addr} {o : AO} (hb : B a = none) (h : B b = some o) : b ≠ a := fun z => by rw [z, hb] at h; exact nomatch h
theorem Srt.ns (S : Srt B H st dd n2 nds rd po nf) {rd' : Option (Addr × List Str)} {po' nf' : Int} (m : Mod H dd H') (e : H' dd = some (.ns (nsOf n2 rd' po' nf'))) (hr : ∀ p, rd' = some p -> B p.1 = none ∧ H p.1 = some (.list (p.2.map V.str)) ∧ ∀ n ∈ nds, n.sa ≠ p.1) : Srt B H' st dd n2 nds rd' po' nf' := by
 refine ⟨fun b ob hb => m.get (S.outNe S.o2 hb) (S.ext.get hb), S.o1, S.o2, S.o3, S.o4, fun p hp => (hr p hp).1, m.mv S.h2 S.h1, e, S.h3.imp fun _ h => m.mv S.h2 h, fun n hm => ⟨m.mv S.h2 (S.h4 n hm).1, m.mv S.h2 (S.h4 n hm).2.1, m.mv S.h2 (S.h4 n hm).2.2⟩, fun p hp => ⟨m.mv S.h2 (hr p hp).2.1, (hr p hp).2.2⟩, S.d1, S.d2, S.d3⟩
theorem Srt.ns0 (S : Srt B H st dd n2 nds rd po nf) {po' nf' : Int} (m : Mod H dd H') (e : H' dd = some (.ns (nsOf n2 rd po' nf'))) : Srt B H' st dd n2 nds rd po' nf' :=
 S.ns m e fun p hp => ⟨S.o5 p hp, S.h5 p hp⟩
theorem Srt.rdy (S : Srt B H st dd n2 nds rd po nf) {rl : Addr} {xs xs' : List Str} (hr : rd = some (rl, xs)) (m : Mod H rl H') (e : H' rl = some (.list (xs'.map V.str))) : Srt B H' st dd n2 nds (some (rl, xs')) po nf := by
 subst hr; obtain ⟨hl, hs⟩ := S.h5 _ rfl; refine ⟨fun b ob hb => m.get (S.outNe (S.o5 _ rfl) hb) (S.ext.get hb), S.o1, S.o2, S.o3, S.o4, fun p hp => by obtain rfl := sj0_ hp; exact S.o5 (rl, xs) rfl, m.mv hl S.h1, m.mv hl S.h2, S.h3.imp fun _ h => m.mv hl h, fun n hm => ⟨m.mv hl (S.h4 n hm).1, m.mv hl (S.h4 n hm).2.1, m.get (hs n hm) (S.h4 n hm).2.2⟩, fun p hp => by obtain rfl := sj0_ hp; exact ⟨e, hs⟩, S.d1, S.d2, S.d3⟩
def qhk (nds : List Nd) (x : Str) (f : Nd -> Nd) : List Nd := nds.map fun k => if k.nm = x then f k else k
theorem qde {x : Str} {f : Nd -> Nd} {k : Nd} : k ∈ qhk nds x f ↔ ∃ k' ∈ nds, k = if k'.nm = x then f k' else k' := by
 simp [qhk, eq_comm]
theorem qb3 {β : Type} {x : Str} {f : Nd -> Nd} (g : Nd -> β) (h : ∀ k, g (f k) = g k) : (qhk nds x f).map g = nds.map g := by
 unfold qhk; rw [map_map]; refine map_congr_left fun k _ => ?_; show g (if k.nm = x then f k else k) = g k; split <;> simp [h]
theorem qd5 {α β : Type} {l : List α} {g : α -> β} (h : (l.map g).Nodup) {a b : α} (ha : a ∈ l) (hb : b ∈ l) (e : g a = g b) : a = b := by
 induction l with
 | nil => exact nomatch ha
 | cons c r ih =>
   rw [map_cons, nodup_cons] at h; rcases mem_cons.mp ha with rfl | ha' <;> rcases mem_cons.mp hb with rfl | hb'
   . rfl
   . exact absurd (mem_map_of_mem (f := g) hb') (by rw [← e]; exact h.1)
   . exact absurd (mem_map_of_mem (f := g) ha') (by rw [e]; exact h.1)
   . exact ih h.2 ha' hb'
def npF (v : Int) (k : Nd) : Nd := { k with np := v }
def suF (l : List Str) (k : Nd) : Nd := { k with su := l }
abbrev qhl (nds : List Nd) (x : Str) (v : Int) : List Nd := qhk nds x (npF v)
abbrev qk4 (nds : List Nd) (x : Str) (l : List Str) : List Nd := qhk nds x (suF l)
theorem Srt.np (S : Srt B H st dd n2 nds rd po nf) {n : Nd} (hn : n ∈ nds) {v : Int} (m : Mod H n.ia H') (e : H' n.ia = some (.slots 205 n.na [some (.str n.nm), some (.int v), some (.ref n.sa)])) : Srt B H' st dd n2 (qhl nds n.nm v) rd po nf := by
 obtain ⟨a1, a2, a3⟩ := S.h4 n hn; refine ⟨fun b ob hb => m.get (S.outNe (S.o4 n hn).1 hb) (S.ext.get hb), S.o1, S.o2, S.o3, fun k hk => ?_, S.o5, m.mv a1 S.h1, m.mv a1 S.h2, S.h3.imp fun _ h => ?_, fun k hk => ?_, fun p hp => ⟨m.mv a1 (S.h5 p hp).1, fun k hk => ?_⟩, ?_, ?_, ?_⟩
 . obtain ⟨k', hk', rfl⟩ := qde.mp hk; have := S.o4 k' hk'; split <;> exact this
 . rw [qb3 (f := npF v) _ (fun k => rfl)]; exact m.mv a1 h
 . obtain ⟨k', hk', rfl⟩ := qde.mp hk; obtain ⟨b1, b2, b3⟩ := S.h4 k' hk'; by_cases z : k'.nm = n.nm
   . obtain rfl := qd5 S.d1 hk' hn z; rw [if_pos rfl]; exact ⟨e, m.mv a1 b2, m.mv a1 b3⟩
   . rw [if_neg z]; exact ⟨m.get (fun y => z (by rw [qd5 S.d2 hk' hn y])) b1, m.mv a1 b2, m.mv a1 b3⟩
 . obtain ⟨k', hk', rfl⟩ := qde.mp hk; have := (S.h5 p hp).2 k' hk'; split <;> exact this
 . rw [qb3 (f := npF v) _ (fun k => rfl)]; exact S.d1
 . rw [qb3 (f := npF v) _ (fun k => rfl)]; exact S.d2
 . rw [qb3 (f := npF v) _ (fun k => rfl)]; exact S.d3
theorem Srt.su (S : Srt B H st dd n2 nds rd po nf) {n : Nd} (hn : n ∈ nds) {l : List Str} (m : Mod H n.sa H') (e : H' n.sa = some (.list (l.map V.str))) : Srt B H' st dd n2 (qk4 nds n.nm l) rd po nf := by
 obtain ⟨a1, a2, a3⟩ := S.h4 n hn; refine ⟨fun b ob hb => m.get (S.outNe (S.o4 n hn).2.2 hb) (S.ext.get hb), S.o1, S.o2, S.o3, fun k hk => ?_, S.o5, m.mv a3 S.h1, m.mv a3 S.h2, S.h3.imp fun _ h => ?_, fun k hk => ?_, fun p hp => ⟨m.get (fun z => (S.h5 p hp).2 n hn z.symm) (S.h5 p hp).1, fun k hk => ?_⟩, ?_, ?_, ?_⟩
 . obtain ⟨k', hk', rfl⟩ := qde.mp hk; have := S.o4 k' hk'; split <;> exact this
 . rw [qb3 (f := suF l) _ (fun k => rfl)]; exact m.mv a3 h
 . obtain ⟨k', hk', rfl⟩ := qde.mp hk; obtain ⟨b1, b2, b3⟩ := S.h4 k' hk'; by_cases z : k'.nm = n.nm
   . obtain rfl := qd5 S.d1 hk' hn z; rw [if_pos rfl]; exact ⟨m.mv a3 b1, m.mv a3 b2, e⟩
   . rw [if_neg z]; exact ⟨m.mv a3 b1, m.mv a3 b2, m.get (fun y => z (by rw [qd5 S.d3 hk' hn y])) b3⟩
 . obtain ⟨k', hk', rfl⟩ := qde.mp hk; have := (S.h5 p hp).2 k' hk'; split <;> exact this
 . rw [qb3 (f := suF l) _ (fun k => rfl)]; exact S.d1
 . rw [qb3 (f := suF l) _ (fun k => rfl)]; exact S.d2
 . rw [qb3 (f := suF l) _ (fun k => rfl)]; exact S.d3
theorem qdf : ∀ {nds : List Nd} {x : Str}, (nds.map fun n => (n.nm, V.ref n.ia)).lookup x = (nds.find? fun n => n.nm == x).map fun n => V.ref n.ia := by
 intro nds
 induction nds with
 | nil =>
   intro x; exact rfl
 | cons n r ih =>
   intro x; rw [map_cons, lookup_cons, find?_cons, ih]; rw [show (x == n.nm) = (n.nm == x) from BEq.comm]; cases n.nm == x <;> rfl
theorem qeb {x : Str} {n : Nd} (h : nds.find? (fun n => n.nm == x) = some n) : n ∈ nds ∧ n.nm = x := ⟨List.mem_of_find?_eq_some h, by simpa using List.find?_some h⟩
theorem qcm {n : Nd} (hd : (nds.map (·.nm)).Nodup) (hn : n ∈ nds) : nds.find? (fun k => k.nm == n.nm) = some n := by
 cases h : nds.find? (fun k => k.nm == n.nm) with
 | none => exact absurd (find?_eq_none.mp h n hn) (by simp)
 | some k => obtain ⟨a, b⟩ := qeb h; rw [qd5 hd a hn b]
def npOf (nds : List Nd) (y : Str) : Int := ((nds.find? fun n => n.nm == y).map (·.np)).getD 0
def suOf (nds : List Nd) (y : Str) : List Str := ((nds.find? fun n => n.nm == y).map (·.su)).getD []
abbrev nms (nds : List Nd) : List Str := nds.map (·.nm)
theorem qea {x y : Str} {f : Nd -> Nd} (hf : ∀ k, (f k).nm = k.nm) : (qhk nds x f).find? (fun n => n.nm == y) = (nds.find? fun n => n.nm == y).map fun k => if k.nm = x then f k else k := by
 unfold qhk; rw [List.find?_map]; congr 1; congr 1; funext k; show ((if k.nm = x then f k else k).nm == y) = _; split <;> simp [hf]
theorem qdg {x y : Str} {v : Int} (hx : x ∈ nms nds) : npOf (qhl nds x v) y = if y = x then v else npOf nds y := by
 unfold npOf qhl; rw [qea (f := npF v) (fun k => rfl)]; cases h : nds.find? (fun n => n.nm == y) with
 | none =>
   rw [if_neg]
   . rfl
   . rintro rfl; obtain ⟨n, hn, e⟩ := mem_map.mp hx; exact absurd (find?_eq_none.mp h n hn) (by simp [e])
 | some k =>
   obtain ⟨_, rfl⟩ := qeb h; by_cases z : k.nm = x
   . simp [z, npF, suF]
   . simp [z]
theorem qne {x y : Str} {v : Int} : suOf (qhl nds x v) y = suOf nds y := by
 unfold suOf qhl; rw [qea (f := npF v) (fun k => rfl)]; cases h : nds.find? (fun n => n.nm == y) with
 | none => rfl
 | some k => by_cases z : k.nm = x <;> simp [z, npF, suF]
theorem qm0 {x y : Str} {l : List Str} : npOf (qk4 nds x l) y = npOf nds y := by
 unfold npOf qk4; rw [qea (f := suF l) (fun k => rfl)]; cases h : nds.find? (fun n => n.nm == y) with
 | none => rfl
 | some k => by_cases z : k.nm = x <;> simp [z, npF, suF]
theorem qnf {x y : Str} {l : List Str} (hx : x ∈ nms nds) : suOf (qk4 nds x l) y = if y = x then l else suOf nds y := by
 unfold suOf qk4; rw [qea (f := suF l) (fun k => rfl)]; cases h : nds.find? (fun n => n.nm == y) with
 | none =>
   rw [if_neg]
   . rfl
   . rintro rfl; obtain ⟨n, hn, e⟩ := mem_map.mp hx; exact absurd (find?_eq_none.mp h n hn) (by simp [e])
 | some k =>
   obtain ⟨_, rfl⟩ := qeb h; by_cases z : k.nm = x
   . simp [z, npF, suF]
   . simp [z]
theorem qo6 {x : Str} {v : Int} : nms (qhl nds x v) = nms nds := qb3 (f := npF v) _ fun _ => rfl
theorem qo7 {x : Str} {l : List Str} : nms (qk4 nds x l) = nms nds := qb3 (f := suF l) _ fun _ => rfl
theorem qfn {n : Nd} (hd : (nds.map (·.nm)).Nodup) (hn : n ∈ nds) : npOf nds n.nm = n.np := by unfold npOf; rw [qcm hd hn]; rfl
theorem qk7 {n : Nd} (hd : (nds.map (·.nm)).Nodup) (hn : n ∈ nds) : suOf nds n.nm = n.su := by unfold suOf; rw [qcm hd hn]; rfl
theorem qqv {n : Nd} {y : Str} (h : n.nm ∉ nms nds) : npOf (nds ++ [n]) y = if y = n.nm then n.np else npOf nds y := by
 unfold npOf; rw [List.find?_append]; cases e : nds.find? (fun n => n.nm == y) with
 | none =>
   by_cases z : y = n.nm
   . simp [z]
   . have : (n.nm == y) = false := by simpa using fun w => z w.symm
     simp [z, this]
 | some k =>
   obtain ⟨a, rfl⟩ := qeb e; rw [if_neg fun z => h (by rw [← z]; exact mem_map_of_mem a)]; rfl
theorem qq7 {n : Nd} {y : Str} (h : n.nm ∉ nms nds) : suOf (nds ++ [n]) y = if y = n.nm then n.su else suOf nds y := by
 unfold suOf; rw [List.find?_append]; cases e : nds.find? (fun n => n.nm == y) with
 | none =>
   by_cases z : y = n.nm
   . simp [z]
   . have : (n.nm == y) = false := by simpa using fun w => z w.symm
     simp [z, this]
 | some k =>
   obtain ⟨a, rfl⟩ := qeb e; rw [if_neg fun z => h (by rw [← z]; exact mem_map_of_mem a)]; rfl
end
theorem qo9 : ∀ {c : Cx} {d : Nat} {p loose mg mb} {H : AH} {P : V -> AH -> Prop} {X : Exc -> AH -> Prop} {x : Str}
   (hprog : c.prog = rw_om0166_02.row.prog) (G : Gd (KF c.w.params) p loose mg mb c.g)
   (h : ∀ H' a dd sl, Ext H H' -> H a = none -> H dd = none -> H sl = none -> H' a = some (.slots 205 dd [some (.str x), some (.int 0), some (.ref sl)]) -> H' dd = some (.ns []) -> H' sl = some (.list []) -> P (.ref a) H'), qbg c (d + 2) (.ref 205) [.str x] [] H P X := by
 w_on; k_fill; intro c d p loose mg mb H P X x hprog G h; refine' qgq (d := d + 1) (ao := fun dd => .slots 205 dd []) (fI := 201) G ?hm ?hi ?hf (fun _ => .inr rfl) ?_
 case hm => k_is
 case hi => k_is
 case hf => k_is
 intro dd a hne hdd ha; refine qo8 (d := d) hprog G (qai _ _ _) (by rw [qa5 _ _ hne, qai]) fun H' sl n1 k1 e1 e2 => ⟨rfl, ?_⟩; have q1 : sl ≠ a := fun z => by rw [z, qai] at n1; exact nomatch n1
 have q2 : sl ≠ dd := fun z => by rw [z, qa5 _ _ hne, qai] at n1; exact nomatch n1
 refine h H' a dd sl (fun b o hb => ?_) ha hdd (by rw [qa5 _ _ q1, qa5 _ _ q2] at n1; exact n1) e1 (k1 dd _ (by rw [qa5 _ _ hne, qai]) hne) e2; have hb1 : b ≠ a := Ext.ne hb ha; exact k1 b o (by rw [qa5 _ _ hb1, qa5 _ _ (Ext.ne hb hdd)]; exact hb) hb1
theorem qfw : ∀ {c : Cx} {d : Nat} {p : Program} {loose : List Str} {mg mb : Str -> Option Value} {B H : AH} {P : V -> AH -> Prop} {X : Exc -> AH -> Prop} {st dd n2 : Addr} {nds : List Nd} {rd : Option (Addr × List Str)} {po nf : Int} {x : Str}
   (hprog : c.prog = rw_om0166_02.row.prog) (G : Gd (KF c.w.params) p loose mg mb c.g) (S : Srt B H st dd n2 nds rd po nf) (hl : nds.length ≤ 1000)
   (h : ∀ H' nds' n, Srt B H' st dd n2 nds' rd po nf -> n ∈ nds' -> n.nm = x -> (nds' = nds ∨ x ∉ nms nds ∧ ∃ n', nds' = nds ++ [n'] ∧ n'.nm = x ∧ n'.np = 0 ∧ n'.su = []) -> P (.ref n.ia) H'), qbg c (d + 3) (.ref 245) [.ref st, .str x] [] H P X := by
 w_on; k_fill; intro c d p loose mg mb B H P X st dd n2 nds rd po nf x hprog G S hl h; refine qca (d := d + 2) (binds := [(Str.ofString "self", .ref st), (Str.ofString "node", .str x)]) G (by k_is) (by k_is) (by exact bnd2 fun _ _ => rfl) (by rfl) (by decide +kernel) (by exact of_decide_eq_true rfl) ?_ (by rfl) (by rfl) (by rfl); intro A L; have s1 := S.h1; have s2 := S.h2; obtain ⟨ep, s3⟩ := S.h3; (refine qaa fun Kz hz1 hz2 hz3 hz4 => ?_; refine qft (.inl rfl) ?_; refine qcf (few := true) rfl rfl rfl (xAt rfl rfl rfl ?_); refine qam ‹_› ‹_› ‹_› (by k_is) (by k_is) (by k_is) (by k_is) rfl (by intro i h; cases h) ?_; refine qa8 (qfq ‹_›) (by decide) F.plainAttrs_dict F.slot_dict_get F.type_dict_get ⟨qab _, ?_⟩; refine xAn rfl rfl (qaf ?_); refine qet ‹_› ?_); (refine (Eq.symm qdf) ▸ ?_); cases hf : nds.find? (fun n => n.nm == x) with
 | some n =>
   obtain ⟨f1, f2⟩ := qeb hf; refine ⟨false, rfl, ?_⟩; (refine qay rfl ?_; refine qac ?_; apply_assumption; refine qaa fun Kz hz1 hz2 hz3 hz4 => ?_; refine qar (xN rfl rfl ?_); apply_assumption); exact h H nds n S f1 f2 (.inl rfl)
 | none =>
   refine ⟨true, rfl, ?_⟩; (refine qbd rfl ?_; refine qaa fun Kz hz1 hz2 hz3 hz4 => ?_; refine qfe (.inl rfl) rfl rfl ?_; refine qao rfl (qa4 ‹_› rfl (by k_is) ?_ rfl); refine ⟨_, rfl, (qap ‹_› (by k_is)), ?_⟩; refine xAn rfl rfl ?_); refine qak (qo9 hprog G fun HJ a d1 sl x1 na nd nsl e1 e2 e3 => ?_); have S1 := S.more x1; have t1 := S1.h1; have t2 := S1.h2; have t3 := x1.get s3; (refine xAt rfl rfl rfl ?_; refine qam ‹_› ‹_› ‹_› (by k_is) (by k_is) (by k_is) (by k_is) rfl (by intro i h; cases h) ?_; refine xN rfl rfl ?_); refine ⟨n2, _, ep, x, rfl, rfl, t3, by simpa using hl, fun ep' => ?_⟩; (apply_assumption; refine qac ?_; apply_assumption; refine qaa fun Kz hz1 hz2 hz3 hz4 => ?_; refine qar ?_; refine xN rfl rfl ?_; apply_assumption); have hx : x ∉ nms nds := fun hm => by
     obtain ⟨k, hk, rfl⟩ := mem_map.mp hm; exact absurd (find?_eq_none.mp hf k hk) (by simp)
   have hput : putD (nds.map fun n => (n.nm, V.ref n.ia)) x (.ref a) = (nds ++ [Nd.mk x a d1 sl 0 []]).map fun n => (n.nm, V.ref n.ia) := by
     unfold putD; rw [if_neg, map_append]
     . rfl
     . intro z; obtain ⟨k, hk, e⟩ := any_eq_true.mp z; obtain ⟨n, hn, rfl⟩ := mem_map.mp hk; exact hx (mem_map.mpr ⟨n, hn, by simpa using e⟩)
   (refine (Eq.symm hput) ▸ ?_); have mm : Mod HJ n2 (upd HJ n2 (.dict ((nds ++ [Nd.mk x a d1 sl 0 []]).map fun n => (n.nm, V.ref n.ia)) ep')) := Mod.upd _ _ _; have me := qai HJ n2 (.dict ((nds ++ [Nd.mk x a d1 sl 0 []]).map fun n => (n.nm, V.ref n.ia)) ep'); have fr : ∀ {b o}, B b = some o -> H b = some o := fun hb => S.ext.get hb; have Bn : ∀ {b}, H b = none -> B b = none := fun {b} hb => S.ext.none hb; refine h _ (nds ++ [Nd.mk x a d1 sl 0 []]) (Nd.mk x a d1 sl 0 []) ?_ (by simp) rfl (.inr ⟨hx, _, rfl, rfl, rfl, rfl⟩); refine ⟨fun b o hb => mm.get (S.outNe S.o3 hb) (S1.ext.get hb), S.o1, S.o2, S.o3, fun n hn => ?_, S.o5, mm.mv t3 t1, mm.mv t3 t2, ⟨ep', me⟩, fun n hn => ?_, fun p hp => ⟨mm.mv t3 (S1.h5 p hp).1, fun n hn => ?_⟩, ?_, ?_, ?_⟩
   . rcases mem_append.mp hn with hn | hn
     . exact S.o4 n hn
     . rw [mem_singleton.mp hn]; exact ⟨Bn na, Bn nd, Bn nsl⟩
   . rcases mem_append.mp hn with hn | hn
     . exact ⟨mm.mv t3 (S1.h4 n hn).1, mm.mv t3 (S1.h4 n hn).2.1, mm.mv t3 (S1.h4 n hn).2.2⟩
     . rw [mem_singleton.mp hn]; exact ⟨mm.mv t3 e1, mm.mv t3 e2, mm.mv t3 e3⟩
   . rcases mem_append.mp hn with hn | hn
     . exact (S.h5 p hp).2 n hn
     . rw [mem_singleton.mp hn]; exact fun z => by have := (S.h5 p hp).1; rw [← z, nsl] at this; exact nomatch this
   . rw [map_append, nodup_append]; exact ⟨S.d1, by simp, fun y hy z hz => by rw [map_singleton, mem_singleton] at hz; subst hz; exact fun w => hx (by (refine w ▸ ?_); exact hy)⟩
   . rw [map_append, nodup_append]; refine ⟨S.d2, by simp, fun y hy z hz => ?_⟩; rw [map_singleton, mem_singleton] at hz; subst hz; obtain ⟨n, hn, rfl⟩ := mem_map.mp hy; exact Ext.ne (S.h4 n hn).1 na
   . rw [map_append, nodup_append]; refine ⟨S.d3, by simp, fun y hy z hz => ?_⟩; rw [map_singleton, mem_singleton] at hz; subst hz; obtain ⟨n, hn, rfl⟩ := mem_map.mp hy; exact Ext.ne (S.h4 n hn).2.2 nsl
theorem qpa {nds : List Nd} {x : Str} (h : x ∉ nms nds) : npOf nds x = 0 := by
 unfold npOf; rw [find?_eq_none.mpr]
 . rfl
 . intro n hn z; exact h (mem_map.mpr ⟨n, hn, by simpa using z⟩)
theorem qpv {nds : List Nd} {x : Str} (h : x ∉ nms nds) : suOf nds x = [] := by
 unfold suOf; rw [find?_eq_none.mpr]
 . rfl
 . intro n hn z; exact h (mem_map.mpr ⟨n, hn, by simpa using z⟩)
theorem qsy {nds nds' : List Nd} {n : Nd} {x : Str} (hn : n ∈ nds') (hx : n.nm = x) (h : nds' = nds ∨ x ∉ nms nds ∧ ∃ n', nds' = nds ++ [n'] ∧ n'.nm = x ∧ n'.np = 0 ∧ n'.su = []) :
   (∀ z, z ∈ nms nds' ↔ z ∈ nms nds ∨ z = x) ∧ (∀ z, npOf nds' z = npOf nds z) ∧ (∀ z, suOf nds' z = suOf nds z) ∧ nds'.length ≤ nds.length + 1 := by
 rcases h with rfl | ⟨h1, n', rfl, rfl, h3, h4⟩
 . refine ⟨fun z => ⟨.inl, fun h => h.elim id fun h => ?_⟩, fun _ => rfl, fun _ => rfl, le_succ _⟩; rw [h, ← hx]; exact mem_map_of_mem hn
 . refine ⟨fun z => by simp, fun z => ?_, fun z => ?_, by simp⟩
   . rw [qqv h1]; split
     . rename_i e; rw [e, qpa h1, h3]
     . rfl
   . rw [qq7 h1]; split
     . rename_i e; rw [e, qpv h1, h4]
     . rfl
inductive qth (B : AH) (st dd n2 : Addr) (nds : List Nd) (po nf : Int) (nm : Str) (len : Nat) (dn rest : List Str) (m' : Map) (H' : AH) : Prop
 | mk (nds' : List Nd) (S : Srt B H' st dd n2 nds' none po nf) (w1 : ∀ z, z ∈ nms nds' ↔ z ∈ nms nds ∨ z = nm ∨ z ∈ dn) (w2 : nds'.length ≤ nds.length + 1 + dn.length) (w3 : ∀ z, npOf nds' z = npOf nds z + if z = nm then (len : Int) else 0) (w4 : ∀ z, suOf nds' z = suOf nds z ++ List.replicate (dn.count z) nm) (w5 : m' (Str.ofString "self") = some (.ref st)) (w6 : m' (Str.ofString "node") = some (.str nm))
theorem sadd : ∀ {c : Cx} {d : Nat} {p : Program} {loose : List Str} {mg mb : Str -> Option Value} {B H : AH} {P : V -> AH -> Prop} {X : Exc -> AH -> Prop} {st dd n2 : Addr} {nds : List Nd} {po nf : Int} {x : Str} {ys : List Str}
   (hprog : c.prog = rw_om0166_02.row.prog) (G : Gd (KF c.w.params) p loose mg mb c.g) (S : Srt B H st dd n2 nds none po nf) (hl : nds.length + ys.length < 1000) (hsu : ∀ z, (suOf nds z).length ≤ 1000)
   (h : ∀ H' nds', Srt B H' st dd n2 nds' none po nf -> (∀ z, z ∈ nms nds' ↔ z ∈ nms nds ∨ z = x ∨ z ∈ ys) -> nds'.length ≤ nds.length + 1 + ys.length -> (∀ z, npOf nds' z = npOf nds z + if z = x then (ys.length : Int) else 0) -> (∀ z, suOf nds' z = suOf nds z ++ List.replicate (ys.count z) x) -> P .none H'), qbg c (d + 4) (.ref 252) (.ref st :: .str x :: ys.map V.str) [] H P X := by
 w_on; k_fill; intro c d p loose mg mb B H P X st dd n2 nds po nf x ys hprog G S hl hsu h; refine' qob (d := d + 3) G ?ho ?hcd ?hn ?hb ?c1 ?c2 ?c3
 case ho => k_is
 case hcd => k_is
 case hn => decide +kernel
 case c1 => rfl
 case c2 => rfl
 case c3 => rfl
 intro s ws kvs R KX hv hk; obtain rfl := qa1 hk; obtain ⟨v, _, rfl, a, v', ws, rfl, b, hws⟩ := hv; have tk : TK s.heap (s.heap.push { cls := .type "tuple", data := .seq ws.toArray }) := TK.of_keeps fun _ _ e => Heap.get?_push_of_some _ e; refine ⟨[(Str.ofString "self", .ref st), (Str.ofString "node", .str x), (Str.ofString "predecessors", .tup (ys.map V.str))], H,
   [(Str.ofString "self", v), (Str.ofString "node", v'), (Str.ofString "predecessors", .ref s.heap.objs.size)], { s with heap := s.heap.push { cls := .type "tuple", data := .seq ws.toArray } }, ?_, rfl, ?_, ?_, ?_, rfl, of_decide_eq_true rfl, ?_⟩
 . intro M A E Q hq; have hlen : ws.length ≤ sizeLine := by rw [← hws.length, length_map]; exact le_trans (by lia : ys.length ≤ 1000) (by decide)
   unfold bindArgs; dsimp only; simp only [Option.isNone_some, Bool.and_false, Bool.false_eq_true, if_false]; show wpAny M A (newTuple ws >>= fun t => pure [(Str.ofString "self", v), (Str.ofString "node", v'), (Str.ofString "predecessors", t)]) Q E s; exact wpAny_bind (wpAny_newTuple (wpAny_pure hq))
 . exact ⟨v, _, rfl, a.mono tk, v', _, rfl, b.mono tk, _, _, rfl, ⟨_, ws.toArray, rfl, ⟨_, Heap.get?_push_size _ rfl, rfl, _, rfl⟩, hws.mono tk⟩, rfl⟩
 . exact R.push0 _ s.toks
 . exact Step.push0 _ _ _ _
 clear R KX a b hws tk; intro A L; have s1 := S.h1; have s2 := S.h2; (refine qaa fun Kz hz1 hz2 hz3 hz4 => ?_; refine qbv (qaq rfl (xAt rfl rfl rfl ?_)); refine qam ‹_› ‹_› ‹_› (by k_is) (by k_is) (by k_is) (by k_is) rfl (by intro i h; cases h) ?_; refine qad rfl ?_; refine qdd rfl ?_; refine ⟨_, rfl, ?_⟩; refine qay rfl ?_; refine qac ?_; apply_assumption; refine qae (.inl rfl) rfl fun Kz hz1 => ?_; refine xMn rfl rfl rfl rfl rfl ?_; refine qbe ‹_› ‹_› ‹_› (by k_is) (by k_is) (by k_is) rfl ⟨qap ‹_› (by k_is), ?_⟩; refine xAn rfl rfl (qaf ?_)); refine qak (qfw hprog G S (by lia) fun H1 nds1 n S1 n1 n2' hg => ?_); obtain ⟨g1, g2, g3, g4⟩ := qsy n1 n2' hg; obtain ⟨t1, t2, t3⟩ := S1.h4 n n1; (apply_assumption; refine qaa fun Kz hz1 hz2 hz3 hz4 => ?_; refine qeg ?_; refine xN rfl rfl ?_; refine qbr ‹_› ‹_› ‹_› (by k_is) (by k_is) (by k_is) (by k_is) (by k_is) (by k_is) rfl (by intro i h; cases h) ?_; refine qao rfl ?_; refine qax ‹_› rfl (by k_is) (by boot_by_name) (by decide) ?_ rfl; refine ⟨_, rfl, (qab _), ?_⟩; refine xAn rfl rfl ?_); refine qhq (by simp; lia) ?_; (refine qcr ?_; refine qb8 ‹_› ‹_› ‹_› (by k_is) (by k_is) (by k_is) (by k_is) (by k_is) (by decide) ?_); intro H2 m2 e2
 have S2 := S1.np n1 m2 e2; subst n2'; have v1 := qfn S1.d1 n1; (apply_assumption; refine qaa fun Kz hz1 hz2 hz3 hz4 => ?_; refine qb5 rfl (fun _ => rfl) (by show qan _ _; exact .inl rfl) ?_; refine xN rfl rfl ?_); refine ⟨_, ys.map V.str, rfl, ?_⟩; refine qcd V.str (qth B st dd n2 nds po nf n.nm ys.length) ?_ ?_ ?_
 . rintro m' H' ⟨nds', S', w1, w2, w3, w4, w5, w6⟩; refine ⟨rfl, ?_⟩; (apply_assumption; refine qac ?_); exact h H' nds' S' w1 w2 w3 w4
 . rintro dn y r m' H' hys ⟨nds', S', w1, w2, w3, w4, w5, w6⟩; refine ⟨rfl, fun K hn _ _ _ => ⟨_, rfl, ?_⟩⟩; have q1 := S'.h1; have q2 := S'.h2; have hlen := congrArg List.length hys; simp only [length_append, length_cons] at hlen; (refine qae (.inl rfl) rfl fun Kz hz1 => ?_; refine xMn rfl rfl rfl ‹_› rfl ?_; refine qbe ‹_› ‹_› ‹_› (by k_is) (by k_is) (by k_is) rfl ⟨qap ‹_› (by k_is), ?_⟩; refine xAn rfl rfl (qaf ?_)); refine qak (qfw hprog G S' (by lia) fun H3 nds3 k S3 k1 k2 hg3 => ?_); obtain ⟨f1, f2, f3, f4⟩ := qsy k1 k2 hg3; obtain ⟨u1, u2, u3⟩ := S3.h4 k k1; subst k2; have v3 := qk7 S3.d1 k1; (apply_assumption; refine qaw rfl rfl fun Kz hz1 => ?_; refine qcf (few := true) rfl rfl rfl ?_; refine xAt rfl rfl rfl ?_; refine qbr ‹_› ‹_› ‹_› (by k_is) (by k_is) (by k_is) (by k_is) (by k_is) (by k_is) rfl (by intro i h; cases h) ?_; refine qa8 (qas ‹_›) (by decide) F.plainAttrs_list F.slot_list_append F.type_list_append ⟨qab _, ?_⟩; refine xAn ‹_› rfl ?_; refine qaf ?_); refine qa2 u3 ?_ fun H4 m4 e4 => ?_
   . have z1 := w4 k.nm; have z2 := hsu k.nm; have z3 := List.count_le_length (a := k.nm) (l := dn); rw [← f3, v3] at z1; rw [length_map, z1, length_append, List.length_replicate]; lia
   have e4' : H4 k.sa = some (.list ((k.su ++ [n.nm]).map V.str)) := by rw [map_append]; exact e4
   have S4 := S3.su k1 m4 e4'; (apply_assumption; refine qac ?_); refine hn _ _ ⟨_, S4, fun z => ?_, ?_, fun z => ?_, fun z => ?_, w5, w6⟩
   . rw [qo7, f1, w1, mem_append, mem_singleton]; constructor
     . rintro ((h | h | h) | h)
       . exact .inl h
       . exact .inr (.inl h)
       . exact .inr (.inr (.inl h))
       . exact .inr (.inr (.inr h))
     . rintro (h | h | h | h)
       . exact .inl (.inl h)
       . exact .inl (.inr (.inl h))
       . exact .inl (.inr (.inr h))
       . exact .inr h
   . have : (qk4 nds3 k.nm (k.su ++ [n.nm])).length = nds3.length := by simp [qhk]
     rw [this, length_append]; simp only [length_cons, length_nil]; lia
   . rw [qm0, f2, w3]
   . rw [qnf (mem_map_of_mem k1), List.count_append, List.count_singleton]; by_cases z1 : z = k.nm
     . subst z1; rw [if_pos rfl, ← v3, f3, w4, if_pos (by simp), ← List.replicate_append_replicate]; simp
     . rw [if_neg z1, f3, w4, if_neg (by simpa using fun y => z1 y.symm)]; simp
 . refine ⟨_, S2, fun z => ?_, ?_, fun z => ?_, fun z => ?_, rfl, rfl⟩
   . rw [qo6, g1]; simp
   . have : (qhl nds1 n.nm (n.np + (ys.map V.str).length)).length = nds1.length := by simp [qhk]
     rw [this]; simpa using g4
   . rw [qdg (mem_map_of_mem n1), ← v1, g2]; split
     . rename_i e; rw [e, length_map]
     . simp; exact g2 z
   . rw [qne, g3]; simp
abbrev shp (nds : List Nd) : List Nd := nds.map (npF 0)
theorem qdh {nds : List Nd} {x : Str} {v : Int} : shp (qhl nds x v) = shp nds := qb3 (f := npF v) _ fun _ => rfl
theorem qhf {nds nds' : List Nd} (h : shp nds' = shp nds) : nms nds' = nms nds := by
 have := congrArg (List.map (·.nm)) h; rw [map_map, map_map] at this; exact this
theorem qin {nds nds' : List Nd} (h : shp nds' = shp nds) {n : Nd} (hn : n ∈ nds) : ∃ k ∈ nds', k.nm = n.nm ∧ k.ia = n.ia ∧ k.na = n.na ∧ k.sa = n.sa ∧ k.su = n.su := by
 have h1 : npF 0 n ∈ shp nds' := by rw [h]; exact mem_map_of_mem hn
 obtain ⟨k, hk, e⟩ := mem_map.mp h1; exact ⟨k, hk, (show (npF 0 k).nm = (npF 0 n).nm by rw [e]), (show (npF 0 k).ia = (npF 0 n).ia by rw [e]), (show (npF 0 k).na = (npF 0 n).na by rw [e]), (show (npF 0 k).sa = (npF 0 n).sa by rw [e]), (show (npF 0 k).su = (npF 0 n).su by rw [e])⟩
theorem qrm : ∀ {nds nds' : List Nd} (h : shp nds' = shp nds) (z : Str), suOf nds' z = suOf nds z := by
 intro nds
 induction nds with
 | nil =>
   intro nds' h z; cases nds' with
   | nil => rfl
   | cons _ _ => exact nomatch h
 | cons a r ih =>
   intro nds' h z; cases nds' with
   | nil => exact nomatch h
   | cons b r' =>
     obtain ⟨e, g⟩ := List.cons.inj h; have i := ih (nds' := r') g z; have e1 : b.nm = a.nm := show (npF 0 b).nm = (npF 0 a).nm by rw [e]
     have e2 : b.su = a.su := show (npF 0 b).su = (npF 0 a).su by rw [e]
     unfold suOf at i ⊢; rw [find?_cons, find?_cons, e1]; cases (a.nm == z)
     . exact i
     . exact e2
theorem qid {nds : List Nd} {z : Str} (h : z ∈ nms nds) : ∃ n ∈ nds, n.nm = z := mem_map.mp h
theorem get_ready : ∀ {c : Cx} {d : Nat} {p : Program} {loose : List Str} {mg mb : Str -> Option Value} {B H : AH} {P : V -> AH -> Prop} {X : Exc -> AH -> Prop} {st dd n2 rl : Addr} {nds : List Nd} {po nf : Int} {xs : List Str}
   (hprog : c.prog = rw_om0166_02.row.prog) (G : Gd (KF c.w.params) p loose mg mb c.g) (S : Srt B H st dd n2 nds (some (rl, xs)) po nf) (hx : ∀ x ∈ xs, x ∈ nms nds) (hl : xs.length ≤ 1000)
   (h : ∀ H' nds', Srt B H' st dd n2 nds' (some (rl, [])) (po + xs.length) nf -> shp nds' = shp nds -> (∀ z, npOf nds' z = if z ∈ xs then -1 else npOf nds z) -> P (.tup (xs.map V.str)) H'), qbg c (d + 1) (.ref 264) [.ref st] [] H P X := by
 w_on; k_fill; intro c d p loose mg mb B H P X st dd n2 rl nds po nf xs hprog G S hx hl h; refine qca (d := d) (binds := [(Str.ofString "self", .ref st)]) G (by k_is) (by k_is) (by exact bnd1 fun _ => rfl) (by rfl) (by decide +kernel) (by exact of_decide_eq_true rfl) ?_ (by rfl) (by rfl) (by rfl); intro A L; have s1 := S.h1; have s2 := S.h2; obtain ⟨ep, s3⟩ := S.h3; obtain ⟨s5, s6⟩ := S.h5 _ rfl; dsimp only at s5 s6; (refine qaa fun Kz hz1 hz2 hz3 hz4 => ?_; refine qbv (qaq rfl (xAt rfl rfl rfl ?_)); refine qam ‹_› ‹_› ‹_› (by k_is) (by k_is) (by k_is) (by k_is) rfl (by intro i h; cases h) ?_; refine qad rfl ?_; refine qic rfl ?_; refine ⟨_, rfl, ?_⟩; refine qay rfl ?_; refine qac ?_; apply_assumption; refine qae (.inl rfl) rfl fun Kz hz1 => ?_; refine qao rfl (qax ‹_› rfl (by k_is) (by boot_by_name) (by decide) ?_ rfl); refine ⟨_, rfl, (qbn _), ?_⟩; refine qag rfl (qah rfl (xAt rfl rfl rfl ?_)); refine qam ‹_› ‹_› ‹_› (by k_is) (by k_is) (by k_is) (by k_is) rfl (by intro i h; cases h) ?_; refine qal ?_); refine qi7 s5 (by simpa using le_trans hl (by decide)) ?_; (apply_assumption; refine qae (.inl rfl) rfl fun Kz hz1 => ?_; refine xAt rfl rfl rfl ?_; refine qam ‹_› ‹_› ‹_› (by k_is) (by k_is) (by k_is) (by k_is) rfl (by intro i h; cases h) ?_; apply_assumption; refine qaa fun Kz hz1 hz2 hz3 hz4 => ?_; refine qb5 rfl (fun _ => rfl) (by show qan _ _; exact .inl rfl) ?_; refine xN rfl rfl ?_)
 refine ⟨_, xs.map V.str, rfl, ?_⟩; refine qcd V.str (fun dn rest m' H' => ∃ nds', Srt B H' st dd n2 nds' (some (rl, xs)) po nf ∧ shp nds' = shp nds ∧ (∀ z, npOf nds' z = if z ∈ dn then -1 else npOf nds z) ∧ m' (Str.ofString "self") = some (.ref st) ∧ m' (Str.ofString "n2i") = some (.ref n2) ∧ m' (Str.ofString "result") = some (.tup (xs.map V.str))) ?_ ?_ ⟨nds, S, rfl, fun z => by simp, rfl, rfl, rfl⟩
 . rintro m' H' ⟨nds', S', w1, w2, w3, w4, w5⟩; refine ⟨rfl, ?_⟩; have q1 := S'.h1; have q2 := S'.h2; have q5 := (S'.h5 _ rfl).1; dsimp only at q5; (apply_assumption; refine qaw rfl rfl fun Kz hz1 => ?_; refine qcf (few := true) rfl rfl rfl ?_; refine xAt rfl ‹_› rfl ?_; refine qam ‹_› ‹_› ‹_› (by k_is) (by k_is) (by k_is) (by k_is) rfl (by intro i h; cases h) ?_; refine qa8 (qas ‹_›) (by decide) F.plainAttrs_list F.slot_list_clear F.type_list_clear ⟨qab _, ?_⟩; refine qav ?_; refine qaf ?_); refine qkk q5 (by simpa using le_trans hl (by decide)) fun H1 m1 e1 => ?_; have S1 := S'.rdy (xs' := []) rfl m1 e1; have t1 := S1.h1; have t2 := S1.h2; (apply_assumption; refine qaa fun Kz hz1 hz2 hz3 hz4 => ?_; refine qeg ?_; refine xN ‹_› rfl ?_; refine qam ‹_› ‹_› ‹_› (by k_is) (by k_is) (by k_is) (by k_is) rfl (by intro i h; cases h) ?_; refine qao rfl ?_; refine qax ‹_› rfl (by k_is) (by boot_by_name) (by decide) ?_ rfl; refine ⟨_, rfl, (qab _), ?_⟩; refine xAn ‹_› rfl ?_); refine qhq (by simpa using le_trans hl (by decide)) ?_; (refine qcr ?_; refine qcn ‹_› ‹_› ‹_› (by k_is) (by k_is) (by k_is) (by k_is) (nl0_ rfl) ?_); intro H2 m2 e2; rw [length_map] at e2; have S2 := S1.ns0 (po' := po + xs.length) (nf' := nf) m2 e2
   (apply_assumption; refine qaa fun Kz hz1 hz2 hz3 hz4 => ?_; refine qar ?_; refine xN ‹_› rfl ?_; apply_assumption); exact h H2 nds' S2 w1 w2
 . rintro dn y r m' H' hys ⟨nds', S', w1, w2, w3, w4, w5⟩; refine ⟨rfl, fun K hn _ _ _ => ⟨_, rfl, ?_⟩⟩; have hy : y ∈ nms nds' := by rw [qhf w1]; exact hx y (by rw [hys]; simp)
   obtain ⟨k, hk, rfl⟩ := qid hy; obtain ⟨ep', q3⟩ := S'.h3; obtain ⟨u1, u2, u3⟩ := S'.h4 k hk; (refine qaa fun Kz hz1 hz2 hz3 hz4 => ?_; refine qbw rfl rfl ?_; refine qa4 ‹_› rfl (by k_is) ?_ rfl; refine xSn rfl ‹_› rfl (xN rfl rfl ?_)); refine qb6 q3 (by rw [qdf, qcm S'.d1 hk]; rfl) ?_; (refine qb8 ‹_› ‹_› ‹_› (by k_is) (by k_is) (by k_is) (by k_is) (by k_is) (by decide) ?_); intro H1 m1 e1; have S1 := S'.np hk m1 e1; (apply_assumption; refine qac ?_); refine hn _ _ ⟨_, S1, qdh.trans w1, fun z => ?_, w3, w4, w5⟩; rw [qdg (mem_map_of_mem hk), w2]; by_cases z1 : z = k.nm
   . rw [if_pos z1, if_pos (by simp [z1])]
   . rw [if_neg z1]; by_cases z2 : z ∈ dn
     . rw [if_pos z2, if_pos (by simp [z2])]
     . rw [if_neg z2, if_neg (by simp [z1, z2])]
theorem is_active : ∀ {c : Cx} {d : Nat} {p : Program} {loose : List Str} {mg mb : Str -> Option Value} {B H : AH} {P : V -> AH -> Prop} {X : Exc -> AH -> Prop} {st dd n2 rl : Addr} {nds : List Nd} {po nf : Int} {xs : List Str}
   (hprog : c.prog = rw_om0166_02.row.prog) (G : Gd (KF c.w.params) p loose mg mb c.g) (S : Srt B H st dd n2 nds (some (rl, xs)) po nf) (hl : xs.length ≤ 1000)
   (h : P (.bool (decide (nf < po) || !xs.isEmpty)) H), qbg c (d + 1) (.ref 271) [.ref st] [] H P X := by
 w_on; k_fill; intro c d p loose mg mb B H P X st dd n2 rl nds po nf xs hprog G S hl h; refine qca (d := d) (binds := [(Str.ofString "self", .ref st)]) G (by k_is) (by k_is) (by exact bnd1 fun _ => rfl) (by rfl) (by decide +kernel) (by exact of_decide_eq_true rfl) ?_ (by rfl) (by rfl) (by rfl); intro A L; have s1 := S.h1; have s2 := S.h2; obtain ⟨s5, s6⟩ := S.h5 _ rfl; dsimp only at s5 s6; (refine qaa fun Kz hz1 hz2 hz3 hz4 => ?_; refine qbv (qaq rfl (xAt rfl rfl rfl ?_)); refine qam ‹_› ‹_› ‹_› (by k_is) (by k_is) (by k_is) (by k_is) rfl (by intro i h; cases h) ?_; refine qad rfl ?_; refine qic rfl ?_; refine ⟨_, rfl, ?_⟩; refine qay rfl ?_; refine qac ?_; apply_assumption; refine qaa fun Kz hz1 hz2 hz3 hz4 => ?_; refine qar (qfd (qef (qdi rfl (xAt rfl rfl rfl ?_)))); refine qam ‹_› ‹_› ‹_› (by k_is) (by k_is) (by k_is) (by k_is) rfl (by intro i h; cases h) ?_; refine xAt rfl rfl rfl ?_; refine qam ‹_› ‹_› ‹_› (by k_is) (by k_is) (by k_is) (by k_is) rfl (by intro i h; cases h) ?_; refine qmi ?_; refine ⟨_, rfl, ?_⟩); generalize decide (nf < po) = b at h ⊢; cases b
 . show qgn _ _ _ _ _ _ _ _ _ _ _; (refine qfc (qao rfl (qax ‹_› rfl (by k_is) (by boot_by_name) (by decide) ?_ rfl)); refine ⟨_, rfl, (qbn _), ?_⟩; refine qag rfl (qah rfl (xAt rfl rfl rfl ?_)); refine qam ‹_› ‹_› ‹_› (by k_is) (by k_is) (by k_is) (by k_is) rfl (by intro i h; cases h) ?_; refine qal ?_); refine qkj s5 (by simpa using le_trans hl (by decide)) ?_; rw [show (xs.map V.str).isEmpty = xs.isEmpty by cases xs <;> rfl]; (apply_assumption); exact h
 . (refine qbd rfl ?_; apply_assumption); exact h
def qcl (st : (Str -> Int) × List Str) (s : Str) : (Str -> Int) × List Str := (fun z => if z = s then st.1 s - 1 else st.1 z, if st.1 s - 1 = 0 then st.2 ++ [s] else st.2)
def dOne (su : Str -> List Str) (st : (Str -> Int) × List Str) (t : Str) : (Str -> Int) × List Str := (su t).foldl qcl (fun z => if z = t then -2 else st.1 z, st.2)
def dAll (su : Str -> List Str) (st : (Str -> Int) × List Str) (ts : List Str) : (Str -> Int) × List Str := ts.foldl (dOne su) st
theorem qn8 (st : (Str -> Int) × List Str) (s : Str) : (qcl st s).2.length ≤ st.2.length + 1 := by
 unfold qcl; dsimp only; split <;> simp
theorem qgx : ∀ (l : List Str) (st : (Str -> Int) × List Str), (l.foldl qcl st).2.length ≤ st.2.length + l.length
 | [], st => le_refl _
 | s :: l, st => by
   have h1 := qgx l (qcl st s); have h2 := qn8 st s; rw [List.foldl_cons, length_cons]; lia
theorem qtp : ∀ {c : Cx} {d : Nat} {p : Program} {loose : List Str} {mg mb : Str -> Option Value} {B H : AH} {P : V -> AH -> Prop} {X : Exc -> AH -> Prop} {st dd n2 rl : Addr} {nds : List Nd} {po nf : Int} {xs ts : List Str}
   (hprog : c.prog = rw_om0166_02.row.prog) (G : Gd (KF c.w.params) p loose mg mb c.g) (S : Srt B H st dd n2 nds (some (rl, xs)) po nf) (ht : ∀ t ∈ ts, t ∈ nms nds ∧ (suOf nds t).length ≤ 1000 ∧ ∀ s ∈ suOf nds t, s ∈ nms nds) (hx : xs.length ≤ 1000) (htl : ts.length ≤ 20)
   (hok : ∀ dn t r, ts = dn ++ t :: r -> (dAll (suOf nds) (npOf nds, xs) dn).1 t = -1)
   (h : ∀ H' nds', Srt B H' st dd n2 nds' (some (rl, (dAll (suOf nds) (npOf nds, xs) ts).2)) po (nf + ts.length) -> shp nds' = shp nds -> (∀ z, npOf nds' z = (dAll (suOf nds) (npOf nds, xs) ts).1 z) -> P .none H'), qbg c (d + 1) (.ref 285) (.ref st :: ts.map V.str) [] H P X := by
 w_on; k_fill; intro c d p loose mg mb B H P X st dd n2 rl nds po nf xs ts hprog G S ht hx htl hok h; refine' qob (d := d) G ?ho ?hcd ?hn ?hb ?c1 ?c2 ?c3
 case ho => k_is
 case hcd => k_is
 case hn => decide +kernel
 case c1 => rfl
 case c2 => rfl
 case c3 => rfl
 intro s ws kvs R KX hv hk; obtain rfl := qa1 hk; obtain ⟨v, ws, rfl, a, hws⟩ := hv; have tk : TK s.heap (s.heap.push { cls := .type "tuple", data := .seq ws.toArray }) := TK.of_keeps fun _ _ e => Heap.get?_push_of_some _ e; refine ⟨[(Str.ofString "self", .ref st), (Str.ofString "nodes", .tup (ts.map V.str))], H,
   [(Str.ofString "self", v), (Str.ofString "nodes", .ref s.heap.objs.size)], { s with heap := s.heap.push { cls := .type "tuple", data := .seq ws.toArray } }, ?_, rfl, ?_, ?_, ?_, rfl, of_decide_eq_true rfl, ?_⟩
 . intro M A E Q hq; have hlen : ws.length ≤ sizeLine := by rw [← hws.length, length_map]; exact le_trans (le_trans ‹_› (nl0_ rfl) : ts.length ≤ 1000) (by decide)
   unfold bindArgs; dsimp only; simp only [Option.isNone_some, Bool.and_false, Bool.false_eq_true, if_false]; show wpAny M A (newTuple ws >>= fun t => pure [(Str.ofString "self", v), (Str.ofString "nodes", t)]) Q E s; exact wpAny_bind (wpAny_newTuple (wpAny_pure hq))
 . exact ⟨v, _, rfl, a.mono tk, _, _, rfl, ⟨_, ws.toArray, rfl, ⟨_, Heap.get?_push_size _ rfl, rfl, _, rfl⟩, hws.mono tk⟩, rfl⟩
 . exact R.push0 _ s.toks
 . exact Step.push0 _ _ _ _
 clear R KX a hws tk; intro A L; have s1 := S.h1; have s2 := S.h2; (refine qaa fun Kz hz1 hz2 hz3 hz4 => ?_; refine qbv (qaq rfl (xAt rfl rfl rfl ?_)); refine qam ‹_› ‹_› ‹_› (by k_is) (by k_is) (by k_is) (by k_is) rfl (by intro i h; cases h) ?_; refine qad rfl ?_; refine qic rfl ?_; refine ⟨_, rfl, ?_⟩; refine qay rfl ?_; refine qac ?_; apply_assumption; refine qae (.inl rfl) rfl fun Kz hz1 => ?_; refine xAt rfl rfl rfl ?_; refine qam ‹_› ‹_› ‹_› (by k_is) (by k_is) (by k_is) (by k_is) rfl (by intro i h; cases h) ?_; apply_assumption; refine qaa fun Kz hz1 hz2 hz3 hz4 => ?_; refine qb5 rfl (fun _ => rfl) (by show qan _ _; exact .inl rfl) ?_; refine xN rfl rfl ?_); refine ⟨_, ts.map V.str, rfl, ?_⟩; refine qcd V.str (fun dn rest m' H' => ∃ nds', Srt B H' st dd n2 nds' (some (rl, (dAll (suOf nds) (npOf nds, xs) dn).2)) po (nf + dn.length) ∧ shp nds' = shp nds ∧ (∀ z, npOf nds' z = (dAll (suOf nds) (npOf nds, xs) dn).1 z) ∧ (dAll (suOf nds) (npOf nds, xs) dn).2.length ≤ 1000 + 1000 * dn.length ∧ m' (Str.ofString "self") = some (.ref st) ∧ m' (Str.ofString "n2i") = some (.ref n2)) ?_ ?_ ⟨nds, by simpa [dAll] using S, rfl, fun z => rfl, by simpa [dAll] using hx, rfl, rfl⟩
 . rintro m' H' ⟨nds', S', w1, w2, w3, w4, w5⟩; refine ⟨rfl, ?_⟩; (apply_assumption; refine qac ?_); exact h H' nds' S' w1 w2
 . rintro dn t r m' H' hts ⟨nds', S', w1, w2, w3, w4, w5⟩; refine ⟨rfl, fun K hn _ _ _ => ⟨_, rfl, ?_⟩⟩; obtain ⟨t1, t2, t3⟩ := ht t (by (refine (Eq.symm hts) ▸ ?_); simp); have hdl : dn.length < 20 := by have := congrArg List.length hts; simp only [length_append, length_cons] at this; lia
   have hy : t ∈ nms nds' := by rw [qhf w1]; exact t1
   obtain ⟨k, hk, rfl⟩ := qid hy; obtain ⟨ep', q3⟩ := S'.h3; have q1 := S'.h1; have q2 := S'.h2; obtain ⟨u1, u2, u3⟩ := S'.h4 k hk; have hnp : k.np = -1 := by rw [← qfn S'.d1 hk, w2]; exact hok dn k.nm r hts
   have hsu : k.su = suOf nds k.nm := by rw [← qk7 S'.d1 hk, qrm w1]
   (refine qaa fun Kz hz1 hz2 hz3 hz4 => ?_; refine qft (.inl rfl) ?_; refine xMn rfl rfl rfl ‹_› rfl ?_; refine qa8 (qfq ‹_›) (by decide) F.plainAttrs_dict F.slot_dict_get F.type_dict_get ⟨qab _, ?_⟩; refine xAn rfl rfl (qaf ?_); refine qet ‹_› ?_); rw [qdf, qcm S'.d1 hk, Option.map_some, Option.getD_some]; refine ⟨false, rfl, ?_⟩; (refine qay rfl ?_; refine qac ?_; apply_assumption; refine qae (.inl rfl) rfl fun Kz hz1 => ?_; refine xAt rfl rfl rfl ?_; refine qbr ‹_› ‹_› ‹_› (by k_is) (by k_is) (by k_is) (by k_is) (by k_is) (by k_is) rfl (by intro i h; cases h) ?_; apply_assumption; refine qaa fun Kz hz1 hz2 hz3 hz4 => ?_; refine qbv (xCn rfl rfl rfl (qa4 ‹_› rfl (by k_is) ?_ rfl)); refine qfi ?_; refine ⟨_, rfl, ?_⟩); (refine (Eq.symm hnp) ▸ ?_); (refine qay rfl ?_; refine qac ?_; apply_assumption; refine qaa fun Kz hz1 hz2 hz3 hz4 => ?_; refine qbw rfl rfl ?_; refine qa4 ‹_› rfl (by k_is) ?_ rfl; refine xN rfl rfl ?_; refine qb8 ‹_› ‹_› ‹_› (by k_is) (by k_is) (by k_is) (by k_is) (by k_is) (by decide) ?_); intro H1 m1 e1; have S1 := S'.np hk m1 e1; obtain ⟨k1, k1m, k1n, k1i, k1a, k1s, k1u⟩ := qin (qdh (nds := nds') (x := k.nm) (v := -2)) hk; obtain ⟨x1, x2, x3⟩ := S1.h4 k1 k1m
   rw [k1i, k1a, k1s, k1n] at x1; rw [k1s, k1u] at x3; rw [k1a] at x2; (apply_assumption; refine qaa fun Kz hz1 hz2 hz3 hz4 => ?_; refine qb5 rfl (fun _ => rfl) (by show qan _ _; exact .inl rfl) ?_; refine xAt rfl rfl rfl ?_; refine qbr ‹_› ‹_› ‹_› (by k_is) (by k_is) (by k_is) (by k_is) (by k_is) (by k_is) rfl (by intro i h; cases h) ?_); refine ⟨.list k.sa, k.su.map V.str, (qb1 x3), ?_⟩; have hfold : ∀ z, npOf (qhl nds' k.nm (-2)) z = if z = k.nm then -2 else (dAll (suOf nds) (npOf nds, xs) dn).1 z := fun z => by
     rw [qdg (mem_map_of_mem hk), w2]
   have hd1 : dAll (suOf nds) (npOf nds, xs) (dn ++ [k.nm]) = k.su.foldl qcl (fun z => if z = k.nm then -2 else (dAll (suOf nds) (npOf nds, xs) dn).1 z, (dAll (suOf nds) (npOf nds, xs) dn).2) := by
     unfold dAll; rw [List.foldl_append, hsu]; rfl
   generalize hst0 : dAll (suOf nds) (npOf nds, xs) dn = st0 at hd1 hfold w2 w3 S' S1; refine qcd V.str (fun dn2 rest m' H' => ∃ nds2, Srt B H' st dd n2 nds2 (some (rl, (dn2.foldl qcl (fun z => if z = k.nm then -2 else st0.1 z, st0.2)).2)) po (nf + dn.length) ∧ shp nds2 = shp nds ∧ (∀ z, npOf nds2 z = (dn2.foldl qcl (fun z => if z = k.nm then -2 else st0.1 z, st0.2)).1 z) ∧ m' (Str.ofString "self") = some (.ref st) ∧ m' (Str.ofString "n2i") = some (.ref n2)) ?_ ?_ ⟨_, S1, qdh.trans w1, hfold, w4, w5⟩
   . rintro m2 H2 ⟨nds2, S2, y1, y2, y3, y4⟩; obtain ⟨k2, k2m, k2n, k2i, k2a, k2s, k2u⟩ := qin (y1.trans w1.symm) hk; have x3' := (S2.h4 k2 k2m).2.2; rw [k2s, k2u] at x3'; refine ⟨(qbm x3'), ?_⟩; have z1 := S2.h1; have z2 := S2.h2; rw [← hd1] at S2 y2 z2; (apply_assumption; refine qaa fun Kz hz1 hz2 hz3 hz4 => ?_; refine qeg ?_; refine xN ‹_› rfl ?_; refine qam ‹_› ‹_› ‹_› (by k_is) (by k_is) (by k_is) (by k_is) rfl (by intro i h; cases h) ?_; refine qad rfl ?_; refine qcr ?_; refine qcn ‹_› ‹_› ‹_› (by k_is) (by k_is) (by k_is) (by k_is) (nl0_ rfl) ?_); intro H3 m3 e3; have S3 := S2.ns0 (po' := po) (nf' := nf + dn.length + 1) m3 e3; (apply_assumption; refine qac ?_); refine hn _ _ ⟨nds2, ?_, y1, y2, ?_, y3, y4⟩
     . rw [length_append, length_singleton, Int.natCast_add, ← Int.add_assoc]; exact S3
     . rw [hd1, length_append, length_singleton]; have l1 := qgx k.su (fun z => if z = k.nm then -2 else st0.1 z, st0.2); have l2 : k.su.length ≤ 1000 := by (refine (Eq.symm hsu) ▸ ?_); exact t2
       dsimp only at l1 w3; lia
   . rintro dn2 y r2 m2 H2 hsu2 ⟨nds2, S2, y1, y2, y3, y4⟩; obtain ⟨k2, k2m, k2n, k2i, k2a, k2s, k2u⟩ := qin (y1.trans w1.symm) hk; have x3' := (S2.h4 k2 k2m).2.2; rw [k2s, k2u] at x3'; refine ⟨(qbm x3'), fun K2 hn2 hc2 _ _ => ⟨_, rfl, ?_⟩⟩; have hyn : y ∈ nms nds2 := by rw [qhf y1]; exact t3 y (by (refine hsu ▸ ?_; refine (Eq.symm hsu2) ▸ ?_); simp)
     obtain ⟨j, hj, rfl⟩ := qid hyn; obtain ⟨ep2, z3⟩ := S2.h3; obtain ⟨v1, v2, v3⟩ := S2.h4 j hj; have hjn : j.np = (dn2.foldl qcl (fun z => if z = k.nm then -2 else st0.1 z, st0.2)).1 j.nm := by rw [← qfn S2.d1 hj, y2]
     have hlen2 : (dn2.foldl qcl (fun z => if z = k.nm then -2 else st0.1 z, st0.2)).2.length ≤ 100000 := by
       have l1 := qgx dn2 (fun z => if z = k.nm then -2 else st0.1 z, st0.2); have l2 : k.su.length ≤ 1000 := by (refine (Eq.symm hsu) ▸ ?_); exact t2
       have l3 := congrArg List.length hsu2; simp only [length_append, length_cons] at l3; dsimp only at l1 w3; lia
     have hstep : (dn2 ++ [j.nm]).foldl qcl (fun z => if z = k.nm then -2 else st0.1 z, st0.2) = qcl (dn2.foldl qcl (fun z => if z = k.nm then -2 else st0.1 z, st0.2)) j.nm := by
       rw [List.foldl_append]; rfl
     generalize dn2.foldl qcl (fun z => if z = k.nm then -2 else st0.1 z, st0.2) = st2 at S2 y2 hjn hlen2 hstep; (refine qae (.inl rfl) rfl fun Kz hz1 => ?_; refine xSn rfl ‹_› rfl (xN rfl rfl ?_)); refine qb6 z3 (by rw [qdf, qcm S2.d1 hj]; rfl) ?_; (apply_assumption; refine qaa fun Kz hz1 hz2 hz3 hz4 => ?_; refine qeg ?_; refine xN rfl rfl ?_; refine qbr ‹_› ‹_› ‹_› (by k_is) (by k_is) (by k_is) (by k_is) (by k_is) (by k_is) rfl (by intro i h; cases h) ?_; refine qad rfl ?_; refine qoq ?_; refine qb8 ‹_› ‹_› ‹_› (by k_is) (by k_is) (by k_is) (by k_is) (by k_is) (by decide) ?_); intro H3 m3 e3; have S3 := S2.np hj m3 e3; obtain ⟨j1, j1m, j1n, j1i, j1a, j1s, j1u⟩ := qin (qdh (nds := nds2) (x := j.nm) (v := j.np - 1)) hj; obtain ⟨x1', x2', _⟩ := S3.h4 j1 j1m; rw [j1i, j1a, j1s, j1n] at x1'; rw [j1a] at x2'; have hj1 : j1.np = j.np - 1 := by
       have := qfn S3.d1 j1m; rw [j1n, qdg (mem_map_of_mem hj), if_pos rfl] at this; exact this.symm
     rw [hj1] at x1'; have nps : ∀ z, npOf (qhl nds2 j.nm (j.np - 1)) z = (qcl st2 j.nm).1 z := fun z => by
       rw [qdg (mem_map_of_mem hj), y2, hjn]; rfl
     have t1' := S3.h1; have t2' := S3.h2; have t5' := (S3.h5 _ rfl).1; dsimp only at t5'; (apply_assumption; refine qaa fun Kz hz1 hz2 hz3 hz4 => ?_; refine qbv ?_; refine qaq rfl ?_; refine xAt rfl rfl rfl ?_; refine qbr ‹_› ‹_› ‹_› (by k_is) (by k_is) (by k_is) (by k_is) (by k_is) (by k_is) rfl (by intro i h; cases h) ?_; refine qad rfl ?_; refine qd9 ?_; refine ⟨_, rfl, ?_⟩); cases hz : (j.np - 1 == 0)
     . (refine qay rfl ?_; refine qac ?_; apply_assumption; refine qac ?_); refine hn2 _ _ ⟨_, ?_, qdh.trans y1, fun z => by rw [nps, hstep], y3, y4⟩; (refine (Eq.symm hstep) ▸ ?_); have : (qcl st2 j.nm).2 = st2.2 := by unfold qcl; dsimp only; rw [if_neg]; (refine hjn ▸ ?_); simpa using hz
       (refine (Eq.symm this) ▸ ?_); exact S3
     . (refine qbd rfl ?_; refine qaw rfl rfl fun Kz hz1 => ?_; refine qcf (few := true) rfl rfl rfl (xAt rfl ‹_› rfl ?_); refine qam ‹_› ‹_› ‹_› (by k_is) (by k_is) (by k_is) (by k_is) rfl (by intro i h; cases h) ?_; refine qa8 (qas ‹_›) (by decide) F.plainAttrs_list F.slot_list_append F.type_list_append ⟨qab _, ?_⟩; refine xAn rfl rfl (qaf ?_)); refine qa2 t5' (by simpa using hlen2) fun H4 m4 e4 => ?_; have S4 := S3.rdy (xs' := st2.2 ++ [j.nm]) rfl m4 (by rw [map_append]; exact e4); (apply_assumption; refine qac ?_; apply_assumption; refine qac ?_); refine hn2 _ _ ⟨_, ?_, qdh.trans y1, fun z => by rw [nps, hstep], y3, y4⟩; (refine (Eq.symm hstep) ▸ ?_); have : (qcl st2 j.nm).2 = st2.2 ++ [j.nm] := by unfold qcl; dsimp only; rw [if_pos]; (refine hjn ▸ ?_); simpa using hz
       (refine (Eq.symm this) ▸ ?_); exact S4
structure Fm where
 nm : Str
 nx : Addr
 it : Addr
 sa : Addr
 ix : Nat
def Edge (su : Str -> List Str) (y x : Str) : Prop := y ∈ su x
def qh1 (su : Str -> List Str) (f : Fm) : Prop := ∀ j, j < f.ix -> ∀ y, (su f.nm)[j]? = some y -> Acc (Edge su) y
def TAt (su : Str -> List Str) (x : Str) (f : Fm) : Prop := ∃ i, f.ix = i + 1 ∧ (su f.nm)[i]? = some x ∧ ∀ j, j < i -> ∀ y, (su f.nm)[j]? = some y -> Acc (Edge su) y
structure Gr (su : Str -> List Str) (nm0 : List Str) (fr : List Fm) (seen : List Str) (T : Fm -> Prop) : Prop where
 g1 : ∀ f ∈ fr, f.nm ∈ seen
 g2 : ∀ x ∈ seen, x ∈ nm0
 g3 : ∀ x ∈ seen, (∀ f ∈ fr, f.nm ≠ x) -> Acc (Edge su) x
 g4 : ∀ l f g r, fr = l ++ f :: g :: r -> TAt su g.nm f
 g5 : ∀ l f, fr = l ++ [f] -> T f
section
variable {su : Str -> List Str} {nm0 : List Str} {fr : List Fm} {seen : List Str}
theorem Gr.start (su : Str -> List Str) (nm0 : List Str) (T : Fm -> Prop) : Gr su nm0 [] [] T := ⟨(fun _ h => nomatch h), (fun _ h => nomatch h), (fun _ h => nomatch h), (fun l f g r h => by simp at h), (fun l f h => by simp at h)⟩
theorem Gr.empty {T T' : Fm -> Prop} (G : Gr su nm0 [] seen T) : Gr su nm0 [] seen T' := ⟨G.g1, G.g2, G.g3, G.g4, fun l f h => by simp at h⟩
theorem TAt.done {x : Str} {f : Fm} (h : TAt su x f) (hx : Acc (Edge su) x) : qh1 su f := by
 obtain ⟨i, e, hi, hj⟩ := h; intro j hlt y hy; by_cases z : j = i
 . subst z; rw [hi] at hy; obtain rfl := sj0_ hy; exact hx
 . exact hj j (by lia) y hy
theorem Gr.old {x : Str} (G : Gr su nm0 fr seen (TAt su x)) (hs : x ∈ seen) (hn : ∀ f ∈ fr, f.nm ≠ x) : Gr su nm0 fr seen (qh1 su) :=
 ⟨G.g1, G.g2, G.g3, G.g4, fun l f h => (G.g5 l f h).done (G.g3 x hs hn)⟩
theorem Gr.push {x : Str} (G : Gr su nm0 fr seen (TAt su x)) (hs : x ∉ seen) (h0 : x ∈ nm0) {f : Fm} (hf : f.nm = x) (hix : f.ix = 0) : Gr su nm0 (fr ++ [f]) (seen ++ [x]) (qh1 su) := by
 refine ⟨fun g hg => ?_, fun y hy => ?_, fun y hy hn => ?_, fun l g k r h => ?_, fun l g h => ?_⟩
 . rcases mem_append.mp hg with hg | hg
   . exact mem_append_left _ (G.g1 g hg)
   . rw [mem_singleton.mp hg, hf]; simp
 . rcases mem_append.mp hy with hy | hy
   . exact G.g2 y hy
   . rw [mem_singleton.mp hy]; exact h0
 . rcases mem_append.mp hy with hy | hy
   . exact G.g3 y hy fun g hg => hn g (mem_append_left _ hg)
   . rw [mem_singleton.mp hy] at hn; exact absurd hf (hn f (mem_append_right _ mem_cons_self))
 . rcases List.eq_nil_or_concat r with rfl | ⟨r', z, rfl⟩
   . have h2 : fr ++ [f] = (l ++ [g]) ++ [k] := by rw [h]; simp
     obtain ⟨e1, e2⟩ := append_inj' h2 rfl; cases e2; rw [hf]; exact G.g5 l g e1
   . have h2 : fr ++ [f] = (l ++ g :: k :: r') ++ [z] := by rw [h]; simp
     obtain ⟨e1, e2⟩ := append_inj' h2 rfl; exact G.g4 l g k r' e1
 . obtain ⟨e1, e2⟩ := append_inj' h rfl; cases e2; intro j hj; rw [hix] at hj; cases hj
theorem Gr.next {f f' : Fm} {y : Str} (G : Gr su nm0 (fr ++ [f]) seen (qh1 su)) (hy : (su f.nm)[f.ix]? = some y) (hn : f'.nm = f.nm) (hi : f'.ix = f.ix + 1) : Gr su nm0 (fr ++ [f']) seen (TAt su y) := by
 refine ⟨fun g hg => ?_, G.g2, fun x hx hne => ?_, fun l g k r h => ?_, fun l g h => ?_⟩
 . rcases mem_append.mp hg with hg | hg
   . exact G.g1 g (mem_append_left _ hg)
   . rw [mem_singleton.mp hg, hn]; exact G.g1 f (mem_append_right _ mem_cons_self)
 . refine G.g3 x hx fun g hg => ?_; rcases mem_append.mp hg with hg | hg
   . exact hne g (mem_append_left _ hg)
   . rw [mem_singleton.mp hg, ← hn]; exact hne f' (mem_append_right _ mem_cons_self)
 . rcases List.eq_nil_or_concat r with rfl | ⟨r', z, rfl⟩
   . have h2 : fr ++ [f'] = (l ++ [g]) ++ [k] := by rw [h]; simp
     obtain ⟨e1, e2⟩ := append_inj' h2 rfl; cases e2; rw [hn]; exact G.g4 l g f [] (by rw [e1]; simp)
   . have h2 : fr ++ [f'] = (l ++ g :: k :: r') ++ [z] := by rw [h]; simp
     obtain ⟨e1, e2⟩ := append_inj' h2 rfl; exact G.g4 l g k (r' ++ [f]) (by rw [e1]; simp)
 . obtain ⟨e1, e2⟩ := append_inj' h rfl; cases e2; refine ⟨f.ix, hi, by rw [hn]; exact hy, fun j hj z hz => ?_⟩; rw [hn] at hz; exact G.g5 fr f rfl j hj z hz
theorem Gr.pop {f : Fm} (G : Gr su nm0 (fr ++ [f]) seen (qh1 su)) (hy : (su f.nm)[f.ix]? = none) (hd : ∀ g ∈ fr, g.nm ≠ f.nm) : Gr su nm0 fr seen (qh1 su) := by
 have hacc : Acc (Edge su) f.nm := by
   refine Acc.intro _ fun y hy' => ?_; obtain ⟨j, hj, e⟩ := List.mem_iff_getElem.mp (show y ∈ su f.nm from hy'); have hlen := List.getElem?_eq_none_iff.mp hy; exact G.g5 fr f rfl j (by lia) y (by rw [getElem?_eq_getElem hj, e])
 refine ⟨fun g hg => G.g1 g (mem_append_left _ hg), G.g2, fun x hx hn => ?_, fun l g k r h => G.g4 l g k (r ++ [f]) (by rw [h]; simp), fun l g h => ?_⟩
 . by_cases z : f.nm = x
   . rw [← z]; exact hacc
   . refine G.g3 x hx fun g hg => ?_; rcases mem_append.mp hg with hg | hg
     . exact hn g hg
     . rw [mem_singleton.mp hg]; exact z
 . exact (G.g4 l g f [] (by rw [h]; simp)).done hacc
theorem qj3 {α : Type} {r : α -> α -> Prop} {C : α -> Prop} (hC : ∀ x, C x -> ∃ y, C y ∧ r y x) : ∀ {x : α}, Acc r x -> ¬ C x := by
 intro x h
 induction h with
 | intro x _ ih => intro hx; obtain ⟨y, hy, hr⟩ := hC x hx; exact ih y hr hy
theorem Gr.ring {x : Str} (G : Gr su nm0 fr seen (TAt su x)) {f : Fm} (hf : f ∈ fr) (hx : f.nm = x) : ¬ Acc (Edge su) x := by
 obtain ⟨l, r, hfr⟩ := List.append_of_mem hf; refine fun h => qj3 (r := Edge su) (C := fun z => ∃ g ∈ f :: r, g.nm = z) ?_ h ⟨f, by exact mem_cons_self, hx⟩; rintro z ⟨g, hg, rfl⟩; obtain ⟨l1, r1, h1⟩ := List.append_of_mem hg; cases r1 with
 | nil =>
   obtain ⟨i, _, hi, _⟩ := G.g5 (l ++ l1) g (by rw [hfr, h1]; simp); exact ⟨x, ⟨f, by exact mem_cons_self, hx⟩, mem_of_getElem? hi⟩
 | cons k r2 =>
   obtain ⟨i, _, hi, _⟩ := G.g4 (l ++ l1) g k r2 (by rw [hfr, h1]; simp); exact ⟨k.nm, ⟨k, by rw [h1]; simp, rfl⟩, mem_of_getElem? hi⟩
def left (nm0 seen : List Str) : Nat := (nm0.filter fun x => !seen.contains x).length
def room (su : Str -> List Str) (fr : List Fm) : Nat := (fr.map fun f => (su f.nm).length - f.ix).sum
theorem qou {x : Str} (h0 : x ∈ nm0) (hs : x ∉ seen) : left nm0 (seen ++ [x]) < left nm0 seen := by
 unfold left; rw [← List.countP_eq_length_filter, ← List.countP_eq_length_filter]
 induction nm0 with
 | nil => exact nomatch h0
 | cons a r ih =>
   have mono : ∀ l : List Str, l.countP (fun x_1 => !(seen ++ [x]).contains x_1) ≤ l.countP fun x => !seen.contains x := fun l =>
     List.countP_mono_left fun y _ hy => by simp at hy ⊢; exact hy.1
   rw [List.countP_cons, List.countP_cons]; by_cases z : a = x
   . subst z; have := mono r; simp [hs]; exact Nat.lt_succ_of_le (by simpa using this)
   . have h0' : x ∈ r := (mem_cons.mp h0).resolve_left fun w => z w.symm; have i := ih h0'; have : (!(seen ++ [x]).contains a) = (!seen.contains a) := by simp [z]
     rw [this]; lia
theorem qeo (l r : List Fm) : room su (l ++ r) = room su l + room su r := by unfold room; simp
end
theorem qen : isSubtype (.type "StopIteration") (.type "BaseException") = pure true := by rw [isSubtype_type]; kernel_rfl
theorem qdv : isSubtype (.type ((Manifest.find? "StopIteration").elim "type" fun x => x.metatype)) (.type "tuple") = pure false := by
 have e : ((Manifest.find? "StopIteration").elim "type" fun x => x.metatype) = "type" := by first | rfl | decide +kernel | kernel_rfl
 rw [e, isSubtype_type]; kernel_rfl
theorem qfp {H : AH} {a : Addr} {vs : List V} (h : H a = some (.list vs)) (hl : vs.length ≤ 100000) : qe8 H (.ref a) = some (!vs.isEmpty) := by
 simp only [qe8, h]; rw [if_pos (lt_of_le_of_lt hl (by decide))]
inductive SrtN (B H' : AH) (st dd n2 : Addr) (nds : List Nd) (rd : Option (Addr × List Str)) (po nf : Int) (a : Addr) (o : AO) : Prop
 | mk (B1 : AH) (x : Ext B B1) (n : B a = none) (e : B1 a = some o) (S : Srt B1 H' st dd n2 nds rd po nf)
inductive SrtO (B H' : AH) (st dd n2 : Addr) (nds : List Nd) (rd : Option (Addr × List Str)) (po nf : Int) (a : Addr) (o : Option AO) : Prop
 | mk (B1 : AH) (m : Mod B a B1) (e : B1 a = o) (S : Srt B1 H' st dd n2 nds rd po nf)
section
variable {B H H' : AH} {st dd n2 : Addr} {nds : List Nd} {rd : Option (Addr × List Str)} {po nf : Int}
theorem Srt.weak {B' : AH} (S : Srt B' H st dd n2 nds rd po nf) (x : Ext B B') : Srt B H st dd n2 nds rd po nf :=
 ⟨x.trans S.ext, x.none S.o1, x.none S.o2, x.none S.o3, fun n hn => ⟨x.none (S.o4 n hn).1, x.none (S.o4 n hn).2.1, x.none (S.o4 n hn).2.2⟩, fun p hp => x.none (S.o5 p hp), S.h1, S.h2, S.h3, S.h4, S.h5, S.d1, S.d2, S.d3⟩
theorem Srt.base' (S : Srt B H st dd n2 nds rd po nf) {a : Addr} {o : AO} (x : Ext H H') (hn : H a = none) (e : H' a = some o) : SrtN B H' st dd n2 nds rd po nf a o :=
 ⟨_, Ext.fresh (S.ext.none hn), S.ext.none hn, qai _ _ _, S.base x hn e⟩
theorem Srt.out' (S : Srt B H st dd n2 nds rd po nf) {a : Addr} {o o' : AO} (ha : B a = some o) (m : Mod H a H') (e : H' a = some o') : SrtO B H' st dd n2 nds rd po nf a (some o') :=
 ⟨_, Mod.upd _ _ _, qai _ _ _, S.out ha m e⟩
theorem Srt.drop' (S : Srt B H st dd n2 nds rd po nf) {a : Addr} {o : AO} (ha : B a = some o) (m : Mod H a H') : SrtO B H' st dd n2 nds rd po nf a none := by
 have ne : ∀ {b}, B b = none -> b ≠ a := fun hb z => by rw [z, ha] at hb; exact nomatch hb
 have on : ∀ {b}, B b = none -> (fun b => if b = a then none else B b : AH) b = none := fun {b} hb => by show (if b = a then none else B b) = none; (refine (Eq.symm hb) ▸ ?_); split <;> rfl
 refine ⟨fun b => if b = a then none else B b, fun b hb => if_neg hb, if_pos rfl, ⟨fun b ob hb => ?_, on S.o1, on S.o2, on S.o3, fun n hm => ⟨on (S.o4 n hm).1, on (S.o4 n hm).2.1, on (S.o4 n hm).2.2⟩, fun p hp => on (S.o5 p hp), m.get (ne S.o1) S.h1, m.get (ne S.o2) S.h2, S.h3.imp fun _ => m.get (ne S.o3),
   fun n hm => ⟨m.get (ne (S.o4 n hm).1) (S.h4 n hm).1, m.get (ne (S.o4 n hm).2.1) (S.h4 n hm).2.1, m.get (ne (S.o4 n hm).2.2) (S.h4 n hm).2.2⟩, fun p hp => ⟨m.get (ne (S.o5 p hp)) (S.h5 p hp).1, (S.h5 p hp).2⟩, S.d1, S.d2, S.d3⟩⟩
 have hb' : (if b = a then none else B b) = some ob := hb; split at hb'
 . exact nomatch hb'
 . rename_i z; exact m.get z (S.ext.get hb')
theorem Mod.extB {B0 B B' : AH} {a : Addr} (x : Ext B0 B) (m : Mod B a B') (hn : B0 a = none) : Ext B0 B' := m.ext x hn
def dk (fr : List Fm) : List (Str × V) := fr.zipIdx.map fun p => (p.1.nm, V.int p.2)
theorem qdz (fr : List Fm) (f : Fm) : dk (fr ++ [f]) = dk fr ++ [(f.nm, .int fr.length)] := by
 unfold dk; rw [List.zipIdx_append, map_append]; simp
theorem qey (fr : List Fm) : (dk fr).map (·.1) = fr.map (·.nm) := by
 unfold dk; rw [map_map]; have : ((fun x : Str × V => x.1) ∘ fun p : Fm × Nat => (p.1.nm, V.int p.2)) = (fun f : Fm => f.nm) ∘ Prod.fst := rfl; rw [this, ← map_map, List.zipIdx_map_fst]
theorem qjf (fr : List Fm) : (dk fr).length = fr.length := by unfold dk; simp
theorem qn9 {fr : List Fm} {x : Str} : (∃ i : Nat, (dk fr).lookup x = some (.int i)) ∨ (dk fr).lookup x = none := by
 cases h : (dk fr).lookup x with
 | none => exact .inr rfl
 | some v =>
   have := qat h; obtain ⟨p, _, e⟩ := mem_map.mp this; cases e; exact .inl ⟨_, rfl⟩
theorem qd2 {β : Type} : ∀ {l : List (Str × β)} {x : Str}, l.lookup x = none ↔ x ∉ l.map (·.1) := by
 intro l
 induction l with
 | nil =>
   intro x; simp
 | cons p l ih =>
   intro x; rw [lookup_cons, map_cons, mem_cons]; cases h : (x == p.1)
   . have : x ≠ p.1 := by simpa using h
     simp only [ih (x := x)]; simp [this]
   . simp only [reduceCtorEq, false_iff, Classical.not_not]; exact .inl (by simpa using h)
theorem qly {kvs : List (Str × V)} {k : Str} {x : V} (h : k ∉ kvs.map (·.1)) : putD kvs k x = kvs ++ [(k, x)] := by
 unfold putD; rw [if_neg]; intro z; obtain ⟨p, hp, e⟩ := any_eq_true.mp z; exact h (mem_map.mpr ⟨p, hp, by simpa using e⟩)
theorem qrx {fr : List Fm} {f : Fm} (h : ∀ g ∈ fr, g.nm ≠ f.nm) : (dk (fr ++ [f])).filter (fun kv => decide (kv.1 ≠ f.nm)) = dk fr := by
 rw [qdz, List.filter_append]; simp only [ne_eq, decide_not, filter_cons, decide_true, Bool.not_true, Bool.false_eq_true, if_false, List.filter_nil, append_nil]; rw [List.filter_eq_self]; intro p hp; have : p.1 ∈ fr.map (·.nm) := by rw [← qey]; exact mem_map_of_mem hp
 obtain ⟨g, hg, e⟩ := mem_map.mp this; have := h g hg; rw [e] at this; simpa using this
structure DfsB (B H : AH) (st dd n2 : Addr) (nds : List Nd) (rd : Option (Addr × List Str)) (po nf : Int) (sk ik se nd : Addr) (ep : Nat) (fr : List Fm) (seen : List Str) (B' : AH) : Prop where
 ext : Ext B B'
 S : Srt B' H st dd n2 nds rd po nf
 b1 : B sk = none
 b2 : B ik = none
 b3 : B se = none
 b4 : B nd = none
 b5 : ∀ f ∈ fr, B f.it = none
 ne : sk ≠ ik
 c1 : B' sk = some (.list (fr.map fun f => .str f.nm))
 c2 : B' ik = some (.list (fr.map fun f => .ref f.nx))
 c3 : B' se = some (.set seen)
 c4 : ∃ ep, B' nd = some (.dict (dk fr) ep)
 c5 : ∀ f ∈ fr, B' f.nx = some (.next f.it) ∧ B' f.it = some (.iter f.sa f.ix) ∧ ∃ n ∈ nds, n.nm = f.nm ∧ n.sa = f.sa
 c6 : H n2 = some (.dict (nds.map fun n => (n.nm, .ref n.ia)) ep)
 d1 : (fr.map (·.it)).Nodup
 d2 : (fr.map (·.nm)).Nodup
 d3 : fr.length ≤ seen.length
structure Vs (n2 sk ik se nd : Addr) (m : Map) : Prop where
 v1 : m (Str.ofString "n2i") = some (.ref n2)
 v2 : m (Str.ofString "stack") = some (.ref sk)
 v3 : m (Str.ofString "itstack") = some (.ref ik)
 v4 : m (Str.ofString "seen") = some (.ref se)
 v5 : m (Str.ofString "node2stacki") = some (.ref nd)
theorem Vs.node {n2 sk ik se nd : Addr} {m : Map} (v : Vs n2 sk ik se nd m) (x : V) : Vs n2 sk ik se nd (set m (Str.ofString "node") x) := ⟨v.v1, v.v2, v.v3, v.v4, v.v5⟩
end
theorem qrr {c : Cx} {q : Md} {d : Nat} {A : Around} {env : Env} {m : Map} {H : AH} {P : V -> AH -> Prop} {X : Exc -> AH -> Prop} {k : Int} {n : Nat} {p1 pos : Pos} (h : P (.int (-k)) H) : awE c q d A env (.UnaryOp .USub (.Constant (.int k) n p1) pos) m H P X := by
 intro s F; refine wpAny_UnaryOp (qaj (qad (P := fun x H' => x = .int k ∧ H' = H) (X := X) (k := .int k) rfl ⟨rfl, rfl⟩) F (fun x HJ sJ v ⟨hx, hH⟩ F₁ hv S => ?_) fun _ _ o => o); subst hx hH; obtain ⟨t, rfl⟩ := hv; exact PyProof.Rows.neg_int ⟨.int (-k), _, h, ⟨_, rfl⟩, F₁.rep.toks _, S.trans (.toks _ _ _)⟩
theorem qq9 {c : Cx} {q : Md} {d : Nat} {A : Around} {fl : Option Addr} {H : AH} {P : V -> AH -> Prop} {X : Exc -> AH -> Prop} {a : Addr} {vs : List V} {x : V} (ha : H a = some (.list (vs ++ [x]))) (hl : vs.length < 100000) (h : P x H) : SubG c q d A fl (.ref a) (.int (-1)) H P X :=
 ⟨"list", _, by simp [qcx, ha], slot_list_getitem.lookup, qqj ha hl h⟩
theorem qru {c : Cx} {q : Md} {d : Nat} {A : Around} {env : Env} {m : Map} {H : AH} {P : Fl -> Map -> AH -> Prop} {X : Exc -> Map -> AH -> Prop} {st : Stmt} {rest : List Stmt} (J : Map -> AH -> Prop) (h : awS c q d A env st m H (fun f m' H' => match f with | .next => J m' H' | f => P f m' H') X) (k : ∀ m' H', J m' H' -> awSs c q d A env rest m' H' P X) : awSs c q d A env (st :: rest) m H P X := by
 refine qdx fun s S => wpAny_mono (h s S) (fun v s' o => ?_) fun _ _ o => o; obtain ⟨g, m', H', a, b, r, F, z⟩ := o; refine ⟨g, m', H', ?_, b, r, F, z⟩; cases g with
 | next => exact k _ _ a
 | brk => exact a
 | cont => exact a
 | ret v => exact a
theorem qes {c : Cx} {q : Md} {d : Nat} {A : Around} {env : Env} {m : Map} {H : AH} {P : Fl -> Map -> AH -> Prop} {X : Exc -> Map -> AH -> Prop} {st : Stmt} {rest : List Stmt} (J : Map -> AH -> Prop)
   (h : ∀ Y : Map -> AH -> Prop, (∀ m' H', J m' H' -> Y m' H') -> ∀ K : Fl -> Map -> AH -> Prop, (∀ m' H', Y m' H' -> Go K .next m' H') -> (∀ m' H', P .brk m' H' -> Go K .brk m' H') -> (∀ m' H', P .cont m' H' -> Go K .cont m' H') -> (∀ v m' H', P (.ret v) m' H' -> Go K (.ret v) m' H') -> awS c q d A env st m H (Go K) X)
   (k : ∀ m' H', J m' H' -> awSs c q d A env rest m' H' P X) : awSs c q d A env (st :: rest) m H P X :=
 qru J (h J (fun _ _ x => x) _ (fun _ _ x => x) (fun _ _ x => x) (fun _ _ x => x) (fun _ _ _ x => x)) k
inductive FcA (B : AH) (st dd n2 : Addr) (nds : List Nd) (rd : Option (Addr × List Str)) (po nf : Int) (sk ik se nd : Addr) (ep : Nat) (dn rest : List Str) (m' : Map) (H' : AH) : Prop
 | mk (seen : List Str) (B' : AH) (D : DfsB B H' st dd n2 nds rd po nf sk ik se nd ep [] seen B') (G : Gr (suOf nds) (nms nds) [] seen (qh1 (suOf nds))) (h : ∀ z ∈ dn, z ∈ seen) (l : seen.length + left (nms nds) seen ≤ nds.length) (v : Vs n2 sk ik se nd m')
inductive FcB (B : AH) (st dd n2 : Addr) (nds : List Nd) (rd : Option (Addr × List Str)) (po nf : Int) (sk ik se nd : Addr) (ep : Nat) (dn : List Str) (y : Str) (k : Nat) (m2 : Map) (H2 : AH) : Prop
 | mk (fr : List Fm) (seen : List Str) (x : Str) (B2 : AH) (e : m2 (Str.ofString "node") = some (.str x)) (i : x ∈ nms nds) (D : DfsB B H2 st dd n2 nds rd po nf sk ik se nd ep fr seen B2) (G : Gr (suOf nds) (nms nds) fr seen (TAt (suOf nds) x)) (h : ∀ z ∈ dn, z ∈ seen) (o : y ∈ seen ∨ x = y) (l : seen.length + left (nms nds) seen ≤ nds.length) (r : left (nms nds) seen * 1001 + room (suOf nds) fr = k) (v : Vs n2 sk ik se nd m2)
inductive FcC (B : AH) (st dd n2 : Addr) (nds : List Nd) (rd : Option (Addr × List Str)) (po nf : Int) (sk ik se nd : Addr) (ep : Nat) (dn : List Str) (y : Str) (k : Nat) (m3 : Map) (H3 : AH) : Prop
 | mk (fr : List Fm) (seen : List Str) (B3 : AH) (D : DfsB B H3 st dd n2 nds rd po nf sk ik se nd ep fr seen B3) (G : Gr (suOf nds) (nms nds) fr seen (qh1 (suOf nds))) (h : ∀ z ∈ dn, z ∈ seen) (o : y ∈ seen) (l : seen.length + left (nms nds) seen ≤ nds.length) (r : left (nms nds) seen * 1001 + room (suOf nds) fr ≤ k) (v : Vs n2 sk ik se nd m3)
inductive FcD (B : AH) (st dd n2 : Addr) (nds : List Nd) (rd : Option (Addr × List Str)) (po nf : Int) (sk ik se nd : Addr) (ep : Nat) (dn : List Str) (y : Str) (k : Nat) (j : Nat) (m4 : Map) (H4 : AH) : Prop
 | mk (fr : List Fm) (seen : List Str) (B4 : AH) (q : fr.length = j) (D : DfsB B H4 st dd n2 nds rd po nf sk ik se nd ep fr seen B4) (G : Gr (suOf nds) (nms nds) fr seen (qh1 (suOf nds))) (h : ∀ z ∈ dn, z ∈ seen) (o : y ∈ seen) (l : seen.length + left (nms nds) seen ≤ nds.length) (r : left (nms nds) seen * 1001 + room (suOf nds) fr ≤ k) (v : Vs n2 sk ik se nd m4)
theorem qmn : ∀ {c : Cx} {d : Nat} {p : Program} {loose : List Str} {mg mb : Str -> Option Value} {B H : AH} {P : V -> AH -> Prop} {X : Exc -> AH -> Prop} {st dd n2 : Addr} {nds : List Nd} {rd : Option (Addr × List Str)} {po nf : Int}
   (hprog : c.prog = rw_om0166_02.row.prog) (G : Gd (KF c.w.params) p loose mg mb c.g) (S : Srt B H st dd n2 nds rd po nf) (hl : nds.length ≤ 900)
   (hsu : ∀ x ∈ nms nds, (suOf nds x).length ≤ 1000 ∧ ∀ y ∈ suOf nds x, y ∈ nms nds)
   (h0 : (∀ x ∈ nms nds, Acc (Edge (suOf nds)) x) -> ∀ H', Srt B H' st dd n2 nds rd po nf -> P .none H')
   (h1 : (∃ x ∈ nms nds, ¬ Acc (Edge (suOf nds)) x) -> ∀ H' a v vs, Srt B H' st dd n2 nds rd po nf -> H' a = some (.list (v :: vs)) -> vs.length ≤ 2000 -> P (.ref a) H'), qbg c (d + 1) (.ref 292) [.ref st] [] H P X := by
 w_on; k_fill; intro c d p loose mg mb B H P X st dd n2 nds rd po nf hprog G S hl hsu h0 h1; refine qca (d := d) (binds := [(Str.ofString "self", .ref st)]) G (by k_is) (by k_is) (by exact bnd1 fun _ => rfl) (by rfl) (by decide +kernel) (by exact of_decide_eq_true rfl) ?_ (by rfl) (by rfl) (by rfl); intro A L; have s1 := S.h1; have s2 := S.h2; (refine qae (.inl rfl) rfl fun Kz hz1 => ?_; refine xAt rfl rfl rfl ?_; refine qam ‹_› ‹_› ‹_› (by k_is) (by k_is) (by k_is) (by k_is) rfl (by intro i h; cases h) ?_; apply_assumption; refine qae (.inl rfl) rfl fun Kz hz1 => ?_; refine qa6 (qal ?_)); refine ⟨zero_le _, fun sk H1 x1 n1 e1 => ?_⟩; obtain ⟨B1, y1, b1, d1, S1⟩ := S.base' x1 n1 e1; (apply_assumption; refine qae (.inl rfl) rfl fun Kz hz1 => ?_; refine qa6 ?_; refine qal ?_); refine ⟨zero_le _, fun ik H2 x2 n2' e2 => ?_⟩; obtain ⟨B2, y2, b2, d2, S2⟩ := S1.base' x2 n2' e2; (apply_assumption; refine qae (.inl rfl) rfl fun Kz hz1 => ?_; refine qao rfl ?_; refine qax ‹_› rfl (by k_is) (by boot_by_name) (by decide) ?_ rfl; refine ⟨_, rfl, (qbn _), ?_⟩; refine qav ?_); refine qmf fun se H3 x3 n3 e3 => ?_; obtain ⟨B3, y3, b3, d3, S3⟩ := S2.base' x3 n3 e3; (apply_assumption; refine qae (.inl rfl) rfl fun Kz hz1 => ?_; refine qd7 ‹_› ?_)
 intro nd H4 x4 n4 e4; obtain ⟨B4, y4, b4, d4, S4⟩ := S3.base' x4 n4 e4; obtain ⟨ep, s3⟩ := S4.h3; have D0 : DfsB B H4 st dd n2 nds rd po nf sk ik se nd ep [] [] B4 := by
   refine ⟨y1.trans (y2.trans (y3.trans y4)), S4, b1, y1.none b2, y1.none (y2.none b3), y1.none (y2.none (y3.none b4)), (fun f hf => nomatch hf), Ext.ne d1 b2, y4.get (y3.get (y2.get d1)), y4.get (y3.get d2), y4.get d3, ⟨0, d4⟩, (fun f hf => nomatch hf), s3, nodup_nil, nodup_nil, le_refl _⟩
 (apply_assumption; refine qaa fun Kz hz1 hz2 hz3 hz4 => ?_; refine qb5 rfl (fun _ => rfl) (by show qan _ _; exact .inl rfl) ?_; refine xN rfl rfl ?_); refine ⟨.keys n2 nds.length ep, (nms nds).map V.str, by simp [qcw, s3], ?_⟩; have hkeys : ∀ {H' : AH}, H' n2 = some (.dict (nds.map fun n => (n.nm, .ref n.ia)) ep) -> (IK.keys n2 nds.length ep).items H' = some ((nms nds).map V.str) := fun h => by simp [IK.items, h]
 refine qcd V.str (FcA B st dd n2 nds rd po nf sk ik se nd ep) ?_ ?_ ⟨[], B4, D0, Gr.start _ _ _, (fun z hz => nomatch hz), ?_, rfl, rfl, rfl, rfl, rfl⟩
 . rintro m' H' ⟨seen, B', D, Gp, hdn, hlen, hv⟩; refine ⟨hkeys D.c6, ?_⟩; (apply_assumption; refine qaa fun Kz hz1 hz2 hz3 hz4 => ?_; refine qar ?_; refine qad rfl ?_; apply_assumption); exact h0 (fun x hx => Gp.g3 x (hdn x hx) (fun f hf => nomatch hf)) H' (D.S.weak D.ext)
 . rintro dn y r m' H' hys ⟨seen, B', D, Gp, hdn, hlen, hv⟩; refine ⟨hkeys D.c6, fun K hn hc _ hret => ⟨_, rfl, ?_⟩⟩; obtain ⟨v1, v2, v3, v4, v5⟩ := id hv; have k3 := D.S.ext.get D.c3; (refine qaa fun Kz hz1 hz2 hz3 hz4 => ?_; refine qbv (xCn rfl rfl rfl (xN ‹_› rfl ?_)); refine qrh ‹_› ?_; refine ⟨_, rfl, ?_⟩); cases hin : seen.contains y
   . (refine qay rfl ?_; refine qac ?_; apply_assumption; refine qaa fun Kz hz1 hz2 hz3 hz4 => ?_); refine qdc (FcB B st dd n2 nds rd po nf sk ik se nd ep dn y) (left (nms nds) seen * 1001) ⟨[], seen, y, B', rfl, (by (refine (Eq.symm hys) ▸ ?_); simp), D, Gp.empty, hdn, .inr rfl, hlen, rfl, hv.node _⟩ ?_; rintro Y hY k m2 H2 ⟨fr, seen2, x, B2, hx, hx0, D2, G2, hdn2, hy2, hlen2, hk, hv2⟩ KW kw1 kw2 kw3 kw4; obtain ⟨v1, v2, v3, v4, v5⟩ := id hv2; have k3 := D2.S.ext.get D2.c3; (refine qb7 (fun _ => rfl) (qad rfl ?_); refine ⟨_, rfl, ?_⟩; refine qbd rfl ?_); refine qes (FcC B st dd n2 nds rd po nf sk ik se nd ep dn y k) ?_ ?_
     . intro C hC KC kc1 kc2 kc3 kc4; (refine qbv (xCn rfl ‹_› rfl (xN ‹_› rfl ?_)); refine qrh ‹_› ?_; refine ⟨_, rfl, ?_⟩); cases hin2 : seen2.contains x
       . have hns : x ∉ seen2 := by simpa using hin2
         (refine qay rfl ?_; refine qaw rfl rfl fun Kz hz1 => ?_; refine xMn rfl rfl rfl ‹_› rfl ?_; refine qa8 (qpy ‹_›) (by decide) F.plainAttrs_set F.slot_set_add F.type_set_add ⟨qab _, ?_⟩; refine xAn ‹_› rfl (qaf ?_)); refine qh6 k3 (by lia) fun H3 m3 e3 => ?_; rw [if_neg hns] at e3; obtain ⟨B3, mB3, eB3, S3⟩ := D2.S.out' D2.c3 m3 e3; have f1 := mB3.mv D2.c3 D2.c1; have f2 := mB3.mv D2.c3 D2.c2; obtain ⟨epd, f4⟩ := D2.c4; replace f4 := mB3.mv D2.c3 f4; have f5 : ∀ f ∈ fr, B3 f.nx = some (.next f.it) ∧ B3 f.it = some (.iter f.sa f.ix) := fun f hf => ⟨mB3.mv D2.c3 (D2.c5 f hf).1, mB3.mv D2.c3 (D2.c5 f hf).2.1⟩; have f6 := m3.mv k3 D2.c6; have fe : Ext B B3 := Mod.extB D2.ext mB3 D2.b3; have t1 := S3.h1; have t2 := S3.h2; have t5 := S3.ext.get f2; obtain ⟨n, hn, hnx⟩ := qid hx0; subst hnx; obtain ⟨u1, u2, u3⟩ := S3.h4 n hn; (apply_assumption; refine qaw rfl rfl fun Kz hz1 => ?_; refine xMn rfl rfl rfl ‹_› rfl ?_; refine qa8 (qas ‹_›) (by decide) F.plainAttrs_list F.slot_list_append F.type_list_append ⟨qab _, ?_⟩; refine qag rfl ?_; refine qah rfl ?_; refine qla rfl ?_; refine qao rfl ?_; refine qax ‹_› rfl (by k_is) (by boot_by_name) (by decide) ?_ rfl; refine ⟨_, rfl, (qab _), ?_⟩; refine qag rfl ?_; refine qah rfl ?_; refine qla rfl ?_; refine xSn rfl ‹_› rfl ?_; refine xN ‹_› rfl ?_)
         refine qb6 f6 (by rw [qdf, qcm S3.d1 hn]; rfl) ?_; (refine qbr ‹_› ‹_› ‹_› (by k_is) (by k_is) (by k_is) (by k_is) (by k_is) (by k_is) rfl (by intro i h; cases h) ?_; refine qal ?_); refine qkl u3 fun it H4 x4 n4 e4 => ?_; obtain ⟨B4, y4, b4, d4, S4⟩ := S3.base' x4 n4 e4
         skip
         refine qql e4 fun nx H5 x5 n5 e5 => ?_; obtain ⟨B5, y5, b5, d5, S5⟩ := S4.base' x5 n5 e5; (refine qal ?_; refine qaf ?_); refine qa2 (S5.ext.get (y5.get (y4.get f2))) ?_ fun H6 m6 e6 => ?_
         . have := D2.d3; simp; lia
         have e6' : H6 ik = some (.list ((fr ++ [Fm.mk n.nm nx it n.sa 0]).map fun f => .ref f.nx)) := by rw [e6, map_append]; rfl
         obtain ⟨B6, mB6, eB6, S6⟩ := S5.out' (y5.get (y4.get f2)) m6 e6'; have z1 : B6 sk = _ := mB6.get D2.ne (y5.get (y4.get f1)); have z3 : B6 se = _ := mB6.mv (y5.get (y4.get f2)) (y5.get (y4.get eB3)); have z4 : B6 nd = _ := mB6.mv (y5.get (y4.get f2)) (y5.get (y4.get f4)); have z5 : ∀ f ∈ fr, B6 f.nx = some (.next f.it) ∧ B6 f.it = some (.iter f.sa f.ix) := fun f hf => ⟨mB6.mv (y5.get (y4.get f2)) (y5.get (y4.get (f5 f hf).1)), mB6.mv (y5.get (y4.get f2)) (y5.get (y4.get (f5 f hf).2))⟩; have z7 : B6 nx = some (.next it) := mB6.mv (y5.get (y4.get f2)) d5; have z8 : B6 it = some (.iter n.sa 0) := mB6.mv (y5.get (y4.get f2)) (y5.get d4); have z6 : H6 n2 = _ := m6.mv (S5.ext.get (y5.get (y4.get f2))) (x5.get (x4.get f6)); have ze : Ext B B6 := Mod.extB (fe.trans (y4.trans y5)) mB6 D2.b2; have hnn : ∀ f ∈ fr, f.nm ≠ n.nm := fun f hf z => hns (by (refine z ▸ ?_); exact G2.g1 f hf); have w1 := S6.ext.get z1; (apply_assumption; refine qaa fun Kz hz1 hz2 hz3 hz4 => ?_; refine qdk rfl rfl (by intro _ _ _ _ h; cases h) ?_; refine qao rfl ?_; refine qax ‹_› rfl (by k_is) (by boot_by_name) (by decide) ?_ rfl; refine ⟨_, rfl, (qab _), ?_⟩; refine xAn ‹_› rfl ?_); refine qd8 w1 (by have := D2.d3; simp; lia) ?_
         (refine xN ‹_› rfl (xN ‹_› rfl ?_)); refine ⟨nd, _, epd, n.nm, rfl, rfl, S6.ext.get z4, by have := D2.d3; rw [qjf]; lia, fun ep' => ?_⟩; rw [qly (by rw [qey]; intro z; obtain ⟨f, hf, e⟩ := mem_map.mp z; exact hnn f hf e), length_map, ← qdz fr (Fm.mk n.nm nx it n.sa 0)]; have m7 : Mod H6 nd (upd H6 nd (.dict (dk (fr ++ [Fm.mk n.nm nx it n.sa 0])) ep')) := Mod.upd _ _ _; have e7 := qai H6 nd (.dict (dk (fr ++ [Fm.mk n.nm nx it n.sa 0])) ep'); generalize upd H6 nd (.dict (dk (fr ++ [Fm.mk n.nm nx it n.sa 0])) ep') = H7 at m7 e7 ⊢; obtain ⟨B7, mB7, eB7, S7⟩ := S6.out' z4 m7 e7; have q1 : B7 sk = _ := mB7.mv z4 z1; have q6 : H7 n2 = _ := m7.get (fun z => by have := S6.o3; rw [z, z4] at this; exact nomatch this) z6; have w2 := S7.ext.get q1; (apply_assumption; refine qaw rfl rfl fun Kz hz1 => ?_; refine xMn rfl rfl rfl ‹_› rfl ?_; refine qa8 (qas ‹_›) (by decide) F.plainAttrs_list F.slot_list_append F.type_list_append ⟨qab _, ?_⟩; refine xAn ‹_› rfl ?_; refine qaf ?_); refine qa2 w2 (by have := D2.d3; simp; lia) fun H8 m8 e8 => ?_; have e8' : H8 sk = some (.list ((fr ++ [Fm.mk n.nm nx it n.sa 0]).map fun f => .str f.nm)) := by rw [e8, map_append]; rfl
         obtain ⟨B8, mB8, eB8, S8⟩ := S7.out' q1 m8 e8'; (apply_assumption; refine qac ?_; apply_assumption); have hleft := qou hx0 hns; refine hC _ _ ⟨fr ++ [Fm.mk n.nm nx it n.sa 0], seen2 ++ [n.nm], B8, ?_, G2.push hns hx0 rfl rfl, (fun z hz => mem_append_left _ (hdn2 z hz)), ?_, ?_, ?_, hv2⟩
         . refine ⟨Mod.extB (Mod.extB ze mB7 D2.b4) mB8 D2.b1, S8, D2.b1, D2.b2, D2.b3, D2.b4, fun f hf => ?_, D2.ne, eB8, mB8.get D2.ne.symm (mB7.mv z4 eB6), mB8.mv q1 (mB7.mv z4 z3), ⟨ep', mB8.mv q1 eB7⟩, fun f hf => ?_, m8.mv w2 q6, ?_, ?_, ?_⟩
           . rcases mem_append.mp hf with hf | hf
             . exact D2.b5 f hf
             . rw [mem_singleton.mp hf]; exact fe.none b4
           . rcases mem_append.mp hf with hf | hf
             . exact ⟨mB8.mv q1 (mB7.mv z4 (z5 f hf).1), mB8.mv q1 (mB7.mv z4 (z5 f hf).2), (D2.c5 f hf).2.2⟩
             . rw [mem_singleton.mp hf]; exact ⟨mB8.mv q1 (mB7.mv z4 z7), mB8.mv q1 (mB7.mv z4 z8), n, hn, rfl, rfl⟩
           . rw [map_append, nodup_append]; refine ⟨D2.d1, by simp, fun a ha b hb => ?_⟩; rw [map_singleton, mem_singleton] at hb; subst hb; obtain ⟨f, hf, rfl⟩ := mem_map.mp ha; exact Ext.ne (f5 f hf).2 b4
           . rw [map_append, nodup_append]; refine ⟨D2.d2, by simp, fun a ha b hb => ?_⟩; rw [map_singleton, mem_singleton] at hb; subst hb; obtain ⟨f, hf, rfl⟩ := mem_map.mp ha; exact hnn f hf
           . have := D2.d3; simp; assumption
         . rcases hy2 with h | h
           . exact mem_append_left _ h
           . (refine h ▸ ?_); simp
         . rw [length_append, length_singleton]; lia
         . have r1 : room (suOf nds) [Fm.mk n.nm nx it n.sa 0] ≤ 1000 := by
             have := (hsu n.nm hx0).1; simp [room]; exact this
           rw [qeo]; lia
       . have hs2 : x ∈ seen2 := by simpa using hin2
         obtain ⟨epd, f4⟩ := D2.c4; have k4 := D2.S.ext.get f4; have k1 := D2.S.ext.get D2.c1; (refine qbd rfl ?_; refine qaa fun Kz hz1 hz2 hz3 hz4 => ?_; refine qbv (xCn rfl ‹_› rfl (xN ‹_› rfl ?_)); refine qr7 ‹_› ?_; refine ⟨_, rfl, ?_⟩); rcases qn9 (fr := fr) (x := x) with ⟨i, hi⟩ | hi
         . (refine (Eq.symm hi) ▸ ?_); (refine qbd rfl ?_; refine qaa fun Kz hz1 hz2 hz3 hz4 => ?_; refine qar (qba (qe9 (xN ‹_› rfl (qc1 (xSn rfl ‹_› rfl (xN ‹_› rfl ?_))))))); refine qb6 k4 hi ?_; (refine qc0 ?_); refine ⟨sk, _, some i, none, rfl, k1, by have := D2.d3; simp; lia, .int i, .none, fun a1 H3 x3 n3 e3 => ?_⟩; (refine qa6 (xLn ‹_› rfl ?_)); refine ⟨nl0_ rfl, fun a2 H4 x4 n4 e4 => ?_⟩; refine qci (x4.get e3) e4 ?_ fun a3 H5 x5 n5 e5 => ?_
           . have := D2.d3; simp [sliceV]; lia
           (apply_assumption; apply_assumption; apply_assumption; apply_assumption; apply_assumption); have hf : x ∈ fr.map (·.nm) := by
             rw [← qey]; exact mem_map_of_mem (f := (·.1)) (qat hi)
           obtain ⟨f, hf, hfx⟩ := mem_map.mp hf; have hlen5 : (sliceV (fr.map fun f => V.str f.nm) (some i) none).length ≤ 1000 := by
             have := D2.d3; simp [sliceV]; lia
           generalize sliceV (fr.map fun f => V.str f.nm) (some i) none = l at e5 hlen5; have SB := (((D2.S.more x3).more x4).more x5).weak D2.ext; have hno := G2.ring hf hfx
           skip
           refine hret _ _ _ ?_; (apply_assumption); cases l with
           | nil => exact h1 ⟨x, hx0, hno⟩ H5 a3 _ _ SB e5 (by simp)
           | cons v l => exact h1 ⟨x, hx0, hno⟩ H5 a3 _ _ SB e5 (by simp at hlen5 ⊢; exact le_trans ‹_› (nl0_ rfl))
         . (refine (Eq.symm hi) ▸ ?_); (refine qay rfl ?_; refine qac ?_; apply_assumption; refine qac ?_; apply_assumption); have hnf : ∀ f ∈ fr, f.nm ≠ x := fun f hf z => by
             have := qd2.mp hi; rw [qey] at this; exact this (mem_map.mpr ⟨f, hf, z⟩)
           refine hC _ _ ⟨fr, seen2, B2, D2, G2.old hs2 hnf, hdn2, ?_, hlen2, le_of_eq hk, hv2⟩; rcases hy2 with h | h
           . exact h
           . (refine h ▸ ?_); exact hs2
     . rintro m3 H3 ⟨fr3, seen3, B3, D3, G3, hdn3, hy3, hlen3, hk3, hv3⟩; (refine qaa fun Kz hz1 hz2 hz3 hz4 => ?_); refine qdc (FcD B st dd n2 nds rd po nf sk ik se nd ep dn y k) fr3.length ⟨fr3, seen3, B3, rfl, D3, G3, hdn3, hy3, hlen3, hk3, hv3⟩ ?_; rintro Z hZ j m4 H4 ⟨fr, seen, B4, hj, D, G4, hdn4, hy4, hlen4, hk4, hv4⟩ KV kv1 kv2 kv3 kv4; obtain ⟨v1, v2, v3, v4, v5⟩ := id hv4; have k1 := D.S.ext.get D.c1; have hfl := D.d3; (refine qb7 (fun _ => rfl) (xN ‹_› rfl ?_)); rcases List.eq_nil_or_concat fr with hfr | ⟨fr', f, hfr⟩
       . subst hfr; refine ⟨false, qfp k1 (by simp), ?_⟩; (refine qay rfl ?_; refine qaa fun Kz hz1 hz2 hz3 hz4 => ?_; refine qgo ?_; apply_assumption; apply_assumption; apply_assumption; apply_assumption; refine qac ?_); exact hn _ _ ⟨seen, B4, D, G4.empty, fun z hz => by
           rcases mem_append.mp hz with hz | hz
           . exact hdn4 z hz
           . rw [mem_singleton.mp hz]; exact hy4, hlen4, hv4⟩
       . rw [List.concat_eq_append] at hfr; subst hfr; have hfl' : fr'.length + 1 ≤ seen.length := by simpa using hfl
         refine ⟨true, (qfp k1 (by rw [length_map]; lia)).trans (by simp), ?_⟩; obtain ⟨a1, a2, n, hn', a3, a4⟩ := D.c5 f (by simp); have k2 := D.S.ext.get D.c2; rw [map_append] at k2; (refine qbd rfl ?_; refine qaa fun Kz hz1 hz2 hz3 hz4 => ?_); refine qlh qen qdv isSubtype_stop ?_ ?_
         . intro A' m' H'; (refine qax ‹_› rfl (by k_is) (by boot_by_name) (by decide) ?_ rfl); exact ⟨rfl, rfl⟩
         . refine qdx (qp1 (.inl rfl) rfl (qiu (by intro o n ap h; exact nomatch h) ?_)); (refine xSn rfl ‹_› rfl ?_); refine qrr ?_; refine qq9 k2 (by rw [length_map]; lia) ?_; refine ⟨f.nx, f.it, f.sa, f.ix, (suOf nds n.nm).map V.str, rfl, D.S.ext.get a1, D.S.ext.get a2, ?_, ?_⟩
           . rw [← a4, qk7 D.S.d1 hn']; exact (D.S.h4 n hn').2.2
           have itne : ∀ g ∈ fr', g.it ≠ f.it := fun g hg z => by
             have := D.d1; rw [map_append, nodup_append] at this; exact this.2.2 g.it (mem_map_of_mem hg) f.it (by simp) z
           have nmne : ∀ g ∈ fr', g.nm ≠ f.nm := fun g hg z => by
             have := D.d2; rw [map_append, nodup_append] at this; exact this.2.2 g.nm (mem_map_of_mem hg) f.nm (by simp) z
           have d1' : (fr'.map (·.it)).Nodup := by have := D.d1; rw [map_append, nodup_append] at this; exact this.1
           have d2' : (fr'.map (·.nm)).Nodup := by have := D.d2; rw [map_append, nodup_append] at this; exact this.1
           obtain ⟨epd, c4⟩ := D.c4; rw [getElem?_map]; cases hy' : (suOf nds n.nm)[f.ix]? with
           | some y' =>
             intro H5 m5 e5; obtain ⟨B5, mB5, eB5, S5⟩ := D.S.out' a2 m5 e5; (refine qaa fun Kz hz1 hz2 hz3 hz4 => ?_; refine qgo ?_; apply_assumption; apply_assumption; apply_assumption; apply_assumption; refine qac ?_; apply_assumption); have hlt : f.ix < (suOf nds n.nm).length := (List.getElem?_eq_some_iff.mp hy').1; refine ⟨left (nms nds) seen * 1001 + room (suOf nds) (fr' ++ [{ f with ix := f.ix + 1 }]), ?_, hY _ _ _ ⟨fr' ++ [{ f with ix := f.ix + 1 }], seen, y', B5, rfl, ?_, ?_, G4.next (by (refine a3 ▸ ?_); exact hy') rfl rfl, hdn4, .inl hy4, hlen4, rfl, hv4.node _⟩⟩
             . rw [qeo] at hk4 ⊢; simp only [room, map_cons, List.map_nil, List.sum_cons, List.sum_nil, ← a3] at hk4 ⊢; lia
             . have hnn : n.nm ∈ nms nds := mem_map_of_mem hn'; exact (hsu n.nm hnn).2 y' (mem_of_getElem? hy')
             . refine ⟨Mod.extB D.ext mB5 (D.b5 f (by simp)), S5, D.b1, D.b2, D.b3, D.b4, fun g hg => ?_, D.ne, ?_, ?_, mB5.mv a2 D.c3, ⟨epd, ?_⟩, fun g hg => ?_, m5.mv (D.S.ext.get a2) D.c6, ?_, ?_, ?_⟩
               . rcases mem_append.mp hg with hg | hg
                 . exact D.b5 g (mem_append_left _ hg)
                 . rw [mem_singleton.mp hg]; exact D.b5 f (by simp)
               . rw [mB5.mv a2 D.c1]; simp
               . rw [mB5.mv a2 D.c2]; simp
               . rw [mB5.mv a2 c4, qdz, qdz]
               . rcases mem_append.mp hg with hg | hg
                 . obtain ⟨w1, w2, w3⟩ := D.c5 g (mem_append_left _ hg); exact ⟨mB5.mv a2 w1, mB5.get (itne g hg) w2, w3⟩
                 . rw [mem_singleton.mp hg]; exact ⟨mB5.mv a2 a1, eB5, n, hn', a3, a4⟩
               . have := D.d1; rw [map_append] at this ⊢; exact this
               . have := D.d2; rw [map_append] at this ⊢; exact this
               . have := D.d3; simpa using this
           | none =>
             refine ⟨rfl, fun H5 m5 _ => ⟨rfl, fun e => ?_⟩⟩; obtain ⟨B5, mB5, eB5, S5⟩ := D.S.drop' a2 m5; have f1 := mB5.mv a2 D.c1; have f2 := mB5.mv a2 D.c2; have f4 := mB5.mv a2 c4; have f3 := mB5.mv a2 D.c3; have f6 := m5.mv (D.S.ext.get a2) D.c6; have fe : Ext B B5 := fun b o hb => mB5.get (fun z => by rw [z, D.b5 f (by simp)] at hb; exact nomatch hb) (D.ext.get hb); rw [map_append] at f1 f2; have k6 := S5.ext.get f1; (refine qaa fun Kz hz1 hz2 hz3 hz4 => ?_; refine qke ?_; refine xN ‹_› rfl (xMn rfl rfl rfl ‹_› rfl ?_); refine qa8 (qas ‹_›) (by decide) F.plainAttrs_list F.slot_list_pop F.type_list_pop ⟨qab _, ?_⟩; refine qav ?_; refine qaf ?_); refine qdy k6 (by rw [length_map]; lia) fun H6 m6 e6 => ?_; obtain ⟨B6, mB6, eB6, S6⟩ := S5.out' f1 m6 e6; have g2 := mB6.get D.ne.symm f2; have g4 := mB6.mv f1 f4; have g3 := mB6.mv f1 f3; have g6 := m6.mv k6 f6; have ge : Ext B B6 := Mod.extB fe mB6 D.b1; have k7 := S6.ext.get g4; refine ⟨nd, _, epd, f.nm, rfl, rfl, k7, by rw [qjf, length_append]; simp; lia, ?_, fun ep' => ?_⟩
             . rw [qdz, qdn]; have : (dk fr').lookup f.nm = none := qd2.mpr (by rw [qey]; intro z; obtain ⟨g, hg, e⟩ := mem_map.mp z; exact nmne g hg e); (refine (Eq.symm this) ▸ ?_); simp
             rw [qrx nmne]; have m7 : Mod H6 nd (upd H6 nd (.dict (dk fr') ep')) := Mod.upd _ _ _; have e7 := qai H6 nd (.dict (dk fr') ep'); generalize upd H6 nd (.dict (dk fr') ep') = H7 at m7 e7 ⊢; obtain ⟨B7, mB7, eB7, S7⟩ := S6.out' g4 m7 e7; have q2 := mB7.mv g4 g2; have k8 := S7.ext.get q2; have q6 : H7 n2 = _ := m7.get (fun z => by have := S6.o3; rw [z, g4] at this; exact nomatch this) g6; (apply_assumption; refine qaw rfl rfl fun Kz hz1 => ?_; refine xMn rfl rfl rfl ‹_› rfl ?_; refine qa8 (qas ‹_›) (by decide) F.plainAttrs_list F.slot_list_pop F.type_list_pop ⟨qab _, ?_⟩; refine qav ?_; refine qaf ?_); refine qdy k8 (by rw [length_map]; lia) fun H8 m8 e8 => ?_; obtain ⟨B8, mB8, eB8, S8⟩ := S7.out' q2 m8 e8; (apply_assumption; refine qac ?_; apply_assumption; refine qac ?_; apply_assumption); refine ⟨fr'.length, by (refine hj ▸ ?_); simp, hZ _ _ _ ⟨fr', seen, B8, rfl, ?_, G4.pop (by (refine a3 ▸ ?_); exact hy') nmne, hdn4, hy4, hlen4, ?_, hv4⟩⟩
             . refine ⟨Mod.extB (Mod.extB ge mB7 D.b4) mB8 D.b2, S8, D.b1, D.b2, D.b3, D.b4, fun g hg => D.b5 g (mem_append_left _ hg), D.ne, mB8.get D.ne (mB7.mv g4 eB6), eB8, mB8.mv q2 (mB7.mv g4 g3), ⟨ep', mB8.mv q2 eB7⟩, fun g hg => ?_, m8.mv k8 q6, d1', d2', by exact le_of_lt ‹_›⟩; obtain ⟨w1, w2, w3⟩ := D.c5 g (mem_append_left _ hg); exact ⟨mB8.mv q2 (mB7.mv g4 (mB6.mv f1 (mB5.mv a2 w1))), mB8.mv q2 (mB7.mv g4 (mB6.mv f1 (mB5.get (itne g hg) w2))), w3⟩
             . rw [qeo] at hk4; lia
   . (refine qbd rfl ?_; refine qaa fun Kz hz1 hz2 hz3 hz4 => ?_; refine qiy ?_; apply_assumption; apply_assumption); refine hc _ _ ⟨seen, B', D, Gp, fun z hz => ?_, hlen, hv.node _⟩; rcases mem_append.mp hz with hz | hz
     . exact hdn z hz
     . rw [mem_singleton.mp hz]; simpa using hin
 . simp [left, List.filter_eq_self.mpr]
def rdy0 (nds : List Nd) : List Str := (nds.filter fun n => n.np == 0).map (·.nm)
theorem prepare : ∀ {c : Cx} {d : Nat} {p : Program} {loose : List Str} {mg mb : Str -> Option Value} {B H : AH} {P : V -> AH -> Prop} {X : Exc -> AH -> Prop} {st dd n2 : Addr} {nds : List Nd} {po nf : Int}
   (hprog : c.prog = rw_om0166_02.row.prog) (G : Gd (KF c.w.params) p loose mg mb c.g) (S : Srt B H st dd n2 nds none po nf) (hl : nds.length ≤ 900)
   (hsu : ∀ x ∈ nms nds, (suOf nds x).length ≤ 1000 ∧ ∀ y ∈ suOf nds x, y ∈ nms nds)
   (h0 : (∀ x ∈ nms nds, Acc (Edge (suOf nds)) x) -> ∀ H' rl, Srt B H' st dd n2 nds (some (rl, rdy0 nds)) po nf -> P .none H')
   (h1 : (∃ x ∈ nms nds, ¬ Acc (Edge (suOf nds)) x) -> ∀ H' rl, Srt B H' st dd n2 nds (some (rl, rdy0 nds)) po nf -> X (.own 220) H'), qbg c (d + 2) (.ref 257) [.ref st] [] H P X := by
 w_on; k_fill; intro c d p loose mg mb B H P X st dd n2 nds po nf hprog G S hl hsu h0 h1; refine qca (d := d + 1) (binds := [(Str.ofString "self", .ref st)]) G (by k_is) (by k_is) (by exact bnd1 fun _ => rfl) (by rfl) (by decide +kernel) (by exact of_decide_eq_true rfl) ?_ (by rfl) (by rfl) (by rfl); intro A L; have s1 := S.h1; have s2 := S.h2; obtain ⟨ep, s3⟩ := S.h3; (refine qaa fun Kz hz1 hz2 hz3 hz4 => ?_; refine qbv (qaq rfl (xAt rfl rfl rfl ?_)); refine qam ‹_› ‹_› ‹_› (by k_is) (by k_is) (by k_is) (by k_is) rfl (by intro i h; cases h) ?_; refine qad rfl ?_; refine qdd rfl ?_; refine ⟨_, rfl, ?_⟩; refine qay rfl ?_; refine qac ?_; apply_assumption; refine qaa fun Kz hz1 hz2 hz3 hz4 => ?_; refine qbw rfl rfl ?_; refine qbb rfl (qa9 rfl rfl (by decide +kernel) rfl rfl) (fun _ => rfl) ?_; refine qcf (few := true) rfl rfl rfl (xAt rfl rfl rfl ?_); refine qam ‹_› ‹_› ‹_› (by k_is) (by k_is) (by k_is) (by k_is) rfl (by intro i h; cases h) ?_; refine qa8 (qfq ‹_›) (by decide) F.plainAttrs_dict F.slot_dict_values F.type_dict_values ⟨qab _, ?_⟩; refine qav ?_; refine qaf ?_; refine qko ‹_› ?_); refine ⟨.vals n2 nds.length ep, nds.map (fun n => V.ref n.ia), by simp [qcw, s3], fun C => ?_⟩
 refine qa0 (fun n : Nd => V.ref n.ia) (fun n : Nd => if n.np == 0 then some (V.str n.nm) else none) (fun _ H' => H' = H) (fun m' H' e => by subst e; simp [IK.items, s3]) (by simp; exact le_trans ‹_› (nl0_ rfl)) rfl ?_ ?_
 . rintro n hn m' H' acc K hacc rfl hk; obtain ⟨u1, u2, u3⟩ := S.h4 n hn; refine qb2 rfl ?_; (refine qaq rfl (xAt rfl rfl rfl ?_); refine qbr ‹_› ‹_› ‹_› (by k_is) (by k_is) (by k_is) (by k_is) (by k_is) (by k_is) rfl (by intro i h; cases h) ?_; refine qad rfl ?_; refine qd9 ?_; refine ⟨_, rfl, ?_⟩); cases hz : (n.np == 0)
   . rw [hz] at hk; (refine qay rfl ?_); simpa using hk _ _ rfl
   . rw [hz] at hk; refine qbd rfl ⟨hacc, ?_⟩; (refine xAt rfl rfl rfl ?_; refine qbr ‹_› ‹_› ‹_› (by k_is) (by k_is) (by k_is) (by k_is) (by k_is) (by k_is) rfl (by intro i h; cases h) ?_); exact hk _ _ rfl
 . rintro m' H' e; obtain rfl := e.symm; rw [nil_append]; intro rl hrl; have hxs : nds.filterMap (fun n : Nd => if n.np == 0 then some (V.str n.nm) else none) = (rdy0 nds).map V.str := by
     unfold rdy0; rw [map_map, ← List.filterMap_eq_map, List.filterMap_filter]; rfl
   (refine (Eq.symm hxs) ▸ ?_); have x1 : Ext H (upd H rl (.list ((rdy0 nds).map V.str))) := Ext.fresh hrl; have e1 := qai H rl (.list ((rdy0 nds).map V.str)); generalize upd H rl (.list ((rdy0 nds).map V.str)) = H1 at x1 e1 ⊢; have S1 := S.more x1; have t1 := S1.h1; have t2 := S1.h2; (refine xN rfl rfl ?_; refine qcn ‹_› ‹_› ‹_› (by k_is) (by k_is) (by k_is) (by k_is) (nl0_ rfl) ?_); intro H2 m2 e2; have S2 := S1.ns (rd' := some (rl, rdy0 nds)) (po' := po) (nf' := nf) m2 e2 (fun p hp => by
     obtain rfl := sj0_ hp; exact ⟨S.ext.none hrl, e1, fun n hn => Ext.ne (S.h4 n hn).2.2 hrl⟩)
   have u1 := S2.h1; have u2 := S2.h2; (apply_assumption; refine qae (.inl rfl) rfl fun Kz hz1 => ?_; refine xMn rfl rfl rfl rfl rfl ?_; refine qbe ‹_› ‹_› ‹_› (by k_is) (by k_is) (by k_is) rfl ⟨qap ‹_› (by k_is), ?_⟩; refine qav ?_; refine qaf ?_); refine qak (qmn hprog G S2 hl hsu (fun ha H3 S3 => ?_) fun hna H3 a v vs S3 e3 hvl => ?_)
   . (apply_assumption; refine qaa fun Kz hz1 hz2 hz3 hz4 => ?_; refine qbv ?_; refine qb7 (fun _ => rfl) ?_; refine xN rfl rfl ?_; refine ⟨_, rfl, ?_⟩; refine qay rfl ?_; refine qac ?_; apply_assumption; refine qac ?_); exact h0 ha H3 rl S3
   . (apply_assumption; refine qaa fun Kz hz1 hz2 hz3 hz4 => ?_; refine qbv ?_; refine qb7 (fun _ => rfl) ?_; refine xN rfl rfl ?_); refine ⟨true, (qfp e3 (by simp; exact le_trans ‹_› (nl0_ rfl))).trans (by simp), ?_⟩; (refine qbd rfl ?_; refine qaa fun Kz hz1 hz2 hz3 hz4 => ?_); refine' qiz (newId := "ValueError.__new__") G rfl PySem.F.excBase_ValueError ?hk ?ex ?hx ?hp ?hd ?_
     case hk => rfl
     case ex => k_is
     case hx => k_exc
     case hp => rfl
     case hd => rfl
     (refine qag rfl (qah rfl ?_); refine qp7 ?_; refine qad rfl (xLn rfl rfl ?_)); exact ⟨rfl, by simp, h1 hna H3 rl S3⟩
theorem qf8 : isSubtype (.type "IndexError") (.type "IndexError") = pure true := by rw [isSubtype_type]; kernel_rfl
theorem qqc {c : Cx} {q : Md} {d : Nat} {A : Around} {env : Env} {m : Map} {H : AH} {P : Fl -> Map -> AH -> Prop} {X : Exc -> Map -> AH -> Prop} {pos hpos : Pos} {body orelse suite : List Stmt} {bO : Stmt} {t : Expr} {T : String} (Y : Map -> AH -> Prop)
   (hexc : isSubtype (.type T) (.type "BaseException") = pure true) (hnt : isSubtype (.type ((Manifest.find? T).elim "type" fun x => x.metatype)) (.type "tuple") = pure false) (hsub : isSubtype (.type T) (.type T) = pure true)
   (ht : ∀ A' m' H', awE c .loose d A' env t m' H' (fun x HJ => x = .imm (.type T) ∧ HJ = H') fun _ _ => False)
   (h : awSs c q d A env body m H (fun f m' H' => match f with | .next => awSs c q d A env orelse m' H' P X | f => P f m' H') fun k m' H' => k.cls = .type T ∧ Y m' H')
   (hy : ∀ A' m' H', Y m' H' -> awSs c .loose d A' env (bO :: suite) m' H' P X) :
   awS c q d A env (.Try body [.ExceptHandler (some t) none (bO :: suite) hpos] orelse [] pos) m H P X :=
 qlh hexc hnt hsub ht fun s S => wpAny_mono (h s S) (fun _ _ o => o) fun v s' o => by
   obtain ⟨k, m', H', ⟨a, b⟩, r, R, F, z⟩ := o; exact ⟨k, m', H', ⟨a, fun e => hy _ _ _ b⟩, r, R, F, z⟩
theorem qep {c : Cx} {q : Md} {d : Nat} {A : Around} {fl : Option Addr} {H : AH} {P : V -> AH -> Prop} {X : Exc -> AH -> Prop} {a : Addr} {vs : List V} {k : Int} (hq : q ≠ .loose) (ha : H a = some (.list vs)) (h0 : (vs.length : Int) ≤ k) (h1 : k < 100000) (h : X (match q with | .quiet => .b "IndexError" | _ => .ch "IndexError") H) : SubG c q d A fl (.ref a) (.int k) H P X :=
 ⟨"list", _, by simp [qcx, ha], slot_list_getitem.lookup, by
   have := qr1 (c := c) (q := q) (d := d) (A := A) (fl := fl) (P := P) (i := k.toNat) hq ha (by lia) (by lia) h
   rwa [Int.toNat_of_nonneg (by lia)] at this⟩
abbrev LtS (x y : Str) : Prop := x.cps.toList < y.cps.toList
theorem qhx (x : Str) : ¬ LtS x x := List.lt_irrefl _
theorem qg7 {x y : Str} (h : LtS x y) : ¬ LtS y x := List.lt_asymm h
theorem qch {x y : Str} (h : LtS x y) : x ≠ y := fun z => qhx y (by rw [z] at h; exact h)
theorem qri {x y : Str} (h1 : ¬ LtS x y) (h2 : ¬ LtS y x) : x = y := by
 have : x.cps.toList = y.cps.toList := List.le_antisymm h2 h1; cases x; cases y; simp at this; rw [this]
def qb4 (xs ys : List Str) : List Str := xs.filter fun x => !ys.contains x
theorem qjn {xs ys : List Str} (h : ∀ x ∈ xs, x ∉ ys) : qb4 xs ys = xs := by
 unfold qb4; rw [List.filter_eq_self]; intro x hx; simpa using h x hx
theorem qb9 (a b ys : List Str) : qb4 (a ++ b) ys = qb4 a ys ++ qb4 b ys := List.filter_append ..
theorem qlv {x : Str} {ys : List Str} (h : x ∈ ys) : qb4 [x] ys = [] := by unfold qb4; simp [h]
theorem qjo {x : Str} {ys : List Str} (h : x ∉ ys) : qb4 [x] ys = [x] := by unfold qb4; simp [h]
theorem qe5 (xs ys : List Str) : (qb4 xs ys).length ≤ xs.length := length_filter_le ..
structure Sld (H0 H : AH) (ex ac mi un : Addr) (xs ys p r p' r' : List Str) (m : Map) : Prop where
 ext : Ext H0 H
 m0 : H0 mi = none
 u0 : H0 un = none
 ne : mi ≠ un
 hx : xs = p ++ r
 hy : ys = p' ++ r'
 k1 : ∀ y ∈ r', y ∉ p
 k2 : ∀ x ∈ r, x ∉ p'
 hm : H mi = some (.list ((qb4 p ys).map V.str))
 hu : H un = some (.list ((qb4 p' xs).map V.str))
 vi : m (Str.ofString "i") = some (.int p.length)
 vj : m (Str.ofString "j") = some (.int p'.length)
 ve : m (Str.ofString "expected") = some (.ref ex)
 va : m (Str.ofString "actual") = some (.ref ac)
 vm : m (Str.ofString "missing") = some (.ref mi)
 vu : m (Str.ofString "unexpected") = some (.ref un)
section
variable {H0 H H3 : AH} {ex ac mi un : Addr} {xs ys p r p' r' : List Str} {m : Map} {e a : Str}
theorem Sld.setE (Z : Sld H0 H ex ac mi un xs ys p r p' r' m) (v : V) : Sld H0 H ex ac mi un xs ys p r p' r' (set m (Str.ofString "e") v) := ⟨Z.ext, Z.m0, Z.u0, Z.ne, Z.hx, Z.hy, Z.k1, Z.k2, Z.hm, Z.hu, Z.vi, Z.vj, Z.ve, Z.va, Z.vm, Z.vu⟩
theorem Sld.setA (Z : Sld H0 H ex ac mi un xs ys p r p' r' m) (v : V) : Sld H0 H ex ac mi un xs ys p r p' r' (set m (Str.ofString "a") v) := ⟨Z.ext, Z.m0, Z.u0, Z.ne, Z.hx, Z.hy, Z.k1, Z.k2, Z.hm, Z.hu, Z.vi, Z.vj, Z.ve, Z.va, Z.vm, Z.vu⟩
theorem qd3 {p r : List Str} {e : Str} (h : (p ++ e :: r).Pairwise LtS) : ∀ y ∈ r, LtS e y := by
 rw [List.pairwise_append] at h; exact (pairwise_cons.mp h.2.1).1
theorem Sld.left (Z : Sld H0 H ex ac mi un xs ys p (e :: r) p' (a :: r') m) (hys : ys.Pairwise LtS) (hlt : LtS e a) (M : Mod H mi H3) (e3 : H3 mi = some (.list ((qb4 p ys).map V.str ++ [.str e]))) : Sld H0 H3 ex ac mi un xs ys (p ++ [e]) r p' (a :: r') (set m (Str.ofString "i") (.int (p.length + 1))) := by
 have hr := qd3 (by rw [← Z.hy]; exact hys); have ne : ∀ y ∈ a :: r', e ≠ y := fun y hy => by
   rcases mem_cons.mp hy with rfl | hy
   . exact qch hlt
   . exact qch (List.lt_trans hlt (hr y hy))
 have hout : e ∉ ys := by
   rw [Z.hy, mem_append]; rintro (h | h)
   . exact Z.k2 e (by simp) h
   . exact ne e h rfl
 refine ⟨M.ext Z.ext Z.m0, Z.m0, Z.u0, Z.ne, by rw [Z.hx]; simp, Z.hy, fun y hy hp => ?_, fun x hx => Z.k2 x (mem_cons_of_mem _ hx), ?_, M.get Z.ne.symm Z.hu, ?_, Z.vj, Z.ve, Z.va, Z.vm, Z.vu⟩
 . rcases mem_append.mp hp with hp | hp
   . exact Z.k1 y hy hp
   . rw [mem_singleton] at hp; exact ne y hy hp.symm
 . rw [qb9, qjo hout, map_append]; exact e3
 . rw [length_append, length_singleton]; rfl
theorem Sld.right (Z : Sld H0 H ex ac mi un xs ys p (e :: r) p' (a :: r') m) (hxs : xs.Pairwise LtS) (hlt : LtS a e) (M : Mod H un H3) (e3 : H3 un = some (.list ((qb4 p' xs).map V.str ++ [.str a]))) : Sld H0 H3 ex ac mi un xs ys p (e :: r) (p' ++ [a]) r' (set m (Str.ofString "j") (.int (p'.length + 1))) := by
 have hr := qd3 (by rw [← Z.hx]; exact hxs); have ne : ∀ y ∈ e :: r, a ≠ y := fun y hy => by
   rcases mem_cons.mp hy with rfl | hy
   . exact qch hlt
   . exact qch (List.lt_trans hlt (hr y hy))
 have hout : a ∉ xs := by
   rw [Z.hx, mem_append]; rintro (h | h)
   . exact Z.k1 a (by simp) h
   . exact ne a h rfl
 refine ⟨M.ext Z.ext Z.u0, Z.m0, Z.u0, Z.ne, Z.hx, by rw [Z.hy]; simp, fun y hy => Z.k1 y (mem_cons_of_mem _ hy), fun y hy hp => ?_, M.get Z.ne Z.hm, ?_, Z.vi, ?_, Z.ve, Z.va, Z.vm, Z.vu⟩
 . rcases mem_append.mp hp with hp | hp
   . exact Z.k2 y hy hp
   . rw [mem_singleton] at hp; exact ne y hy hp.symm
 . rw [qb9, qjo hout, map_append]; exact e3
 . rw [length_append, length_singleton]; rfl
theorem Sld.both (Z : Sld H0 H ex ac mi un xs ys p (e :: r) p' (e :: r') m) (hxs : xs.Pairwise LtS) (hys : ys.Pairwise LtS) : Sld H0 H ex ac mi un xs ys (p ++ [e]) r (p' ++ [e]) r' (set (set m (Str.ofString "i") (.int (p.length + 1))) (Str.ofString "j") (.int (p'.length + 1))) := by
 have hr := qd3 (by rw [← Z.hx]; exact hxs); have hr' := qd3 (by rw [← Z.hy]; exact hys); refine ⟨Z.ext, Z.m0, Z.u0, Z.ne, by rw [Z.hx]; simp, by rw [Z.hy]; simp, fun y hy hp => ?_, fun y hy hp => ?_, ?_, ?_, ?_, ?_, Z.ve, Z.va, Z.vm, Z.vu⟩
 . rcases mem_append.mp hp with hp | hp
   . exact Z.k1 y (mem_cons_of_mem _ hy) hp
   . rw [mem_singleton] at hp; exact qch (hr' y hy) hp.symm
 . rcases mem_append.mp hp with hp | hp
   . exact Z.k2 y (mem_cons_of_mem _ hy) hp
   . rw [mem_singleton] at hp; exact qch (hr y hy) hp.symm
 . rw [qb9, qlv (by rw [Z.hy]; simp), append_nil]; exact Z.hm
 . rw [qb9, qlv (by rw [Z.hx]; simp), append_nil]; exact Z.hu
 . rw [length_append, length_singleton]; rfl
 . rw [length_append, length_singleton]; rfl
theorem Sld.fin (Z : Sld H0 H ex ac mi un xs ys p r p' r' m) (h : r = [] ∨ r' = []) : qb4 xs ys = qb4 p ys ++ r ∧ qb4 ys xs = qb4 p' xs ++ r' := by
 refine ⟨?_, ?_⟩
 . conv => lhs; rw [Z.hx]
   rw [qb9, qjn (xs := r)]; intro x hx hy; rw [Z.hy] at hy; rcases mem_append.mp hy with hy | hy
   . exact Z.k2 x hx hy
   . rcases h with rfl | rfl
     . exact nomatch hx
     . exact nomatch hy
 . conv => lhs; rw [Z.hy]
   rw [qb9, qjn (xs := r')]; intro x hx hy; rw [Z.hx] at hy; rcases mem_append.mp hy with hy | hy
   . exact Z.k1 x hx hy
   . rcases h with rfl | rfl
     . exact nomatch hy
     . exact nomatch hx
theorem qgl {p r : List Str} {e : Str} : ((p ++ e :: r).map V.str)[((p.length : Nat) : Int).toNat]? = some (.str e) := by simp
theorem qgk {p : List Str} : (((p ++ []).map V.str).length : Int) ≤ (p.length : Int) := by simp
end
inductive SldJ (H0 : AH) (ex ac mi un : Addr) (xs ys : List Str) (n : Nat) (m : Map) (H : AH) : Prop
 | mk (p r p' r' : List Str) (Z : Sld H0 H ex ac mi un xs ys p r p' r' m) (e : n = r.length + r'.length)
inductive SldY (H0 : AH) (ex ac mi un : Addr) (xs ys : List Str) (m : Map) (H : AH) : Prop
 | mk (p r p' r' : List Str) (Z : Sld H0 H ex ac mi un xs ys p r p' r' m) (e : r = [] ∨ r' = [])
theorem sld : ∀ {c : Cx} {d : Nat} {p loose mg mb} {H : AH} {P : V -> AH -> Prop} {X : Exc -> AH -> Prop} {ex ac : Addr} {xs ys : List Str}
   (hprog : c.prog = rw_om0166_02.row.prog) (G : Gd (KF c.w.params) p loose mg mb c.g) (he : H ex = some (.list (xs.map V.str))) (ha : H ac = some (.list (ys.map V.str))) (hxs : xs.Pairwise LtS) (hys : ys.Pairwise LtS) (hxl : xs.length ≤ 1000) (hyl : ys.length ≤ 1000)
   (h : ∀ H' a b, Ext H H' -> H a = none -> H b = none -> H' a = some (.list ((qb4 xs ys).map V.str)) -> H' b = some (.list ((qb4 ys xs).map V.str)) -> P (.tup [.ref a, .ref b]) H'), qbg c (d + 1) (.ref 313) [.ref ex, .ref ac] [] H P X := by
 w_on; k_fill; intro c d p loose mg mb H P X ex ac xs ys hprog G he ha hxs hys hxl hyl h; refine qca (d := d) (binds := [(Str.ofString "expected", .ref ex), (Str.ofString "actual", .ref ac)]) G (by k_is) (by k_is) (by exact bnd2 fun _ _ => rfl) (by rfl) (by decide +kernel) (by exact of_decide_eq_true rfl) ?_ (by rfl) (by rfl) (by rfl); intro A L; (refine qaa fun Kz hz1 hz2 hz3 hz4 => ?_; refine qkb (.inl rfl) (.inl rfl) rfl rfl ?_; refine qad rfl ?_; apply_assumption; refine qae (.inl rfl) rfl fun Kz hz1 => ?_; refine qa6 (qal ?_)); refine ⟨zero_le _, fun mi H1 x1 n1 e1 => ?_⟩; (apply_assumption; refine qae (.inl rfl) rfl fun Kz hz1 => ?_; refine qa6 ?_; refine qal ?_); refine ⟨zero_le _, fun un H2 x2 n2 e2 => ?_⟩; (apply_assumption; refine qaa fun Kz hz1 hz2 hz3 hz4 => ?_); refine qdc (SldJ H ex ac mi un xs ys) (xs.length + ys.length) (⟨[], xs, [], ys, ⟨x1.trans x2, n1, x1.none n2, Ext.ne e1 n2, rfl, rfl, (fun _ _ z => nomatch z), (fun _ _ z => nomatch z), x2.get e1, e2, rfl, rfl, rfl, rfl, rfl, rfl⟩, rfl⟩) ?_; rintro J hJ n m' H' ⟨p, r, p', r', Z, hn⟩ KW kw1 kw2 kw3 kw4; (refine qb7 (fun _ => rfl) (qad rfl ?_); refine ⟨_, rfl, ?_⟩; refine qbd rfl ?_); (refine qaa fun Kz hz1 hz2 hz3 hz4 => ?_)
 refine qqc (SldY H ex ac mi un xs ys) PySem.F.isExc_IndexError PySem.F.notTuple_IndexError qf8 ?_ ?_ ?_
 . intro A' m' H'; (refine qax ‹_› rfl (by k_is) (by boot_by_name) (by decide) ?_ rfl); exact ⟨rfl, rfl⟩
 . have b1 := congrArg List.length Z.hx; have b2 := congrArg List.length Z.hy; rw [length_append] at b1 b2; obtain ⟨v1, v2, v3, v4, v5, v6⟩ : _ ∧ _ ∧ _ ∧ _ ∧ _ ∧ _ := ⟨Z.vi, Z.vj, Z.ve, Z.va, Z.vm, Z.vu⟩; have k1 := Z.ext.get he; have k2 := Z.ext.get ha; (refine qae (.inl rfl) rfl fun Kz hz1 => ?_; refine xSn rfl ‹_› rfl (xN ‹_› rfl ?_)); cases r with
   | nil =>
     refine qep nofun k1 (by rw [Z.hx]; exact qgk) (by lia) ⟨rfl, ⟨p, [], p', r', Z, .inl rfl⟩⟩
   | cons e r =>
     refine qbl k1 (by lia) (by lia) (by rw [Z.hx]; exact qgl) ?_; have Z1 := Z.setE (.str e); (apply_assumption; refine qae (.inl rfl) rfl fun Kz hz1 => ?_; refine xSn rfl ‹_› rfl ?_; refine xN ‹_› rfl ?_); cases r' with
     | nil => exact qep nofun k2 (by rw [Z.hy]; exact qgk) (by lia) ⟨rfl, ⟨p, e :: r, p', [], Z1, .inr rfl⟩⟩
     | cons a r' =>
       refine qbl k2 (by lia) (by lia) (by rw [Z.hy]; exact qgl) ?_; have Z2 := Z1.setA (.str a); simp only [length_cons] at b1 b2 hn; (apply_assumption; refine qaa fun Kz hz1 hz2 hz3 hz4 => ?_; refine qbv ?_; refine xCn rfl rfl rfl ?_; refine xN rfl rfl ?_; refine qmj ?_; refine ⟨_, rfl, ?_⟩); have k3 := Z2.hm; have k4 := Z2.hu; have l1 := qe5 p ys; have l2 := qe5 p' xs; cases hlt : decide (e.cps.toList < a.cps.toList)
       . have hlt' : ¬ LtS e a := by simpa using hlt
         (refine qay rfl ?_; refine qaa fun Kz hz1 hz2 hz3 hz4 => ?_; refine qbv (xCn rfl rfl rfl (xN rfl rfl ?_)); refine qmh ?_; refine ⟨_, rfl, ?_⟩); cases hgt : decide (a.cps.toList < e.cps.toList)
         . have hgt' : ¬ LtS a e := by simpa using hgt
           obtain rfl := qri hlt' hgt'; (refine qay rfl ?_; refine qaa fun Kz hz1 hz2 hz3 hz4 => ?_; refine qdj ‹_› (.inl rfl) rfl ?_; refine qad rfl ?_; refine qcr ?_; apply_assumption; refine qaa fun Kz hz1 hz2 hz3 hz4 => ?_); have Z5 := Z2.both hxs hys; have hcar : ∀ y ∈ r, (y == e) = false := fun y hy => by
             have := qd3 (by rw [← Z.hx]; exact hxs) y hy; simpa using (qch this).symm
           have hcar' : ∀ y ∈ r', (y == e) = false := fun y hy => by
             have := qd3 (by rw [← Z.hy]; exact hys) y hy; simpa using (qch this).symm
           have c1 : xs = (p ++ [e]) ++ r := by rw [Z.hx]; simp
           have c2 : ys = (p' ++ [e]) ++ r' := by rw [Z.hy]; simp
           have c3 : ((p.length : Nat) : Int) + 1 = ((p ++ [e]).length : Nat) := by simp
           have c4 : ((p'.length : Nat) : Int) + 1 = ((p' ++ [e]).length : Nat) := by simp
           rw [c3, c4] at Z5; (refine (Eq.symm c3) ▸ ?_); generalize hM : set (set (set m' (Str.ofString "e") (V.str e)) (Str.ofString "a") (V.str e)) (Str.ofString "i") (V.int ((p ++ [e]).length : Nat)) = M at Z5 ⊢; have w1 : M (Str.ofString "expected") = some (.ref ex) := by (refine hM ▸ ?_); exact v3
           have w2 : M (Str.ofString "actual") = some (.ref ac) := by (refine hM ▸ ?_); exact v4
           have w3 : M (Str.ofString "i") = some (.int ((p ++ [e]).length : Nat)) := by (refine hM ▸ ?_); rfl
           have w4 : M (Str.ofString "j") = some (.int (p'.length : Nat)) := by (refine hM ▸ ?_); exact v2
           have w5 : M (Str.ofString "e") = some (.str e) := by (refine hM ▸ ?_); rfl
           have w6 : M (Str.ofString "a") = some (.str e) := by (refine hM ▸ ?_); rfl
           have b3 : (p ++ [e]).length ≤ 2000 := by simp; lia
           have b4 : (p' ++ [e]).length ≤ 2000 := by simp; lia
           refine qqb ?_; (refine qaa fun Kz hz1 hz2 hz3 hz4 => ?_); refine qdb ?_; (refine qaq rfl (xSn rfl ‹_› rfl (xN ‹_› rfl ?_))); cases r with
           | nil =>
             refine qep nofun k1 (by (refine (Eq.symm c1) ▸ ?_); exact qgk) (by lia) ⟨rfl, fun ex' => ?_⟩; (refine qaa fun Kz hz1 hz2 hz3 hz4 => ?_; refine qdj ‹_› (.inl rfl) rfl ?_; refine qad rfl ?_; refine qcr ?_; apply_assumption; refine qaa fun Kz hz1 hz2 hz3 hz4 => ?_); rw [c4]; refine qdb ?_; (refine qaq rfl (xSn rfl ‹_› rfl (xN rfl rfl ?_))); cases r' with
             | nil => exact qep nofun k2 (by rw [c2]; exact qgk) (by omega) ⟨rfl, ⟨_, [], _, [], Z5, .inl rfl⟩⟩
             | cons a2 r' =>
               refine qbl k2 (by lia) (by lia) (by rw [c2]; exact qgl) ?_; have hne := hcar' a2 (by simp); (refine xN ‹_› rfl ?_; refine qbi ?_; refine ⟨_, rfl, ?_⟩; refine qay ‹_› ?_; refine qac ?_; apply_assumption; refine qac ?_); exact ⟨rfl, ⟨_, [], _, _, Z5, .inl rfl⟩⟩
           | cons e2 r =>
             refine qbl k1 (by lia) (by lia) (by rw [c1]; exact qgl) ?_; have hne := hcar e2 (by simp); (refine xN ‹_› rfl ?_; refine qbi ?_; refine ⟨_, rfl, ?_⟩; refine qay ‹_› ?_; refine qac ?_; apply_assumption; refine qac ?_; refine qaa fun Kz hz1 hz2 hz3 hz4 => ?_; refine qdj ‹_› (.inl rfl) rfl ?_; refine qad rfl ?_; refine qcr ?_; apply_assumption; refine qaa fun Kz hz1 hz2 hz3 hz4 => ?_); rw [c4]; refine qdb ?_; (refine qaq rfl (xSn rfl ‹_› rfl (xN rfl rfl ?_))); cases r' with
             | nil => exact qep nofun k2 (by rw [c2]; exact qgk) (by lia) ⟨rfl, ⟨_, _, _, [], Z5, .inr rfl⟩⟩
             | cons a2 r' =>
               refine qbl k2 (by lia) (by lia) (by rw [c2]; exact qgl) ?_; have hne := hcar' a2 (by simp); (refine xN ‹_› rfl ?_; refine qbi ?_; refine ⟨_, rfl, ?_⟩; refine qay ‹_› ?_; refine qac ?_; apply_assumption; refine qac ?_; apply_assumption; refine qac ?_; apply_assumption; refine qac ?_; apply_assumption; refine qac ?_; refine qac ?_; apply_assumption; refine qac ?_; apply_assumption); refine ⟨_, ?_, hJ _ _ _ ⟨_, _, _, _, Z5, rfl⟩⟩; simp only [length_cons] at hn ⊢; lia
         . have hgt' : LtS a e := by simpa using hgt
           (refine qbd rfl ?_; refine qaw rfl rfl fun Kz hz1 => ?_; refine xMn rfl rfl rfl ‹_› rfl ?_; refine qa8 (qas ‹_›) (by decide) F.plainAttrs_list F.slot_list_append F.type_list_append ⟨qab _, ?_⟩; refine xAn rfl rfl (qaf ?_); refine qbq ‹_› (by simp only [length_map, length_append, length_cons, length_nil]; lia) ?_)
           (try refine qa2 k4 (by simp; lia) ?_)
           intro H3 m3 e3; (apply_assumption; refine qaa fun Kz hz1 hz2 hz3 hz4 => ?_; refine qdj ‹_› (.inl rfl) rfl ?_; refine qad rfl ?_; refine qcr ?_; apply_assumption; refine qaa fun Kz hz1 hz2 hz3 hz4 => ?_); have Z3 := Z2.right hxs hgt' m3 e3; have q1 := Z3.ext.get ha; have c4 : ((p'.length : Nat) : Int) + 1 = ((p' ++ [a]).length : Nat) := by simp
           rw [c4] at Z3 ⊢; refine qdb ?_; (refine qaq rfl (xSn rfl ‹_› rfl (xN rfl rfl ?_))); cases r' with
           | nil => exact qep nofun q1 (by rw [Z3.hy]; exact qgk) (by simp; lia) ⟨rfl, ⟨p, e :: r, _, [], Z3, .inr rfl⟩⟩
           | cons a2 r' =>
             refine qbl q1 (by lia) (by simp; lia) (by rw [Z3.hy]; exact qgl) ?_; have hne : (a2 == a) = false := by
               have := qd3 (by rw [← Z.hy]; exact hys) a2 (by simp); simpa using (qch this).symm
             (refine xN rfl rfl ?_; refine qbi ?_; refine ⟨_, rfl, ?_⟩; refine qay ‹_› ?_; refine qac ?_; apply_assumption; refine qac ?_; apply_assumption; refine qac ?_; apply_assumption; refine qac ?_; refine qac ?_; apply_assumption; refine qac ?_; apply_assumption); refine ⟨_, ?_, hJ _ _ _ ⟨p, e :: r, _, a2 :: r', Z3, rfl⟩⟩; simp only [length_cons] at hn ⊢; lia
       . have hlt' : LtS e a := by simpa using hlt
         (refine qbd rfl ?_; refine qaw rfl rfl fun Kz hz1 => ?_; refine xMn rfl rfl rfl ‹_› rfl ?_; refine qa8 (qas ‹_›) (by decide) F.plainAttrs_list F.slot_list_append F.type_list_append ⟨qab _, ?_⟩; refine xAn rfl rfl (qaf ?_); refine qbq ‹_› (by simp only [length_map, length_append, length_cons, length_nil]; lia) ?_)
         (try refine qa2 k3 (by simp; lia) ?_)
         intro H3 m3 e3; (apply_assumption; refine qaa fun Kz hz1 hz2 hz3 hz4 => ?_; refine qdj ‹_› (.inl rfl) rfl ?_; refine qad rfl ?_; refine qcr ?_; apply_assumption; refine qaa fun Kz hz1 hz2 hz3 hz4 => ?_); have Z3 := Z2.left hys hlt' m3 e3; have q1 := Z3.ext.get he; have c3 : ((p.length : Nat) : Int) + 1 = ((p ++ [e]).length : Nat) := by simp
         rw [c3] at Z3 ⊢; refine qdb ?_; (refine qaq rfl (xSn rfl ‹_› rfl (xN rfl rfl ?_))); cases r with
         | nil => exact qep nofun q1 (by rw [Z3.hx]; exact qgk) (by simp; lia) ⟨rfl, ⟨_, [], p', a :: r', Z3, .inl rfl⟩⟩
         | cons e2 r =>
           refine qbl q1 (by lia) (by simp; lia) (by rw [Z3.hx]; exact qgl) ?_; have hne : (e2 == e) = false := by
             have := qd3 (by rw [← Z.hx]; exact hxs) e2 (by simp); simpa using (qch this).symm
           (refine xN rfl rfl ?_; refine qbi ?_; refine ⟨_, rfl, ?_⟩; refine qay ‹_› ?_; refine qac ?_; apply_assumption; refine qac ?_; apply_assumption; refine qac ?_; refine qac ?_; apply_assumption; refine qac ?_; apply_assumption); refine ⟨_, ?_, hJ _ _ _ ⟨_, e2 :: r, p', a :: r', Z3, rfl⟩⟩; simp only [length_cons] at hn ⊢; lia
 . intro A' m2 H2 hy; obtain ⟨p, r, p', r', Z, hr⟩ := hy; obtain ⟨v1, v2, v3, v4, v5, v6⟩ : _ ∧ _ ∧ _ ∧ _ ∧ _ ∧ _ := ⟨Z.vi, Z.vj, Z.ve, Z.va, Z.vm, Z.vu⟩; obtain ⟨f1, f2⟩ := Z.fin hr; have b1 := congrArg List.length Z.hx; have b2 := congrArg List.length Z.hy; rw [length_append] at b1 b2; have l1 := qe5 p ys; have l2 := qe5 p' xs; have hm := Z.hm; (refine qaw rfl rfl fun Kz hz1 => ?_; refine xMn rfl rfl rfl ‹_› rfl ?_; refine qa8 (qas ‹_›) (by decide) F.plainAttrs_list F.slot_list_extend F.type_list_extend ⟨qab _, ?_⟩; refine qag rfl (qah rfl (qe9 (xN ‹_› rfl (qc1 (xN ‹_› rfl (qc0 ?_))))))); refine ⟨ex, _, some p.length, none, rfl, Z.ext.get he, by rw [length_map]; exact le_trans ‹_› (nl0_ rfl), .int _, .none, fun s1 H3 x3 n3 e3 => ?_⟩; (refine qal ?_; refine qaf ?_); refine qc4 (x3.get Z.hm) e3 (by simp [sliceV]; lia) fun H4 m4 e4 => ?_; have e4' : H4 mi = some (.list ((qb4 xs ys).map V.str)) := by
     rw [e4, f1, map_append]; simp only [sliceV, Option.getD_some, ← List.map_drop]; rw [Z.hx, List.drop_left]
   have g1 := m4.get Z.ne.symm (x3.get Z.hu); have X4 : Ext H H4 := m4.ext (Z.ext.trans x3) Z.m0; (apply_assumption; refine qaw rfl rfl fun Kz hz1 => ?_; refine xMn rfl rfl rfl ‹_› rfl ?_; refine qa8 (qas ‹_›) (by decide) F.plainAttrs_list F.slot_list_extend F.type_list_extend ⟨qab _, ?_⟩; refine qag rfl ?_; refine qah rfl ?_; refine qe9 ?_; refine xN ‹_› rfl ?_; refine qc1 ?_; refine xN ‹_› rfl ?_; refine qc0 ?_); refine ⟨ac, _, some p'.length, none, rfl, X4.get ha, by rw [length_map]; exact le_trans ‹_› (nl0_ rfl), .int _, .none, fun s2 H5 x5 n5 e5 => ?_⟩; (refine qal ?_; refine qaf ?_); refine qc4 (x5.get g1) e5 (by simp [sliceV]; lia) fun H6 m6 e6 => ?_; have e6' : H6 un = some (.list ((qb4 ys xs).map V.str)) := by
     rw [e6, f2, map_append]; simp only [sliceV, Option.getD_some, ← List.map_drop]; rw [Z.hy, List.drop_left]
   (apply_assumption; refine qaa fun Kz hz1 hz2 hz3 hz4 => ?_; refine qgo ?_; apply_assumption; apply_assumption; apply_assumption; apply_assumption; refine qaa fun Kz hz1 hz2 hz3 hz4 => ?_; refine qar ?_; refine qbc ?_; refine xLm ‹_› rfl ?_; refine xLn ‹_› rfl ?_); refine ⟨by simp, ?_⟩; (apply_assumption); exact h H6 mi un (m6.ext (X4.trans x5) Z.u0) Z.m0 Z.u0 (m6.get Z.ne (x5.get e4')) e6'
theorem qo5 {H : AH} {K : Fl -> Map -> AH -> Prop} {m : Map} {y : Str} {o : AO} (h : ∀ a H', Ext H H' -> H a = none -> H' a = some o -> Go K .next (set m y (.ref a)) H') : ∀ a, H a = none -> Go K .next (set m y (.ref a)) (upd H a o) := fun a ha => h a _ (Ext.fresh ha) ha (qai _ _ _)
theorem qs3 {H : AH} {K : V -> AH -> Prop} {o : AO} (h : ∀ a H', Ext H H' -> H a = none -> H' a = some o -> GoE K (.ref a) H') : ∀ a, H a = none -> GoE K (.ref a) (upd H a o) := fun a ha => h a _ (Ext.fresh ha) ha (qai _ _ _)
def letr (k : Nat) : Str := ⟨#[97 + k]⟩
def tx (r : Int) : Str := if r.fmod 2 = 0 then Str.ofString "abcd" else Str.ofString "abcde"
def ths (r : Int) : List Str := if r.fmod 2 = 0 then [letr 0, letr 1, letr 2, letr 3] else [letr 0, letr 1, letr 2, letr 3, letr 4]
def lets : List Str := [letr 0, letr 1, letr 2, letr 3, letr 4]
theorem qrz (r : Int) : r.fmod 2 = 0 ∨ r.fmod 2 = 1 := by
 have := Int.fmod_nonneg_of_pos r (by decide : (0 : Int) < 2); have := Int.fmod_lt_of_pos r (by decide : (0 : Int) < 2); lia
structure Th (t : Str) (ls : List Str) : Prop where
 it : ∀ H, qcw H (.str t) = some (.fixed (ls.map V.str))
 sg : ql1 t = ls.map V.str
 sub : ∀ s ∈ ls, s ∈ lets
 ord : ls.Pairwise LtS
 len : ls.length ≤ 5
 tl : t.length = ls.length
 lo : 4 ≤ ls.length
 at_ : ∀ (k : Nat) (x : Str), ls[k]? = some x -> ∃ n, t.cps[k]? = some n ∧ x = (⟨#[n]⟩ : Str)
theorem qpx (r : Int) : Th (tx r) (ths r) := by
 unfold tx ths; rcases qrz r with e | e <;> (refine (Eq.symm e) ▸ ?_)
 . rw [if_pos rfl, if_pos rfl]; have hc : (Str.ofString "abcd").cps.toList = [97, 98, 99, 100] := by decide +kernel
   have ha : (Str.ofString "abcd").cps.all (· < 128) = true := by decide +kernel
   refine ⟨fun H => ?_, ?_, by decide +kernel, by decide +kernel, by decide, by decide +kernel, by decide, fun k x h => ?_⟩
   . simp only [qcw, ha, if_true, qq4, hc]; rfl
   . unfold ql1; (refine (Eq.symm hc) ▸ ?_); rfl
   . rw [← Array.getElem?_toList, hc]
     match k, h with
     | 0, h => obtain rfl := sj0_ h; exact ⟨_, rfl, rfl⟩
     | 1, h => obtain rfl := sj0_ h; exact ⟨_, rfl, rfl⟩
     | 2, h => obtain rfl := sj0_ h; exact ⟨_, rfl, rfl⟩
     | 3, h => obtain rfl := sj0_ h; exact ⟨_, rfl, rfl⟩
 . rw [if_neg (by decide), if_neg (by decide)]; have hc : (Str.ofString "abcde").cps.toList = [97, 98, 99, 100, 101] := by decide +kernel
   have ha : (Str.ofString "abcde").cps.all (· < 128) = true := by decide +kernel
   refine ⟨fun H => ?_, ?_, by decide +kernel, by decide +kernel, by decide, by decide +kernel, by decide, fun k x h => ?_⟩
   . simp only [qcw, ha, if_true, qq4, hc]; rfl
   . unfold ql1; (refine (Eq.symm hc) ▸ ?_); rfl
   . rw [← Array.getElem?_toList, hc]
     match k, h with
     | 0, h => obtain rfl := sj0_ h; exact ⟨_, rfl, rfl⟩
     | 1, h => obtain rfl := sj0_ h; exact ⟨_, rfl, rfl⟩
     | 2, h => obtain rfl := sj0_ h; exact ⟨_, rfl, rfl⟩
     | 3, h => obtain rfl := sj0_ h; exact ⟨_, rfl, rfl⟩
     | 4, h => obtain rfl := sj0_ h; exact ⟨_, rfl, rfl⟩
theorem qhw : ∀ {c : Cx} {d : Nat} {p loose mg mb} {H : AH} {P : V -> AH -> Prop} {X : Exc -> AH -> Prop} {ra : Addr} {r : Int} {row : List Int}
   (hprog : c.prog = rw_om0166_02.row.prog) (G : Gd (KF c.w.params) p loose mg mb c.g) (hr : H ra = some (.list (V.int r :: row.map V.int)))
   (h : P (.str (tx r)) H), qbg c (d + 1) (.ref 320) [.ref ra] [] H P X := by
 w_on; k_fill; intro c d p loose mg mb H P X ra r row hprog G hr h; refine qca (d := d) (binds := [(Str.ofString "row", .ref ra)]) G (by k_is) (by k_is) (by exact bnd1 fun _ => rfl) (by rfl) (by decide +kernel) (by exact of_decide_eq_true rfl) ?_ (by rfl) (by rfl) (by rfl); intro A L; (refine qaa fun Kz hz1 hz2 hz3 hz4 => ?_; refine qar ?_); refine ql9 ?_; (refine qad rfl (qba (qad rfl (qba (xSk rfl rfl rfl ?_))))); refine qbl hr (by decide) (by decide) rfl ?_; (refine qad rfl ?_; refine qgd (by decide) ?_; refine qer ?_); refine ⟨_, _, rfl, rfl, by decide +kernel, ?_⟩; (apply_assumption); have : cutS (Str.ofString "abcde") (4 + r.fmod 2) = tx r := by
   unfold tx; rcases qrz r with e | e <;> (refine (Eq.symm e) ▸ ?_)
   . rw [if_pos rfl]; decide +kernel
   . rw [if_neg (by decide)]; decide +kernel
 (refine (Eq.symm this) ▸ ?_); exact h
def qc5 (ls : List Str) (r : Int) : List Str := (List.range ls.length).filterMap fun (k : Nat) => ls[((r + k).fmod ls.length).toNat]?
theorem qmw (ls : List Str) (r : Int) (h : 0 < ls.length) : qc5 ls r = qc5 ls (r.fmod ls.length) := by
 unfold qc5; congr 1; funext k; rw [Int.fmod_eq_emod_of_nonneg _ (by lia), Int.fmod_eq_emod_of_nonneg _ (by lia), Int.fmod_eq_emod_of_nonneg _ (by lia), Int.emod_add_emod]
theorem qg5 (r r1 : Int) : (qc5 (ths r) r1).Perm (ths r) := by
 have hlo : 0 < (ths r).length := by have := (qpx r).lo; lia
 rw [qmw _ _ hlo]; have h0 := Int.fmod_nonneg_of_pos r1 (show (0 : Int) < (ths r).length by lia); have h1 := Int.fmod_lt_of_pos r1 (show (0 : Int) < (ths r).length by lia); generalize r1.fmod (ths r).length = e at h0 h1; unfold ths at h1 ⊢; rcases qrz r with z | z <;> rw [z] at h1 ⊢
 . rw [if_pos rfl] at h1 ⊢; have : e = 0 ∨ e = 1 ∨ e = 2 ∨ e = 3 := by simp only [length_cons, length_nil] at h1; lia
   rcases this with rfl | rfl | rfl | rfl <;> decide +kernel
 . rw [if_neg (by decide)] at h1 ⊢; have : e = 0 ∨ e = 1 ∨ e = 2 ∨ e = 3 ∨ e = 4 := by simp only [length_cons, length_nil] at h1; lia
   rcases this with rfl | rfl | rfl | rfl | rfl <;> decide +kernel
structure qek (L : List Str) (n : Nat) (ps : List (Str × Str)) : Prop where
 lt : ∀ q ∈ ps, ∃ i j : Nat, i < j ∧ L[i]? = some q.1 ∧ L[j]? = some q.2
 len : ps.length ≤ n
 nd : L.Nodup
 le : L.length ≤ 5
 cnt : ∀ i j : Nat, i < j -> ∀ x y, L[i]? = some x -> L[j]? = some y -> ps.count (x, y) ≤ 2 ∧ ps.count (x, y) ≤ n - (8 * j + 2 * i)
theorem qeh {L : List Str} (h : L.Nodup) {i j : Nat} {x : Str} (hi : L[i]? = some x) (hj : L[j]? = some x) : i = j := by
 obtain ⟨h1, e1⟩ := List.getElem?_eq_some_iff.mp hi; obtain ⟨h2, e2⟩ := List.getElem?_eq_some_iff.mp hj; exact (List.getElem_inj h).mp (e1.trans e2.symm)
theorem qek.add {L : List Str} {n : Nat} {ps : List (Str × Str)} (a : qek L n ps) {i j : Nat} {x y : Str} (h : i < j) (hx : L[i]? = some x) (hy : L[j]? = some y) (hn : n ≤ 8 * j + 2 * i + 1) (hn2 : 8 * j + 2 * i ≤ n) : qek L (n + 1) (ps ++ [(x, y)]) := by
 refine ⟨fun q hq => ?_, by have := a.len; simp; assumption, a.nd, a.le, fun i' j' h' x' y' hx' hy' => ?_⟩
 . rcases mem_append.mp hq with hq | hq
   . exact a.lt q hq
   . rw [mem_singleton.mp hq]; exact ⟨i, j, h, hx, hy⟩
 . have c := a.cnt i' j' h' x' y' hx' hy'; rw [List.count_append]; by_cases e : (x, y) = (x', y')
   . cases e; have e1 := qeh a.nd hx hx'; have e2 := qeh a.nd hy hy'; subst e1 e2; rw [List.count_singleton_self]; exact ⟨Nat.succ_le_succ (le_trans c.2 (Nat.sub_le_iff_le_add.mpr ((add_comm _ 1) ▸ hn))), (Nat.succ_sub hn2) ▸ Nat.succ_le_succ c.2⟩
   . have : [(x, y)].count (x', y') = 0 := count_eq_zero.mpr fun z => e (mem_singleton.mp z).symm; rw [this]; exact ⟨c.1, le_trans c.2 (Nat.sub_le_sub_right (le_succ n) _)⟩
theorem qek.more {L : List Str} {n k : Nat} {ps : List (Str × Str)} (a : qek L n ps) (h : n ≤ k) : qek L k ps := ⟨a.lt, le_trans a.len h, a.nd, a.le, fun i j hi x y hx hy => ⟨(a.cnt i j hi x y hx hy).1, le_trans (a.cnt i j hi x y hx hy).2 (Nat.sub_le_sub_right h _)⟩⟩
theorem qek.nil {L : List Str} (h : L.Nodup) (h5 : L.length ≤ 5) : qek L 0 [] := ⟨(fun _ z => nomatch z), zero_le _, h, h5, fun _ _ _ _ _ _ _ => ⟨zero_le _, zero_le _⟩⟩
inductive qte (H0 : AH) (ra : Addr) (ls : List Str) (r : Int) (m : Map) (H : AH) : Prop
 | mk (la : Addr) (L : List Str) (x : Ext H0 H) (e : H la = some (.list (L.map V.str))) (hL : L = qc5 ls r ∨ L = (qc5 ls r).reverse) (w1 : m (Str.ofString "row") = some (.ref ra)) (w2 : m (Str.ofString "line") = some (.ref la))
inductive qrq (H0 : AH) (ra la pa : Addr) (row : List Int) (L : List Str) (n : Nat) (m : Map) (H : AH) : Prop
 | mk (ps : List (Str × Str)) (x : Ext H0 H) (a : qek L n ps) (h1 : H ra = some (.list (row.map V.int))) (h2 : H la = some (.list (L.map V.str))) (h3 : H pa = some (.list (ps.map qau))) (w1 : m (Str.ofString "row") = some (.ref ra)) (w2 : m (Str.ofString "line") = some (.ref la)) (w3 : m (Str.ofString "pairs") = some (.ref pa))
theorem qsl : ∀ late : Nat, late < 5 -> ∀ early : Nat, early < late -> 0 ≤ 2 + ((late : Int) * (late - 1)).fdiv 2 + early ∧ 2 + ((late : Int) * (late - 1)).fdiv 2 + early < 12 := by decide
theorem qqp : ∀ late : Nat, late < 5 -> (late : Int).natAbs < 2 ^ 20 ∧ ((late : Int) - 1).natAbs < 2 ^ 20 ∧ ((late : Int) * (late - 1)).natAbs < 2 ^ 20 := by decide
theorem qs5 {late early : Nat} (h1 : late < 5) (h2 : early < late) : 0 ≤ 2 + ((late : Int) * (late - 1)).fdiv 2 + early ∧ 2 + ((late : Int) * (late - 1)).fdiv 2 + early < 12 := qsl late h1 early h2
theorem qhe {n k : Nat} {dn r : List Nat} (h : List.range n = dn ++ k :: r) : k = dn.length ∧ k < n := by
 have h1 := congrArg (·[dn.length]?) h; have h2 : k < n := mem_range.mp (by rw [h]; exact mem_append_right _ (mem_cons_self ..)); have h3 : dn.length < n := by
   have := congrArg List.length h; rw [List.length_range, length_append, length_cons] at this; rw [this]; exact Nat.lt_add_of_pos_right (Nat.succ_pos _)
 simp only [List.getElem?_append_right (le_refl _), Nat.sub_self, List.getElem?_cons_zero] at h1; rw [List.getElem?_range h3] at h1; exact ⟨(sj0_ h1).symm, h2⟩
theorem ql4 {z : Int} {n : Nat} (h0 : 0 ≤ z) (h1 : z < n) : z.toNat < n := by omega
theorem qo4 {k n : Nat} (h : k < n) (h5 : n ≤ 5) : 0 ≤ (k : Int) ∧ (k : Int) < 100000 := ⟨Int.natCast_nonneg k, by omega⟩
inductive TwoJ (H0 : AH) (ra la pa : Addr) (row : List Int) (L : List Str) (n : Nat) (late early : Nat) (t : Int) (m : Map) (H : AH) : Prop
 | mk (o : qrq H0 ra la pa row L n m H) (w1 : m (Str.ofString "late") = some (.int late)) (w2 : m (Str.ofString "early") = some (.int early)) (w3 : m (Str.ofString "told") = some (.int t))
theorem qo2 {α β : Type} {f : α -> β} {l : List α} {k : Nat} {x : α} (h : l[k]? = some x) : (l.map f)[k]? = some (f x) := by rw [getElem?_map, h]; rfl
theorem qot : ∀ {c : Cx} {d : Nat} {p loose mg mb} {H : AH} {P : V -> AH -> Prop} {X : Exc -> AH -> Prop} {ra : Addr} {r : Int} {row : List Int}
   (hprog : c.prog = rw_om0166_02.row.prog) (G : Gd (KF c.w.params) p loose mg mb c.g) (hr : H ra = some (.list ((r :: row).map V.int))) (hl : row.length = 11)
   (h : ∀ a H' L ps, Ext H H' -> H' a = some (.list (ps.map qau)) -> (L = qc5 (ths r) (row.headD 0) ∨ L = (qc5 (ths r) (row.headD 0)).reverse) -> qek L 40 ps -> P (.ref a) H'), qbg c (d + 2) (.ref 325) [.ref ra] [] H P X := by
 w_on; k_fill; intro c d p loose mg mb H P X ra r row hprog G hr hl h; refine qca (d := d + 1) (binds := [(Str.ofString "row", .ref ra)]) G (by k_is) (by k_is) (by exact bnd1 fun _ => rfl) (by rfl) (by decide +kernel) (by exact of_decide_eq_true rfl) ?_ (by rfl) (by rfl) (by rfl); intro A L; obtain ⟨r1, row', rfl⟩ : ∃ r1 row', row = r1 :: row' := by
   cases row with
   | nil => exact nomatch hl
   | cons a b => exact ⟨a, b, rfl⟩
 have T := qpx r; have hlen := T.len; have hlo := T.lo; (refine qae (.inr ⟨rfl, rfl⟩) rfl fun Kz hz1 => ?_; refine qao rfl (qa4 ‹_› rfl (by k_is) ?_ rfl); refine ⟨_, rfl, (qap ‹_› (by k_is)), ?_⟩; refine xAn rfl rfl ?_); refine qak (qhw (d := d) (row := r1 :: row') hprog G hr ?_); (apply_assumption; refine qaa fun Kz hz1 hz2 hz3 hz4 => ?_; refine qcg rfl (.inl rfl) rfl (qa9 rfl rfl (by decide +kernel) rfl rfl) (fun _ => rfl) ?_; refine qao rfl ?_; refine qax ‹_› rfl (by k_is) (by boot_by_name) (by decide) ?_ rfl; refine ⟨_, rfl, (qbn _), ?_⟩; refine qag rfl ?_; refine qah rfl ?_; refine qao rfl ?_; refine qax ‹_› rfl (by k_is) (by boot_by_name) (by decide) ?_ rfl; refine ⟨_, rfl, (qab _), ?_⟩; refine xAn rfl rfl ?_); refine qhp (by rw [T.tl]; exact le_trans ‹_› (nl0_ rfl)) ?_; (refine qal ?_); refine qff (by rw [T.tl]; exact lt_of_le_of_lt ‹_› (nl0_ rfl)) ?_; rw [T.tl]; have hsq : (ths r).length < 6 := by exact lt_of_le_of_lt ‹_› (nl0_ rfl)
 have hn0 : (0 : Int) < (ths r).length := by lia
 have hpos : ∀ k : Nat, 0 ≤ (r1 + k).fmod (ths r).length ∧ (r1 + k).fmod (ths r).length < (ths r).length := fun k => ⟨Int.fmod_nonneg_of_pos _ hn0, Int.fmod_lt_of_pos _ hn0⟩; refine ⟨.fixed (upTo (ths r).length), upTo (ths r).length, rfl, fun C => ?_⟩; refine qa0 (fun k : Nat => V.int k) (fun k => (ths r)[((r1 + k).fmod (ths r).length).toNat]?.map V.str) (fun m' H' => H' = H ∧ m' (Str.ofString "things") = some (.str (tx r)) ∧ m' (Str.ofString "row") = some (.ref ra)) (fun _ _ _ => rfl) (by simp; exact le_trans ‹_› (nl0_ rfl)) ⟨rfl, rfl, rfl⟩ ?_ ?_
 . rintro k hk m1 H1 acc K hacc ⟨rfl, w1, w2⟩ hk1; refine qcq rfl ⟨hacc, ?_⟩; (refine xSn rfl ‹_› rfl (qba (qba (xSk ‹_› rfl rfl ?_)))); refine qbl hr (by decide) (by decide) rfl ?_; (refine xN rfl rfl ?_; refine qer ?_; refine qao rfl (qax ‹_› rfl (by k_is) (by boot_by_name) (by decide) ?_ rfl); refine ⟨_, rfl, (qab _), ?_⟩; refine xAn ‹_› rfl ?_); refine qhp (by rw [T.tl]; exact le_trans ‹_› (nl0_ rfl)) ?_; rw [T.tl]; refine qgd (by lia) ?_; obtain ⟨p0, p1⟩ := hpos k; obtain ⟨x, hx⟩ : ∃ x, (ths r)[((r1 + k).fmod (ths r).length).toNat]? = some x := ⟨_, getElem?_eq_getElem (ql4 p0 p1)⟩; obtain ⟨n, hn, rfl⟩ := T.at_ _ _ hx; refine qsm p0 (by lia) hn ?_; have := hk1 (set m1 (Str.ofString "place") (.int k)) H1 ⟨rfl, w1, w2⟩; rw [hx] at this; exact this
 . rintro m1 H1 ⟨rfl, w1, w2⟩; refine qo5 fun la H2 x2 n2 e2 => ?_; have hL : ([] ++ (List.range (ths r).length).filterMap fun (k : Nat) => (ths r)[((r1 + k).fmod (ths r).length).toNat]?.map V.str) = (qc5 (ths r) r1).map V.str := by
     unfold qc5; rw [nil_append, List.map_filterMap]
   rw [hL] at e2; have hll : (qc5 (ths r) r1).length ≤ 5 := le_trans (List.length_filterMap_le ..) (by rw [List.length_range]; exact hlen); (apply_assumption); refine qes (qte H1 ra (ths r) r1) ?_ ?_
   . intro C hC KC kc1 kc2 kc3 kc4; (refine qbv (qaq rfl (xSk rfl rfl rfl ?_))); refine qbl (x2.get hr) (by decide) (by decide) rfl ?_; (refine qad rfl ?_; refine qhs ?_; refine ⟨_, rfl, ?_⟩); cases hb : decide (r1 ≥ 12)
     . (refine qay rfl ?_; refine qac ?_; apply_assumption); exact hC _ _ ⟨la, _, x2, e2, .inl rfl, rfl, rfl⟩
     . (refine qbd rfl ?_; refine qae (.inl rfl) rfl fun Kz hz1 => ?_); refine qix ?_; (refine xN rfl rfl ?_); refine ⟨la, _, rfl, e2, by rw [length_map]; exact le_trans ‹_› (nl0_ rfl), fun l3 h3 => ?_⟩; have x3 : Ext H2 (upd H2 l3 (.list ((qc5 (ths r) r1).map V.str).reverse)) := Ext.fresh h3; have e3 := qai H2 l3 (.list ((qc5 (ths r) r1).map V.str).reverse); generalize upd H2 l3 (.list ((qc5 (ths r) r1).map V.str).reverse) = H3 at x3 e3 ⊢; rw [← List.map_reverse] at e3; (apply_assumption; refine qac ?_; apply_assumption); exact hC _ _ ⟨l3, _, x2.trans x3, e3, .inr rfl, rfl, rfl⟩
   . rintro m2 H3 ⟨lb, L0, x3, e3, hL0, v1, v2⟩; have hL5 : L0.length ≤ 5 := by rcases hL0 with rfl | rfl <;> (try rw [List.length_reverse]) <;> exact hll
     have hLn : L0.Nodup := by
       have := (qg5 r r1).nodup_iff.mpr ((qpx r).ord.imp qch); rcases hL0 with rfl | rfl
       . exact this
       . exact (List.reverse_perm _).nodup_iff.mpr this
     (refine qae (.inl rfl) rfl fun Kz hz1 => ?_; refine qa6 (qal ?_)); refine ⟨zero_le _, fun pa H4 x4 n4 e4 => ?_⟩; (apply_assumption; refine qaa fun Kz hz1 hz2 hz3 hz4 => ?_; refine qb5 rfl (fun _ => rfl) (by show qan _ _; exact .inl rfl) ?_; refine qao rfl ?_; refine qax ‹_› rfl (by k_is) (by boot_by_name) (by decide) ?_ rfl; refine ⟨_, rfl, (qbn _), ?_⟩; refine qag rfl ?_; refine qah rfl ?_; refine qao rfl ?_; refine qax ‹_› rfl (by k_is) (by boot_by_name) (by decide) ?_ rfl; refine ⟨_, rfl, (qab _), ?_⟩; refine xAn ‹_› rfl ?_); refine qd8 (x4.get e3) (by rw [length_map]; exact le_trans ‹_› (nl0_ rfl)) ?_; (refine qal ?_); rw [length_map]; refine qff (lt_of_le_of_lt ‹_› (nl0_ rfl)) ?_; generalize hnn : L0.length = nn at hL5; have q1 : ra ≠ pa := Ext.ne (x3.get hr) n4; have q2 : lb ≠ pa := Ext.ne e3 n4; have q3 := x3.none n4; refine ⟨.fixed (upTo nn), upTo nn, rfl, ?_⟩; refine qcd (fun k : Nat => V.int k) (fun dn rest m' H' => qrq H1 ra lb pa (r :: r1 :: row') L0 (8 * dn.length) m' H') ?_ ?_ ⟨[], x3.trans x4, qek.nil hLn (hnn ▸ hL5), x4.get (x3.get hr), x4.get e3, e4, v1, v2, rfl⟩
     . rintro m5 H5 ⟨ps, y0, ya, y1, y2, y3, u1, u2, u3⟩; refine ⟨rfl, ?_⟩; (apply_assumption; refine qaa fun Kz hz1 hz2 hz3 hz4 => ?_; refine qar ?_; refine xN ‹_› rfl ?_; apply_assumption); refine h pa H5 L0 ps y0 y3 hL0 (ya.more ?_); rw [List.length_range]; lia
     . rintro dn late rest m5 H5 hdn ⟨ps, y0, ya, y1, y2, y3, u1, u2, u3⟩; refine ⟨rfl, fun K hn _ _ _ => ⟨_, rfl, ?_⟩⟩; have hln := qhe hdn; obtain ⟨hl1, hl2⟩ := hln; (refine qaa fun Kz hz1 hz2 hz3 hz4 => ?_; refine qb5 rfl (fun _ => rfl) (by show qan _ _; exact .inl rfl) ?_; refine qao rfl (qax ‹_› rfl (by k_is) (by boot_by_name) (by decide) ?_ rfl); refine ⟨_, rfl, (qbn _), ?_⟩; refine xAn rfl rfl ?_); refine qff (by lia) ?_; refine ⟨.fixed (upTo late), upTo late, rfl, ?_⟩; refine qcd (fun k : Nat => V.int k) (fun dn2 rest m' H' => qrq H1 ra lb pa (r :: r1 :: row') L0 (8 * dn.length + 2 * dn2.length) m' H' ∧ m' (Str.ofString "late") = some (.int late)) ?_ ?_ ⟨⟨ps, y0, ya, y1, y2, y3, u1, u2, u3⟩, rfl⟩
       . rintro m6 H6 ⟨⟨ps6, z0, za, z1, z2, z3, t1, t2, t3⟩, t4⟩; refine ⟨rfl, ?_⟩; (apply_assumption; refine qac ?_); refine hn _ _ ⟨ps6, z0, za.more ?_, z1, z2, z3, t1, t2, t3⟩; simp only [List.length_range, length_append, length_cons, length_nil]; lia
       . rintro dn2 early rest2 m6 H6 hdn2 ⟨⟨ps6, z0, za, z1, z2, z3, t1, t2, t3⟩, t4⟩; refine ⟨rfl, fun K2 hn2 _ _ _ => ⟨_, rfl, ?_⟩⟩; obtain ⟨hea, hen⟩ := qhe hdn2; have hx1 : late < L0.length := hnn.symm ▸ hl2; have hsz : 8 * dn.length + 2 * dn2.length ≤ 99990 := by omega
         have hx2 : early < L0.length := lt_trans hen hx1; have la := qqp late (lt_of_lt_of_le hl2 hL5); have il := qo4 hl2 hL5; have ie := qo4 (lt_trans hen hl2) hL5; have hy1 := qo2 (f := V.str) (getElem?_eq_getElem hx1); have hy2 := qo2 (f := V.str) (getElem?_eq_getElem hx2); obtain ⟨i0, i1⟩ := qs5 (lt_of_lt_of_le hl2 hL5) hen; obtain ⟨v, hv⟩ : ∃ v, (r :: r1 :: row')[(2 + ((late : Int) * (late - 1)).fdiv 2 + early).toNat]? = some v := ⟨_, getElem?_eq_getElem (by rw [length_cons, hl]; exact ql4 (n := 12) i0 i1)⟩; (refine qae (.inl rfl) rfl fun Kz hz1 => ?_; refine qba (xSn rfl ‹_› rfl (qba ?_))); (refine qba (qad rfl (qba (qba (xN ‹_› rfl (qba (xN ‹_› rfl (qad rfl ?_))))))); refine qq8 ?_); refine qqu la.1 la.2.1 ?_; (refine qad rfl ?_); refine qoe la.2.2 (by decide) (by decide) ?_; (refine qer ?_; refine xN rfl rfl ?_; refine qer ?_); refine qbl z1 i0 (Int.lt_trans i1 (by decide)) (qo2 hv) ?_; (refine qad rfl ?_; refine qgd (by decide) ?_; apply_assumption); refine qes (TwoJ H1 ra lb pa (r :: r1 :: row') L0 (8 * dn.length + 2 * dn2.length + 1) late early (v.fmod 4)) ?_ ?_
         . intro C hC KC kc1 kc2 kc3 kc4; (refine qbv (xCn rfl rfl rfl (qad rfl ?_)); refine qhs ?_; refine ⟨_, rfl, ?_⟩); cases hb : decide (2 ≤ v.fmod 4)
           . (refine qay rfl ?_; refine qac ?_; apply_assumption); exact hC _ _ ⟨⟨ps6, z0, za.more (le_succ _), z1, z2, z3, t1, t2, t3⟩, t4, rfl, rfl⟩
           . (refine qbd rfl ?_; refine qaw rfl rfl fun Kz hz1 => ?_; refine xMn rfl rfl rfl ‹_› rfl ?_; refine qa8 (qas ‹_›) (by decide) F.plainAttrs_list F.slot_list_append F.type_list_append ⟨qab _, ?_⟩; refine qag rfl (qah rfl (qbc (qah rfl (xSn rfl ‹_› rfl (xN rfl rfl ?_)))))); refine qbl z2 ie.1 ie.2 hy2 ?_; (refine qah rfl (xSn rfl ‹_› rfl (xN ‹_› rfl ?_))); refine qbl z2 il.1 il.2 hy1 ?_; (refine qal ?_); refine ⟨by simp, ?_⟩; (refine qal ?_; refine qaf ?_); refine qa2 z3 (by rw [length_map]; exact le_trans za.len (le_trans hsz (nl0_ rfl))) ?_; intro H7 m7 e7; (apply_assumption; refine qac ?_; apply_assumption); exact hC _ _ ⟨⟨_, m7.ext z0 q3, za.add hen (getElem?_eq_getElem hx2) (getElem?_eq_getElem hx1) (by rw [hl1, hea]; exact le_succ _) (by rw [hl1, hea]; exact le_refl _), m7.get q1 z1, m7.get q2 z2, by rw [e7, map_append]; rfl, t1, t2, t3⟩, t4, rfl, rfl⟩
         . rintro m7 H7 ⟨⟨ps7, z0, za, z1, z2, z3, t1, t2, t3⟩, t4, t5, t6⟩; (refine qaa fun Kz hz1 hz2 hz3 hz4 => ?_; refine qbv (xCn rfl ‹_› rfl (qad rfl ?_)); refine qd9 ?_; refine ⟨_, rfl, ?_⟩); cases hb : (v.fmod 4 == 3)
           . (refine qay rfl ?_; refine qac ?_; apply_assumption; refine qac ?_); exact hn2 _ _ ⟨⟨ps7, z0, za.more (by rw [length_append, length_singleton]; exact le_succ _), z1, z2, z3, t1, t2, t3⟩, t4⟩
           . (refine qbd rfl ?_; refine qaw rfl rfl fun Kz hz1 => ?_; refine xMn rfl rfl rfl ‹_› rfl ?_; refine qa8 (qas ‹_›) (by decide) F.plainAttrs_list F.slot_list_append F.type_list_append ⟨qab _, ?_⟩; refine qag rfl (qah rfl (qbc (qah rfl (xSn rfl ‹_› rfl (xN ‹_› rfl ?_)))))); refine qbl z2 ie.1 ie.2 hy2 ?_; (refine qah rfl (xSn rfl ‹_› rfl (xN ‹_› rfl ?_))); refine qbl z2 il.1 il.2 hy1 ?_; (refine qal ?_); refine ⟨by simp, ?_⟩; (refine qal ?_; refine qaf ?_); refine qa2 z3 (by rw [length_map]; exact le_trans za.len (le_trans (Nat.succ_le_succ hsz) (nl0_ rfl))) ?_; intro H8 m8 e8; (apply_assumption; refine qac ?_; apply_assumption; refine qac ?_); exact hn2 _ _ ⟨⟨_, m8.ext z0 q3, (za.add hen (getElem?_eq_getElem hx2) (getElem?_eq_getElem hx1) (by rw [hl1, hea]; exact le_refl _) (by rw [hl1, hea]; exact le_succ _)).more (by rw [length_append, length_singleton]; exact le_refl _), m8.get q1 z1, m8.get q2 z2, by rw [e8, map_append]; rfl, t1, t2, t3⟩, t4⟩
theorem qex {c : Cx} {q : Md} {d : Nat} {A : Around} {env : Env} {elt target iter t2 it2 : Expr} {ifs2 : List Expr} {x : V} {m mJ : Map} {H : AH} {acc : List V} {K : Map -> AH -> List V -> Prop} {k k2 : Int} (hm : asgV target x m = some mJ)
   (h : awE c q d A env it2 mJ H (fun v HW => ∃ ik xs, qcw HW v = some ik ∧ compItems (fun H => ik.items H = some xs) (qbh c q d A env elt [⟨t2, it2, ifs2, k2⟩]) xs mJ HW acc K) noX) : qbh c q d A env elt [⟨target, iter, [], k⟩, ⟨t2, it2, ifs2, k2⟩] x m H acc K := ⟨mJ, hm, h⟩
theorem qdl {α : Type} {st : AH -> Prop} {turn : V -> Map -> AH -> List V -> (Map -> AH -> List V -> Prop) -> Prop} (g : α -> V) (f : α -> List V) (b : Nat) (J : Map -> AH -> Prop) (hst : ∀ m H, J m H -> st H) :
   ∀ {xs : List α} {m : Map} {H : AH} {acc : List V} {K : Map -> AH -> List V -> Prop}, acc.length + b * xs.length ≤ 100000 -> J m H →
     (∀ x ∈ xs, (f x).length ≤ b ∧ ∀ m H acc (K : Map -> AH -> List V -> Prop), acc.length + b ≤ 100000 -> J m H -> (∀ m' H', J m' H' -> K m' H' (acc ++ f x)) -> turn (g x) m H acc K) →
     (∀ m' H', J m' H' -> K m' H' (acc ++ xs.flatMap f)) -> compItems st turn (xs.map g) m H acc K := by
 intro xs
 induction xs with
 | nil =>
   intro m H acc K _ hj _ hk; exact ⟨hst m H hj, by simpa using hk m H hj⟩
 | cons x r ih =>
   intro m H acc K hl hj ht hk; simp only [length_cons, Nat.mul_add, Nat.mul_one] at hl; obtain ⟨h1, h2⟩ := ht x (mem_cons_self ..); refine ⟨hst m H hj, h2 m H acc _ (by lia) hj fun m' H' hj' => ih ?_ hj' (fun y hy => ht y (mem_cons_of_mem _ hy)) fun m'' H'' hj'' => ?_⟩
   . rw [length_append]; lia
   . have := hk m'' H'' hj''; rw [flatMap_cons, ← List.append_assoc] at this; exact this
def viaM (cl : List (Str × Str)) (mid : Str) : List (Str × Str) :=
 (((cl.filter fun q => q.2 == mid).map (·.1)).flatMap fun e => ((cl.filter fun q => q.1 == mid).map (·.2)).filterMap fun l => if cl.contains (e, l) then none else some (e, l))
def qa3 (ls : List Str) (ps : List (Str × Str)) : List (Str × Str) := ls.foldl (fun cl mid => cl ++ viaM cl mid) ps
def ordF (ls : List Str) (cl : List (Str × Str)) : List (Str × Str) := ls.flatMap fun e => ls.filterMap fun l => if cl.contains (e, l) then some (e, l) else none
theorem qgv (ls : List Str) (ps : List (Str × Str)) (x : Str) : qa3 (ls ++ [x]) ps = qa3 ls ps ++ viaM (qa3 ls ps) x := by unfold qa3; rw [List.foldl_append]; rfl
inductive qrn (H0 : AH) (ca : Addr) (t : Str) (ls : List Str) (ps : List (Str × Str)) (dn rest : List Str) (m : Map) (H : AH) : Prop
 | mk (x : Ext H0 H) (e : H ca = some (.list ((qa3 dn ps).map qau))) (w1 : m (Str.ofString "things") = some (.str t)) (w2 : m (Str.ofString "closed") = some (.ref ca))
theorem qms : ∀ {c : Cx} {d : Nat} {p loose mg mb} {H : AH} {P : V -> AH -> Prop} {X : Exc -> AH -> Prop} {pa : Addr} {t : Str} {ls : List Str} {ps : List (Str × Str)}
   (hprog : c.prog = rw_om0166_02.row.prog) (G : Gd (KF c.w.params) p loose mg mb c.g) (T : Th t ls) (hp : H pa = some (.list (ps.map qau))) (hb : ∀ k, (qa3 (ls.take k) ps).length ≤ 300)
   (h : New H (.list ((ordF ls (qa3 ls ps)).map qau)) P), qbg c (d + 1) (.ref 330) [.str t, .ref pa] [] H P X := by
 w_on; k_fill; intro c d p loose mg mb H P X pa t ls ps hprog G T hp hb h; refine qca (d := d) (binds := [(Str.ofString "things", .str t), (Str.ofString "pairs", .ref pa)]) G (by k_is) (by k_is) (by exact bnd2 fun _ _ => rfl) (by rfl) (by decide +kernel) (by exact of_decide_eq_true rfl) ?_ (by rfl) (by rfl) (by rfl); intro A L; have hlen := T.len; (refine qae (.inr ⟨rfl, rfl⟩) rfl fun Kz hz1 => ?_; refine qao rfl (qax ‹_› rfl (by k_is) (by boot_by_name) (by decide) ?_ rfl); refine ⟨_, rfl, (qbn _), ?_⟩; refine xAn rfl rfl ?_); refine qi6 hp (by rw [length_map]; have := hb 0; exact le_trans this (by decide)) fun ca H1 x1 n1 e1 => ?_; (apply_assumption; refine qaa fun Kz hz1 hz2 hz3 hz4 => ?_; refine qb5 rfl (fun _ => rfl) (by show qan _ _; exact .inr ⟨rfl, rfl⟩) ?_; refine xN rfl rfl ?_); refine ⟨_, ls.map V.str, T.it _, ?_⟩; refine qcd V.str (qrn H ca t ls ps) ?_ ?_ ⟨x1, e1, rfl, rfl⟩
 . rintro m2 H2 ⟨y1, y2, w1, w2⟩; refine ⟨rfl, ?_⟩; (apply_assumption; refine qaa fun Kz hz1 hz2 hz3 hz4 => ?_; refine qar ?_; refine qbb rfl (qa9 rfl rfl (by decide +kernel) rfl rfl) (fun _ => rfl) ?_; refine xN ‹_› rfl ?_); have hb2 : (qa3 ls ps).length ≤ 300 := by have := hb ls.length; rwa [List.take_length] at this
   refine ⟨_, ls.map V.str, T.it _, fun C => ?_⟩; refine qdl V.str (fun e => ls.filterMap fun l => if (qa3 ls ps).contains (e, l) then some (qau (e, l)) else none) 5 (fun m' H' => H' = H2 ∧ m' (Str.ofString "closed") = some (.ref ca) ∧ m' (Str.ofString "things") = some (.str t)) (fun m' H' j => rfl) (by simp; lia) ⟨rfl, w2, w1⟩ ?_ ?_
   . intro e he; refine ⟨le_trans (List.length_filterMap_le ..) hlen, ?_⟩; rintro m7 H7 acc7 K7 hacc7 ⟨rfl, v7, v8⟩ hk7; refine qex rfl ?_; (refine xN ‹_› rfl ?_); refine ⟨_, ls.map V.str, T.it _, ?_⟩; refine qa0 V.str (fun l => if (qa3 ls ps).contains (e, l) then some (qau (e, l)) else none) (fun m' H' => H' = H7 ∧ m' (Str.ofString "closed") = some (.ref ca) ∧ m' (Str.ofString "things") = some (.str t) ∧ m' (Str.ofString "early") = some (.str e)) (fun m' H' j => rfl) (by lia) ⟨rfl, v7, v8, rfl⟩ ?_ ?_
     . rintro l hl m8 H8 acc8 K8 hacc8 ⟨rfl, u1, u2, u3⟩ hk8; refine qb2 rfl ?_; (refine qaq rfl (qbc (xLm ‹_› rfl (xLn rfl rfl ?_)))); refine ⟨by simp, ?_⟩; (refine xN ‹_› rfl ?_); refine qlo (x := (e, l)) y2 ?_; (refine ⟨_, rfl, ?_⟩); cases hbq : (qa3 ls ps).contains (e, l)
       . (refine qay rfl ?_); have := hk8 (set m8 (Str.ofString "late") (.str l)) H8 ⟨rfl, u1, u2, u3⟩; rw [hbq] at this; simpa using this
       . refine qbd rfl ⟨hacc8, ?_⟩; (refine qbc (xLm ‹_› rfl (xLn rfl rfl ?_))); refine ⟨by simp, ?_⟩; have := hk8 (set m8 (Str.ofString "late") (.str l)) H8 ⟨rfl, u1, u2, u3⟩; rw [hbq] at this; exact this
     . rintro m8 H8 ⟨rfl, u1, u2, u3⟩; exact hk7 _ _ ⟨rfl, u1, u2⟩
   . rintro m7 H7 ⟨rfl, v7, v8⟩; have hord : ([] ++ ls.flatMap fun e => ls.filterMap fun l => if (qa3 ls ps).contains (e, l) then some (qau (e, l)) else none) = (ordF ls (qa3 ls ps)).map qau := by
       unfold ordF; rw [nil_append, List.map_flatMap]; congr 1; funext e; rw [List.map_filterMap]; congr 1; funext l; cases (qa3 ls ps).contains (e, l) <;> rfl
     (refine (Eq.symm hord) ▸ ?_); intro oa hoa; (apply_assumption); exact h oa _ (fun a o z => Ext.fresh hoa a o (y1 a o z)) (y1.none hoa) (qai _ _ _)
 . rintro dn mid r m2 H2 hls ⟨y1, y2, w1, w2⟩; refine ⟨rfl, fun K hn _ _ _ => ⟨_, rfl, ?_⟩⟩; have hb1 : (qa3 dn ps).length ≤ 300 := by
     have := hb dn.length
     rwa [hls, List.take_left] at this
   generalize hcl : qa3 dn ps = cl at *; (refine qaa fun Kz hz1 hz2 hz3 hz4 => ?_; refine qcg rfl (.inl rfl) rfl (qa9 rfl rfl (by decide +kernel) rfl rfl) (fun _ => rfl) ?_; refine xN ‹_› rfl ?_); refine ⟨.list ca, cl.map qau, (qb1 y2), fun C => ?_⟩; refine qa0 qau (fun q => if q.2 == mid then some (V.str q.1) else none) (fun m' H' => H' = H2 ∧ m' (Str.ofString "middle") = some (.str mid)) (fun m' H' j => (j.1 ▸ qbm y2)) (by simp; exact le_trans ‹_› (nl0_ rfl)) ⟨rfl, rfl⟩ ?_ ?_
   . rintro q hq m3 H3 acc K3 hacc ⟨rfl, v1⟩ hk3; refine qb2 rfl ?_; (refine xCn rfl rfl rfl (xN ‹_› rfl ?_); refine qbi ?_; refine ⟨_, rfl, ?_⟩); cases hbq : (q.2 == mid)
     . (refine qay rfl ?_); have := hk3 (set (set m3 (Str.ofString "early") (.str q.1)) (Str.ofString "late") (.str q.2)) H3 ⟨rfl, v1⟩; rw [hbq] at this; simpa using this
     . refine qbd rfl ⟨hacc, ?_⟩; (refine xN rfl rfl ?_); have := hk3 (set (set m3 (Str.ofString "early") (.str q.1)) (Str.ofString "late") (.str q.2)) H3 ⟨rfl, v1⟩; rw [hbq] at this; exact this
   . rintro m3 H3 ⟨rfl, v1⟩; refine qo5 fun ia H4 x4 n4 e4 => ?_; have hin : ([] ++ cl.filterMap fun q => if q.2 == mid then some (V.str q.1) else none) = ((cl.filter fun q => q.2 == mid).map (·.1)).map V.str := by
       rw [nil_append, map_map, ← List.filterMap_eq_map, List.filterMap_filter]; rfl
     rw [hin] at e4; generalize hI : (cl.filter fun q => q.2 == mid).map (·.1) = inn at *; have hIl : inn.length ≤ 300 := by rw [← hI, length_map]; exact le_trans (length_filter_le ..) hb1
     (apply_assumption; refine qae (.inr ⟨rfl, rfl⟩) rfl fun Kz hz1 => ?_; refine qbb rfl (qa9 rfl rfl (by decide +kernel) rfl rfl) (fun _ => rfl) ?_; refine xN ‹_› rfl ?_); refine ⟨.list ca, cl.map qau, (qb1 (x4.get y2)), fun C2 => ?_⟩; refine qa0 qau (fun q => if q.1 == mid then some (V.str q.2) else none) (fun m' H' => H' = H4 ∧ m' (Str.ofString "middle") = some (.str mid)) (fun m' H' j => (j.1 ▸ qbm (x4.get y2))) (by simp; exact le_trans ‹_› (nl0_ rfl)) ⟨rfl, rfl⟩ ?_ ?_
     . rintro q hq m5 H5 acc K5 hacc ⟨rfl, v5⟩ hk5; refine qb2 rfl ?_; (refine xCn rfl rfl rfl (xN ‹_› rfl ?_); refine qbi ?_; refine ⟨_, rfl, ?_⟩); cases hbq : (q.1 == mid)
       . (refine qay rfl ?_); have := hk5 (set (set m5 (Str.ofString "early") (.str q.1)) (Str.ofString "late") (.str q.2)) H5 ⟨rfl, v5⟩; rw [hbq] at this; simpa using this
       . refine qbd rfl ⟨hacc, ?_⟩; (refine xN rfl rfl ?_); have := hk5 (set (set m5 (Str.ofString "early") (.str q.1)) (Str.ofString "late") (.str q.2)) H5 ⟨rfl, v5⟩; rw [hbq] at this; exact this
     . rintro m5 H5 ⟨rfl, v5⟩; refine qs3 fun oa H6 x6 n6 e6 => ?_; have hout : ([] ++ cl.filterMap fun q => if q.1 == mid then some (V.str q.2) else none) = ((cl.filter fun q => q.1 == mid).map (·.2)).map V.str := by
         rw [nil_append, map_map, ← List.filterMap_eq_map, List.filterMap_filter]; rfl
       rw [hout] at e6; generalize hO : (cl.filter fun q => q.1 == mid).map (·.2) = out at *; have hOl : out.length ≤ 300 := by rw [← hO, length_map]; exact le_trans (length_filter_le ..) hb1
       have z1 := (x4.trans x6).get y2; have y2' := z1; have z2 := x6.get e4; (apply_assumption; refine qaw rfl rfl fun Kz hz1 => ?_; refine xMn rfl rfl rfl ‹_› rfl ?_; refine qa8 (qas ‹_›) (by decide) F.plainAttrs_list F.slot_list_extend F.type_list_extend ⟨qab _, ?_⟩; refine qag rfl ?_; refine qah rfl ?_; refine qbb rfl (qa9 rfl rfl (by decide +kernel) rfl rfl) (fun _ => rfl) ?_; refine xN rfl rfl ?_); refine ⟨.list ia, inn.map V.str, (qb1 z2), fun C3 => ?_⟩; refine qdl V.str (fun e => out.filterMap fun l => if cl.contains (e, l) then none else some (qau (e, l))) 300 (fun m' H' => H' = H6 ∧ m' (Str.ofString "closed") = some (.ref ca) ∧ m' (Str.ofString "out") = some (.ref oa)) (fun m' H' j => (by rw [j.1]; exact qbm z2)) (by simp; lia) ⟨rfl, w2, rfl⟩ ?_ ?_
       . intro e he; refine ⟨le_trans (List.length_filterMap_le ..) hOl, ?_⟩; rintro m7 H7 acc7 K7 hacc7 ⟨rfl, v7, v8⟩ hk7; refine qex rfl ?_; (refine xN ‹_› rfl ?_); refine ⟨.list oa, out.map V.str, (qb1 e6), ?_⟩; refine qa0 V.str (fun l => if cl.contains (e, l) then none else some (qau (e, l))) (fun m' H' => H' = H7 ∧ m' (Str.ofString "closed") = some (.ref ca) ∧ m' (Str.ofString "out") = some (.ref oa) ∧ m' (Str.ofString "early") = some (.str e)) (fun m' H' j => (j.1 ▸ qbm e6)) (by lia) ⟨rfl, v7, v8, rfl⟩ ?_ ?_
         . rintro l hl m8 H8 acc8 K8 hacc8 ⟨rfl, u1, u2, u3⟩ hk8; refine qb2 rfl ?_; (refine qaq rfl (qbc (xLm ‹_› rfl (xLn rfl rfl ?_)))); refine ⟨by simp, ?_⟩; (refine xN ‹_› rfl ?_); refine qdo (x := (e, l)) y2' ?_; (refine ⟨_, rfl, ?_⟩); cases hbq : cl.contains (e, l)
           . refine qbd rfl ⟨hacc8, ?_⟩; (refine qbc (xLm ‹_› rfl (xLn rfl rfl ?_))); refine ⟨by simp, ?_⟩; have := hk8 (set m8 (Str.ofString "late") (.str l)) H8 ⟨rfl, u1, u2, u3⟩; rw [hbq] at this; exact this
           . (refine qay rfl ?_); have := hk8 (set m8 (Str.ofString "late") (.str l)) H8 ⟨rfl, u1, u2, u3⟩; rw [hbq] at this; simpa using this
         . rintro m8 H8 ⟨rfl, u1, u2, u3⟩; exact hk7 _ _ ⟨rfl, u1, u2⟩
       . rintro m7 H7 ⟨rfl, v7, v8⟩; intro ea hea; generalize hU : upd _ ea _ = H8; have x8 : Ext H7 H8 := hU ▸ Ext.fresh hea; have e8 := qai H7 ea (.list ([] ++ inn.flatMap fun e => out.filterMap fun l => if cl.contains (e, l) then none else some (qau (e, l)))); rw [hU] at e8; have hvia : ([] ++ inn.flatMap fun e => out.filterMap fun l => if cl.contains (e, l) then none else some (qau (e, l))) = (viaM cl mid).map qau := by
           unfold viaM; rw [nil_append, hI, hO, List.map_flatMap]; congr 1; funext e; rw [List.map_filterMap]; congr 1; funext l; cases cl.contains (e, l) <;> rfl
         rw [hvia] at e8; (refine qal ?_; refine qaf ?_); refine qc4 (x8.get z1) e8 ?_ fun H9 m9 e9 => ?_
         . rw [length_map, length_map]; have := hb (dn.length + 1); rw [show ls.take (dn.length + 1) = dn ++ [mid] by rw [hls, List.take_append]; simp; exact List.take_of_length_le (le_succ _), qgv, hcl, length_append] at this; exact le_trans ‹_› (nl0_ rfl)
         (apply_assumption; refine qac ?_); refine hn _ _ ⟨m9.ext (y1.trans (x4.trans (x6.trans x8))) n1, ?_, w1, w2⟩; rw [e9, qgv, hcl, map_append]
def qg2 (cl : List (Str × Str)) (p q : Str × Str) : Bool := cl.contains (q.1, p.2) && (!cl.contains (p.1, q.2) && (!cl.contains (q.1, p.1) && !cl.contains (q.2, p.2)))
def qjh (cl : List (Str × Str)) : Bool := cl.any fun p => cl.any (qg2 cl p)
inductive qtb (H : AH) (ca : Addr) (cl dn rest : List (Str × Str)) (m : Map) (H' : AH) : Prop
 | mk (e : H' = H) (w : m (Str.ofString "closed") = some (.ref ca)) (n : (dn.any fun p => cl.any (qg2 cl p)) = false)
inductive qst (H : AH) (ca : Addr) (cl : List (Str × Str)) (p : Str × Str) (dn rest : List (Str × Str)) (m : Map) (H' : AH) : Prop
 | mk (e : H' = H) (w : m (Str.ofString "closed") = some (.ref ca)) (a : m (Str.ofString "a") = some (.str p.1)) (c : m (Str.ofString "c") = some (.str p.2)) (n : (dn.any (qg2 cl p)) = false)
theorem qfx : ∀ {c : Cx} {d : Nat} {p loose mg mb} {H : AH} {P : V -> AH -> Prop} {X : Exc -> AH -> Prop} {ca : Addr} {cl : List (Str × Str)}
   (hprog : c.prog = rw_om0166_02.row.prog) (G : Gd (KF c.w.params) p loose mg mb c.g) (hp : H ca = some (.list (cl.map qau)))
   (h : P (.bool (qjh cl)) H), qbg c (d + 1) (.ref 337) [.ref ca] [] H P X := by
 w_on; k_fill; intro c d p loose mg mb H P X ca cl hprog G hp h; refine qca (d := d) (binds := [(Str.ofString "closed", .ref ca)]) G (by k_is) (by k_is) (by exact bnd1 fun _ => rfl) (by rfl) (by decide +kernel) (by exact of_decide_eq_true rfl) ?_ (by rfl) (by rfl) (by rfl); intro A L; (refine qaa fun Kz hz1 hz2 hz3 hz4 => ?_; refine qb5 rfl (fun _ => rfl) (⟨(Or.inl rfl : qan _ _), (Or.inl rfl : qan _ _)⟩) ?_; refine xN rfl rfl ?_); refine ⟨.list ca, cl.map qau, (qb1 hp), ?_⟩; refine qcd qau (qtb H ca cl) ?_ ?_ ⟨rfl, rfl, rfl⟩
 . rintro m2 H2 ⟨rfl, w1, w2⟩; refine ⟨(qbm hp), ?_⟩; (apply_assumption; refine qaa fun Kz hz1 hz2 hz3 hz4 => ?_; refine qar ?_; refine qad rfl ?_; apply_assumption); have : qjh cl = false := w2; rw [this] at h; exact h
 . rintro dn p0 r m2 H2 hcl ⟨rfl, w1, w2⟩; refine ⟨(qbm hp), fun K hn _ _ hret => ⟨_, rfl, ?_⟩⟩; (refine qaa fun Kz hz1 hz2 hz3 hz4 => ?_; refine qb5 rfl (fun _ => rfl) (⟨(Or.inl rfl : qan _ _), (Or.inl rfl : qan _ _)⟩) ?_; refine xN ‹_› rfl ?_); refine ⟨.list ca, cl.map qau, (qb1 hp), ?_⟩; refine qcd qau (qst H2 ca cl p0) ?_ ?_ ⟨rfl, w1, rfl, rfl, rfl⟩
   . rintro m3 H3 ⟨rfl, v1, v2, v3, v4⟩; refine ⟨(qbm hp), ?_⟩; (apply_assumption; refine qac ?_); exact hn _ _ ⟨rfl, v1, by rw [List.any_append, w2, any_cons, v4]; rfl⟩
   . rintro dn2 q0 r2 m3 H3 hcl2 ⟨rfl, v1, v2, v3, v4⟩; refine ⟨(qbm hp), fun K2 hn2 _ _ hret2 => ⟨_, rfl, ?_⟩⟩; have hp0 : p0 ∈ cl := by rw [hcl]; simp
     have hq0 : q0 ∈ cl := by rw [hcl2]; simp
     have yes : qg2 cl p0 q0 = true -> P (.bool true) H3 := fun e => by
       have : qjh cl = true := any_eq_true.mpr ⟨p0, hp0, any_eq_true.mpr ⟨q0, hq0, e⟩⟩; rw [this] at h; exact h
     have no : qg2 cl p0 q0 = false -> qst H3 ca cl p0 (dn2 ++ [q0]) r2 (set (set m3 (Str.ofString "b") (.str q0.1)) (Str.ofString "d") (.str q0.2)) H3 := fun e => ⟨rfl, v1, v2, v3, by rw [List.any_append, v4, any_cons, e]; rfl⟩; have hun : qg2 cl p0 q0 = (cl.contains (q0.1, p0.2) && (!cl.contains (p0.1, q0.2) && (!cl.contains (q0.1, p0.1) && !cl.contains (q0.2, p0.2)))) := rfl; rw [hun] at yes no; (refine qaa fun Kz hz1 hz2 hz3 hz4 => ?_; refine qbv (qda (qbf (qaq rfl (qbc (xLm rfl rfl (xLn ‹_› rfl ?_))))))); refine ⟨nl0_ rfl, ?_⟩; (refine xN ‹_› rfl ?_); refine qlo (x := (q0.1, p0.2)) hp ?_; (refine ⟨_, rfl, ?_⟩); cases h1 : cl.contains (q0.1, p0.2)
     . rw [h1] at no; (refine qay rfl ?_; refine qay rfl ?_; refine qac ?_; apply_assumption; refine qac ?_); exact hn2 _ _ (no rfl)
     (refine qbd rfl ?_; refine qbf (qaq rfl (qbc (xLm ‹_› rfl (xLn rfl rfl ?_))))); refine ⟨nl0_ rfl, ?_⟩; (refine xN ‹_› rfl ?_); refine qdo (x := (p0.1, q0.2)) hp ?_; (refine ⟨_, rfl, ?_⟩); cases h2 : cl.contains (p0.1, q0.2)
     rotate_left
     . rw [h1, h2] at no; (refine qay rfl ?_; refine qay rfl ?_; refine qac ?_; apply_assumption; refine qac ?_); exact hn2 _ _ (no rfl)
     (refine qbd rfl ?_; refine qbf (qaq rfl (qbc (xLm rfl rfl (xLn ‹_› rfl ?_))))); refine ⟨nl0_ rfl, ?_⟩; (refine xN ‹_› rfl ?_); refine qdo (x := (q0.1, p0.1)) hp ?_; (refine ⟨_, rfl, ?_⟩); cases h3 : cl.contains (q0.1, p0.1)
     rotate_left
     . rw [h1, h2, h3] at no; (refine qay rfl ?_; refine qay rfl ?_; refine qac ?_; apply_assumption; refine qac ?_); exact hn2 _ _ (no rfl)
     (refine qbd rfl ?_; refine qbf (qaq rfl (qbc (xLm rfl rfl (xLn ‹_› rfl ?_))))); refine ⟨nl0_ rfl, ?_⟩; (refine xN ‹_› rfl ?_); refine qdo (x := (q0.2, p0.2)) hp ?_; (refine ⟨_, rfl, ?_⟩); cases h4 : cl.contains (q0.2, p0.2)
     rotate_left
     . rw [h1, h2, h3, h4] at no; (refine qay rfl ?_; refine qay rfl ?_; refine qac ?_; apply_assumption; refine qac ?_); exact hn2 _ _ (no rfl)
     rw [h1, h2, h3, h4] at yes; (refine qbd rfl ?_; refine qcv ?_; refine qbd rfl ?_; refine qaa fun Kz hz1 hz2 hz3 hz4 => ?_; refine qar (qad rfl ?_); apply_assumption; apply_assumption); refine hret2 _ _ _ ?_; (apply_assumption); refine hret _ _ _ ?_; (apply_assumption); exact yes rfl
structure HL (H : AH) (st dd l : Addr) (ps : List (Str × Str)) : Prop where
 h1 : H st = some (.inst 182 dd)
 h2 : H dd = some (.ns [(Str.ofString "_headers", .ref l)])
 h3 : H l = some (.list (ps.map qau))
theorem HL.at_ {H : AH} {st dd l : Addr} {ps : List (Str × Str)} (h : HL H st dd l ps) : qeq H st ps := ⟨dd, l, h.h1, h.h2, h.h3⟩
theorem HL.more {H H' : AH} {st dd l : Addr} {ps : List (Str × Str)} (h : HL H st dd l ps) (x : Ext H H') : HL H' st dd l ps := ⟨x.get h.h1, x.get h.h2, x.get h.h3⟩
def ExtB (H : AH) (l : Addr) (H' : AH) : Prop := ∀ b o, b ≠ l -> H b = some o -> H' b = some o
theorem ExtB.of {H H1 H' : AH} {l : Addr} (x : Ext H H1) (m : Mod H1 l H') : ExtB H l H' := fun b o hb e => m.get hb (x.get e)
theorem ExtB.ext {H H1 H' : AH} {l : Addr} (x : Ext H H1) (m : ExtB H1 l H') (hl : H l = none) : Ext H H' := fun b o e => m b o (Ext.ne e hl) (x.get e)
theorem ExtB.post {H H1 H' : AH} {l : Addr} (m : ExtB H l H1) (x : ExtB H1 l H') : ExtB H l H' := fun b o hb e => x b o hb (m b o hb e)
theorem HL.turn {H H' : AH} {st dd l : Addr} {ps ps' : List (Str × Str)} (h : HL H st dd l ps) (x : ExtB H l H') (e : H' l = some (.list (ps'.map qau))) : HL H' st dd l ps' := by
 refine ⟨x _ _ (fun z => ?_) h.h1, x _ _ (fun z => ?_) h.h2, e⟩
 . have := h.h1; rw [z, h.h3] at this; exact nomatch this
 . have := h.h2; rw [z, h.h3] at this; exact nomatch this
theorem qom : ∀ {c : Cx} {d : Nat} {p loose mg mb} {H : AH} {P : V -> AH -> Prop} {X : Exc -> AH -> Prop} {st dd l : Addr} {ps : List (Str × Str)}
   (hprog : c.prog = rw_om0166_02.row.prog) (G : Gd (KF c.w.params) p loose mg mb c.g) (S : HL H st dd l ps) (hl : ps.length ≤ 100)
   (h : New H (.list ((ps.map (·.1)).map V.str)) P), qbg c (d + 1) (.ref 134) [.ref st] [] H P X := by
 w_on; k_fill; intro c d p loose mg mb H P X st dd l ps hprog G S hl h; refine qca (d := d) (binds := [(Str.ofString "self", .ref st)]) G (by k_is) (by k_is) (by exact bnd1 fun _ => rfl) (by rfl) (by decide +kernel) (by exact of_decide_eq_true rfl) ?_ (by rfl) (by rfl) (by rfl); intro A L; have h1 := S.h1; have h2 := S.h2; have h3 := S.h3; (refine qaa fun Kz hz1 hz2 hz3 hz4 => ?_; refine qar ?_; refine qbb rfl (qa9 rfl rfl (by decide +kernel) rfl rfl) (fun _ => rfl) ?_; refine xAt rfl rfl rfl ?_; refine qam ‹_› ‹_› ‹_› (by k_is) (by k_is) (by k_is) (by k_is) rfl (by intro i h; cases h) ?_); refine ⟨.list l, ps.map qau, by simp [qcw, h3], fun C => ?_⟩; refine qa0 qau (fun q => some (V.str q.1)) (fun m' H' => H' = H) (fun m' H' j => by simp [IK.items, j, h3]) (by simp; exact le_trans ‹_› (nl0_ rfl)) rfl ?_ ?_
 . rintro q hq m3 H3 acc K3 hacc rfl hk3; refine qcq rfl ⟨hacc, ?_⟩; (refine xN rfl rfl ?_); exact hk3 _ _ rfl
 . rintro m3 H3 rfl; have e : ([] ++ ps.filterMap fun q => some (V.str q.1)) = (ps.map (·.1)).map V.str := by rw [nil_append, filterMap_eq_map', map_map]; rfl
   rw [e]; intro a ha; (apply_assumption); exact h a _ (Ext.fresh ha) ha (qai _ _ _)
theorem qkv : ∀ {c : Cx} {d : Nat} {p loose mg mb} {H : AH} {P : V -> AH -> Prop} {X : Exc -> AH -> Prop} {st dd l : Addr} {ps : List (Str × Str)}
   (hprog : c.prog = rw_om0166_02.row.prog) (G : Gd (KF c.w.params) p loose mg mb c.g) (S : HL H st dd l ps) (hl : ps.length ≤ 100)
   (h : New H (.list ((ps.map (·.2)).map V.str)) P), qbg c (d + 1) (.ref 139) [.ref st] [] H P X := by
 w_on; k_fill; intro c d p loose mg mb H P X st dd l ps hprog G S hl h; refine qca (d := d) (binds := [(Str.ofString "self", .ref st)]) G (by k_is) (by k_is) (by exact bnd1 fun _ => rfl) (by rfl) (by decide +kernel) (by exact of_decide_eq_true rfl) ?_ (by rfl) (by rfl) (by rfl); intro A L; have h1 := S.h1; have h2 := S.h2; have h3 := S.h3; (refine qaa fun Kz hz1 hz2 hz3 hz4 => ?_; refine qar ?_; refine qbb rfl (qa9 rfl rfl (by decide +kernel) rfl rfl) (fun _ => rfl) ?_; refine xAt rfl rfl rfl ?_; refine qam ‹_› ‹_› ‹_› (by k_is) (by k_is) (by k_is) (by k_is) rfl (by intro i h; cases h) ?_); refine ⟨.list l, ps.map qau, by simp [qcw, h3], fun C => ?_⟩; refine qa0 qau (fun q => some (V.str q.2)) (fun m' H' => H' = H) (fun m' H' j => by simp [IK.items, j, h3]) (by simp; exact le_trans ‹_› (nl0_ rfl)) rfl ?_ ?_
 . rintro q hq m3 H3 acc K3 hacc rfl hk3; refine qcq rfl ⟨hacc, ?_⟩; (refine xN rfl rfl ?_); exact hk3 _ _ rfl
 . rintro m3 H3 rfl; have e : ([] ++ ps.filterMap fun q => some (V.str q.2)) = (ps.map (·.2)).map V.str := by rw [nil_append, filterMap_eq_map', map_map]; rfl
   rw [e]; intro a ha; (apply_assumption); exact h a _ (Ext.fresh ha) ha (qai _ _ _)
theorem qlm : ∀ {c : Cx} {d : Nat} {p loose mg mb} {H : AH} {P : V -> AH -> Prop} {X : Exc -> AH -> Prop} {st dd l : Addr} {ps : List (Str × Str)}
   (hprog : c.prog = rw_om0166_02.row.prog) (G : Gd (KF c.w.params) p loose mg mb c.g) (S : HL H st dd l ps) (hl : ps.length ≤ 100)
   (h : P (.int ps.length) H), qbg c (d + 1) (.ref 90) [.ref st] [] H P X := by
 w_on; k_fill; intro c d p loose mg mb H P X st dd l ps hprog G S hl h; refine qca (d := d) (binds := [(Str.ofString "self", .ref st)]) G (by k_is) (by k_is) (by exact bnd1 fun _ => rfl) (by rfl) (by decide +kernel) (by exact of_decide_eq_true rfl) ?_ (by rfl) (by rfl) (by rfl); intro A L; have h1 := S.h1; have h2 := S.h2; have h3 := S.h3; (refine qaa fun Kz hz1 hz2 hz3 hz4 => ?_; refine qar (qao rfl (qax ‹_› rfl (by k_is) (by boot_by_name) (by decide) ?_ rfl)); refine ⟨_, rfl, (qab _), ?_⟩; refine qag rfl (qah rfl (xAt rfl rfl rfl ?_)); refine qam ‹_› ‹_› ‹_› (by k_is) (by k_is) (by k_is) (by k_is) rfl (by intro i h; cases h) ?_; refine qal ?_); refine qd8 h3 (by rw [length_map]; exact le_trans ‹_› (nl0_ rfl)) ?_; rw [length_map]; (apply_assumption); exact h
def qg1 (ps : List (Str × Str)) (x : Str) : Option Str := (ps.find? fun q => Txt.lower q.1 == Txt.lower x).map (·.2)
theorem qjk : ∀ {c : Cx} {d : Nat} {p loose mg mb} {H : AH} {P : V -> AH -> Prop} {X : Exc -> AH -> Prop} {st dd l : Addr} {ps : List (Str × Str)} {x y : Str}
   (hprog : c.prog = rw_om0166_02.row.prog) (G : Gd (KF c.w.params) p loose mg mb c.g) (S : HL H st dd l ps) (hx : x.length ≤ 1000) (hc : qbz (KF c.w.params) 48 (Txt.lower x)) (hps : ∀ q ∈ ps, q.1.length ≤ 1000) (hy : qg1 ps x = some y)
   (h : P (.str y) H), qbg c (d + 3) (.ref 109) [.ref st, .str x] [] H P X := by
 w_on; k_fill; intro c d p loose mg mb H P X st dd l ps x y hprog G S hx hc hps hy h; refine qca (d := d + 2) (binds := [(Str.ofString "self", .ref st), (Str.ofString "name", .str x)]) G (by k_is) (by k_is) (by exact bnd2 fun _ _ => rfl) (by rfl) (by decide +kernel) (by exact of_decide_eq_true rfl) ?_ (by rfl) (by rfl) (by rfl); intro A L; have h1 := S.h1; have h2 := S.h2; (refine qaa fun Kz hz1 hz2 hz3 hz4 => ?_; refine qar (xMn rfl rfl rfl rfl rfl ?_); refine qbe ‹_› ‹_› ‹_› (by k_is) (by k_is) (by k_is) rfl ⟨qap ‹_› (by k_is), ?_⟩; refine xAn rfl rfl (qaf ?_)); refine qak (get_ hprog G S.at_ hx hc hps ?_); obtain ⟨q, hq, rfl⟩ := Option.map_eq_some_iff.mp hy; rw [hq]; (apply_assumption); exact h
def without_ (ps : List (Str × Str)) (x : Str) : List (Str × Str) := ps.filter fun q => Txt.lower q.1 != Txt.lower x
theorem qll : ∀ {c : Cx} {d : Nat} {p loose mg mb} {H : AH} {P : V -> AH -> Prop} {X : Exc -> AH -> Prop} {st dd l : Addr} {ps : List (Str × Str)} {x : Str}
   (hprog : c.prog = rw_om0166_02.row.prog) (G : Gd (KF c.w.params) p loose mg mb c.g) (S : HL H st dd l ps) (hx : x.length ≤ 1000) (hc : qbz (KF c.w.params) 48 (Txt.lower x)) (hps : ∀ q ∈ ps, q.1.length ≤ 1000) (hpl : ps.length ≤ 1000)
   (h : ∀ H', ExtB H l H' -> H' l = some (.list ((without_ ps x).map qau)) -> P .none H'), qbg c (d + 2) (.ref 102) [.ref st, .str x] [] H P X := by
 w_on; k_fill; intro c d p loose mg mb H P X st dd l ps x hprog G S hx hc hps hpl h; refine qca (d := d + 1) (binds := [(Str.ofString "self", .ref st), (Str.ofString "name", .str x)]) G (by k_is) (by k_is) (by exact bnd2 fun _ _ => rfl) (by rfl) (by decide +kernel) (by exact of_decide_eq_true rfl) ?_ (by rfl) (by rfl) (by rfl); intro A L; have h1 := S.h1; have h2 := S.h2; have h3 := S.h3; (refine qae (.inr ⟨rfl, rfl⟩) rfl fun Kz hz1 => ?_; refine qdt (few := true) rfl rfl rfl (fun _ => rfl) (by intro _ h; first | rfl | cases h) ?_; refine xN rfl rfl ?_; refine qbe ‹_› ‹_› ‹_› (by k_is) (by k_is) (by k_is) rfl ⟨qap ‹_› (by k_is), ?_⟩; refine qcy rfl ?_; refine qah rfl (xMn rfl rfl rfl rfl rfl ?_); refine qa8 rfl (by decide) F.plainAttrs_str F.slot_str_lower F.type_str_lower ⟨qab _, ?_⟩; refine qav ?_; refine qaf ?_; refine qcj ‹_› ?_; refine qal ?_; refine qad rfl (qaf ?_)); refine qak (conv (b := true) hprog G hc ?_); (apply_assumption; refine qaa fun Kz hz1 hz2 hz3 hz4 => ?_); refine qi1 rfl rfl ?_; (refine qbb rfl (qa9 rfl rfl (by decide +kernel) rfl rfl) (fun _ => rfl) ?_; refine xAt rfl rfl rfl ?_; refine qam ‹_› ‹_› ‹_› (by k_is) (by k_is) (by k_is) (by k_is) rfl (by intro i h; cases h) ?_)
 refine ⟨.list l, ps.map qau, (qb1 h3), fun C => ?_⟩; refine qa0 qau (fun q => if Txt.lower q.1 != Txt.lower x then some (qau q) else none) (fun m' H' => H' = H ∧ m' (Str.ofString "name") = some (.str (Txt.lower x))) (fun m' H' j => (j.1 ▸ qbm h3)) (by simp; omega) ⟨rfl, rfl⟩ ?_ ?_
 . rintro q hq m3 H3 acc K3 hacc ⟨rfl, v1⟩ hk3; have hq1 := hps q hq; refine qb2 rfl ?_; (refine qaq rfl (qcf (few := true) rfl rfl rfl (xSk rfl rfl rfl ?_)); refine qbu (by decide) (by decide) rfl ?_; refine qa8 rfl (by decide) F.plainAttrs_str F.slot_str_lower F.type_str_lower ⟨qab _, ?_⟩; refine qav ?_; refine qaf ?_; refine qcj ‹_› ?_; refine xN ‹_› rfl ?_; refine qck ?_; refine ⟨_, rfl, ?_⟩); cases hb : (Txt.lower q.1 != Txt.lower x)
   . (refine qay ‹_› ?_); have := hk3 (set m3 (Str.ofString "kv") (qau q)) H3 ⟨rfl, v1⟩; rw [hb] at this; simpa using this
   . refine qbd hb ⟨hacc, ?_⟩; (refine xN rfl rfl ?_); have := hk3 (set m3 (Str.ofString "kv") (qau q)) H3 ⟨rfl, v1⟩; rw [hb] at this; exact this
 . rintro m3 H3 ⟨rfl, v1⟩; have e : ([] ++ ps.filterMap fun q => if Txt.lower q.1 != Txt.lower x then some (qau q) else none) = (without_ ps x).map qau := by
     unfold without_; rw [nil_append, ← List.filterMap_eq_map, List.filterMap_filter]; rfl
   (refine (Eq.symm e) ▸ ?_); intro a ha; have x4 : Ext H3 (upd H3 a (.list ((without_ ps x).map qau))) := Ext.fresh ha; have e4 := qai H3 a (.list ((without_ ps x).map qau)); generalize upd H3 a (.list ((without_ ps x).map qau)) = H4 at x4 e4 ⊢; have g1 := x4.get h1; have g2 := x4.get h2; have g3 := x4.get h3; have hla : l ≠ a := Ext.ne h3 ha; (refine xAt rfl rfl rfl ?_; refine qam ‹_› ‹_› ‹_› (by k_is) (by k_is) (by k_is) (by k_is) rfl (by intro i h; cases h) ?_); refine ⟨l, a, _, _, rfl, rfl, hla, g3, e4, ?_, ?_⟩
   . rw [length_map, length_map]; have := length_filter_le (fun q : Str × Str => Txt.lower q.1 != Txt.lower x) ps; unfold without_; omega
   (apply_assumption; refine qac ?_); exact h _ (ExtB.of x4 (Mod.upd _ _ _)) (qai _ _ _)
theorem qqn : ∀ {c : Cx} {d : Nat} {p loose mg mb} {H : AH} {P : V -> AH -> Prop} {X : Exc -> AH -> Prop} {st dd l : Addr} {ps : List (Str × Str)} {x y : Str}
   (hprog : c.prog = rw_om0166_02.row.prog) (G : Gd (KF c.w.params) p loose mg mb c.g) (S : HL H st dd l ps) (hx : x.length ≤ 1000) (hc : qbz (KF c.w.params) 48 (Txt.lower x)) (hc2 : qbz (KF c.w.params) 48 x) (hc3 : qbz (KF c.w.params) 53 y) (hps : ∀ q ∈ ps, q.1.length ≤ 1000) (hpl : ps.length ≤ 1000)
   (h : ∀ H', ExtB H l H' -> H' l = some (.list ((without_ ps x ++ [(x, y)]).map qau)) -> P .none H'), qbg c (d + 3) (.ref 97) [.ref st, .str x, .str y] [] H P X := by
 w_on; k_fill; intro c d p loose mg mb H P X st dd l ps x y hprog G S hx hc hc2 hc3 hps hpl h; refine qca (d := d + 2) (binds := [(Str.ofString "self", .ref st), (Str.ofString "name", .str x), (Str.ofString "val", .str y)]) G (by k_is) (by k_is) (by exact bnd3 fun _ _ _ => rfl) (by rfl) (by decide +kernel) (by exact of_decide_eq_true rfl) ?_ (by rfl) (by rfl) (by rfl); intro A L; have h1 := S.h1; have h2 := S.h2; have h3 := S.h3; refine qaa fun K_ hk1 hk2 hk3 hk4 => qfs G ?_; (refine xN rfl rfl (xN rfl rfl ?_)); refine ⟨st, 102, rfl, qf2.mk h1 h2 ?e1 ?e2 ?e3, qll (d := d) hprog G S hx hc hps hpl fun H2 x2 e2 => ?_⟩
 case e1 => k_is
 case e2 => k_is
 case e3 => k_is
 have S2 := S.turn x2 e2; have g1 := S2.h1; have g2 := S2.h2; have g3 := S2.h3; (apply_assumption; refine qaw rfl rfl fun Kz hz1 => ?_; refine qcf (few := true) rfl rfl rfl ?_; refine xAt rfl rfl rfl ?_; refine qam ‹_› ‹_› ‹_› (by k_is) (by k_is) (by k_is) (by k_is) rfl (by intro i h; cases h) ?_; refine qa8 (qas ‹_›) (by decide) F.plainAttrs_list F.slot_list_append F.type_list_append ⟨qab _, ?_⟩; refine qag rfl ?_; refine qah rfl ?_; refine qbc ?_; refine qah rfl ?_; refine qdt (few := true) rfl rfl rfl (fun _ => rfl) (by intro _ h; first | rfl | cases h) ?_; refine xN rfl rfl ?_; refine qbe ‹_› ‹_› ‹_› (by k_is) (by k_is) (by k_is) rfl ⟨qap ‹_› (by k_is), ?_⟩; refine qcy rfl ?_; refine xLn rfl rfl ?_; refine qad rfl ?_; refine qaf ?_); refine qak (conv (b := true) hprog G hc2 ?_); (refine qah rfl ?_; refine qdt (few := true) rfl rfl rfl (fun _ => rfl) (by intro _ h; first | rfl | cases h) ?_; refine xN rfl rfl ?_; refine qbe ‹_› ‹_› ‹_› (by k_is) (by k_is) (by k_is) rfl ⟨qap ‹_› (by k_is), ?_⟩; refine qcy rfl ?_; refine xLn rfl rfl (qad rfl (qaf ?_))); refine qak (conv (b := false) hprog G hc3 ?_); (refine qal ?_); refine ⟨nl0_ rfl, ?_⟩; (refine qal ?_; refine qaf ?_); refine qa2 g3 (by
   rw [length_map]; have := length_filter_le (fun q : Str × Str => Txt.lower q.1 != Txt.lower x) ps; unfold without_; omega) fun H5 m5 e5 => ?_
 (apply_assumption; refine qac ?_); refine h H5 (x2.post (ExtB.of (Ext.refl _) m5)) ?_; rw [e5, map_append]; rfl
theorem qln {c : Cx} {d : Nat} {p loose mg mb} {H : AH} {P : V -> AH -> Prop} {X : Exc -> AH -> Prop} {l : Addr} {ps : List (Str × Str)}
   (hprog : c.prog = rw_om0166_02.row.prog) (G : Gd (KF c.w.params) p loose mg mb c.g) (h3 : H l = some (.list (ps.map qau))) (hcl : ∀ q ∈ ps, qbz (KF c.w.params) 48 q.1 ∧ qbz (KF c.w.params) 53 q.2)
   (h : ∀ H' st dd, Ext H H' -> HL H' st dd l ps -> P (.ref st) H') : qbg c (d + 3) (.ref 182) [.ref l] [] H P X := by
 refine qon hprog G h3 hcl fun st dd hst hdd hne => ?_; have l1 : l ≠ dd := Ext.ne h3 hdd; have l2 : l ≠ st := Ext.ne h3 hst; refine h _ st dd (fun b o hb => ?_) ⟨?_, qai _ _ _, ?_⟩
 . rw [qa5 _ _ (Ext.ne hb hdd), qa5 _ _ (Ext.ne hb hst), qa5 _ _ (Ext.ne hb hdd)]; exact hb
 . rw [qa5 _ _ hne.symm, qai]
 . rw [qa5 _ _ l1, qa5 _ _ l2, qa5 _ _ l1]; exact h3
def qdm (ps : List (Str × Str)) : List (Str × Str) := ps.map fun q => (Txt.upper q.2, q.1)
inductive qtf (H : AH) (pa st dd l : Addr) (ps : List (Str × Str)) (dn rest : List (Str × Str)) (m : Map) (H' : AH) : Prop
 | mk (x : Ext H H') (S : HL H' st dd l (qdm dn)) (w : m (Str.ofString "needs") = some (.ref st))
theorem qos : ∀ {c : Cx} {d : Nat} {p loose mg mb} {H : AH} {P : V -> AH -> Prop} {X : Exc -> AH -> Prop} {pa : Addr} {ps : List (Str × Str)}
   (hprog : c.prog = rw_om0166_02.row.prog) (G : Gd (KF c.w.params) p loose mg mb c.g) (hp : H pa = some (.list (ps.map qau))) (hpl : ps.length ≤ 100)
   (hok : ∀ q ∈ ps, q.1.length ≤ 1000 ∧ q.2.length ≤ 1000 ∧ qbz (KF c.w.params) 48 (Txt.upper q.2) ∧ qbz (KF c.w.params) 53 q.1)
   (h : ∀ H' st dd l, Ext H H' -> HL H' st dd l (qdm ps) -> P (.ref st) H'), qbg c (d + 4) (.ref 344) [.ref pa] [] H P X := by
 w_on; k_fill; intro c d p loose mg mb H P X pa ps hprog G hp hpl hok h; refine qca (d := d + 3) (binds := [(Str.ofString "pairs", .ref pa)]) G (by k_is) (by k_is) (by exact bnd1 fun _ => rfl) (by rfl) (by decide +kernel) (by exact of_decide_eq_true rfl) ?_ (by rfl) (by rfl) (by rfl); intro A L; (refine qae (.inl rfl) rfl fun Kz hz1 => ?_; refine qao rfl (qa4 ‹_› rfl (by k_is) ?_ rfl); refine ⟨_, rfl, (qap ‹_› (by k_is)), ?_⟩; refine qag rfl (qah rfl (qa6 (qal ?_)))); refine ⟨zero_le _, fun l H1 x1 n1 e1 => ?_⟩; (refine qal ?_); refine qak (qln (d := d) (ps := []) hprog G e1 (fun _ z => nomatch z) fun H2 st dd x2 S2 => ?_); have hp2 := (x1.trans x2).get hp; (apply_assumption; refine qaa fun Kz hz1 hz2 hz3 hz4 => ?_; refine qb5 rfl (fun _ => rfl) (⟨(Or.inl rfl : qan _ _), (Or.inl rfl : qan _ _)⟩) ?_; refine xN rfl rfl ?_); refine ⟨.list pa, ps.map qau, (qb1 hp2), ?_⟩; have hln : H l = none := n1; refine qcd qau (qtf H pa st dd l ps) ?_ ?_ ⟨x1.trans x2, S2, rfl⟩
 . rintro m3 H3 ⟨x3, S3, w⟩; refine ⟨(qbm (x3.get hp)), ?_⟩; (apply_assumption; refine qaa fun Kz hz1 hz2 hz3 hz4 => ?_; refine qar ?_; refine xN ‹_› rfl ?_; apply_assumption); exact h H3 st dd l x3 S3
 . rintro dn q r m3 H3 hps ⟨x3, S3, w⟩; refine ⟨(qbm (x3.get hp)), fun K hn _ _ _ => ⟨_, rfl, ?_⟩⟩; obtain ⟨q1, q2, q3, q4⟩ := hok q (by rw [hps]; simp); have g1 := S3.h1; have g2 := S3.h2; (refine qaw rfl rfl fun Kz hz1 => ?_; refine xMn rfl rfl rfl ‹_› rfl ?_; refine qbe ‹_› ‹_› ‹_› (by k_is) (by k_is) (by k_is) rfl ⟨qap ‹_› (by k_is), ?_⟩; refine qag rfl (qah rfl (xMn rfl rfl rfl rfl rfl ?_)); refine qa8 rfl (by decide) F.plainAttrs_str F.slot_str_upper F.type_str_upper ⟨qab _, ?_⟩; refine qav ?_; refine qaf ?_; refine qhr ‹_› ?_; refine xLn rfl rfl (qaf ?_)); refine qak (add_header (d := d + 1) hprog G g1 g2 S3.h3 ?_ q3 q4 q1 fun H4 e4 e5 => ?_)
   . have := congrArg List.length hps; simp [qdm] at this ⊢; omega
   have b4 : ExtB H3 l H4 := fun b o hb e => (e4 b (by rw [e]; exact fun z => nomatch z) hb).trans e; (apply_assumption; refine qac ?_); refine hn _ _ ⟨ExtB.ext x3 b4 hln, S3.turn b4 ?_, w⟩; rw [e5]; simp [qdm]
section
variable (af su : Str -> List Str) (ls : List Str)
def Gn : Nat -> List Str
 | 0 => ls
 | r + 1 => (Gn r).filter fun s => (af s).any fun t => (Gn r).contains t
def cnt (r : Nat) (s : Str) : Nat := (af s).countP fun t => (Gn af ls r).contains t
structure KInv (r : Nat) (np : Str -> Int) (rdy : List Str) : Prop where
 nd : rdy.Nodup
 mem : ∀ s, s ∈ rdy ↔ s ∈ Gn af ls r ∧ s ∉ Gn af ls (r + 1)
 num : ∀ s ∈ Gn af ls r, np s = (cnt af ls r s : Int)
end
section
variable {af su : Str -> List Str} {ls : List Str}
theorem qfb {r : Nat} {s : Str} : s ∈ Gn af ls (r + 1) ↔ s ∈ Gn af ls r ∧ ∃ t ∈ af s, t ∈ Gn af ls r := by
 show s ∈ (Gn af ls r).filter _ ↔ _; simp
theorem qdw {r : Nat} {s : Str} (h : s ∈ Gn af ls (r + 1)) : s ∈ Gn af ls r := (qfb.mp h).1
theorem qfa : ∀ {r : Nat} {s : Str}, s ∈ Gn af ls r -> s ∈ ls := by
 intro r
 induction r with
 | zero =>
   intro _ h; exact h
 | succ r ih =>
   intro _ h; exact ih (qdw h)
theorem qnh : ∀ {r : Nat} {s t : Str}, s ∈ ls -> t ∈ af s -> t ∈ Gn af ls r -> s ∈ Gn af ls (r + 1) := by
 intro r
 induction r with
 | zero =>
   intro s t hs ht hr; exact qfb.mpr ⟨hs, t, ht, hr⟩
 | succ r ih =>
   intro s t hs ht hr; exact qfb.mpr ⟨ih hs ht (qdw hr), t, ht, hr⟩
theorem qew {r : Nat} {s : Str} (hs : s ∈ Gn af ls r) : cnt af ls r s = 0 ↔ s ∉ Gn af ls (r + 1) := by
 unfold cnt; rw [List.countP_eq_zero, qfb]; constructor
 . rintro h ⟨_, t, ht, hg⟩; exact h t ht (by simpa using hg)
 . intro h t ht hg; exact h ⟨hs, t, ht, by simpa using hg⟩
theorem KInv.stop {r : Nat} {np : Str -> Int} (K : KInv af ls r np []) : ∀ s ∈ Gn af ls r, s ∈ Gn af ls (r + 1) := fun s hs => Classical.byContradiction fun h => nomatch (K.mem s).mpr ⟨hs, h⟩
theorem KInv.less {r : Nat} {np : Str -> Int} {t : Str} {rdy : List Str} (K : KInv af ls r np (t :: rdy)) : (Gn af ls (r + 1)).length < (Gn af ls r).length := by
 obtain ⟨h1, h2⟩ := (K.mem t).mp (mem_cons_self); refine lt_of_le_of_ne (length_filter_le ..) fun e => h2 ?_; have := List.length_filter_eq_length_iff.mp e t h1; exact mem_filter.mpr ⟨h1, this⟩
theorem qog {D : Str -> Prop} : ∀ (l : List Str) (np : Str -> Int) (rdy : List Str), rdy.Nodup -> (∀ s, s ∈ rdy ↔ D s ∧ np s = 0) -> (∀ s ∈ l, D s) -> (∀ s, D s -> (l.count s : Int) ≤ np s) →
   (l.foldl qcl (np, rdy)).2.Nodup ∧ (∀ s, s ∈ (l.foldl qcl (np, rdy)).2 ↔ D s ∧ (l.foldl qcl (np, rdy)).1 s = 0) ∧ ∀ s, (l.foldl qcl (np, rdy)).1 s = np s - l.count s := by
 intro l
 induction l with
 | nil =>
   intro np rdy h1 h2 _ _; exact ⟨h1, h2, fun s => by simp⟩
 | cons x l ih =>
   intro np rdy h1 h2 h3 h4; rw [List.foldl_cons]; have hx := h3 x (mem_cons_self); have hx1 := h4 x hx; rw [List.count_cons_self] at hx1; have hnx : x ∉ rdy := fun z => by have := ((h2 x).mp z).2; lia
   have key := ih (qcl (np, rdy) x).1 (qcl (np, rdy) x).2 ?_ ?_ (fun s hs => h3 s (by simp [hs])) ?_
   . refine ⟨key.1, key.2.1, fun s => ?_⟩; rw [key.2.2 s]; show (if s = x then np x - 1 else np s) - (l.count s : Int) = np s - ((x :: l).count s : Int); by_cases z : s = x
     . subst z; rw [if_pos rfl, List.count_cons_self]; lia
     . rw [if_neg z, List.count_cons_of_ne (fun w => z w.symm)]
   . unfold qcl; dsimp only; split
     . rw [nodup_append]; exact ⟨h1, by simp, fun a ha b hb => by rw [mem_singleton.mp hb]; exact fun w => hnx (by (refine w ▸ ?_); exact ha)⟩
     . exact h1
   . intro s; show s ∈ (if np x - 1 = 0 then rdy ++ [x] else rdy) ↔ D s ∧ (if s = x then np x - 1 else np s) = 0; by_cases z : s = x
     . subst z; rw [if_pos rfl]; by_cases w : np s - 1 = 0
       . rw [if_pos w]; simp [hx, w]
       . rw [if_neg w]; simp [hnx, w]
     . rw [if_neg z]; by_cases w : np x - 1 = 0
       . rw [if_pos w, mem_append, mem_singleton, h2 s]; simp [z]
       . rw [if_neg w, h2 s]
   . intro s hs; show (l.count s : Int) ≤ (if s = x then np x - 1 else np s); by_cases z : s = x
     . subst z; rw [if_pos rfl]; lia
     . rw [if_neg z]; have := h4 s hs; rw [List.count_cons_of_ne (fun w => z w.symm)] at this; exact this
theorem qkq {p : Str -> Bool} {t : Str} (hp : p t = true) : ∀ (l : List Str), l.countP p = (l.countP fun x => p x && !(x == t)) + l.count t := by
 intro l
 induction l with
 | nil =>
   exact rfl
 | cons x l ih =>
   rw [List.countP_cons, List.countP_cons, count_cons, ih]; by_cases z : x = t
   . subst z; simp [hp]; lia
   . have : (x == t) = false := by simpa using z
     (refine (Eq.symm this) ▸ ?_); simp; lia
theorem qs0 {r : Nat} {np : Str -> Int} {rdy : List Str} (hls : ls.Nodup) (haf : ∀ s ∈ ls, ∀ t ∈ af s, t ∈ ls) (hsu : ∀ t ∈ ls, ∀ s ∈ su t, s ∈ ls) (hcnt : ∀ s ∈ ls, ∀ t ∈ ls, (su t).count s = (af s).count t) (K : KInv af ls r np rdy) :
   ∀ (k : Nat) (dn rest : List Str), dn.length = k -> rdy = dn ++ rest →
     (dAll su (fun z => if z ∈ rdy then -1 else np z, []) dn).2.Nodup ∧
     (∀ s, s ∈ (dAll su (fun z => if z ∈ rdy then -1 else np z, []) dn).2 ↔ s ∈ Gn af ls (r + 1) ∧ (dAll su (fun z => if z ∈ rdy then -1 else np z, []) dn).1 s = 0) ∧
     (∀ s ∈ Gn af ls (r + 1), (dAll su (fun z => if z ∈ rdy then -1 else np z, []) dn).1 s = ((af s).countP fun t => (Gn af ls r).contains t && !dn.contains t : Nat)) ∧
     ∀ t ∈ rest, (dAll su (fun z => if z ∈ rdy then -1 else np z, []) dn).1 t = -1 := by
 intro k; have notin : ∀ s ∈ Gn af ls (r + 1), s ∉ rdy := fun s hs z => ((K.mem s).mp z).2 hs
 induction k with
 | zero =>
   intro dn rest hk hr; obtain rfl := List.length_eq_zero_iff.mp hk; rw [nil_append] at hr; refine ⟨nodup_nil, fun s => ⟨(fun h => nomatch h), fun ⟨h1, h2⟩ => ?_⟩, fun s hs => ?_, fun t ht => ?_⟩
   . have h2' : (if s ∈ rdy then -1 else np s) = (0 : Int) := h2; rw [if_neg (notin s h1), K.num s (qdw h1)] at h2'; exact absurd h1 ((qew (qdw h1)).mp (by lia))
   . show (if s ∈ rdy then -1 else np s) = _; rw [if_neg (notin s hs), K.num s (qdw hs)]; simp [cnt]
   . show (if t ∈ rdy then -1 else np t) = _; rw [if_pos (by (refine (Eq.symm hr) ▸ ?_); exact ht)]
 | succ k ih =>
   intro dn rest hk hr; rcases List.eq_nil_or_concat dn with rfl | ⟨dn', t, rfl⟩
   . simp at hk
   rw [List.concat_eq_append] at hr hk ⊢; obtain ⟨i1, i2, i3, i4⟩ := ih dn' (t :: rest) (by simpa using hk) (by (refine (Eq.symm hr) ▸ ?_); simp); have hst : dAll su (fun z => if z ∈ rdy then -1 else np z, []) (dn' ++ [t]) = (su t).foldl qcl (fun z => if z = t then -2 else (dAll su (fun z => if z ∈ rdy then -1 else np z, []) dn').1 z, (dAll su (fun z => if z ∈ rdy then -1 else np z, []) dn').2) := by
     unfold dAll; rw [List.foldl_append]; rfl
   (refine (Eq.symm hst) ▸ ?_); generalize dAll su (fun z => if z ∈ rdy then -1 else np z, []) dn' = st at i1 i2 i3 i4; have htr : t ∈ rdy := by (refine (Eq.symm hr) ▸ ?_); simp
   obtain ⟨t1, t2⟩ := (K.mem t).mp htr; have htl := qfa t1; have ndr : (dn' ++ t :: rest).Nodup := by have := K.nd; rw [hr] at this; simpa using this
   rw [nodup_append] at ndr; have htd : t ∉ dn' := fun z => ndr.2.2 t z t (mem_cons_self) rfl; have hD : ∀ s ∈ su t, s ∈ Gn af ls (r + 1) := fun s hs => by
     have hsl := hsu t htl s hs; have h1 : 0 < (su t).count s := List.count_pos_iff.mpr hs; rw [hcnt s hsl t htl] at h1; exact qnh hsl (List.count_pos_iff.mp h1) t1
   have hdrop : ∀ s, ((af s).countP fun x => (Gn af ls r).contains x && !dn'.contains x) = ((af s).countP fun x => (Gn af ls r).contains x && !(dn' ++ [t]).contains x) + (af s).count t := fun s => by
     rw [qkq (p := fun x => (Gn af ls r).contains x && !dn'.contains x) (t := t) (by simp [t1, htd])]; congr 1; refine List.countP_congr fun x _ => ?_; simp [and_assoc]
   have key := qog (D := fun s => s ∈ Gn af ls (r + 1)) (su t) (fun z => if z = t then -2 else st.1 z) st.2 i1 ?_ hD ?_
   . refine ⟨key.1, key.2.1, fun s hs => ?_, fun t' ht' => ?_⟩
     . rw [key.2.2 s]; have hst' : s ≠ t := fun z => t2 (by (refine z ▸ ?_); exact hs); rw [if_neg hst', i3 s hs, hdrop s, hcnt s (qfa hs) t htl]; lia
     . rw [key.2.2 t']; have h1 : t' ≠ t := fun z => by
         have := (nodup_cons.mp ndr.2.1).1; exact this (by (refine z ▸ ?_); exact ht')
       have h2 : (su t).count t' = 0 := count_eq_zero.mpr fun z => notin t' (hD t' z) (by (refine (Eq.symm hr) ▸ ?_); simp [ht']); rw [if_neg h1, h2, i4 t' (by simp [ht'])]; simp
   . intro s; rw [i2 s]; constructor
     . rintro ⟨a, b⟩; exact ⟨a, by rw [if_neg (fun z => t2 (by (refine z ▸ ?_); exact a))]; exact b⟩
     . rintro ⟨a, b⟩; rw [if_neg (fun z => t2 (by (refine z ▸ ?_); exact a))] at b; exact ⟨a, b⟩
   . intro s hs; rw [if_neg (fun z => t2 (by (refine z ▸ ?_); exact hs)), i3 s hs, hdrop s, hcnt s (qfa hs) t htl]; lia
theorem KInv.round {r : Nat} {np : Str -> Int} {rdy : List Str} (hls : ls.Nodup) (haf : ∀ s ∈ ls, ∀ t ∈ af s, t ∈ ls) (hsu : ∀ t ∈ ls, ∀ s ∈ su t, s ∈ ls) (hcnt : ∀ s ∈ ls, ∀ t ∈ ls, (su t).count s = (af s).count t) (K : KInv af ls r np rdy) :
   KInv af ls (r + 1) (dAll su (fun z => if z ∈ rdy then -1 else np z, []) rdy).1 (dAll su (fun z => if z ∈ rdy then -1 else np z, []) rdy).2 := by
 obtain ⟨i1, i2, i3, _⟩ := qs0 hls haf hsu hcnt K rdy.length rdy [] rfl (by simp); have e : ∀ s, ((af s).countP fun t => (Gn af ls r).contains t && !rdy.contains t) = cnt af ls (r + 1) s := fun s => by
   refine List.countP_congr fun t _ => ?_; simp only [Bool.and_eq_true, contains_iff_mem, Bool.not_eq_true', ← Bool.not_eq_true, K.mem t]; constructor
   . rintro ⟨a, b⟩; exact Classical.byContradiction fun c => b ⟨a, c⟩
   . exact fun a => ⟨qdw a, fun b => b.2 a⟩
 refine ⟨i1, fun s => ?_, fun s hs => by rw [i3 s hs, e s]⟩; rw [i2 s]; constructor
 . rintro ⟨a, b⟩; rw [i3 s a, e s] at b; exact ⟨a, (qew a).mp (by lia)⟩
 . rintro ⟨a, b⟩; refine ⟨a, ?_⟩; rw [i3 s a, e s, (qew a).mpr b]; rfl
end
theorem qk6 : ∀ {c : Cx} {d : Nat} {p loose mg mb} {H : AH} {P : V -> AH -> Prop} {X : Exc -> AH -> Prop}
   (hprog : c.prog = rw_om0166_02.row.prog) (G : Gd (KF c.w.params) p loose mg mb c.g)
   (h : ∀ H' st dd n2, Srt H H' st dd n2 [] none 0 0 -> P (.ref st) H'), qbg c (d + 2) (.ref 302) [] [] H P X := by
 w_on; k_fill; intro c d p loose mg mb H P X hprog G h; refine' qgq (d := d + 1) (ao := fun dd => .inst 302 dd) (fI := 238) G ?hm ?hi ?hf (fun _ => .inl rfl) ?_
 case hm => k_is
 case hi => k_is
 case hf => k_is
 intro dd a hne hdd ha; refine qk5 (d := d) hprog G (qai _ _ _) (by rw [qa5 _ _ hne, qai]) fun H' n2 n1 k1 e1 e2 => ⟨rfl, ?_⟩; have q1 : n2 ≠ a := fun z => by rw [z, qai] at n1; exact nomatch n1
 have q2 : n2 ≠ dd := fun z => by rw [z, qa5 _ _ hne, qai] at n1; exact nomatch n1
 refine h H' a dd n2 ⟨fun b o hb => ?_, ha, hdd, by rw [qa5 _ _ q1, qa5 _ _ q2] at n1; exact n1, (fun n hn => nomatch hn), (fun p hp => nomatch hp), k1 a _ (qai _ _ _) hne.symm, e1, e2, (fun n hn => nomatch hn), (fun p hp => nomatch hp), nodup_nil, nodup_nil, nodup_nil⟩; exact k1 b o (by rw [qa5 _ _ (Ext.ne hb ha), qa5 _ _ (Ext.ne hb hdd)]; exact hb) (Ext.ne hb hdd)
def afOf (ps : List (Str × Str)) (s : Str) : List Str := (ps.filter fun q => Txt.lower q.1 == Txt.lower s).map (·.2)
theorem qbk {α : Type} [DecidableEq α] : ∀ {l m : List α}, l.Nodup -> (∀ x ∈ l, x ∈ m) -> l.length ≤ m.length := by
 intro l
 induction l with
 | nil =>
   intro m _ _; exact zero_le _
 | cons a l ih =>
   intro m h hm; have h1 := nodup_cons.mp h; have ha := hm a (by simp); have := ih (m := m.erase a) h1.2 fun x hx => (List.mem_erase_of_ne (fun z => h1.1 (by (refine z ▸ ?_); exact hx))).mpr (hm x (by simp [hx])); rw [List.length_erase_of_mem ha] at this; have hp : 0 < m.length := List.length_pos_of_mem ha; simp only [length_cons]; lia
structure qcb (af : Str -> List Str) (ls : List Str) (rs : List (List Str)) : Prop where
 rd : ∀ i g, rs[i]? = some g -> g ≠ [] ∧ g.Nodup ∧ ∀ s, s ∈ g ↔ s ∈ Gn af ls i ∧ s ∉ Gn af ls (i + 1)
 stop : ∀ s ∈ Gn af ls rs.length, s ∈ Gn af ls (rs.length + 1)
theorem qeq.more {H H' : AH} {st : Addr} {ps : List (Str × Str)} (h : qeq H st ps) (x : Ext H H') : qeq H' st ps := by
 obtain ⟨dd, l, a, b, c⟩ := h; exact ⟨dd, l, x.get a, x.get b, x.get c⟩
structure Told (ls : List Str) (ps : List (Str × Str)) (dn : List Str) (nds : List Nd) : Prop where
 nm : ∀ z, z ∈ nms nds -> z ∈ ls
 al : ∀ z ∈ dn, z ∈ nms nds
 len : nds.length ≤ dn.length * 101
 np : ∀ z, npOf nds z = if z ∈ dn then ((afOf ps z).length : Int) else 0
 su : ∀ s t, (suOf nds t).count s = if s ∈ dn then (afOf ps s).count t else 0
 sl : ∀ z, (suOf nds z).length ≤ dn.length * 100
theorem qh2 (ps : List (Str × Str)) (s : Str) : (afOf ps s).length ≤ ps.length := by unfold afOf; rw [length_map]; exact length_filter_le ..
theorem Told.next {ls : List Str} {ps : List (Str × Str)} {dn : List Str} {nds nds' : List Nd} {x : Str} (T : Told ls ps dn nds) (hx : x ∉ dn) (hxl : x ∈ ls) (hpl : ps.length ≤ 100) (haf : ∀ t ∈ afOf ps x, t ∈ ls) (h1 : ∀ z, z ∈ nms nds' ↔ z ∈ nms nds ∨ z = x ∨ z ∈ afOf ps x) (h2 : nds'.length ≤ nds.length + 1 + (afOf ps x).length) (h3 : ∀ z, npOf nds' z = npOf nds z + if z = x then ((afOf ps x).length : Int) else 0) (h4 : ∀ z, suOf nds' z = suOf nds z ++ List.replicate ((afOf ps x).count z) x) : Told ls ps (dn ++ [x]) nds' := by
 have hal := qh2 ps x; refine ⟨fun z hz => ?_, fun z hz => ?_, ?_, fun z => ?_, fun s t => ?_, fun z => ?_⟩
 . rcases (h1 z).mp hz with h | rfl | h
   . exact T.nm z h
   . exact hxl
   . exact haf z h
 . rcases mem_append.mp hz with h | h
   . exact (h1 z).mpr (.inl (T.al z h))
   . exact (h1 z).mpr (.inr (.inl (mem_singleton.mp h)))
 . have := T.len; simp only [length_append, length_singleton]; lia
 . rw [h3, T.np]; by_cases z1 : z = x
   . subst z1; simp [hx]
   . simp [z1]
 . rw [h4, List.count_append, T.su, List.count_replicate]; by_cases z1 : s = x
   . subst z1; simp [hx]
   . have : (x == s) = false := by simpa using fun w => z1 w.symm
     simp [z1, this]
 . rw [h4, length_append, List.length_replicate]; have := T.sl z; have h5 := List.count_le_length (a := z) (l := afOf ps x); simp only [length_append, length_singleton]; lia
theorem qqt {nds : List Nd} (hd : (nds.map (·.nm)).Nodup) {s : Str} : s ∈ rdy0 nds ↔ s ∈ nms nds ∧ npOf nds s = 0 := by
 constructor
 . intro h; obtain ⟨n, hn, rfl⟩ := mem_map.mp h; obtain ⟨a, b⟩ := mem_filter.mp hn; exact ⟨mem_map_of_mem a, by rw [qfn hd a]; simpa using b⟩
 . rintro ⟨h, e⟩; obtain ⟨n, hn, rfl⟩ := mem_map.mp h; rw [qfn hd hn] at e; exact mem_map.mpr ⟨n, mem_filter.mpr ⟨hn, by simpa using e⟩, rfl⟩
abbrev grpV (g : List Str) : V := .tup (g.map V.str)
inductive qtc (ls : List Str) (ps : List (Str × Str)) (H : AH) (st dd n2 : Addr) (nds : List Nd) (rl ro : Addr) (k : Nat) (m4 : Map) (H4 : AH) : Prop
 | mk (B4 : AH) (nds4 : List Nd) (rdy : List Str) (po : Int) (ags : List (List Str)) (e : k = (Gn (afOf ps) ls ags.length).length) (l : ags.length + (Gn (afOf ps) ls ags.length).length ≤ 6) (q : shp nds4 = shp nds) (K : KInv (afOf ps) ls ags.length (npOf nds4) rdy) (S : Srt B4 H4 st dd n2 nds4 (some (rl, rdy)) po po) (E : Ext H B4) (G : B4 ro = some (.list (ags.map grpV)))
     (g : ∀ i g, ags[i]? = some g -> g ≠ [] ∧ g.Nodup ∧ ∀ s, s ∈ g ↔ s ∈ Gn (afOf ps) ls i ∧ s ∉ Gn (afOf ps) ls (i + 1)) (w2 : m4 (Str.ofString "sorter") = some (.ref st)) (w3 : m4 (Str.ofString "rounds") = some (.ref ro))
theorem qmu : ∀ {c : Cx} {d : Nat} {p loose mg mb} {H : AH} {P : V -> AH -> Prop} {X : Exc -> AH -> Prop} {stp : Addr} {tt : Str} {ls : List Str} {ps : List (Str × Str)}
   (hprog : c.prog = rw_om0166_02.row.prog) (G : Gd (KF c.w.params) p loose mg mb c.g) (T0 : Th tt ls) (HA : qeq H stp ps) (hcl : ∀ s ∈ ls, s.length ≤ 1000 ∧ qbz (KF c.w.params) 48 (Txt.lower s)) (hps : ∀ q ∈ ps, q.1.length ≤ 1000) (hpl : ps.length ≤ 100) (haf : ∀ s ∈ ls, ∀ t ∈ afOf ps s, t ∈ ls) (hac : ∀ x ∈ ls, Acc (fun y x => y ∈ ls ∧ x ∈ afOf ps y) x)
   (h : ∀ H' ro gs, Ext H H' -> H' ro = some (.list (gs.map grpV)) -> qcb (afOf ps) ls gs -> P (.ref ro) H'), qbg c (d + 5) (.ref 351) [.str tt, .ref stp] [] H P X := by
 w_on; k_fill; intro c d p loose mg mb H P X stp tt ls ps hprog G T0 HA hcl hps hpl haf hac h; refine qca (d := d + 4) (binds := [(Str.ofString "things", .str tt), (Str.ofString "needs", .ref stp)]) G (by k_is) (by k_is) (by exact bnd2 fun _ _ => rfl) (by rfl) (by decide +kernel) (by exact of_decide_eq_true rfl) ?_ (by rfl) (by rfl) (by rfl); intro A L; have hl6 := T0.len; have hnd0 : ls.Nodup := T0.ord.imp fun h z => qch h z; (refine qae (.inl rfl) rfl fun Kz hz1 => ?_; refine qao rfl (qa4 ‹_› rfl (by k_is) ?_ rfl); refine ⟨_, rfl, (qap ‹_› (by k_is)), ?_⟩; refine qav ?_); refine qak (qk6 (d := d + 2) hprog G fun H1 st dd n2 S1 => ?_); (apply_assumption; refine qaa fun Kz hz1 hz2 hz3 hz4 => ?_; refine qb5 rfl (fun _ => rfl) (by show qan _ _; exact .inl rfl) ?_; refine xN rfl rfl ?_); refine ⟨_, ls.map V.str, T0.it _, ?_⟩; refine qcd V.str (fun dn rest m' H' => ∃ nds, Srt H H' st dd n2 nds none 0 0 ∧ Told ls ps dn nds ∧ m' (Str.ofString "sorter") = some (.ref st) ∧ m' (Str.ofString "needs") = some (.ref stp)) ?_ ?_ ⟨[], S1, ⟨(fun _ z => nomatch z), (fun _ z => nomatch z), le_refl _, fun z => rfl, fun s t => rfl, fun z => by simp [suOf]⟩, rfl, rfl⟩
 . rintro m' H' ⟨nds, S, T, w1, w2⟩; refine ⟨rfl, ?_⟩; have hnd : ∀ z, z ∈ nms nds ↔ z ∈ ls := fun z => ⟨T.nm z, T.al z⟩; have hlen := T.len; have hsul : ∀ x ∈ nms nds, (suOf nds x).length ≤ 1000 ∧ ∀ y ∈ suOf nds x, y ∈ nms nds := fun x hx => by
     refine ⟨by have := T.sl x; lia, fun y hy => ?_⟩; have := List.count_pos_iff.mpr hy; rw [T.su] at this; split at this
     . rename_i z; exact (hnd y).mpr z
     . lia
   have hedge : Edge (suOf nds) = fun y x => y ∈ ls ∧ x ∈ afOf ps y := by
     funext y x; refine propext ?_; show y ∈ suOf nds x ↔ _; rw [← List.count_pos_iff, T.su]; by_cases z : y ∈ ls
     . rw [if_pos z, List.count_pos_iff]; simp [z]
     . rw [if_neg z]; simp [z]
   have hacc : (∃ x ∈ nms nds, ¬ Acc (Edge (suOf nds)) x) ↔ ∃ x ∈ ls, ¬ Acc (fun y x => y ∈ ls ∧ x ∈ afOf ps y) x := by
     (refine (Eq.symm hedge) ▸ ?_); exact ⟨fun ⟨x, a, b⟩ => ⟨x, (hnd x).mp a, b⟩, fun ⟨x, a, b⟩ => ⟨x, (hnd x).mpr a, b⟩⟩
   have s1 := S.h1; have s2 := S.h2; (apply_assumption; refine qaw rfl rfl fun Kz hz1 => ?_; refine xMn rfl rfl rfl ‹_› rfl ?_; refine qbe ‹_› ‹_› ‹_› (by k_is) (by k_is) (by k_is) rfl ⟨qap ‹_› (by k_is), ?_⟩; refine qav ?_; refine qaf ?_); refine qak (prepare (d := d + 2) hprog G S (by lia) hsul (fun ha H2 rl S2 => ?_) fun hna H2 rl S2 => ?_)
   rotate_left
   . obtain ⟨x, hx1, hx2⟩ := hacc.mp hna; exact absurd (hac x hx1) hx2
   . (apply_assumption; refine qae (.inl rfl) rfl fun Kz hz1 => ?_; refine qa6 ?_; refine qal ?_); refine ⟨zero_le _, fun ro H3 x3 n3 e3 => ?_⟩; obtain ⟨B3, y3, b3, d3, S3⟩ := S2.base' x3 n3 e3; have K0 : KInv (afOf ps) ls 0 (npOf nds) (rdy0 nds) := by
       have hnpl : ∀ s ∈ ls, npOf nds s = (cnt (afOf ps) ls 0 s : Int) := fun s hs => by
         rw [T.np, if_pos hs]; congr 1; refine (List.countP_eq_length.mpr fun t ht => ?_).symm; simpa [Gn] using haf s hs t ht
       refine ⟨?_, fun s => ?_, hnpl⟩
       . unfold rdy0; exact (List.Sublist.map _ (filter_sublist ..)).nodup S2.d1
       . rw [qqt S2.d1, hnd]; constructor
         . rintro ⟨a, b⟩; exact ⟨a, (qew (af := afOf ps) (ls := ls) (r := 0) a).mp (by rw [hnpl s a] at b; lia)⟩
         . rintro ⟨a, b⟩; exact ⟨a, by rw [hnpl s a, (qew (af := afOf ps) (ls := ls) (r := 0) a).mpr b]; rfl⟩
     (apply_assumption; refine qaa fun Kz hz1 hz2 hz3 hz4 => ?_); refine qdc (qtc ls ps H st dd n2 nds rl ro) _ ⟨B3, nds, rdy0 nds, 0, [], rfl, (by show 0 + ls.length ≤ 6; lia), rfl, K0, S3, y3, d3, (fun i g z => by simp at z), w1, rfl⟩ ?_; rintro Y hY k m4 H4 ⟨B4, nds4, rdy, po, ags, hk, hk6, q1, K4, S4, E4, GA, hg, w4, w5⟩ KW kw1 kw2 kw3 kw4; have t1 := S4.h1; have t2 := S4.h2; have hrl : rdy.length ≤ 6 := le_trans (qbk K4.nd (m := ls) fun s hs => qfa ((K4.mem s).mp hs).1) (le_trans ‹_› (nl0_ rfl)); have hrn : ∀ s ∈ rdy, s ∈ nms nds4 := fun s hs => by rw [qhf q1, hnd]; exact qfa ((K4.mem s).mp hs).1
     have hon : H ro = none := S2.ext.none n3; (refine qb7 (fun _ => rfl) (xMn rfl rfl rfl ‹_› rfl ?_); refine qbe ‹_› ‹_› ‹_› (by k_is) (by k_is) (by k_is) rfl ⟨qap ‹_› (by k_is), ?_⟩; refine qav ?_; refine qaf ?_); refine qak (is_active (d := d + 3) hprog G S4 (le_trans ‹_› (nl0_ rfl)) ?_); rw [show (decide (po < po) || !rdy.isEmpty) = !rdy.isEmpty by simp]; cases rdy with
     | nil =>
       (refine ⟨_, rfl, ?_⟩; refine qay rfl ?_; refine qac ?_; apply_assumption; refine qaa fun Kz hz1 hz2 hz3 hz4 => ?_; refine qar (xN ‹_› rfl ?_); apply_assumption); exact h H4 ro ags (E4.trans S4.ext) (S4.ext.get GA) ⟨hg, K4.stop⟩
     | cons y0 rdy0' =>
       generalize hrdy : y0 :: rdy0' = rdy at *; have hne : (!rdy.isEmpty) = true := by (refine hrdy ▸ ?_); rfl
       (refine ⟨_, rfl, ?_⟩; refine qbd ‹_› ?_; refine qae (.inl rfl) rfl fun Kz hz1 => ?_; refine xMn rfl rfl rfl ‹_› rfl ?_; refine qbe ‹_› ‹_› ‹_› (by k_is) (by k_is) (by k_is) rfl ⟨qap ‹_› (by k_is), ?_⟩; refine qav ?_; refine qaf ?_); refine qak (get_ready (d := d + 3) hprog G S4 hrn (le_trans ‹_› (nl0_ rfl)) fun H5 nds5 S5 v1 v2 => ?_); have q5 : shp nds5 = shp nds := v1.trans q1; have hsu5 : suOf nds5 = suOf nds := funext fun z => qrm q5 z; have hnp5 : npOf nds5 = fun z => if z ∈ rdy then -1 else npOf nds4 z := funext v2; have hnm5 : nms nds5 = nms nds := qhf q5; have c1 : ∀ t ∈ ls, ∀ s ∈ suOf nds t, s ∈ ls := fun t ht s hs => (hnd s).mp ((hsul t ((hnd t).mpr ht)).2 s hs); have c2 : ∀ s ∈ ls, ∀ t ∈ ls, (suOf nds t).count s = (afOf ps s).count t := fun s hs t _ => by rw [T.su, if_pos hs]
       have t1 := S5.h1; have t2 := S5.h2; (apply_assumption); refine qaa fun K_ hk1 hk2 hk3 hk4 => qp2 rfl rfl (qiw G rfl rfl rfl rfl rfl ?_); (refine xN ‹_› rfl ?_); refine ⟨st, 302, dd, 285, _, rfl, t1, t2, ?e1, ?e2, ?e3, ?e4, ?e5, ?e6, ?e7, ?e8, rfl, ?_⟩
       case e1 => k_is
       case e2 => k_is
       case e3 => k_is
       case e4 => k_is
       case e5 => k_is
       case e6 => k_is
       case e7 => k_is
       case e8 => decide +kernel
       refine qj6 ?_; (refine xN rfl rfl ?_; refine ⟨_, rfl, ?_⟩); refine ⟨by rw [length_map]; exact le_trans ‹_› (nl0_ rfl), ?_⟩; refine qtp (d := d + 3) hprog G S5 ?_ (by simp) (le_trans ‹_› (nl0_ rfl)) ?_ fun H6 nds6 S6 z1 z2 => ?_
       . intro t ht; have htl : t ∈ ls := qfa ((K4.mem t).mp ht).1; (refine (Eq.symm hnm5) ▸ ?_; refine (Eq.symm hsu5) ▸ ?_); exact ⟨(hnd t).mpr htl, hsul t ((hnd t).mpr htl)⟩
       . intro dn2 t r2 hr2; (refine (Eq.symm hsu5) ▸ ?_; refine (Eq.symm hnp5) ▸ ?_); exact (qs0 hnd0 haf c1 c2 K4 dn2.length dn2 (t :: r2) rfl hr2).2.2.2 t (by simp)
       have KN := K4.round hnd0 haf c1 c2; rw [hsu5, hnp5] at S6 z2; have hnp6 : npOf nds6 = _ := funext z2; rw [← hnp6] at KN; have k6 := S6.ext.get GA; (apply_assumption; refine qaw rfl rfl fun Kz hz1 => ?_; refine xMn rfl rfl rfl ‹_› rfl ?_; refine qa8 (qas ‹_›) (by decide) F.plainAttrs_list F.slot_list_append F.type_list_append ⟨qab _, ?_⟩; refine xAn rfl rfl ?_; refine qaf ?_; refine qbq ‹_› (by simp only [length_map, length_append, length_cons, length_nil]; omega) ?_)
       (try refine qa2 k6 (by rw [length_map]; lia) ?_)
       intro H8 m8 e8; obtain ⟨B8, mB8, eB8, S8⟩ := S6.out' GA m8 e8; (apply_assumption; refine qac ?_; apply_assumption); refine ⟨(Gn (afOf ps) ls (ags ++ [rdy]).length).length, ?_, hY _ _ _ ⟨B8, nds6, _, _, ags ++ [rdy], rfl, ?_, z1.trans q5, by rw [length_append]; exact KN, S8, ?_, ?_, ?_, w4, w5⟩⟩
       . rw [hk, length_append]; rw [← hrdy] at K4; exact K4.less
       . rw [length_append, length_singleton]; have : (Gn (afOf ps) ls (ags.length + 1)).length < (Gn (afOf ps) ls ags.length).length := by rw [← hrdy] at K4; exact K4.less
         lia
       . exact mB8.ext E4 hon
       . rw [eB8, map_append]; rfl
       . intro i g hi; by_cases hlt : i < ags.length
         . rw [List.getElem?_append_left hlt] at hi; exact hg i g hi
         . rw [List.getElem?_append_right (by lia)] at hi; have hi0 : i - ags.length = 0 := by
             have := (List.getElem?_eq_some_iff.mp hi).1; simpa using this
           rw [hi0] at hi; simp only [List.getElem?_cons_zero, Option.some.injEq] at hi; have hil : i = ags.length := by lia
           subst hi hil; exact ⟨by (refine hrdy ▸ ?_); simp, K4.nd, K4.mem⟩
 . rintro dn x r m' H' hys ⟨nds, S, T, w1, w2⟩; refine ⟨rfl, fun K hn _ _ _ => ⟨_, rfl, ?_⟩⟩; have hxl : x ∈ ls := by (refine (Eq.symm hys) ▸ ?_); simp
   have hdl : dn.length ≤ 5 := by have := congrArg List.length hys; simp at this; lia
   have hxd : x ∉ dn := fun z => by
     have := hnd0; rw [hys, nodup_append] at this; exact this.2.2 x z x (by simp) rfl
   have s1 := S.h1; have s2 := S.h2; refine qaa fun K_ hk1 hk2 hk3 hk4 => qp2 rfl rfl (qiw G rfl rfl rfl rfl rfl ?_); (refine xN ‹_› rfl ?_); refine ⟨st, 302, dd, 252, _, rfl, s1, s2, ?e1, ?e2, ?e3, ?e4, ?e5, ?e6, ?e7, ?e8, rfl, ?_⟩
   case e1 => k_is
   case e2 => k_is
   case e3 => k_is
   case e4 => k_is
   case e5 => k_is
   case e6 => k_is
   case e7 => k_is
   case e8 => decide +kernel
   (refine qag rfl (xLm rfl rfl ?_)); refine qqa ?_; have HA' := HA.more S.ext; obtain ⟨hdd, hl, g1, g2, g3⟩ := id HA'; (refine xMn rfl rfl rfl ‹_› rfl ?_; refine qbe ‹_› ‹_› ‹_› (by k_is) (by k_is) (by k_is) rfl ⟨qap ‹_› (by k_is), ?_⟩; refine xAn rfl rfl (qaf ?_)); refine qak (get_all (d := d + 2) hprog G HA' (hcl x hxl).1 (hcl x hxl).2 hps (le_trans ‹_› (nl0_ rfl)) fun a hna => ?_); have x1 : Ext H' (upd H' a (.list ((afOf ps x).map V.str))) := Ext.fresh hna; have e1 : (upd H' a (.list ((afOf ps x).map V.str))) a = some (.list ((afOf ps x).map V.str)) := qai _ _ _; have hrw : ((ps.filter fun q => Txt.lower q.1 == Txt.lower x).map fun q => V.str q.2) = (afOf ps x).map V.str := by unfold afOf; rw [map_map]; rfl
   (refine (Eq.symm hrw) ▸ ?_); generalize upd H' a (.list ((afOf ps x).map V.str)) = H2 at x1 e1 ⊢; have S2 := S.more x1; have hal := qh2 ps x; refine ⟨(afOf ps x).map V.str, by simp [qps, e1], by rw [length_map]; lia, ?_⟩; (refine qal ?_); rw [append_nil]; have hlen := T.len; refine sadd (d := d) hprog G S2 (by lia) (fun z => by have := T.sl z; lia) fun H3 nds3 S3 a1 a2 a3 a4 => ?_; (apply_assumption; refine qac ?_); exact hn _ _ ⟨nds3, S3, T.next hxd hxl hpl (haf x hxl) a1 a2 a3 a4, w1, w2⟩
structure qbo (H : AH) (rd : Addr) (f : Str -> List Str) (sas : List (Str × Addr)) : Prop where
 d : ∃ ep, H rd = some (.dict (sas.map fun p => (p.1, .ref p.2)) ep)
 l : ∀ p ∈ sas, H p.2 = some (.list ((f p.1).map V.str))
theorem qbo.more {H H' : AH} {rd : Addr} {f : Str -> List Str} {sas : List (Str × Addr)} (h : qbo H rd f sas) (x : Ext H H') : qbo H' rd f sas := ⟨h.d.imp fun _ => x.get, fun p hp => x.get (h.l p hp)⟩
theorem qbo.side {H H' : AH} {rd l : Addr} {f : Str -> List Str} {sas : List (Str × Addr)} (h : qbo H rd f sas) (x : ExtB H l H') (h1 : rd ≠ l) (h2 : ∀ p ∈ sas, p.2 ≠ l) : qbo H' rd f sas := ⟨h.d.imp fun _ => x _ _ h1, fun p hp => x _ _ (h2 p hp) (h.l p hp)⟩
theorem HL.mod {H H' : AH} {st dd l a ep : Addr} {ps : List (Str × Str)} {kvs : List (Str × V)} (h : HL H st dd l ps) (m : Mod H a H') (ha : H a = some (.dict kvs ep)) : HL H' st dd l ps := ⟨m.mv ha h.h1, m.mv ha h.h2, m.mv ha h.h3⟩
theorem qbo.mod {H H' : AH} {rd a ep : Addr} {f : Str -> List Str} {sas : List (Str × Addr)} {kvs : List (Str × V)} (h : qbo H rd f sas) (m : Mod H a H') (ha : H a = some (.dict kvs ep)) (ne : rd ≠ a) : qbo H' rd f sas := ⟨h.d.imp fun _ => m.get ne, fun p hp => m.mv ha (h.l p hp)⟩
theorem qm9 {sas : List (Str × Addr)} {t : Str} (h : t ∈ sas.map (·.1)) : ∃ p ∈ sas, p.1 = t ∧ (sas.map fun p => (p.1, V.ref p.2)).lookup t = some (.ref p.2) := by
 induction sas with
 | nil => exact nomatch h
 | cons p r ih =>
   rw [map_cons, lookup_cons]; cases e : (t == p.1)
   . have : t ≠ p.1 := by simpa using e
     rw [map_cons, mem_cons] at h; obtain ⟨p', a, b, c⟩ := ih (h.resolve_left this); exact ⟨p', mem_cons_of_mem _ a, b, c⟩
   . exact ⟨p, by simp, (by simpa using e : t = p.1).symm, rfl⟩
theorem qbo.get {H : AH} {rd : Addr} {f : Str -> List Str} {sas : List (Str × Addr)} (h : qbo H rd f sas) {t : Str} (ht : t ∈ sas.map (·.1)) : ∃ a, (sas.map fun p => (p.1, V.ref p.2)).lookup t = some (.ref a) ∧ H a = some (.list ((f t).map V.str)) := by
 obtain ⟨p, h1, rfl, h3⟩ := qm9 ht; exact ⟨p.2, h3, h.l p h1⟩
theorem qe0 {α : Type} {p : α -> Bool} {g : α -> V} {xs : List α} : (xs.filterMap fun x => if p x then some (g x) else none) = (xs.filter p).map g := by
 rw [← List.filterMap_eq_map, List.filterMap_filter]; rfl
theorem qbo.add {H H' : AH} {rd b ep : Addr} {f : Str -> List Str} {sas : List (Str × Addr)} {t : Str} (h : qbo H rd f sas) (ht : t ∉ sas.map (·.1)) (m : Mod H rd H') (e : H' rd = some (.dict (putD (sas.map fun p => (p.1, .ref p.2)) t (.ref b)) ep)) (hb : H b = some (.list ((f t).map V.str))) : qbo H' rd f (sas ++ [(t, b)]) := by
 obtain ⟨ep0, h0⟩ := h.d; refine ⟨⟨ep, ?_⟩, fun p hp => ?_⟩
 . rw [e, qly, map_append]
   . rfl
   . rw [map_map]; exact ht
 . rcases mem_append.mp hp with hp | hp
   . exact m.mv h0 (h.l p hp)
   . rw [mem_singleton.mp hp]; exact m.mv h0 hb
theorem qbo.put {H H' : AH} {rd b ep : Addr} {f : Str -> List Str} {sas : List (Str × Addr)} {t : Str} {row : List Str} (h : qbo H rd f sas) (ht : t ∈ sas.map (·.1)) (m : Mod H rd H') (e : H' rd = some (.dict (putD (sas.map fun p => (p.1, .ref p.2)) t (.ref b)) ep)) (hb : H b = some (.list (row.map V.str))) : qbo H' rd (fun s => if s = t then row else f s) (sas.map fun p => if p.1 = t then (p.1, b) else p) := by
 obtain ⟨ep0, h0⟩ := h.d; refine ⟨⟨ep, ?_⟩, fun p hp => ?_⟩
 . (refine (Eq.symm e) ▸ ?_); unfold putD; rw [if_pos]
   . rw [map_map, map_map]; congr 2; refine map_congr_left fun p _ => ?_; show (if p.1 = t then (p.1, V.ref b) else (p.1, V.ref p.2)) = _; by_cases z : p.1 = t
     . simp only [Function.comp, z, if_true]
     . simp only [Function.comp, z, if_false]
   . obtain ⟨p, hp, rfl⟩ := mem_map.mp ht; exact any_eq_true.mpr ⟨(p.1, .ref p.2), mem_map_of_mem (f := fun p : Str × Addr => (p.1, V.ref p.2)) hp, by simp⟩
 . obtain ⟨q, hq, rfl⟩ := mem_map.mp hp; by_cases z : q.1 = t
   . simp only [z, if_true]; exact m.mv h0 hb
   . simp only [z, if_false]; exact m.mv h0 (h.l q hq)
theorem qjw {sas : List (Str × Addr)} {t : Str} {b : Addr} : (sas.map fun p => if p.1 = t then (p.1, b) else p).map (·.1) = sas.map (·.1) := by
 rw [map_map]; refine map_congr_left fun p _ => ?_; show (if p.1 = t then (p.1, b) else p).1 = p.1; by_cases z : p.1 = t
 . rw [if_pos z]
 . rw [if_neg z]
def qgz (ls : List Str) (rel : Str -> Str -> Bool) (t : Str) : List Str := ls.filter fun o => rel o t
theorem qoa (ls : List Str) (rel : Str -> Str -> Bool) (t : Str) : (qgz ls rel t).length ≤ ls.length := length_filter_le ..
inductive BelJ (H : AH) (stp rd : Addr) (tt : Str) (ls : List Str) (rel : Str -> Str -> Bool) (dn rest : List Str) (m' : Map) (H' : AH) : Prop
 | mk (sas : List (Str × Addr)) (w1 : Ext H H') (w2 : sas.map (·.1) = dn) (w3 : qbo H' rd (qgz ls rel) sas) (w4 : m' (Str.ofString "needs") = some (.ref stp)) (w5 : m' (Str.ofString "below") = some (.ref rd)) (w6 : m' (Str.ofString "things") = some (.str tt))
inductive qtd (H' : AH) (stp rd a he : Addr) (tt : Str) (ls : List Str) (rel : Str -> Str -> Bool) (ps : List (Str × Str)) (s : Str) (dn2 rest2 : List Str) (m2 : Map) (H4 : AH) : Prop
 | mk (held : List Str) (w1 : Ext H' H4) (w2 : H4 a = some (.list ((afOf ps s).map V.str))) (w3 : H4 he = some (.list (held.map V.str))) (w4 : ∀ o, o ∈ held ↔ ∃ t ∈ dn2, o = t ∨ o ∈ qgz ls rel t) (w5 : held.length ≤ 6 * dn2.length)
     (w6 : m2 (Str.ofString "needs") = some (.ref stp)) (w7 : m2 (Str.ofString "below") = some (.ref rd)) (w8 : m2 (Str.ofString "held") = some (.ref he)) (w9 : m2 (Str.ofString "thing") = some (.str s)) (wt : m2 (Str.ofString "things") = some (.str tt))
theorem qor : ∀ {c : Cx} {d : Nat} {p loose mg mb} {H : AH} {P : V -> AH -> Prop} {X : Exc -> AH -> Prop} {stp ha : Addr} {tt : Str} {ls : List Str} {ps : List (Str × Str)} {hs : List Str} {rel : Str -> Str -> Bool}
   (hprog : c.prog = rw_om0166_02.row.prog) (G : Gd (KF c.w.params) p loose mg mb c.g) (T0 : Th tt ls) (HA : qeq H stp ps) (hcl : ∀ s ∈ ls, s.length ≤ 1000 ∧ qbz (KF c.w.params) 48 (Txt.lower s)) (hps : ∀ q ∈ ps, q.1.length ≤ 1000) (hpl : ps.length ≤ 100)
   (hha : H ha = some (.list (hs.map V.str))) (hnd : hs.Nodup) (hhl : ∀ s ∈ hs, s ∈ ls) (hrel : ∀ s ∈ ls, ∀ o, rel o s = true ↔ ∃ t ∈ afOf ps s, o = t ∨ rel o t = true) (htop : ∀ dn s r, hs = dn ++ s :: r -> ∀ t ∈ afOf ps s, t ∈ dn)
   (h : ∀ H' rd sas, Ext H H' -> H rd = none -> sas.map (·.1) = hs -> qbo H' rd (qgz ls rel) sas -> P (.ref rd) H'), qbg c (d + 4) (.ref 356) [.str tt, .ref stp, .ref ha] [] H P X := by
 w_on; k_fill; intro c d p loose mg mb H P X stp ha tt ls ps hs rel hprog G T0 HA hcl hps hpl hha hnd hhl hrel htop h; refine qca (d := d + 3) (binds := [(Str.ofString "things", .str tt), (Str.ofString "needs", .ref stp), (Str.ofString "handed", .ref ha)]) G (by k_is) (by k_is) (by exact bnd3 fun _ _ _ => rfl) (by rfl) (by decide +kernel) (by exact of_decide_eq_true rfl) ?_ (by rfl) (by rfl) (by rfl); intro A L; have hlen := T0.len; (refine qae (.inl rfl) rfl fun Kz hz1 => ?_; refine qd7 ‹_› ?_); intro rd H1 x1 n1 e1; (apply_assumption; refine qaa fun Kz hz1 hz2 hz3 hz4 => ?_; refine qb5 rfl (fun _ => rfl) (by show qan _ _; exact .inl rfl) ?_; refine xN rfl rfl ?_); refine ⟨.list ha, hs.map V.str, (qb1 (x1.get hha)), ?_⟩; have hsl : hs.length ≤ 5 := le_trans (qbk hnd (m := ls) hhl) hlen; refine qcd V.str (BelJ H stp rd tt ls rel) ?_ ?_ ⟨[], x1, rfl, ⟨⟨0, e1⟩, (fun _ z => nomatch z)⟩, rfl, rfl, rfl⟩
 . rintro m' H' ⟨sas, w1, w2, w3, w4, w5, w6⟩; refine ⟨(qbm (w1.get hha)), ?_⟩; (apply_assumption; refine qaa fun Kz hz1 hz2 hz3 hz4 => ?_; refine qar ?_; refine xN ‹_› rfl ?_; apply_assumption); exact h H' rd sas w1 n1 w2 w3
 . rintro dn s r m' H' hsd ⟨sas, w1, w2, w3, w4, w5, w6⟩; refine ⟨(qbm (w1.get hha)), fun K hn _ _ _ => ⟨_, rfl, ?_⟩⟩; have hsl' : s ∈ ls := hhl s (by (refine (Eq.symm hsd) ▸ ?_); simp); have htd := htop dn s r hsd; have hsn : s ∉ sas.map (·.1) := by
     (refine (Eq.symm w2) ▸ ?_); have := hnd; rw [hsd, nodup_append] at this; exact fun z => this.2.2 s z s (by simp) rfl
   (refine qae (.inr ⟨rfl, rfl⟩) rfl fun Kz hz1 => ?_; refine qa6 (qal ?_)); refine ⟨zero_le _, fun he H2 x2 n2 e2 => ?_⟩; have HA' := HA.more (w1.trans x2); obtain ⟨hdd, hl, g1, g2, g3⟩ := id HA'; (apply_assumption; refine qaa fun Kz hz1 hz2 hz3 hz4 => ?_; refine qb5 rfl (fun _ => rfl) (by show qan _ _; exact .inl rfl) ?_; refine xMn rfl rfl rfl ‹_› rfl ?_; refine qbe ‹_› ‹_› ‹_› (by k_is) (by k_is) (by k_is) rfl ⟨qap ‹_› (by k_is), ?_⟩; refine xAn rfl rfl ?_; refine qaf ?_); refine qak (get_all (d := d + 1) hprog G HA' (hcl s hsl').1 (hcl s hsl').2 hps (le_trans ‹_› (nl0_ rfl)) fun a hna => ?_); have x3 : Ext H2 (upd H2 a (.list ((afOf ps s).map V.str))) := Ext.fresh hna; have e3 : (upd H2 a (.list ((afOf ps s).map V.str))) a = some (.list ((afOf ps s).map V.str)) := qai _ _ _; have hrw : ((ps.filter fun q => Txt.lower q.1 == Txt.lower s).map fun q => V.str q.2) = (afOf ps s).map V.str := by unfold afOf; rw [map_map]; rfl
   (refine (Eq.symm hrw) ▸ ?_); generalize upd H2 a (.list ((afOf ps s).map V.str)) = H3 at x3 e3 ⊢; have hal := qh2 ps s; refine ⟨.list a, (afOf ps s).map V.str, (qb1 e3), ?_⟩; have nah : a ≠ he := fun z => by rw [z, e2] at hna; exact nomatch hna
   refine qcd V.str (qtd H' stp rd a he tt ls rel ps s) ?_ ?_ ⟨[], x2.trans x3, e3, x3.get e2, fun o => by simp, le_refl _, w4, w5, rfl, rfl, w6⟩
   . rintro m2 H4 ⟨held, y1, y2, y3, y4, y5, y6, y7, y8, y9, yt⟩; refine ⟨(qbm y2), ?_⟩; (apply_assumption; refine qaa fun Kz hz1 hz2 hz3 hz4 => ?_; refine qdk rfl rfl (by intro _ _ _ _ h; cases h) ?_; refine qbb rfl (qa9 rfl rfl (by decide +kernel) rfl rfl) (fun _ => rfl) ?_; refine xN ‹_› rfl ?_); refine ⟨_, ls.map V.str, T0.it _, fun C => ?_⟩; refine qa0 V.str (fun o : Str => if held.contains o then some (V.str o) else none) (fun m5 H5 => H5 = H4 ∧ m5 (Str.ofString "held") = some (.ref he)) (fun m5 H5 hj => rfl) (by simp; exact le_trans ‹_› (nl0_ rfl)) ⟨rfl, y8⟩ ?_ ?_
     . rintro o ho m5 H5 acc K5 hacc ⟨rfl, l2⟩ hk; refine qb2 rfl ?_; (refine xCn rfl rfl rfl (xN ‹_› rfl ?_); refine qoo ‹_› ?_; refine ⟨_, rfl, ?_⟩); cases hc : held.contains o
       . rw [hc] at hk; (refine qay rfl ?_); simpa using hk (set m5 (Str.ofString "one") (.str o)) _ ⟨rfl, l2⟩
       . rw [hc] at hk; (refine qbd rfl ?_); refine ⟨hacc, ?_⟩; (refine xN rfl rfl ?_); exact hk (set m5 (Str.ofString "one") (.str o)) _ ⟨rfl, l2⟩
     . rintro m5 H5 ⟨rfl, l2⟩; rw [nil_append, qe0 (p := fun o : Str => held.contains o) (g := V.str)]; have hfil : ls.filter (fun o : Str => held.contains o) = qgz ls rel s := by
         refine List.filter_congr fun o ho => ?_; rw [Bool.eq_iff_iff, contains_iff_mem, y4, hrel s hsl']; unfold qgz; simp only [mem_filter, ho, true_and]
       (refine (Eq.symm hfil) ▸ ?_); intro b hb; have x6 : Ext H5 (upd H5 b (.list ((qgz ls rel s).map V.str))) := Ext.fresh hb; have e6 := qai H5 b (.list ((qgz ls rel s).map V.str)); generalize upd H5 b (.list ((qgz ls rel s).map V.str)) = H6 at x6 e6 ⊢; have R6 := w3.more (y1.trans x6); obtain ⟨ep, rd1⟩ := R6.d; have hsasl : sas.length ≤ 6 := by
         have h1 := congrArg List.length w2; have h2 := congrArg List.length hsd; simp at h1 h2; lia
       (refine xN ‹_› rfl (xN ‹_› rfl ?_)); refine ⟨rd, _, ep, s, rfl, rfl, rd1, by simp; exact le_trans ‹_› (nl0_ rfl), fun ep' => ?_⟩; have mm : Mod H6 rd (upd H6 rd (.dict (putD (sas.map fun p => (p.1, V.ref p.2)) s (.ref b)) ep')) := Mod.upd _ _ _; have me := qai H6 rd (.dict (putD (sas.map fun p => (p.1, V.ref p.2)) s (.ref b)) ep'); generalize upd H6 rd (.dict (putD (sas.map fun p => (p.1, V.ref p.2)) s (.ref b)) ep') = H7 at mm me ⊢; (apply_assumption; refine qac ?_); exact hn _ _ ⟨sas ++ [(s, b)], mm.ext (w1.trans (y1.trans x6)) n1, by rw [map_append, w2]; rfl, R6.add hsn mm me e6, y6, y7, yt⟩
   . rintro dn2 t r2 m2 H4 hafd ⟨held, y1, y2, y3, y4, y5, y6, y7, y8, y9, yt⟩; refine ⟨(qbm y2), fun K2 hn2 _ _ _ => ⟨_, rfl, ?_⟩⟩; obtain ⟨ep, rd1⟩ := (w3.more y1).d; obtain ⟨ra, hp2, hrow0⟩ := w3.get (t := t) (by (refine (Eq.symm w2) ▸ ?_); exact htd t (by (refine (Eq.symm hafd) ▸ ?_); simp)); have hrow := y1.get hrow0; have nra := Ext.ne hrow0 n2; have hd2 : dn2.length ≤ 100 := by have := congrArg List.length hafd; simp at this; lia
     have hrl := qoa ls rel t; (refine qaw rfl rfl fun Kz hz1 => ?_; refine xMn rfl rfl rfl ‹_› rfl ?_; refine qa8 (qas ‹_›) (by decide) F.plainAttrs_list F.slot_list_append F.type_list_append ⟨qab _, ?_⟩; refine xAn rfl rfl (qaf ?_); refine qbq ‹_› (by simp only [length_map, length_append, length_cons, length_nil]; omega) ?_); intro H5 m5 e5; have rd2 := m5.mv y3 rd1; have hrow2 := m5.get nra hrow; have e5' : H5 he = some (.list ((held ++ [t]).map V.str)) := by rw [e5, map_append]; rfl
     (apply_assumption; refine qaw rfl rfl fun Kz hz1 => ?_; refine xMn rfl rfl rfl ‹_› rfl ?_; refine qa8 (qas ‹_›) (by decide) F.plainAttrs_list F.slot_list_extend F.type_list_extend ⟨qab _, ?_⟩; refine qag rfl ?_; refine qah rfl ?_; refine xSn rfl ‹_› rfl ?_; refine xN rfl rfl ?_); refine qb6 rd2 hp2 ?_; (refine qal ?_; refine qaf ?_); refine qc4 e5' hrow2 (by simp; lia) fun H6 m6 e6 => ?_; (apply_assumption; refine qac ?_); refine hn2 _ _ ⟨held ++ [t] ++ qgz ls rel t, m6.ext (m5.ext y1 n2) n2, m6.get nah (m5.get nah y2), by rw [e6, ← map_append], fun o => ?_, ?_, y6, y7, y8, y9, yt⟩
     . rw [mem_append, mem_append, y4, mem_singleton]; constructor
       . rintro ((⟨t', h1, h2⟩ | h) | h)
         . exact ⟨t', mem_append_left _ h1, h2⟩
         . exact ⟨t, by simp, .inl h⟩
         . exact ⟨t, by simp, .inr h⟩
       . rintro ⟨t', h1, h2⟩; rcases mem_append.mp h1 with h1 | h1
         . exact .inl (.inl ⟨t', h1, h2⟩)
         . rw [mem_singleton] at h1; subst h1; rcases h2 with h2 | h2
           . exact .inl (.inr h2)
           . exact .inr h2
     . simp only [length_append, length_singleton]; lia
theorem qpz {xs ys : List Str} : upto (fun j => decide (xs[j]? = ys[j]?)) xs.length ys.length = decide (xs = ys) := by
 rw [Bool.eq_iff_iff, decide_eq_true_iff]; unfold upto; rw [Bool.and_eq_true, beq_iff_eq, all_eq_true]; constructor
 . rintro ⟨h1, h2⟩; refine List.ext_getElem? fun j => ?_; by_cases hj : j < xs.length
   . exact of_decide_eq_true (h1 j (mem_range.mpr (by lia)))
   . rw [List.getElem?_eq_none (by lia), List.getElem?_eq_none (by lia)]
 . rintro rfl; exact ⟨fun j _ => decide_eq_true rfl, rfl⟩
theorem qez {H : AH} {n : Nat} {a b : Addr} {xs ys : List Str} (ha : H a = some (.list (xs.map V.str))) (hb : H b = some (.list (ys.map V.str))) : EqG H (n + 1) (.ref a) (.ref b) (decide (xs = ys)) := by
 have key := EqG.list (H := H) n a b (xs.map V.str) (ys.map V.str) (fun j => decide (xs[j]? = ys[j]?)) ha hb ?_ ?_
 . rw [length_map, length_map, qpz] at key; exact key
 . rintro rfl; rw [ha] at hb; have : xs = ys := by
     have h1 : xs.map V.str = ys.map V.str := AO.list.inj (sj0_ hb); exact List.map_inj_right (fun x y h => by cases h; rfl) |>.mp h1
   subst this; rw [length_map, qpz]; exact decide_eq_true rfl
 . intro j x y h1 h2; rw [getElem?_map] at h1 h2; obtain ⟨s, hs, rfl⟩ := Option.map_eq_some_iff.mp h1; obtain ⟨t, ht, rfl⟩ := Option.map_eq_some_iff.mp h2; have : decide (xs[j]? = ys[j]?) = (s == t) := by
     rw [hs, ht, Bool.eq_iff_iff, decide_eq_true_iff, beq_iff_eq, Option.some.injEq]
   rw [this]; exact .str n s t
theorem qia {H : AH} {a b a' b' : Addr} {xs ys xs' ys' : List Str} (h1 : H a = some (.list (xs.map V.str))) (h2 : H b = some (.list (ys.map V.str))) (h3 : H a' = some (.list (xs'.map V.str))) (h4 : H b' = some (.list (ys'.map V.str))) :
   EqG H 2 (.tup [.ref a, .ref b]) (.tup [.ref a', .ref b']) (decide (xs = xs') && decide (ys = ys')) := by
 have key := EqG.tup (H := H) 1 [.ref a, .ref b] [.ref a', .ref b'] (fun j => match j with | 0 => decide (xs = xs') | _ => decide (ys = ys')) fun j x y e1 e2 => by
   match j, e1, e2 with
   | 0, e1, e2 => obtain rfl := sj0_ e1; obtain rfl := sj0_ e2; exact qez h1 h3
   | 1, e1, e2 => obtain rfl := sj0_ e1; obtain rfl := sj0_ e2; exact qez h2 h4
   | j + 2, e1, e2 => exact nomatch e1
 have z : upto (fun j => match j with | 0 => decide (xs = xs') | _ => decide (ys = ys')) [V.ref a, V.ref b].length [V.ref a', V.ref b'].length = (decide (xs = xs') && decide (ys = ys')) := by
   show ((decide (xs = xs') && (decide (ys = ys') && true)) && true) = _; rw [Bool.and_true, Bool.and_true]
 rw [z] at key; exact key
def sameF (f : Str -> List Str) (u v : Str) (ex : List Str) : Bool := decide (qb4 (f u) (f v) = ex) && decide (qb4 (f v) (f u) = [])
def markF (fb fa : Str -> List Str) (x y : Str) : Str := if sameF fb y x [] && sameF fa x y [] then Str.ofString "|" else if sameF fb y x [x] && sameF fa x y [y] then Str.ofString ";" else Str.ofString ""
theorem qlq : ∀ {c : Cx} {d : Nat} {p loose mg mb} {H : AH} {P : V -> AH -> Prop} {X : Exc -> AH -> Prop} {bd ad : Addr} {fb fa : Str -> List Str} {sb sa : List (Str × Addr)} {x y : Str}
   (hprog : c.prog = rw_om0166_02.row.prog) (G : Gd (KF c.w.params) p loose mg mb c.g) (B : qbo H bd fb sb) (A0 : qbo H ad fa sa) (hx : x ∈ sb.map (·.1)) (hy : y ∈ sb.map (·.1)) (hx' : x ∈ sa.map (·.1)) (hy' : y ∈ sa.map (·.1))
   (ob : ∀ s, (fb s).Pairwise LtS ∧ (fb s).length ≤ 1000) (oa : ∀ s, (fa s).Pairwise LtS ∧ (fa s).length ≤ 1000)
   (h : ∀ H', Ext H H' -> P (.str (markF fb fa x y)) H'), qbg c (d + 2) (.ref 363) [.ref bd, .ref ad, .str x, .str y] [] H P X := by
 w_on; k_fill; intro c d p loose mg mb H P X bd ad fb fa sb sa x y hprog G B A0 hx hy hx' hy' ob oa h; refine qca (d := d + 1) (binds := [(Str.ofString "below", .ref bd), (Str.ofString "above", .ref ad), (Str.ofString "x", .str x), (Str.ofString "y", .str y)]) G (by k_is) (by k_is) (by exact bnd4 fun _ _ _ _ => rfl) (by rfl) (by decide +kernel) (by exact of_decide_eq_true rfl) ?_ (by rfl) (by rfl) (by rfl); intro A L; obtain ⟨eb, hbd⟩ := B.d; obtain ⟨ea, had⟩ := A0.d; obtain ⟨bx, bx1, bx2⟩ := B.get hx; obtain ⟨by_, by1, by2⟩ := B.get hy; obtain ⟨ax, ax1, ax2⟩ := A0.get hx'; obtain ⟨ay, ay1, ay2⟩ := A0.get hy'; (refine qae (.inl rfl) rfl fun Kz hz1 => ?_; refine qao rfl (qa4 ‹_› rfl (by k_is) ?_ rfl); refine ⟨_, rfl, (qap ‹_› (by k_is)), ?_⟩; refine qag rfl (qah rfl (xSn rfl rfl rfl (xN rfl rfl ?_)))); refine qb6 hbd by1 ?_; (refine qah rfl (xSn rfl rfl rfl (xN rfl rfl ?_))); refine qb6 hbd bx1 ?_; (refine qal ?_); refine qak (sld (d := d) hprog G by2 bx2 (ob y).1 (ob x).1 (ob y).2 (ob x).2 fun H1 l1 l2 x1 n1 n2 e1 e2 => ?_); (apply_assumption; refine qae (.inl rfl) rfl fun Kz hz1 => ?_; refine qao rfl ?_; refine qa4 ‹_› rfl (by k_is) ?_ rfl; refine ⟨_, rfl, (qap ‹_› (by k_is)), ?_⟩; refine qag rfl ?_; refine qah rfl ?_; refine xSn rfl rfl rfl ?_; refine xN rfl rfl ?_)
 refine qb6 (x1.get had) ax1 ?_; (refine qah rfl (xSn rfl rfl rfl (xN rfl rfl ?_))); refine qb6 (x1.get had) ay1 ?_; (refine qal ?_); refine qak (sld (d := d) hprog G (x1.get ax2) (x1.get ay2) (oa x).1 (oa y).1 (oa x).2 (oa y).2 fun H2 u1 u2 x2 m1 m2 f1 f2 => ?_); have X2 := x1.trans x2; have g1 := x2.get e1; have g2 := x2.get e2; clear hbd had bx1 bx2 by1 by2 ax1 ax2 ay1 ay2 x1 x2 e1 e2 n1 n2 m1 m2; (apply_assumption); have hm : markF fb fa x y = if sameF fb y x [] && sameF fa x y [] then Str.ofString "|" else if sameF fb y x [x] && sameF fa x y [y] then Str.ofString ";" else Str.ofString "" := rfl
 have sl : ∀ ex, sameF fb y x ex = (decide (qb4 (fb y) (fb x) = ex) && decide (qb4 (fb x) (fb y) = [])) := fun _ => rfl; have su : ∀ ex, sameF fa x y ex = (decide (qb4 (fa x) (fa y) = ex) && decide (qb4 (fa y) (fa x) = [])) := fun _ => rfl; generalize markF fb fa x y = mk at hm h; generalize sameF fb y x = SL at hm sl; generalize sameF fa x y = SU at hm su; refine qes (fun m3 H3 => Ext H2 H3 ∧ (SL [] && SU []) = false ∧ m3 (Str.ofString "lower") = some (.tup [.ref l1, .ref l2]) ∧ m3 (Str.ofString "upper") = some (.tup [.ref u1, .ref u2]) ∧ m3 (Str.ofString "x") = some (.str x) ∧ m3 (Str.ofString "y") = some (.str y)) ?_ ?_
 . intro C hC KC kc1 kc2 kc3 kc4; (refine qbv (qda (qbf (xCn rfl rfl rfl (qbc (qah rfl (qa6 (qal ?_)))))))); refine ⟨zero_le _, fun p1 H3 x3 n3 e3 => ?_⟩; (refine qah rfl (qa6 (qal ?_))); refine ⟨zero_le _, fun p2 H4 x4 n4 e4 => ?_⟩; (refine qal ?_); refine ⟨nl0_ rfl, ?_⟩; refine qfh rfl (by decide) (qia (xs' := []) (ys' := []) ((x3.trans x4).get g1) ((x3.trans x4).get g2) (x4.get e3) e4) ?_; rw [← sl]; have X4 := x3.trans x4; cases hb1 : SL []
   . (refine ⟨_, rfl, ?_⟩; refine qay rfl ?_; refine qay rfl ?_; refine qac ?_; apply_assumption); exact hC _ _ ⟨X4, by rw [hb1]; rfl, rfl, rfl, rfl, rfl⟩
   . (refine ⟨_, rfl, ?_⟩; refine qbd rfl ?_; refine qbf (xCn rfl rfl rfl (qbc (qah rfl (qa6 (qal ?_)))))); refine ⟨zero_le _, fun p3 H5 x5 n5 e5 => ?_⟩; (refine qah rfl (qa6 (qal ?_))); refine ⟨zero_le _, fun p4 H6 x6 n6 e6 => ?_⟩; (refine qal ?_); refine ⟨nl0_ rfl, ?_⟩; have X6 := X4.trans (x5.trans x6); refine qfh rfl (by decide) (qia (xs' := []) (ys' := []) (X6.get f1) (X6.get f2) (x6.get e5) e6) ?_; rw [← su]; cases hb2 : SU []
     . (refine ⟨_, rfl, ?_⟩; refine qay rfl ?_; refine qay rfl ?_; refine qac ?_; apply_assumption); exact hC _ _ ⟨X6, by rw [hb1, hb2]; rfl, rfl, rfl, rfl, rfl⟩
     . (refine ⟨_, rfl, ?_⟩; refine qbd rfl ?_; refine qcv ?_; refine qbd rfl ?_; refine qaa fun Kz hz1 hz2 hz3 hz4 => ?_; refine qar (qad rfl ?_); apply_assumption; apply_assumption); have := h H6 (X2.trans X6); rw [hm, hb1, hb2] at this; exact this
 . rintro m3 H3 ⟨X3, hno, v1, v2, v3, v4⟩; rw [hno] at hm; have Y3 := X2.trans X3; have q1 := X3.get g1; have q2 := X3.get g2; have q3 := X3.get f1; have q4 := X3.get f2; clear g1 g2 f1 f2 X3; refine qes (fun m4 H4 => Ext H3 H4 ∧ (SL [x] && SU [y]) = false) ?_ ?_
   . intro C hC KC kc1 kc2 kc3 kc4; (refine qbv (qda (qbf (xCn rfl ‹_› rfl (qbc (qah rfl (qa6 (xLn ‹_› rfl ?_)))))))); refine ⟨nl0_ rfl, fun p1 H4 x3 n3 e3 => ?_⟩; (refine qah rfl (qa6 (qal ?_))); refine ⟨zero_le _, fun p2 H5 x4 n4 e4 => ?_⟩; (refine qal ?_); refine ⟨nl0_ rfl, ?_⟩; refine qfh rfl (by decide) (qia (xs' := [x]) (ys' := []) ((x3.trans x4).get q1) ((x3.trans x4).get q2) (x4.get e3) e4) ?_; rw [← sl]; have X4 := x3.trans x4; cases hb1 : SL [x]
     . (refine ⟨_, rfl, ?_⟩; refine qay rfl ?_; refine qay rfl ?_; refine qac ?_; apply_assumption); exact hC _ _ ⟨X4, by rw [hb1]; rfl⟩
     . (refine ⟨_, rfl, ?_⟩; refine qbd rfl ?_; refine qbf (xCn rfl ‹_› rfl (qbc (qah rfl (qa6 (xLn ‹_› rfl ?_)))))); refine ⟨nl0_ rfl, fun p3 H6 x5 n5 e5 => ?_⟩; (refine qah rfl (qa6 (qal ?_))); refine ⟨zero_le _, fun p4 H7 x6 n6 e6 => ?_⟩; (refine qal ?_); refine ⟨nl0_ rfl, ?_⟩; have X6 := X4.trans (x5.trans x6); refine qfh rfl (by decide) (qia (xs' := [y]) (ys' := []) (X6.get q3) (X6.get q4) (x6.get e5) e6) ?_; rw [← su]; cases hb2 : SU [y]
       . (refine ⟨_, rfl, ?_⟩; refine qay rfl ?_; refine qay rfl ?_; refine qac ?_; apply_assumption); exact hC _ _ ⟨X6, by rw [hb1, hb2]; rfl⟩
       . (refine ⟨_, rfl, ?_⟩; refine qbd rfl ?_; refine qcv ?_; refine qbd rfl ?_; refine qaa fun Kz hz1 hz2 hz3 hz4 => ?_; refine qar (qad rfl ?_); apply_assumption; apply_assumption); have := h H7 (Y3.trans X6); rw [hm, hb1, hb2] at this; exact this
   . rintro m4 H4 ⟨X4, hno2⟩; rw [hno2] at hm; (refine qaa fun Kz hz1 hz2 hz3 hz4 => ?_; refine qar (qad rfl ?_); apply_assumption); have := h H4 (Y3.trans X4); rw [hm] at this; exact this
inductive Tr where
 | leaf (x : Str)
 | nod (b : Bool) (l r : Tr)
def mkT (b : Bool) : Str := if b then Str.ofString ";" else Str.ofString "|"
def Tr.text : Tr -> Str
 | .leaf x => x
 | .nod b l r => (((Str.ofString "(" ++ l.text) ++ mkT b) ++ r.text) ++ Str.ofString ")"
abbrev Tl := List (Str × Tr)
def Tl.ns (tl : Tl) : List Str := tl.map (·.1)
def Tl.tree (tl : Tl) (x : Str) : Tr := (tl.lookup x).getD (.leaf x)
def Tl.fold (tl : Tl) (x y : Str) (b : Bool) : Tl := (List.filter (fun p : Str × Tr => p.1 != x) tl ++ [(x, Tr.nod b (tl.tree x) (tl.tree y))]).filter fun p : Str × Tr => p.1 != y
def dnS (ls : List Str) (rel : Str -> Str -> Bool) (ns : List Str) (t : Str) : List Str := ls.filter fun o => rel o t && ns.contains o
def upS (ls : List Str) (rel : Str -> Str -> Bool) (ns : List Str) (t : Str) : List Str := ls.filter fun o => rel t o && ns.contains o
def TbT (tb : List (Str × Str)) (tl : Tl) : Prop := tb.map (fun q => (Txt.lower q.1, q.2)) = tl.map fun p => (p.1, p.2.text)
theorem TbT.names {tb : List (Str × Str)} {tl : Tl} (h : TbT tb tl) : tb.map (fun q => Txt.lower q.1) = tl.ns := by
 have := congrArg (List.map (·.1)) h; rw [map_map, map_map] at this; exact this
theorem TbT.filter {x : Str} : ∀ {tb : List (Str × Str)} {tl : Tl}, TbT tb tl -> TbT (tb.filter fun q => Txt.lower q.1 != x) (tl.filter fun p => p.1 != x) := by
 intro tb
 induction tb with
 | nil =>
   intro tl h; cases tl with
   | nil => rfl
   | cons _ _ => exact nomatch h
 | cons q tb ih0 =>
   intro tl h; cases tl with
   | nil => exact nomatch h
   | cons p tl =>
     obtain ⟨h0, h3⟩ := List.cons.inj h; obtain ⟨h1, h2⟩ := Prod.mk.inj h0; have ih := ih0 (tl := tl) h3; rw [filter_cons, filter_cons, h1]; split
     . unfold TbT at ih ⊢; rw [map_cons, map_cons, ih, h1, h2]
     . exact ih
theorem TbT.find {x : Str} : ∀ {tb : List (Str × Str)} {tl : Tl}, TbT tb tl -> x ∈ tl.ns -> (tb.find? fun q => Txt.lower q.1 == x).map (·.2) = some (tl.tree x).text := by
 intro tb
 induction tb with
 | nil =>
   intro tl h hx; cases tl with
   | nil => exact nomatch hx
   | cons _ _ => exact nomatch h
 | cons q tb ih0 =>
   intro tl h hx; cases tl with
   | nil => exact nomatch h
   | cons p tl =>
     obtain ⟨h0, h3⟩ := List.cons.inj h; obtain ⟨h1, h2⟩ := Prod.mk.inj h0; unfold Tl.tree; rw [find?_cons, h1, lookup_cons]; by_cases e : p.1 = x
     . have e1 : (p.1 == x) = true := beq_iff_eq.mpr e; have e2 : (x == p.1) = true := beq_iff_eq.mpr e.symm; rw [e1, e2]; exact congrArg some h2
     . have e1 : (p.1 == x) = false := beq_eq_false_iff_ne.mpr e; have e2 : (x == p.1) = false := beq_eq_false_iff_ne.mpr fun z => e z.symm; rw [e1, e2]; refine ih0 (tl := tl) h3 ?_; rcases mem_cons.mp hx with z | z
       . exact absurd z.symm e
       . exact z
theorem TbT.append {tb tb' : List (Str × Str)} {tl tl' : Tl} (h : TbT tb tl) (h' : TbT tb' tl') : TbT (tb ++ tb') (tl ++ tl') := by
 unfold TbT at h h' ⊢; rw [map_append, map_append, h, h']
theorem TbT.fold {tb : List (Str × Str)} {tl : Tl} {x y nt : Str} {b : Bool} (h : TbT tb tl) (hx : Txt.lower x = x) (hy : Txt.lower y = y) (hn : (Tr.nod b (tl.tree x) (tl.tree y)).text = nt) : TbT (without_ (without_ tb x ++ [(x, nt)]) y) (tl.fold x y b) := by
 unfold without_ Tl.fold; rw [hx, hy]; refine TbT.filter (TbT.append (TbT.filter h) ?_); rw [← hn]; show [(Txt.lower x, _)] = [(x, _)]; rw [hx]
theorem Tl.fold_ns {tl : Tl} {x y : Str} {b : Bool} (hx : x ∈ tl.ns) (hxy : x ≠ y) (o : Str) : o ∈ (tl.fold x y b).ns ↔ o ∈ tl.ns ∧ o ≠ y := by
 constructor
 . intro h; obtain ⟨p, hp, rfl⟩ := mem_map.mp h; obtain ⟨h1, h2⟩ := mem_filter.mp hp; refine ⟨?_, by simpa using h2⟩; rcases mem_append.mp h1 with h1 | h1
   . exact mem_map_of_mem (mem_filter.mp h1).1
   . rw [mem_singleton.mp h1]; exact hx
 . rintro ⟨h1, h2⟩; by_cases e : o = x
   . exact mem_map.mpr ⟨(x, .nod b (tl.tree x) (tl.tree y)), mem_filter.mpr ⟨by exact mem_append_right _ mem_cons_self, by simpa using hxy⟩, e.symm⟩
   . obtain ⟨p, hp, rfl⟩ := mem_map.mp h1; exact mem_map.mpr ⟨p, mem_filter.mpr ⟨mem_append_left _ (mem_filter.mpr ⟨hp, by simpa using e⟩), by simpa using h2⟩, rfl⟩
theorem qe1 {tl : Tl} {x y : Str} {b : Bool} (hx : x ∈ tl.ns) (hxy : x ≠ y) (o : Str) : (tl.fold x y b).ns.contains o = (tl.ns.contains o && o != y) := by
 rw [Bool.eq_iff_iff, Bool.and_eq_true, contains_iff_mem, contains_iff_mem, Tl.fold_ns hx hxy, bne_iff_ne]
theorem qqg {ls : List Str} {rel : Str -> Str -> Bool} {tl : Tl} {x y : Str} {b : Bool} (hx : x ∈ tl.ns) (hxy : x ≠ y) (t : Str) : dnS ls rel (tl.fold x y b).ns t = (dnS ls rel tl.ns t).filter fun o => o != y := by
 unfold dnS; rw [List.filter_filter]; refine List.filter_congr fun o _ => ?_; rw [qe1 hx hxy]; cases rel o t <;> cases tl.ns.contains o <;> cases (o != y) <;> rfl
theorem qrc {ls : List Str} {rel : Str -> Str -> Bool} {tl : Tl} {x y : Str} {b : Bool} (hx : x ∈ tl.ns) (hxy : x ≠ y) (t : Str) : upS ls rel (tl.fold x y b).ns t = (upS ls rel tl.ns t).filter fun o => o != y := by
 unfold upS; rw [List.filter_filter]; refine List.filter_congr fun o _ => ?_; rw [qe1 hx hxy]; cases rel t o <;> cases tl.ns.contains o <;> cases (o != y) <;> rfl
def cutF (f : Str -> List Str) (dn : List Str) (y s : Str) : List Str := if s ∈ dn then (f s).filter fun o => o != y else f s
theorem qlj (f : Str -> List Str) (y : Str) : cutF f [] y = f := funext fun s => if_neg (by simp)
theorem qli (f : Str -> List Str) (dn : List Str) (y s : Str) : (cutF f dn y s).length ≤ (f s).length := by
 unfold cutF; split
 . exact length_filter_le ..
 . exact le_refl _
theorem qjd (f : Str -> List Str) {dn : List Str} {y t : Str} (ht : t ∉ dn) : cutF f (dn ++ [t]) y = fun s => if s = t then (cutF f dn y t).filter fun o => o != y else cutF f dn y s := by
 funext s; unfold cutF; by_cases e : s = t
 . subst e; rw [if_pos rfl, if_pos (mem_append_right _ mem_cons_self), if_neg ht]
 . rw [if_neg e]; by_cases e2 : s ∈ dn
   . rw [if_pos (mem_append_left _ e2), if_pos e2]
   . rw [if_neg (by simp [e, e2]), if_neg e2]
inductive qlb (ns : List Str) (mk : Str -> Str -> Str) : List Str -> Prop
 | yes (x y : Str) (hx : x ∈ ns) (hy : y ∈ ns) (ne : x ≠ y) (hm : mk x y ≠ Str.ofString "") : qlb ns mk [x, y]
 | no (h : ∀ x ∈ ns, ∀ y ∈ ns, x ≠ y -> mk x y = Str.ofString "") : qlb ns mk []
def qc8 (tb : List (Str × Str)) : List Str := tb.map fun q => Txt.lower q.1
inductive FndJ (H0 : AH) (na bd ad : Addr) (ns : List Str) (mk : Str -> Str -> Str) (dn rest : List Str) (m : Map) (H : AH) : Prop
 | mk (x : Ext H0 H) (w1 : m (Str.ofString "names") = some (.ref na)) (w2 : m (Str.ofString "below") = some (.ref bd)) (w3 : m (Str.ofString "above") = some (.ref ad)) (n : ∀ x ∈ dn, ∀ y ∈ ns, x ≠ y -> mk x y = Str.ofString "")
inductive FndI (H0 : AH) (na bd ad : Addr) (mk : Str -> Str -> Str) (u : Str) (dn rest : List Str) (m : Map) (H : AH) : Prop
 | mk (x : Ext H0 H) (w1 : m (Str.ofString "names") = some (.ref na)) (w2 : m (Str.ofString "below") = some (.ref bd)) (w3 : m (Str.ofString "above") = some (.ref ad)) (w4 : m (Str.ofString "x") = some (.str u)) (n : ∀ y ∈ dn, u ≠ y -> mk u y = Str.ofString "")
theorem qjm : ∀ {c : Cx} {d : Nat} {p loose mg mb} {H : AH} {P : V -> AH -> Prop} {X : Exc -> AH -> Prop} {st dd l bd ad : Addr} {tb : List (Str × Str)} {fb fa : Str -> List Str} {sb sa : List (Str × Addr)}
   (hprog : c.prog = rw_om0166_02.row.prog) (G : Gd (KF c.w.params) p loose mg mb c.g) (S : HL H st dd l tb) (B : qbo H bd fb sb) (A0 : qbo H ad fa sa) (hb : ∀ s ∈ qc8 tb, s ∈ sb.map (·.1)) (ha : ∀ s ∈ qc8 tb, s ∈ sa.map (·.1))
   (ob : ∀ s, (fb s).Pairwise LtS ∧ (fb s).length ≤ 1000) (oa : ∀ s, (fa s).Pairwise LtS ∧ (fa s).length ≤ 1000) (htl : tb.length ≤ 10) (hps : ∀ q ∈ tb, q.1.length ≤ 1000)
   (h : ∀ H' a r, Ext H H' -> H' a = some (.list (r.map V.str)) -> qlb (qc8 tb) (markF fb fa) r -> P (.ref a) H'), qbg c (d + 3) (.ref 368) [.ref st, .ref bd, .ref ad] [] H P X := by
 w_on; k_fill; intro c d p loose mg mb H P X st dd l bd ad tb fb fa sb sa hprog G S B A0 hb ha ob oa htl hps h; refine qca (d := d + 2) (binds := [(Str.ofString "table", .ref st), (Str.ofString "below", .ref bd), (Str.ofString "above", .ref ad)]) G (by k_is) (by k_is) (by exact bnd3 fun _ _ _ => rfl) (by rfl) (by decide +kernel) (by exact of_decide_eq_true rfl) ?_ (by rfl) (by rfl) (by rfl); intro A L; have h1 := S.h1; have h2 := S.h2; (refine qaa fun Kz hz1 hz2 hz3 hz4 => ?_; refine qcg rfl (.inl rfl) rfl (qa9 rfl rfl (by decide +kernel) rfl rfl) (fun _ => rfl) ?_; refine xMn rfl rfl rfl rfl rfl ?_; refine qbe ‹_› ‹_› ‹_› (by k_is) (by k_is) (by k_is) rfl ⟨qap ‹_› (by k_is), ?_⟩; refine qav ?_; refine qaf ?_); refine qak (qom (d := d + 1) hprog G S (le_trans ‹_› (nl0_ rfl)) fun ka H1 x1 n1 e1 => ?_); refine ⟨.list ka, (tb.map (·.1)).map V.str, (qb1 e1), fun C => ?_⟩; refine qa0 V.str (fun s => some (V.str (Txt.lower s))) (fun m' H' => H' = H1) (fun m' H' j => (j ▸ qbm e1)) (by simp; exact le_trans ‹_› (nl0_ rfl)) rfl ?_ ?_
 . rintro s hs m3 H3 acc K3 hacc rfl hk3; obtain ⟨q, hq, rfl⟩ := mem_map.mp hs; have hq1 := hps q hq; refine qcq rfl ⟨hacc, ?_⟩; (refine xMn rfl rfl rfl rfl rfl ?_; refine qa8 rfl (by decide) F.plainAttrs_str F.slot_str_lower F.type_str_lower ⟨qab _, ?_⟩; refine qav ?_; refine qaf ?_; refine qcj ‹_› ?_); exact hk3 _ _ rfl
 . rintro m3 H3 rfl; have e : ([] ++ (tb.map (·.1)).filterMap fun s => some (V.str (Txt.lower s))) = (qc8 tb).map V.str := by unfold qc8; rw [nil_append, filterMap_eq_map', map_map, map_map]; rfl
   rw [e]; refine qo5 fun na H4 x4 n4 e4 => ?_; generalize hns : qc8 tb = ns at *; have X4 := x1.trans x4; have hnl : ns.length ≤ 10 := by rw [← hns]; unfold qc8; rw [length_map]; exact htl
   (apply_assumption; refine qaa fun Kz hz1 hz2 hz3 hz4 => ?_; refine qb5 rfl (fun _ => rfl) (by show qan _ _; exact .inl rfl) ?_; refine xN rfl rfl ?_); refine ⟨.list na, ns.map V.str, (qb1 e4), ?_⟩; refine qcd V.str (FndJ H4 na bd ad ns (markF fb fa)) ?_ ?_ ⟨Ext.refl _, rfl, rfl, rfl, fun _ z => nomatch z⟩
   . rintro m5 H5 ⟨x5, w1, w2, w3, hno⟩; refine ⟨(qbm (x5.get e4)), ?_⟩; (apply_assumption; refine qaa fun Kz hz1 hz2 hz3 hz4 => ?_; refine qar ?_; refine qa6 ?_; refine qal ?_); refine ⟨zero_le _, fun a H6 x6 n6 e6 => ?_⟩; (apply_assumption); exact h H6 a [] (X4.trans (x5.trans x6)) e6 (.no hno)
   . rintro dn u r m5 H5 hdn ⟨x5, w1, w2, w3, hno⟩; refine ⟨(qbm (x5.get e4)), fun K hn _ _ hret => ⟨_, rfl, ?_⟩⟩; have hu : u ∈ ns := by rw [hdn]; simp
     have e5 := x5.get e4; (refine qaa fun Kz hz1 hz2 hz3 hz4 => ?_; refine qb5 rfl (fun _ => rfl) (by show qan _ _; exact .inl rfl) ?_; refine xN ‹_› rfl ?_); refine ⟨.list na, ns.map V.str, (qb1 e5), ?_⟩; refine qcd V.str (FndI H4 na bd ad (markF fb fa) u) ?_ ?_ ⟨x5, w1, w2, w3, rfl, fun _ z => nomatch z⟩
     . rintro m6 H6 ⟨x6, v1, v2, v3, v4, hno2⟩; refine ⟨(qbm (x6.get e4)), ?_⟩; (apply_assumption; refine qac ?_); refine hn _ _ ⟨x6, v1, v2, v3, fun x hx => ?_⟩; rcases mem_append.mp hx with hx | hx
       . exact hno x hx
       . rw [mem_singleton.mp hx]; exact hno2
     . rintro dn2 v r2 m6 H6 hdn2 ⟨x6, v1, v2, v3, v4, hno2⟩; refine ⟨(qbm (x6.get e4)), fun K2 hn2 _ _ hret2 => ⟨_, rfl, ?_⟩⟩; have hv : v ∈ ns := by rw [hdn2]; simp
       (refine qaa fun Kz hz1 hz2 hz3 hz4 => ?_; refine qbv (qda (qbf (xCn rfl ‹_› rfl (xN rfl rfl ?_)))); refine qck ?_; refine ⟨_, rfl, ?_⟩); cases huv : (u != v)
       . (refine qay ‹_› ?_; refine qay rfl ?_; refine qac ?_; apply_assumption; refine qac ?_); refine hn2 _ _ ⟨x6, v1, v2, v3, v4, fun y hy => ?_⟩; rcases mem_append.mp hy with hy | hy
         . exact hno2 y hy
         . rw [mem_singleton.mp hy]; exact fun z => absurd z (by simpa using huv)
       . (refine qbd ‹_› ?_; refine qbf (qaq rfl (qao rfl (qa4 ‹_› rfl (by k_is) ?_ rfl))); refine ⟨_, rfl, (qap ‹_› (by k_is)), ?_⟩; refine qag rfl (xLm ‹_› rfl (xLm ‹_› rfl (xLm ‹_› rfl (xLn rfl rfl ?_))))); refine qak (qlq (d := d) hprog G (B.more (X4.trans x6)) (A0.more (X4.trans x6)) (hb u hu) (hb v hv) (ha u hu) (ha v hv) ob oa fun H7 x7 => ?_); (refine qad rfl ?_; refine qck ?_; refine ⟨_, rfl, ?_⟩); cases hm : (markF fb fa u v != Str.ofString "")
         . (refine qay ‹_› ?_; refine qay rfl ?_; refine qac ?_; apply_assumption; refine qac ?_); refine hn2 _ _ ⟨x6.trans x7, v1, v2, v3, v4, fun y hy => ?_⟩; rcases mem_append.mp hy with hy | hy
           . exact hno2 y hy
           . rw [mem_singleton.mp hy]; exact fun _ => by simpa using hm
         . (refine qbd ‹_› ?_; refine qcv ?_; refine qbd rfl ?_; refine qaa fun Kz hz1 hz2 hz3 hz4 => ?_; refine qar (qa6 (xLm ‹_› rfl (xLn rfl rfl ?_)))); refine ⟨nl0_ rfl, fun a H8 x8 n8 e8 => ?_⟩; (apply_assumption; apply_assumption); refine hret2 _ _ _ ?_; (apply_assumption); refine hret _ _ _ ?_; (apply_assumption); exact h H8 a [u, v] (X4.trans (x6.trans (x7.trans x8))) e8 (.yes u v hu hv (by simpa using huv) (by simpa using hm))
structure qp3 (K : Frag) (s : Str) : Prop where
 len : s.length ≤ 1000
 low : Txt.lower s = s
 up : Txt.lower (Txt.upper s) = s
 ulen : (Txt.upper s).length ≤ 1000
 c1 : qbz K 48 s
 c2 : qbz K 48 (Txt.upper s)
 c3 : qbz K 53 s
theorem qp3.cl {K : Frag} {s : Str} (h : qp3 K s) : qbz K 48 (Txt.lower s) := by rw [h.low]; exact h.c1
inductive AbvJ (H : AH) (bd ad : Addr) (tt : Str) (f : Str -> List Str) (ha stp : Addr) (dn rest : List Str) (m' : Map) (H' : AH) : Prop
 | mk (sas : List (Str × Addr)) (w1 : Ext H H') (w2 : sas.map (·.1) = dn) (w3 : qbo H' ad f sas) (w4 : m' (Str.ofString "above") = some (.ref ad)) (w5 : m' (Str.ofString "below") = some (.ref bd)) (w6 : m' (Str.ofString "things") = some (.str tt)) (w7 : m' (Str.ofString "handed") = some (.ref ha))
inductive FldJ (H0 : AH) (tt : Str) (ls hs : List Str) (rel : Str -> Str -> Bool) (J : Tl -> Prop) (st dd l bd ad : Addr) (k : Nat) (m : Map) (H : AH) : Prop
 | mk (tb : List (Str × Str)) (tl : Tl) (sb sa : List (Str × Addr)) (fo : Addr) (r : List Str) (e : k = tl.length) (x : Ext H0 H) (S : HL H st dd l tb) (t : TbT tb tl) (j : J tl) (lk : ∀ q ∈ tb, q.1.length ≤ 1000) (B : qbo H bd (dnS ls rel tl.ns) sb) (A : qbo H ad (upS ls rel tl.ns) sa)
     (kb : sb.map (·.1) = hs) (ka : sa.map (·.1) = ls) (nb : ∀ p ∈ sb, p.2 ≠ l) (na : ∀ p ∈ sa, p.2 ≠ l) (ef : H fo = some (.list (r.map V.str))) (F : qlb tl.ns (markF (dnS ls rel tl.ns) (upS ls rel tl.ns)) r)
     (w1 : m (Str.ofString "things") = some (.str tt)) (w2 : m (Str.ofString "below") = some (.ref bd)) (w3 : m (Str.ofString "above") = some (.ref ad)) (w4 : m (Str.ofString "table") = some (.ref st)) (w5 : m (Str.ofString "found") = some (.ref fo))
inductive CutJ (H0 : AH) (tt : Str) (ls hs : List Str) (f g : Str -> List Str) (st dd l bd ad : Addr) (tb : List (Str × Str)) (y : Str) (dn rest : List Str) (m : Map) (H : AH) : Prop
 | mk (sb sa : List (Str × Addr)) (x : Ext H0 H) (S : HL H st dd l tb) (B : qbo H bd (cutF f dn y) sb) (A : qbo H ad (cutF g dn y) sa) (kb : sb.map (·.1) = hs) (ka : sa.map (·.1) = ls) (nb : ∀ p ∈ sb, p.2 ≠ l) (na : ∀ p ∈ sa, p.2 ≠ l)
     (w1 : m (Str.ofString "things") = some (.str tt)) (w2 : m (Str.ofString "below") = some (.ref bd)) (w3 : m (Str.ofString "above") = some (.ref ad)) (w4 : m (Str.ofString "table") = some (.ref st)) (w5 : m (Str.ofString "y") = some (.str y))
theorem qrk {sas : List (Str × Addr)} {t : Str} {b l : Addr} (h : ∀ p ∈ sas, p.2 ≠ l) (hb : b ≠ l) : ∀ p ∈ sas.map (fun p => if p.1 = t then (p.1, b) else p), p.2 ≠ l := fun p hp => by
 obtain ⟨q, hq, rfl⟩ := mem_map.mp hp; by_cases z : q.1 = t
 . simp only [z, if_true]; exact hb
 . simp only [z, if_false]; exact h q hq
theorem qks {ls : List Str} (h : ls.Pairwise LtS) (rel : Str -> Str -> Bool) (ns : List Str) (s : Str) : (dnS ls rel ns s).Pairwise LtS := h.filter _
theorem qk8 {ls : List Str} (h : ls.Pairwise LtS) (rel : Str -> Str -> Bool) (ns : List Str) (s : Str) : (upS ls rel ns s).Pairwise LtS := h.filter _
theorem qmt : ∀ {c : Cx} {d : Nat} {p loose mg mb} {H : AH} {P : V -> AH -> Prop} {X : Exc -> AH -> Prop} {stp ha : Addr} {tt : Str} {ls : List Str} {ps : List (Str × Str)} {hs : List Str} {rel : Str -> Str -> Bool} {J : Tl -> Prop}
   (hprog : c.prog = rw_om0166_02.row.prog) (G : Gd (KF c.w.params) p loose mg mb c.g) (T0 : Th tt ls) (HA : qeq H stp ps) (hok : ∀ s ∈ ls, qp3 (KF c.w.params) s) (hps : ∀ q ∈ ps, q.1.length ≤ 1000) (hpl : ps.length ≤ 100)
   (hha : H ha = some (.list (hs.map V.str))) (hnd : hs.Nodup) (hhl : ∀ s, s ∈ hs ↔ s ∈ ls) (hrel : ∀ s ∈ ls, ∀ o, rel o s = true ↔ ∃ t ∈ afOf ps s, o = t ∨ rel o t = true) (htop : ∀ dn s r, hs = dn ++ s :: r -> ∀ t ∈ afOf ps s, t ∈ dn)
   (hJ0 : J (hs.map fun s => (s, .leaf s))) (hJ : ∀ tl, J tl -> tl.ns.Nodup ∧ ∀ s ∈ tl.ns, s ∈ ls)
   (hJs : ∀ tl x y, J tl -> x ∈ tl.ns -> y ∈ tl.ns -> x ≠ y -> markF (dnS ls rel tl.ns) (upS ls rel tl.ns) x y ≠ Str.ofString "" -> ∃ b, markF (dnS ls rel tl.ns) (upS ls rel tl.ns) x y = mkT b ∧ J (tl.fold x y b) ∧ qbz (KF c.w.params) 53 (Tr.nod b (tl.tree x) (tl.tree y)).text ∧ (Tr.nod b (tl.tree x) (tl.tree y)).text.length ≤ 900)
   (h : ∀ H' st dd l tb tl, Ext H H' -> HL H' st dd l tb -> TbT tb tl -> J tl -> (∀ x ∈ tl.ns, ∀ y ∈ tl.ns, x ≠ y -> markF (dnS ls rel tl.ns) (upS ls rel tl.ns) x y = Str.ofString "") -> P (.ref st) H'), qbg c (d + 5) (.ref 373) [.str tt, .ref stp, .ref ha] [] H P X := by
 w_on; k_fill; intro c d p loose mg mb H P X stp ha tt ls ps hs rel J hprog G T0 HA hok hps hpl hha hnd hhl hrel htop hJ0 hJ hJs h; refine qca (d := d + 4) (binds := [(Str.ofString "things", .str tt), (Str.ofString "needs", .ref stp), (Str.ofString "handed", .ref ha)]) G (by k_is) (by k_is) (by exact bnd3 fun _ _ _ => rfl) (by rfl) (by decide +kernel) (by exact of_decide_eq_true rfl) ?_ (by rfl) (by rfl) (by rfl); intro A L; have hlen := T0.len; have hsl : hs.length ≤ 5 := le_trans (qbk hnd (m := ls) fun s hs => (hhl s).mp hs) hlen; (refine qae (.inr ⟨rfl, rfl⟩) rfl fun Kz hz1 => ?_; refine qao rfl (qa4 ‹_› rfl (by k_is) ?_ rfl); refine ⟨_, rfl, (qap ‹_› (by k_is)), ?_⟩; refine qag rfl (xLm rfl rfl (xLm rfl rfl (xLn rfl rfl ?_)))); refine qak (qor (d := d) hprog G T0 HA (fun s hs => ⟨(hok s hs).len, (hok s hs).cl⟩) hps hpl hha hnd (fun s hs => (hhl s).mp hs) hrel htop fun H1 bd sb x1 nb1 kb1 B1 => ?_); have hdn : qgz ls rel = dnS ls rel hs := by
   funext t; refine List.filter_congr fun o ho => ?_; have : hs.contains o = true := by rw [contains_iff_mem]; exact (hhl o).mpr ho
   rw [this, Bool.and_true]
 rw [hdn] at B1; (apply_assumption; refine qae (.inl rfl) rfl fun Kz hz1 => ?_; refine qd7 ‹_› ?_); intro ad H2 x2 n2 e2; (apply_assumption; refine qaa fun Kz hz1 hz2 hz3 hz4 => ?_; refine qb5 rfl (fun _ => rfl) (by show qan _ _; exact .inr ⟨rfl, rfl⟩) ?_; refine xN rfl rfl ?_); refine ⟨_, ls.map V.str, T0.it _, ?_⟩; have X2 := x1.trans x2; refine qcd V.str (AbvJ H1 bd ad tt (upS ls rel hs) ha stp) ?_ ?_ ⟨[], x2, rfl, ⟨⟨0, e2⟩, (fun _ z => nomatch z)⟩, rfl, rfl, rfl, rfl⟩
 . rintro m3 H3 ⟨sa, x3, ka3, A3, w1, w2, w3, w4⟩; refine ⟨rfl, ?_⟩; (apply_assumption; refine qae (.inl rfl) rfl fun Kz hz1 => ?_; refine qao rfl ?_; refine qa4 ‹_› rfl (by k_is) ?_ rfl; refine ⟨_, rfl, (qap ‹_› (by k_is)), ?_⟩; refine qag rfl ?_; refine qah rfl ?_; refine qbb rfl (qa9 rfl rfl (by decide +kernel) rfl rfl) (fun _ => rfl) ?_; refine xN ‹_› rfl ?_); have B3 := B1.more x3; have X3 := x1.trans x3; have h3 := X3.get hha; refine ⟨.list ha, hs.map V.str, (qb1 h3), fun C => ?_⟩; refine qa0 V.str (fun s => some (qau (Txt.upper s, s))) (fun m' H' => H' = H3) (fun m' H' j => (j ▸ qbm h3)) (by simp; exact le_trans ‹_› (nl0_ rfl)) rfl ?_ ?_
   . rintro s hs4 m4 H4 acc K4 hacc rfl hk4; have hs5 := (hok s ((hhl s).mp hs4)).len; refine qcq rfl ⟨hacc, ?_⟩; (refine qbc (qah rfl (xMn rfl rfl rfl rfl rfl ?_)); refine qa8 rfl (by decide) F.plainAttrs_str F.slot_str_upper F.type_str_upper ⟨qab _, ?_⟩; refine qav ?_; refine qaf ?_; refine qhr ‹_› ?_; refine xLn rfl rfl ?_); refine ⟨nl0_ rfl, ?_⟩; exact hk4 _ _ rfl
   . rintro m4 H4 rfl; have e : ([] ++ hs.filterMap fun s => some (qau (Txt.upper s, s))) = (hs.map fun s => (Txt.upper s, s)).map qau := by rw [nil_append, filterMap_eq_map', map_map]; rfl
     rw [e]; intro l hl; have x5 : Ext H4 (upd H4 l (.list ((hs.map fun s => (Txt.upper s, s)).map qau))) := Ext.fresh hl; have e5 := qai H4 l (.list ((hs.map fun s => (Txt.upper s, s)).map qau)); generalize upd H4 l (.list ((hs.map fun s => (Txt.upper s, s)).map qau)) = H5 at x5 e5 ⊢; (refine qal ?_); refine qak (qln (d := d + 1) hprog G e5 (fun q hq => ?_) fun H6 st dd x6 S6 => ?_)
     . obtain ⟨s, hs6, rfl⟩ := mem_map.mp hq; have := hok s ((hhl s).mp hs6); exact ⟨this.c2, this.c3⟩
     have X6 := x5.trans x6; have hns : qc8 (hs.map fun s => (Txt.upper s, s)) = hs := by
       unfold qc8; rw [map_map]; exact (map_congr_left fun s hs6 => (hok s ((hhl s).mp hs6)).up).trans (List.map_id _)
     have nb : ∀ p ∈ sb, p.2 ≠ l := fun p hp => Ext.ne (B3.l p hp) hl; have na : ∀ p ∈ sa, p.2 ≠ l := fun p hp => Ext.ne (A3.l p hp) hl; have hlk : ∀ q ∈ hs.map fun s => (Txt.upper s, s), q.1.length ≤ 1000 := fun q hq => by
       obtain ⟨s, hs6, rfl⟩ := mem_map.mp hq; exact (hok s ((hhl s).mp hs6)).ulen
     (apply_assumption; refine qae (.inl rfl) rfl fun Kz hz1 => ?_; refine qao rfl ?_; refine qa4 ‹_› rfl (by k_is) ?_ rfl; refine ⟨_, rfl, (qap ‹_› (by k_is)), ?_⟩; refine qag rfl ?_; refine xLm rfl rfl ?_; refine xLm ‹_› rfl ?_; refine xLn ‹_› rfl ?_); refine qak (qjm (d := d + 1) hprog G S6 (B3.more X6) (A3.more X6) (by rw [hns, kb1]; exact fun s z => z) (by rw [hns, ka3]; exact fun s z => (hhl s).mp z) (fun s => ⟨qks T0.ord _ _ _, le_trans (length_filter_le ..) (le_trans ‹_› (nl0_ rfl))⟩) (fun s => ⟨qk8 T0.ord _ _ _, le_trans (length_filter_le ..) (le_trans ‹_› (nl0_ rfl))⟩) (by rw [length_map]; exact le_trans ‹_› (nl0_ rfl)) hlk fun H7 fo r x7 ef F => ?_); rw [hns] at F; (apply_assumption; refine qaa fun Kz hz1 hz2 hz3 hz4 => ?_); have tt0 : Tl.ns (hs.map fun s => (s, Tr.leaf s)) = hs := by
       unfold Tl.ns; rw [map_map]; exact List.map_id _
     have ht0 : TbT (hs.map fun s => (Txt.upper s, s)) (hs.map fun s => (s, Tr.leaf s)) := by
       unfold TbT; rw [map_map, map_map]; exact map_congr_left fun s hs6 => Prod.ext (hok s ((hhl s).mp hs6)).up rfl
     refine qdc (FldJ H tt ls hs rel J st dd l bd ad) hs.length ⟨hs.map fun s => (Txt.upper s, s), hs.map fun s => (s, Tr.leaf s), sb, sa, fo, r, by rw [length_map], X3.trans (X6.trans x7), S6.more x7, ht0, hJ0, hlk, by rw [tt0]; exact (B3.more X6).more x7, by rw [tt0]; exact (A3.more X6).more x7, kb1, ka3, nb, na, ef, by rw [tt0]; exact F, w3, w2, w1, rfl, rfl⟩ ?_; have nlH : H l = none := X3.none hl; have nbH : H bd = none := nb1; have naH : H ad = none := x1.none n2; have nba : bd ≠ ad := fun z => by rw [← z] at n2; obtain ⟨_, e⟩ := B1.d; rw [n2] at e; cases e
     clear hJ0 htop hha F ef S6 nb na hlk e5 X6 x5 x6 x7 B3 A3 B1 kb1 ka3 x3 X3 h3 x1 x2 e2 X2 hl hns tt0 ht0 hrel nb1 n2; rintro Y hY k m8 H8 ⟨tb, tl, sb, sa, fo, r, hk, x8, S8, t8, j8, lk8, B8, A8, kb8, ka8, nb8, na8, ef8, F8, v1, v2, v3, v4, v5⟩ KW kw1 kw2 kw3 kw4; obtain ⟨hnd8, hin8⟩ := hJ tl j8; have htl8 : tb.length ≤ 5 := by
       have h1 := congrArg List.length t8.names; have h2 := qbk hnd8 (m := ls) hin8; rw [length_map] at h1; lia
     (refine xCn rfl ‹_› rfl (qa6 (qal ?_))); refine ⟨zero_le _, fun e0 H9 x9 n9 e9 => ?_⟩
     skip
     refine qrw (b := decide (r = [])) rfl (by decide) (n := 1) (qez (ys := []) (x9.get ef8) e9) ?_; cases F8 with
     | no hno =>
       (refine ⟨_, rfl, ?_⟩; refine qay rfl ?_; refine qac ?_; apply_assumption; refine qaa fun Kz hz1 hz2 hz3 hz4 => ?_; refine qar (xN ‹_› rfl ?_); apply_assumption); exact h H9 st dd l tb tl (x8.trans x9) (S8.more x9) t8 j8 hno
     | yes x y hx hy ne hm =>
       obtain ⟨b, hb1, hb2, hb3, hb4⟩ := hJs tl x y j8 hx hy ne hm; have ef9 := x9.get ef8; have S9 := S8.more x9; have xo := hok x (hin8 x hx); have yo := hok y (hin8 y hy); have d1 := S9.h1; have d2 := S9.h2; (refine ⟨_, rfl, ?_⟩; refine qbd rfl ?_; refine qae (.inl rfl) rfl fun Kz hz1 => ?_; refine xSk ‹_› rfl rfl ?_); refine qbl ef9 (by decide) (by decide) rfl ?_; (apply_assumption; refine qae (.inr ⟨rfl, rfl⟩) rfl fun Kz hz1 => ?_; refine xSk ‹_› rfl rfl ?_); refine qbl ef9 (by decide) (by decide) rfl ?_; (apply_assumption; refine qaa fun Kz hz1 hz2 hz3 hz4 => ?_); refine qi0 G rfl rfl ?_; (refine qba (qba (qba (qba (qad rfl ?_))))); have hfx : qg1 tb x = some (tl.tree x).text := by unfold qg1; rw [xo.low]; exact t8.find hx
       have hfy : qg1 tb y = some (tl.tree y).text := by unfold qg1; rw [yo.low]; exact t8.find hy
       have hlen4 : (Tr.nod b (tl.tree x) (tl.tree y)).text.length = 1 + (tl.tree x).text.length + 1 + (tl.tree y).text.length + 1 := by
         show ((((Str.ofString "(" ++ (tl.tree x).text) ++ mkT b) ++ (tl.tree y).text) ++ Str.ofString ")").length = _; rw [Str.length_append, Str.length_append, Str.length_append, Str.length_append]; have h1 : (Str.ofString "(").length = 1 := by decide +kernel
         have h2 : (Str.ofString ")").length = 1 := by decide +kernel
         have h3 : (mkT b).length = 1 := by cases b <;> decide +kernel
         rw [h1, h2, h3]
       have hmk1 : (mkT b).length = 1 := by cases b <;> decide +kernel
       have ho1 : (Str.ofString "(").length = 1 := by decide +kernel
       have ho2 : (Str.ofString ")").length = 1 := by decide +kernel
       refine qlf (d := d + 3) G (by intro _ _ _ _ z; exact nomatch z) ?_; (refine xN ‹_› rfl (xN rfl rfl ?_)); refine ⟨st, 109, rfl, qf2.mk d1 d2 ?e1 ?e2 ?e3, ?e4, qjk (d := d) hprog G S9 xo.len xo.cl lk8 hfx ?_⟩
       case e1 => k_is
       case e2 => k_is
       case e3 => k_is
       case e4 => k_is
       refine qga (by rw [ho1]; lia) ?_; (refine qao rfl (qa4 ‹_› rfl (by k_is) ?_ rfl); refine ⟨_, rfl, (qap ‹_› (by k_is)), ?_⟩; refine qag rfl (xLm ‹_› rfl (xLm ‹_› rfl (xLm rfl rfl (xLn rfl rfl ?_))))); refine qak (qlq (d := d + 2) hprog G (B8.more x9) (A8.more x9) (by rw [kb8]; exact (hhl x).mpr (hin8 x hx)) (by rw [kb8]; exact (hhl y).mpr (hin8 y hy)) (by rw [ka8]; exact hin8 x hx) (by rw [ka8]; exact hin8 y hy) (fun s => ⟨qks T0.ord _ _ _, le_trans (length_filter_le ..) (le_trans ‹_› (nl0_ rfl))⟩) (fun s => ⟨qk8 T0.ord _ _ _, le_trans (length_filter_le ..) (le_trans ‹_› (nl0_ rfl))⟩) fun H10 x10 => ?_); rw [hb1]; refine qga (by rw [Str.length_append, ho1, hmk1]; lia) ?_; have S10 := S9.more x10; have c1 := S10.h1; have c2 := S10.h2; refine qlf (d := d + 3) G (by intro _ _ _ _ z; exact nomatch z) ?_; (refine xN ‹_› rfl (xN rfl rfl ?_)); refine ⟨st, 109, rfl, qf2.mk c1 c2 ?e1 ?e2 ?e3, ?e4, qjk (d := d) hprog G S10 yo.len yo.cl lk8 hfy ?_⟩
       case e1 => k_is
       case e2 => k_is
       case e3 => k_is
       case e4 => k_is
       refine qga (by rw [Str.length_append, Str.length_append, ho1, hmk1]; lia) ?_; (refine qad rfl ?_); refine qga (by rw [Str.length_append, Str.length_append, Str.length_append, ho1, hmk1, ho2]; lia) ?_; rw [show (((Str.ofString "(" ++ (tl.tree x).text) ++ mkT b) ++ (tl.tree y).text) ++ Str.ofString ")" = (Tr.nod b (tl.tree x) (tl.tree y)).text from rfl]; generalize hnew : (Tr.nod b (tl.tree x) (tl.tree y)).text = nt at hb3 hb4 hlen4 ⊢; (refine xN ‹_› rfl (xN rfl rfl ?_)); refine ⟨st, 97, rfl, qf2.mk c1 c2 ?e1 ?e2 ?e3, qqn (d := d + 1) hprog G S10 xo.len xo.cl xo.c1 hb3 lk8 (le_trans ‹_› (nl0_ rfl)) fun H11 x11 e11 => ?_⟩
       case e1 => k_is
       case e2 => k_is
       case e3 => k_is
       have S11 := S10.turn x11 e11; have s1 := S11.h1; have s2 := S11.h2; have hlk1 : ∀ q ∈ without_ tb x ++ [(x, nt)], q.1.length ≤ 1000 := fun q hq => by
         rcases mem_append.mp hq with hq | hq
         . exact lk8 q (mem_filter.mp hq).1
         . rw [mem_singleton.mp hq]; exact xo.len
       have hl11 : (without_ tb x ++ [(x, nt)]).length ≤ 6 := by
         rw [length_append, length_singleton]; have := length_filter_le (fun q : Str × Str => Txt.lower q.1 != Txt.lower x) tb; unfold without_; lia
       (apply_assumption); refine qaa fun K2_ hk21 hk22 hk23 hk24 => qfs G ?_; (refine xN ‹_› rfl (xN rfl rfl ?_)); refine ⟨st, 102, rfl, qf2.mk s1 s2 ?e1 ?e2 ?e3, qll (d := d + 2) hprog G S11 yo.len yo.cl hlk1 (le_trans ‹_› (nl0_ rfl)) fun H12 x12 e12 => ?_⟩
       case e1 => k_is
       case e2 => k_is
       case e3 => k_is
       have S12 := S11.turn x12 e12; have t12 := t8.fold (b := b) xo.low yo.low hnew; have hlk2 : ∀ q ∈ without_ (without_ tb x ++ [(x, nt)]) y, q.1.length ≤ 1000 := fun q hq => hlk1 q (mem_filter.mp hq).1; have hl12 : (without_ (without_ tb x ++ [(x, nt)]) y).length ≤ 6 := le_trans (length_filter_le ..) hl11; have ns12 : qc8 (without_ (without_ tb x ++ [(x, nt)]) y) = (tl.fold x y b).ns := t12.names; generalize without_ (without_ tb x ++ [(x, nt)]) y = tb2 at S12 t12 hlk2 hl12 ns12; have X12 : Ext H H12 := ExtB.ext (ExtB.ext ((x8.trans x9).trans x10) x11 nlH |> fun z => z) x12 nlH; have bl : bd ≠ l := fun z => by have := S12.h3; obtain ⟨_, e⟩ := B8.d; have e2 := S8.h3; rw [z, e2] at e; exact nomatch e
       have al : ad ≠ l := fun z => by obtain ⟨_, e⟩ := A8.d; have e2 := S8.h3; rw [z, e2] at e; exact nomatch e
       have B12 := (((B8.more x9).more x10).side x11 bl nb8).side x12 bl nb8; have A12 := (((A8.more x9).more x10).side x11 al na8).side x12 al na8; clear x11 x12 e11 e12 S11 s1 s2 S10 c1 c2 S9 d1 d2 ef9 ef8 x8 x9 x10 e9 n9 S8 B8 A8 hb3 hb4 hlen4 hnew hfx hfy; (apply_assumption; refine qaa fun Kz hz1 hz2 hz3 hz4 => ?_; refine qb5 rfl (fun _ => rfl) (by show qan _ _; exact .inr ⟨rfl, rfl⟩) ?_; refine xN ‹_› rfl ?_); refine ⟨_, ls.map V.str, T0.it _, ?_⟩; refine qcd V.str (CutJ H tt ls hs (dnS ls rel tl.ns) (upS ls rel tl.ns) st dd l bd ad tb2 y) ?_ ?_ ⟨sb, sa, X12, S12, by rw [qlj]; exact B12, by rw [qlj]; exact A12, kb8, ka8, nb8, na8, v1, v2, v3, v4, rfl⟩
       . rintro m13 H13 ⟨sb3, sa3, x13, S13, B13, A13, kb13, ka13, nb13, na13, u1, u2, u3, u4, u5⟩; refine ⟨rfl, ?_⟩; have eb : qbo H13 bd (dnS ls rel (tl.fold x y b).ns) sb3 := ⟨B13.d, fun p hp => by
           rw [qqg hx ne]; have := B13.l p hp; unfold cutF at this
           rwa [if_pos ((hhl p.1).mp (by rw [← kb13]; exact mem_map_of_mem hp))] at this⟩
         have ea : qbo H13 ad (upS ls rel (tl.fold x y b).ns) sa3 := ⟨A13.d, fun p hp => by
           rw [qrc hx ne]; have := A13.l p hp; unfold cutF at this
           rwa [if_pos (by rw [← ka13]; exact mem_map_of_mem hp)] at this⟩
         obtain ⟨hnd13, hin13⟩ := hJ _ hb2; (apply_assumption; refine qae (.inl rfl) rfl fun Kz hz1 => ?_; refine qao rfl ?_; refine qa4 ‹_› rfl (by k_is) ?_ rfl; refine ⟨_, rfl, (qap ‹_› (by k_is)), ?_⟩; refine qag rfl ?_; refine xLm ‹_› rfl ?_; refine xLm ‹_› rfl ?_; refine xLn ‹_› rfl ?_); refine qak (qjm (d := d + 1) hprog G S13 eb ea (by rw [ns12, kb13]; exact fun s z => (hhl s).mpr (hin13 s z)) (by rw [ns12, ka13]; exact hin13) (fun s => ⟨qks T0.ord _ _ _, le_trans (length_filter_le ..) (le_trans ‹_› (nl0_ rfl))⟩) (fun s => ⟨qk8 T0.ord _ _ _, le_trans (length_filter_le ..) (le_trans ‹_› (nl0_ rfl))⟩) (le_trans ‹_› (nl0_ rfl)) hlk2 fun H14 fo2 r2 x14 ef14 F14 => ?_); rw [ns12] at F14; (apply_assumption; refine qac ?_; apply_assumption); have hless : (tl.fold x y b).length < tl.length := by
           have h1 : (tl.fold x y b).ns.length ≤ (tl.ns.erase y).length := qbk hnd13 fun o ho => by
             obtain ⟨a1, a2⟩ := (Tl.fold_ns hx ne o).mp ho; exact (List.mem_erase_of_ne a2).mpr a1
           rw [List.length_erase_of_mem hy] at h1; have h2 : 0 < tl.ns.length := List.length_pos_of_mem hy; unfold Tl.ns at h1 h2; rw [length_map] at h1 h2; rw [length_map] at h1; lia
         exact ⟨_, by rw [hk]; exact hless, hY _ _ _ ⟨tb2, tl.fold x y b, sb3, sa3, fo2, r2, rfl, x13.trans x14, S13.more x14, t12, hb2, hlk2, eb.more x14, ea.more x14, kb13, ka13, nb13, na13, ef14, F14, u1, u2, u3, u4, rfl⟩⟩
       . rintro dn13 s13 r13 m13 H13 hls13 ⟨sb3, sa3, x13, S13, B13, A13, kb13, ka13, nb13, na13, u1, u2, u3, u4, u5⟩; refine ⟨rfl, fun K hn _ _ _ => ⟨_, rfl, ?_⟩⟩; have hs13 : s13 ∈ ls := by rw [hls13]; simp
         have hd13 : s13 ∉ dn13 := fun z => by
           have : ls.Nodup := T0.ord.imp fun h z => qch h z; rw [hls13, nodup_append] at this; exact this.2.2 s13 z s13 (by simp) rfl
         obtain ⟨ep1, hbd1⟩ := B13.d; obtain ⟨ra, hr1, hr2⟩ := B13.get (t := s13) (by rw [kb13]; exact (hhl s13).mpr hs13); have hrl := le_trans (qli (dnS ls rel tl.ns) dn13 y s13) (length_filter_le ..); (refine qaa fun Kz hz1 hz2 hz3 hz4 => ?_; refine qdk rfl rfl (by intro _ _ _ _ h; cases h) ?_; refine qbb rfl (qa9 rfl rfl (by decide +kernel) rfl rfl) (fun _ => rfl) ?_; refine xSn rfl ‹_› rfl (xN rfl rfl ?_)); refine qb6 hbd1 hr1 ?_; refine ⟨.list ra, (cutF (dnS ls rel tl.ns) dn13 y s13).map V.str, (qb1 hr2), fun C20 => ?_⟩; refine qa0 V.str (fun o : Str => if o != y then some (V.str o) else none) (fun m5 H5 => H5 = H13 ∧ m5 (Str.ofString "y") = some (.str y)) (fun m5 H5 hj => by simp [IK.items, hj.1, hr2]) (by simp; lia) ⟨rfl, u5⟩ ?_ ?_
         . rintro o ho m5 H5 acc K5 hacc ⟨rfl, l2⟩ hk5; refine qb2 rfl ?_; (refine xCn rfl rfl rfl (xN ‹_› rfl ?_); refine qck ?_; refine ⟨_, rfl, ?_⟩); cases hc : (o != y)
           . rw [hc] at hk5; (refine qay ‹_› ?_); simpa using hk5 (set m5 (Str.ofString "one") (.str o)) _ ⟨rfl, l2⟩
           . rw [hc] at hk5; (refine qbd ‹_› ?_); refine ⟨hacc, ?_⟩; (refine xN rfl rfl ?_); exact hk5 (set m5 (Str.ofString "one") (.str o)) _ ⟨rfl, l2⟩
         rintro m5 H13' ⟨l1, l2⟩; obtain rfl := l1.symm; rw [nil_append, qe0 (p := fun o : Str => o != y) (g := V.str)]; intro b20 hb20; have x20 : Ext H13 (upd H13 b20 (.list (((cutF (dnS ls rel tl.ns) dn13 y s13).filter fun o : Str => o != y).map V.str))) := Ext.fresh hb20; have e20 := qai H13 b20 (.list (((cutF (dnS ls rel tl.ns) dn13 y s13).filter fun o : Str => o != y).map V.str)); generalize upd H13 b20 (.list (((cutF (dnS ls rel tl.ns) dn13 y s13).filter fun o : Str => o != y).map V.str)) = H20 at x20 e20 ⊢; obtain ⟨ep20, hbd20⟩ := (B13.more x20).d; have hsb : sb3.length ≤ 6 := by have := congrArg List.length kb13; rw [length_map] at this; lia
         (refine xN ‹_› rfl (xN rfl rfl ?_)); refine ⟨bd, _, ep20, s13, rfl, rfl, hbd20, by rw [length_map]; exact le_trans ‹_› (nl0_ rfl), fun ep' => ?_⟩; have m21 : Mod H20 bd (upd H20 bd (.dict (putD (sb3.map fun p => (p.1, V.ref p.2)) s13 (.ref b20)) ep')) := Mod.upd _ _ _; have e21 := qai H20 bd (.dict (putD (sb3.map fun p => (p.1, V.ref p.2)) s13 (.ref b20)) ep'); generalize upd H20 bd (.dict (putD (sb3.map fun p => (p.1, V.ref p.2)) s13 (.ref b20)) ep') = H21 at m21 e21 ⊢; have B21 := (B13.more x20).put (by rw [kb13]; exact (hhl s13).mpr hs13) m21 e21 e20; have A21 := (A13.more x20).mod m21 hbd20 nba.symm; have S21 := (S13.more x20).mod m21 hbd20; have X21 : Ext H H21 := m21.ext (x13.trans x20) nbH; have nl20 : b20 ≠ l := (Ext.ne S13.h3 hb20).symm; have nb21 := qrk (t := s13) nb13 nl20; have kb21 : (sb3.map fun p => if p.1 = s13 then (p.1, b20) else p).map (·.1) = hs := by rw [qjw]; exact kb13
         rw [← qjd _ hd13] at B21; clear hbd1 hr1 hr2 B13 hbd20 e20 e21 m21 x20 S13 x13 nb13 kb13 hb20 nl20 A13; obtain ⟨ep2, had2⟩ := A21.d; obtain ⟨ra2, hr3, hr4⟩ := A21.get (t := s13) (by rw [ka13]; exact hs13); have hrl2 := le_trans (qli (upS ls rel tl.ns) dn13 y s13) (length_filter_le ..); (apply_assumption; refine qaa fun Kz hz1 hz2 hz3 hz4 => ?_; refine qdk rfl rfl (by intro _ _ _ _ h; cases h) ?_; refine qbb rfl (qa9 rfl rfl (by decide +kernel) rfl rfl) (fun _ => rfl) ?_; refine xSn rfl ‹_› rfl ?_; refine xN rfl rfl ?_); refine qb6 had2 hr3 ?_; refine ⟨.list ra2, (cutF (upS ls rel tl.ns) dn13 y s13).map V.str, (qb1 hr4), fun C30 => ?_⟩; refine qa0 V.str (fun o : Str => if o != y then some (V.str o) else none) (fun m5 H5 => H5 = H21 ∧ m5 (Str.ofString "y") = some (.str y)) (fun m5 H5 hj => by simp [IK.items, hj.1, hr4]) (by simp; lia) ⟨rfl, u5⟩ ?_ ?_
         . rintro o ho m5 H5 acc K5 hacc ⟨rfl, l2⟩ hk5; refine qb2 rfl ?_; (refine xCn rfl rfl rfl (xN ‹_› rfl ?_); refine qck ?_; refine ⟨_, rfl, ?_⟩); cases hc : (o != y)
           . rw [hc] at hk5; (refine qay ‹_› ?_); simpa using hk5 (set m5 (Str.ofString "one") (.str o)) _ ⟨rfl, l2⟩
           . rw [hc] at hk5; (refine qbd ‹_› ?_); refine ⟨hacc, ?_⟩; (refine xN rfl rfl ?_); exact hk5 (set m5 (Str.ofString "one") (.str o)) _ ⟨rfl, l2⟩
         rintro m5 H21' ⟨l1, l2⟩; obtain rfl := l1.symm; rw [nil_append, qe0 (p := fun o : Str => o != y) (g := V.str)]; intro b30 hb30; have x30 : Ext H21 (upd H21 b30 (.list (((cutF (upS ls rel tl.ns) dn13 y s13).filter fun o : Str => o != y).map V.str))) := Ext.fresh hb30; have e30 := qai H21 b30 (.list (((cutF (upS ls rel tl.ns) dn13 y s13).filter fun o : Str => o != y).map V.str)); generalize upd H21 b30 (.list (((cutF (upS ls rel tl.ns) dn13 y s13).filter fun o : Str => o != y).map V.str)) = H30 at x30 e30 ⊢; obtain ⟨ep30, had30⟩ := (A21.more x30).d; have hsa : sa3.length ≤ 6 := by have := congrArg List.length ka13; rw [length_map] at this; lia
         (refine xN ‹_› rfl (xN rfl rfl ?_)); refine ⟨ad, _, ep30, s13, rfl, rfl, had30, by rw [length_map]; exact le_trans ‹_› (nl0_ rfl), fun ep' => ?_⟩; have m31 : Mod H30 ad (upd H30 ad (.dict (putD (sa3.map fun p => (p.1, V.ref p.2)) s13 (.ref b30)) ep')) := Mod.upd _ _ _; have e31 := qai H30 ad (.dict (putD (sa3.map fun p => (p.1, V.ref p.2)) s13 (.ref b30)) ep'); generalize upd H30 ad (.dict (putD (sa3.map fun p => (p.1, V.ref p.2)) s13 (.ref b30)) ep') = H31 at m31 e31 ⊢; have A31 := (A21.more x30).put (by rw [ka13]; exact hs13) m31 e31 e30; rw [← qjd _ hd13] at A31; (apply_assumption; refine qac ?_); exact hn _ _ ⟨_, _, m31.ext (X21.trans x30) naH, (S21.more x30).mod m31 had30, (B21.more x30).mod m31 had30 nba, A31, kb21, by rw [qjw]; exact ka13, nb21, qrk na13 (Ext.ne S21.h3 hb30).symm, u1, u2, u3, u4, u5⟩
 . rintro dn s r m3 H3 hls ⟨sa, x3, ka3, A3, w1, w2, w3, w4⟩; refine ⟨rfl, fun K hn _ _ _ => ⟨_, rfl, ?_⟩⟩; have hsl' : s ∈ ls := by rw [hls]; simp
   (refine qaa fun Kz hz1 hz2 hz3 hz4 => ?_; refine qdk rfl rfl (by intro _ _ _ _ h; cases h) ?_; refine qbb rfl (qa9 rfl rfl (by decide +kernel) rfl rfl) (fun _ => rfl) ?_; refine xN ‹_› rfl ?_); refine ⟨_, ls.map V.str, T0.it _, fun C => ?_⟩; have B3 := B1.more x3; obtain ⟨eb, hbd⟩ := B3.d; refine qa0 V.str (fun o : Str => if (dnS ls rel hs o).contains s then some (V.str o) else none) (fun m5 H5 => H5 = H3 ∧ m5 (Str.ofString "thing") = some (.str s) ∧ m5 (Str.ofString "below") = some (.ref bd)) (fun m5 H5 hj => rfl) (by simp; exact le_trans ‹_› (nl0_ rfl)) ⟨rfl, rfl, w2⟩ ?_ ?_
   . rintro o ho m5 H5 acc K5 hacc ⟨rfl, l2, l3⟩ hk; obtain ⟨ra, hr1, hr2⟩ := B3.get (t := o) (by rw [kb1]; exact (hhl o).mpr ho); refine qb2 rfl ?_; (refine xCn rfl ‹_› rfl (xSn rfl ‹_› rfl (xN rfl rfl ?_))); refine qb6 hbd hr1 ?_; (refine qoo ‹_› ?_; refine ⟨_, rfl, ?_⟩); cases hc : (dnS ls rel hs o).contains s
     . rw [hc] at hk; (refine qay rfl ?_); simpa using hk (set m5 (Str.ofString "one") (.str o)) _ ⟨rfl, l2, l3⟩
     . rw [hc] at hk; (refine qbd rfl ?_); refine ⟨hacc, ?_⟩; (refine xN rfl rfl ?_); exact hk (set m5 (Str.ofString "one") (.str o)) _ ⟨rfl, l2, l3⟩
   . rintro m5 H5 ⟨rfl, l2, l3⟩; rw [nil_append, qe0 (p := fun o : Str => (dnS ls rel hs o).contains s) (g := V.str)]; have hfil : ls.filter (fun o : Str => (dnS ls rel hs o).contains s) = upS ls rel hs s := by
       refine List.filter_congr fun o ho => ?_; have h1 : hs.contains o = true := by rw [contains_iff_mem]; exact (hhl o).mpr ho
       have h2 : hs.contains s = true := by rw [contains_iff_mem]; exact (hhl s).mpr hsl'
       rw [h1, Bool.and_true, Bool.eq_iff_iff, contains_iff_mem]; unfold dnS; rw [mem_filter, h2, Bool.and_true]; exact ⟨fun z => z.2, fun z => ⟨hsl', z⟩⟩
     rw [hfil]; intro b hb; have x6 : Ext H5 (upd H5 b (.list ((upS ls rel hs s).map V.str))) := Ext.fresh hb; have e6 := qai H5 b (.list ((upS ls rel hs s).map V.str)); generalize upd H5 b (.list ((upS ls rel hs s).map V.str)) = H6 at x6 e6 ⊢; have R6 := A3.more x6; obtain ⟨ep, rd1⟩ := R6.d; have hsn : s ∉ sa.map (·.1) := by
       rw [ka3]; have : ls.Nodup := T0.ord.imp fun h z => qch h z; rw [hls, nodup_append] at this; exact fun z => this.2.2 s z s (by simp) rfl
     have hsasl : sa.length ≤ 6 := by
       have h1 := congrArg List.length ka3; have h2 := congrArg List.length hls; simp at h1 h2; lia
     (refine xN ‹_› rfl (xN rfl rfl ?_)); refine ⟨ad, _, ep, s, rfl, rfl, rd1, by simp; exact le_trans ‹_› (nl0_ rfl), fun ep' => ?_⟩; have mm : Mod H6 ad (upd H6 ad (.dict (putD (sa.map fun p => (p.1, V.ref p.2)) s (.ref b)) ep')) := Mod.upd _ _ _; have me := qai H6 ad (.dict (putD (sa.map fun p => (p.1, V.ref p.2)) s (.ref b)) ep'); generalize upd H6 ad (.dict (putD (sa.map fun p => (p.1, V.ref p.2)) s (.ref b)) ep') = H7 at mm me ⊢; (apply_assumption; refine qac ?_); exact hn _ _ ⟨sa ++ [(s, b)], mm.ext (x3.trans x6) n2, by rw [map_append, ka3]; rfl, R6.add hsn mm me e6, w1, w2, w3, w4⟩
def Tr.leaves : Tr -> List Str
 | .leaf x => [x]
 | .nod _ l r => l.leaves ++ r.leaves
def Tr.hgt : Tr -> Nat
 | .leaf _ => 1
 | .nod true l r => l.hgt + r.hgt
 | .nod false l r => max l.hgt r.hgt
def qgw (xs ys : List Str) : List (Str × Str) := xs.flatMap fun e => ys.map fun l => (e, l)
def Tr.prs : Tr -> List (Str × Str)
 | .leaf _ => []
 | .nod true l r => (l.prs ++ r.prs) ++ qgw l.leaves r.leaves
 | .nod false l r => l.prs ++ r.prs
theorem qjc (xs ys : List Str) : (qgw xs ys).length = xs.length * ys.length := by
 unfold qgw
 induction xs with
 | nil => simp
 | cons x r ih => rw [flatMap_cons, length_append, ih, length_map, length_cons, Nat.succ_mul, add_comm]
theorem qk3 : ∀ t : Tr, t.prs.length ≤ t.leaves.length * t.leaves.length := by
 intro t
 induction t with
 | leaf _ => exact zero_le _
 | nod b l r h1 h2 =>
   have h3 : (Tr.nod b l r).prs.length ≤ l.prs.length + r.prs.length + l.leaves.length * r.leaves.length := by
     cases b
     . show (l.prs ++ r.prs).length ≤ _; rw [length_append]; exact Nat.le_add_right _ _
     . show ((l.prs ++ r.prs) ++ qgw l.leaves r.leaves).length ≤ _; rw [length_append, length_append, qjc]; exact le_refl _
   show _ ≤ (l.leaves ++ r.leaves).length * (l.leaves ++ r.leaves).length; rw [length_append, Nat.add_mul, Nat.mul_add, Nat.mul_add]; omega
def sg (x : Str) : List Str := x.cps.toList.map fun k => ⟨#[k]⟩
theorem qe7 (x y : Str) : sg (x ++ y) = sg x ++ sg y := by
 unfold sg; rw [← map_append]; congr 1; show (x.cps ++ y.cps).toList = _; exact Array.toList_append
abbrev clS : Str := Str.ofString ")"
abbrev opS : Str := Str.ofString "("
inductive Rd (t : Tr) : List Str -> List Tr -> List Bool -> Prop
 | fin : Rd t [] [t] []
 | close (r : List Str) (σ : List Tr) (μ : List Bool) (a c : Tr) (b : Bool) (h : Rd t r (σ ++ [.nod b a c]) μ) : Rd t (clS :: r) (σ ++ [a] ++ [c]) (μ ++ [b])
 | mark (b : Bool) (r : List Str) (σ : List Tr) (μ : List Bool) (h : Rd t r σ (μ ++ [b])) : Rd t (mkT b :: r) σ μ
 | opn (r : List Str) (σ : List Tr) (μ : List Bool) (h : Rd t r σ μ) : Rd t (opS :: r) σ μ
 | let_ (s : Str) (hs : s ∈ lets) (r : List Str) (σ : List Tr) (μ : List Bool) (h : Rd t r (σ ++ [.leaf s]) μ) : Rd t (s :: r) σ μ
theorem qsj {t : Tr} : ∀ (u : Tr) (r : List Str) (σ : List Tr) (μ : List Bool), (∀ s ∈ u.leaves, s ∈ lets) -> Rd t r (σ ++ [u]) μ -> Rd t (sg u.text ++ r) σ μ := by
 intro u
 induction u with
 | leaf x =>
   intro r σ μ hl h; have hx := hl x (mem_singleton.mpr rfl); have : sg x = [x] := by
     revert hx; have : ∀ x ∈ lets, sg x = [x] := by decide +kernel
     exact this x
   show Rd t (sg x ++ r) σ μ; rw [this]; exact .let_ x hx r σ μ h
 | nod b l q ihl ihq =>
   intro r σ μ hl h; have e1 : sg (Str.ofString "(") = [opS] := by decide +kernel
   have e2 : sg (Str.ofString ")") = [clS] := by decide +kernel
   have e3 : sg (mkT b) = [mkT b] := by cases b <;> decide +kernel
   show Rd t (sg ((((Str.ofString "(" ++ l.text) ++ mkT b) ++ q.text) ++ Str.ofString ")") ++ r) σ μ; rw [qe7, qe7, qe7, qe7, e1, e2, e3]; simp only [List.append_assoc, List.cons_append, nil_append]; exact .opn _ _ _ (ihl _ _ _ (fun s hs => hl s (mem_append_left _ hs)) (.mark b _ _ _ (ihq _ _ _ (fun s hs => hl s (mem_append_right _ hs)) (.close r σ μ l q b h))))
theorem qq2 (t : Tr) (hl : ∀ s ∈ t.leaves, s ∈ lets) : Rd t (sg t.text) [] [] := by
 have := qsj (t := t) t [] [] [] hl .fin
 rwa [append_nil] at this
abbrev partV (p : Addr × Addr × Tr) : V := .tup [.int p.2.2.hgt, .ref p.1, .ref p.2.1]
structure qdu (H : AH) (pl ml : Addr) (p : Addr × Addr × Tr) : Prop where
 a : H p.1 = some (.list (p.2.2.leaves.map V.str))
 b : H p.2.1 = some (.list (p.2.2.prs.map qau))
 n1 : p.1 ≠ pl
 n2 : p.2.1 ≠ pl
 n3 : p.1 ≠ ml
 n4 : p.2.1 ≠ ml
theorem qdu.more {H H' : AH} {pl ml : Addr} {p : Addr × Addr × Tr} (h : qdu H pl ml p) (x : Ext H H') : qdu H' pl ml p := ⟨x.get h.a, x.get h.b, h.n1, h.n2, h.n3, h.n4⟩
theorem qdu.mp {H H' : AH} {pl ml : Addr} {p : Addr × Addr × Tr} (h : qdu H pl ml p) (m : Mod H pl H') : qdu H' pl ml p := ⟨m.get h.n1 h.a, m.get h.n2 h.b, h.n1, h.n2, h.n3, h.n4⟩
theorem qdu.mm {H H' : AH} {pl ml : Addr} {p : Addr × Addr × Tr} (h : qdu H pl ml p) (m : Mod H ml H') : qdu H' pl ml p := ⟨m.get h.n3 h.a, m.get h.n4 h.b, h.n1, h.n2, h.n3, h.n4⟩
inductive qtg (H0 : AH) (pl ml : Addr) (t : Tr) (dn rest : List Str) (m : Map) (H : AH) : Prop
 | mk (ap : List (Addr × Addr × Tr)) (μ : List Bool) (x : Ext H0 H) (hp : H pl = some (.list (ap.map partV))) (hm : H ml = some (.list (μ.map fun b => .str (mkT b)))) (ha : ∀ p ∈ ap, qdu H pl ml p) (rd : Rd t rest (ap.map (·.2.2)) μ) (sz : (ap.map fun p => p.2.2.leaves.length).sum ≤ dn.length) (la : ap.length ≤ dn.length) (lm : μ.length ≤ dn.length) (w1 : m (Str.ofString "parts") = some (.ref pl)) (w2 : m (Str.ofString "marks") = some (.ref ml))
theorem qqq : ∀ {c : Cx} {d : Nat} {p loose mg mb} {H : AH} {P : V -> AH -> Prop} {X : Exc -> AH -> Prop} {t : Tr}
   (hprog : c.prog = rw_om0166_02.row.prog) (G : Gd (KF c.w.params) p loose mg mb c.g) (hl : ∀ s ∈ t.leaves, s ∈ lets) (hlen : t.text.length ≤ 100) (hasc : t.text.cps.all (· < 128) = true)
   (h : ∀ H' a b, Ext H H' -> H' a = some (.list (t.leaves.map V.str)) -> H' b = some (.list (t.prs.map qau)) -> P (.tup [.int t.hgt, .ref a, .ref b]) H'), qbg c (d + 1) (.ref 378) [.str t.text] [] H P X := by
 w_on; k_fill; intro c d p loose mg mb H P X t hprog G hl hlen hasc h; refine qca (d := d) (binds := [(Str.ofString "text", .str t.text)]) G (by k_is) (by k_is) (by exact bnd1 fun _ => rfl) (by rfl) (by decide +kernel) (by exact of_decide_eq_true rfl) ?_ (by rfl) (by rfl) (by rfl); intro A L; have R0 := qq2 t hl; have hsl : (sg t.text).length ≤ 100 := by unfold sg; rw [length_map]; exact hlen
 have hit : ∀ H, qcw H (.str t.text) = some (.fixed ((sg t.text).map V.str)) := fun H => by
   simp only [qcw, hasc, if_true, qq4, sg, map_map]; rfl
 (refine qae (.inl rfl) rfl fun Kz hz1 => ?_; refine qa6 (qal ?_)); refine ⟨zero_le _, fun pl H1 x1 n1 e1 => ?_⟩; (apply_assumption; refine qae (.inl rfl) rfl fun Kz hz1 => ?_; refine qa6 ?_; refine qal ?_); refine ⟨zero_le _, fun ml H2 x2 n2 e2 => ?_⟩; have hpm : pl ≠ ml := Ext.ne e1 n2; have e1' := x2.get e1; have nml := x1.none n2; (apply_assumption; refine qaa fun Kz hz1 hz2 hz3 hz4 => ?_; refine qb5 rfl (fun _ => rfl) (by show qan _ _; exact .inl rfl) ?_; refine xN rfl rfl ?_); refine ⟨_, (sg t.text).map V.str, hit _, ?_⟩; refine qcd V.str (qtg H pl ml t) ?_ ?_ ⟨[], [], x1.trans x2, e1', e2, (fun _ z => nomatch z), R0, le_refl _, le_refl _, le_refl _, rfl, rfl⟩
 . rintro m3 H3 ⟨ap, μ, x3, hp, hm, ha, rd, sz, la, lm, w1, w2⟩; refine ⟨rfl, ?_⟩; (apply_assumption; refine qaa fun Kz hz1 hz2 hz3 hz4 => ?_; refine qar ?_; refine xSk ‹_› rfl rfl ?_); generalize hσ : ap.map (·.2.2) = σ at rd; cases rd with
   | fin =>
     obtain ⟨p0, rfl, rfl⟩ := List.map_eq_singleton_iff.mp hσ; obtain ⟨q1, q2, _, _, _, _⟩ := ha p0 (mem_singleton.mpr rfl); refine qbl hp (by decide) (by decide) rfl ?_; (apply_assumption); exact h H3 p0.1 p0.2.1 x3 q1 q2
 . rintro dn s r m3 H3 hdn ⟨ap, μ, x3, hp, hm, ha, rd, sz, la, lm, w1, w2⟩; refine ⟨rfl, fun K hn _ _ _ => ⟨_, rfl, ?_⟩⟩; have hdl : dn.length < 100 := by have := congrArg List.length hdn; rw [length_append, length_cons] at this; lia
   generalize hσ : ap.map (·.2.2) = σ at rd; have mk1 : ∀ b, (mkT b == clS) = false := by intro b; cases b <;> decide +kernel
   have mk2 : ∀ b, Txt.contains (Str.ofString ";|") (mkT b) = true := by intro b; cases b <;> decide +kernel
   have op1 : (opS == clS) = false := by decide +kernel
   have op2 : Txt.contains (Str.ofString ";|") opS = false := by decide +kernel
   have op3 : (opS != opS) = false := by decide +kernel
   have le1 : ∀ s ∈ lets, (s == clS) = false := by decide +kernel
   have le2 : ∀ s ∈ lets, Txt.contains (Str.ofString ";|") s = false := by decide +kernel
   have le3 : ∀ s ∈ lets, (s != opS) = true := by decide +kernel
   have cl1 : (clS == clS) = true := beq_self_eq_true _; cases rd with
   | close r σ' μ' a c0 b hr =>
     obtain ⟨ap1, ap2, rfl, hap1, hap2⟩ := List.map_eq_append_iff.mp hσ; obtain ⟨ap0, ap3, rfl, hap0, hap3⟩ := List.map_eq_append_iff.mp hap1; obtain ⟨pr, rfl, rfl⟩ := List.map_eq_singleton_iff.mp hap2; obtain ⟨pq, rfl, rfl⟩ := List.map_eq_singleton_iff.mp hap3; have A1 := ha pq (by simp); have A2 := ha pr (by simp); have ha0 : ∀ p ∈ ap0, qdu H3 pl ml p := fun p hp => ha p (by simp [hp]); simp only [map_append, map_cons, List.map_nil, List.sum_append, List.sum_cons, List.sum_nil, length_append, length_cons, length_nil] at sz la hp lm hm; clear ha hσ hap1 hap2 hap3; (refine qaa fun Kz hz1 hz2 hz3 hz4 => ?_; refine qbv (xCn rfl rfl rfl (qad rfl ?_)); refine qbi ?_; refine ⟨_, rfl, ?_⟩; refine qbd rfl ?_; refine qae (.inr ⟨rfl, rfl⟩) rfl fun Kz hz1 => ?_; refine xMn rfl rfl rfl ‹_› rfl ?_; refine qa8 (qas ‹_›) (by decide) F.plainAttrs_list F.slot_list_pop F.type_list_pop ⟨qab _, ?_⟩; refine qav ?_; refine qaf ?_); refine qdy hp (by simp; lia) fun H4 m4 e4 => ?_; (apply_assumption; refine qae (.inl rfl) rfl fun Kz hz1 => ?_; refine xMn rfl rfl rfl ‹_› rfl ?_; refine qa8 (qas ‹_›) (by decide) F.plainAttrs_list F.slot_list_pop F.type_list_pop ⟨qab _, ?_⟩; refine qav ?_; refine qaf ?_)
     refine qdy e4 (by simp; lia) fun H5 m5 e5 => ?_; have hm5 := m5.get hpm.symm (m4.get hpm.symm hm); (apply_assumption; refine qaa fun Kz hz1 hz2 hz3 hz4 => ?_; refine qbv ?_; refine qaq rfl ?_; refine xMn rfl rfl rfl ‹_› rfl ?_; refine qa8 (qas ‹_›) (by decide) F.plainAttrs_list F.slot_list_pop F.type_list_pop ⟨qab _, ?_⟩; refine qav ?_; refine qaf ?_); refine qdy hm5 (by simp; lia) fun H6 m6 e6 => ?_; have B1 := ((A1.mp m4).mp m5).mm m6; have B2 := ((A2.mp m4).mp m5).mm m6; have B0 : ∀ p ∈ ap0, qdu H6 pl ml p := fun p hp => (((ha0 p hp).mp m4).mp m5).mm m6; have nplH : H pl = none := n1; have X6 : Ext H H6 := m6.ext (m5.ext (m4.ext x3 nplH) nplH) nml; have g6 := m6.get hpm e5; have l1 := qk3 pq.2.2; have l2 := qk3 pr.2.2; have k1 : pq.2.2.leaves.length ≤ 100 := by lia
     have k2 : pr.2.2.leaves.length ≤ 100 := by lia
     have l3 := Nat.mul_le_mul k1 k1; have l4 := Nat.mul_le_mul k2 k2; have l5 := Nat.mul_le_mul k1 k2; clear m4 m5 m6 e4 e5 hp hm hm5 x3 A1 A2 ha0; (refine qad rfl ?_; refine qbi ?_; refine ⟨_, rfl, ?_⟩); have hmf : (mkT false == Str.ofString ";") = false := by decide +kernel
     have hmt : (mkT true == Str.ofString ";") = true := by decide +kernel
     cases b
     . (refine qay rfl ?_; refine qaw rfl rfl fun Kz hz1 => ?_; refine xMn rfl rfl rfl ‹_› rfl ?_; refine qa8 (qas ‹_›) (by decide) F.plainAttrs_list F.slot_list_append F.type_list_append ⟨qab _, ?_⟩; refine qag rfl (qah rfl (qbc (qah rfl (qao rfl (qax ‹_› rfl (by k_is) (by boot_by_name) (by decide) ?_ rfl))))); refine ⟨_, rfl, (qab _), ?_⟩; refine qag rfl (qah rfl (xSk rfl rfl rfl ?_)); refine qbu (by decide) (by decide) rfl ?_; refine qah rfl (xSk rfl rfl rfl ?_); refine qbu (by decide) (by decide) rfl ?_; refine qal ?_); refine qnv rfl ?_; (refine qah rfl (qba (xSk rfl rfl rfl ?_)); refine qbu (by decide) (by decide) rfl ?_; refine xSk rfl rfl rfl ?_; refine qbu (by decide) (by decide) rfl ?_); refine qci B1.a B2.a (by simp; lia) fun la2 H7 x7 n7 e7 => ?_; (refine qah rfl (qba (xSk rfl rfl rfl ?_)); refine qbu (by decide) (by decide) rfl ?_; refine xSk rfl rfl rfl ?_; refine qbu (by decide) (by decide) rfl ?_); refine qci (x7.get B1.b) (x7.get B2.b) (by simp; lia) fun lb H8 x8 n8 e8 => ?_; (refine qal ?_); refine ⟨nl0_ rfl, ?_⟩; have X7 := x7.trans x8; rw [← map_append] at e7 e8; have hmax : (if (pr.2.2.hgt : Int) > pq.2.2.hgt then (pr.2.2.hgt : Int) else pq.2.2.hgt) = ((Tr.nod false pq.2.2 pr.2.2).hgt : Int) := by
         show _ = ((max pq.2.2.hgt pr.2.2.hgt : Nat) : Int); split <;> lia
       (refine (Eq.symm hmax) ▸ ?_); have q1 : la2 ≠ pl := (Ext.ne (g6) n7).symm; have q2 : lb ≠ pl := (Ext.ne (x7.get g6) n8).symm; have q3 : la2 ≠ ml := (Ext.ne (e6) n7).symm; have q4 : lb ≠ ml := (Ext.ne (x7.get e6) n8).symm; have g7 := X7.get g6; (refine qal ?_; refine qaf ?_; refine qbq ‹_› (by simp only [length_map, length_append, length_cons, length_nil]; omega) ?_)
       (try refine qa2 g7 (by simp; lia) ?_)
       intro H9 m9 e9; (apply_assumption; refine qac ?_; apply_assumption; refine qac ?_; apply_assumption; refine qac ?_); refine hn _ _ ⟨ap0 ++ [(la2, lb, .nod false pq.2.2 pr.2.2)], μ', m9.ext (X6.trans X7) nplH, by rw [e9, map_append]; rfl, m9.get hpm.symm (X7.get e6), fun p hp => ?_, by rw [map_append, hap0]; exact hr, ?_, ?_, ?_, w1, w2⟩
       . rcases mem_append.mp hp with hp | hp
         . exact ((B0 p hp).more X7).mp m9
         . rw [mem_singleton.mp hp]; exact ⟨m9.get q1 (x8.get e7), m9.get q2 e8, q1, q2, q3, q4⟩
       . rw [map_append, List.sum_append, length_append]; show _ + ((pq.2.2.leaves ++ pr.2.2.leaves).length + 0) ≤ _ + 1; rw [length_append]; lia
       . rw [length_append, length_append]; simp; lia
       . rw [length_append]; lia
     . (refine qbd rfl ?_; refine qaa fun Kz hz1 hz2 hz3 hz4 => ?_; refine qcg rfl (.inl rfl) rfl (qa9 rfl rfl (by decide +kernel) rfl rfl) (fun _ => rfl) ?_; refine xSk rfl rfl rfl ?_; refine qbu (by decide) (by decide) rfl ?_); refine ⟨.list pq.1, pq.2.2.leaves.map V.str, (qb1 B1.a), fun C => ?_⟩; refine qdl V.str (fun e => pr.2.2.leaves.map fun l => qau (e, l)) 100 (fun m' H' => H' = H6 ∧ m' (Str.ofString "right") = some (partV pr)) (fun m' H' j => (j.1 ▸ qbm B1.a)) (by simp; lia) ⟨rfl, rfl⟩ ?_ ?_
       . intro e he; refine ⟨by rw [length_map]; lia, ?_⟩; rintro m7 H7 acc7 K7 hacc7 ⟨rfl, v7⟩ hk7; refine qex rfl ?_; (refine xSk ‹_› rfl rfl ?_; refine qbu (by decide) (by decide) rfl ?_); refine ⟨.list pr.1, pr.2.2.leaves.map V.str, (qb1 B2.a), ?_⟩; refine qa0 V.str (fun l => some (qau (e, l))) (fun m' H' => H' = H7 ∧ m' (Str.ofString "right") = some (partV pr) ∧ m' (Str.ofString "early") = some (.str e)) (fun m' H' j => (j.1 ▸ qbm B2.a)) (by lia) ⟨rfl, v7, rfl⟩ ?_ ?_
         . rintro l hl8 m8 H8 acc8 K8 hacc8 ⟨rfl, u1, u2⟩ hk8; refine qcq rfl ⟨hacc8, ?_⟩; (refine qbc (xLm ‹_› rfl (xLn rfl rfl ?_))); refine ⟨nl0_ rfl, ?_⟩; exact hk8 _ _ ⟨rfl, u1, u2⟩
         . rintro m8 H8 ⟨rfl, u1, u2⟩; have := hk7 m8 H8 ⟨rfl, u1⟩; rw [filterMap_eq_map']; exact this
       . rintro m7 H7 ⟨rfl, v7⟩; have hcr : ([] ++ pq.2.2.leaves.flatMap fun e => pr.2.2.leaves.map fun l => qau (e, l)) = (qgw pq.2.2.leaves pr.2.2.leaves).map qau := by
           unfold qgw; rw [nil_append, List.map_flatMap]; congr 1; funext e; rw [map_map]; rfl
         (refine (Eq.symm hcr) ▸ ?_); refine qo5 fun xa H8 x8 n8 e8 => ?_; have g8 := x8.get g6; have Y1 := B1.more x8; have Y2 := B2.more x8; (apply_assumption; refine qaw rfl rfl fun Kz hz1 => ?_; refine xMn rfl rfl rfl ‹_› rfl ?_; refine qa8 (qas ‹_›) (by decide) F.plainAttrs_list F.slot_list_append F.type_list_append ⟨qab _, ?_⟩; refine qag rfl ?_; refine qah rfl ?_; refine qbc ?_; refine qah rfl ?_; refine qba ?_; refine xSk rfl rfl rfl ?_; refine qbu (by decide) (by decide) rfl ?_; refine xSk rfl rfl rfl ?_; refine qbu (by decide) (by decide) rfl ?_; refine qer ?_; refine qah rfl ?_; refine qba ?_; refine xSk rfl rfl rfl ?_; refine qbu (by decide) (by decide) rfl ?_; refine xSk rfl rfl rfl ?_; refine qbu (by decide) (by decide) rfl ?_); refine qci Y1.a Y2.a (by simp; lia) fun la2 H9 x9 n9 ez9 => ?_; (refine qah rfl (qba (qba (xSk rfl rfl rfl ?_))); refine qbu (by decide) (by decide) rfl ?_; refine xSk rfl rfl rfl ?_; refine qbu (by decide) (by decide) rfl ?_); refine qci (x9.get Y1.b) (x9.get Y2.b) (by simp; lia) fun lz H10 x10 n10 e10 => ?_; (refine xN rfl rfl ?_); refine qci e10 ((x9.trans x10).get e8) (by simp only [length_append, length_map, qjc]; lia) fun lb H11 x11 n11 e11 => ?_
         (refine qal ?_); refine ⟨nl0_ rfl, ?_⟩; have X7 := x8.trans (x9.trans (x10.trans x11)); rw [← map_append] at ez9; rw [← map_append, ← map_append] at e11; have hadd : (pq.2.2.hgt : Int) + pr.2.2.hgt = ((Tr.nod true pq.2.2 pr.2.2).hgt : Int) := rfl; (refine (Eq.symm hadd) ▸ ?_); have q1 : la2 ≠ pl := (Ext.ne (x8.get g6) n9).symm; have q2 : lb ≠ pl := (Ext.ne ((x8.trans (x9.trans x10)).get g6) n11).symm; have q3 : la2 ≠ ml := (Ext.ne (x8.get e6) n9).symm; have q4 : lb ≠ ml := (Ext.ne ((x8.trans (x9.trans x10)).get e6) n11).symm; have g7 := X7.get g6; (refine qal ?_; refine qaf ?_; refine qbq ‹_› (by simp only [length_map, length_append, length_cons, length_nil]; omega) ?_)
         (try refine qa2 g7 (by simp; lia) ?_)
         intro H9 m9 e9; (apply_assumption; refine qac ?_; apply_assumption; refine qac ?_; apply_assumption; refine qac ?_); refine hn _ _ ⟨ap0 ++ [(la2, lb, .nod true pq.2.2 pr.2.2)], μ', m9.ext (X6.trans X7) nplH, by rw [e9, map_append]; rfl, m9.get hpm.symm (X7.get e6), fun p hp => ?_, by rw [map_append, hap0]; exact hr, ?_, ?_, ?_, w1, w2⟩
         . rcases mem_append.mp hp with hp | hp
           . exact ((B0 p hp).more X7).mp m9
           . rw [mem_singleton.mp hp]; exact ⟨m9.get q1 ((x10.trans x11).get ez9), m9.get q2 e11, q1, q2, q3, q4⟩
         . rw [map_append, List.sum_append, length_append]; show _ + ((pq.2.2.leaves ++ pr.2.2.leaves).length + 0) ≤ _ + 1; rw [length_append]; lia
         . rw [length_append, length_append]; simp; lia
         . rw [length_append]; lia
   | mark b r σ' μ' hr =>
     have h1 := mk1 b; have h2 := mk2 b; (refine qaa fun Kz hz1 hz2 hz3 hz4 => ?_; refine qbv (xCn rfl rfl rfl (qad rfl ?_)); refine qbi ?_; refine ⟨_, rfl, ?_⟩; refine qay ‹_› ?_; refine qaa fun Kz hz1 hz2 hz3 hz4 => ?_; refine qbv (xCn rfl rfl rfl (qad rfl ?_))); refine qky ?_; (refine ⟨_, rfl, ?_⟩; refine qbd ‹_› ?_; refine qaw rfl rfl fun Kz hz1 => ?_; refine xMn rfl rfl rfl ‹_› rfl ?_; refine qa8 (qas ‹_›) (by decide) F.plainAttrs_list F.slot_list_append F.type_list_append ⟨qab _, ?_⟩; refine xAn rfl rfl (qaf ?_); refine qbq ‹_› (by simp only [length_map, length_append, length_cons, length_nil]; omega) ?_)
     (try refine qa2 hm (by rw [length_map]; lia) ?_)
     intro H4 m4 e4; (apply_assumption; refine qac ?_; apply_assumption; refine qac ?_; apply_assumption; refine qac ?_); exact hn _ _ ⟨ap, μ ++ [b], m4.ext x3 nml, m4.get hpm hp, by rw [e4, map_append]; rfl, fun p hp => (ha p hp).mm m4, by rw [hσ]; exact hr, by rw [length_append]; lia, by rw [length_append]; lia, by rw [length_append, length_append]; simp; assumption, w1, w2⟩
   | opn r σ' μ' hr =>
     (refine qaa fun Kz hz1 hz2 hz3 hz4 => ?_; refine qbv (xCn rfl rfl rfl (qad rfl ?_)); refine qbi ?_; refine ⟨_, rfl, ?_⟩; refine qay rfl ?_; refine qaa fun Kz hz1 hz2 hz3 hz4 => ?_; refine qbv (xCn rfl rfl rfl (qad rfl ?_))); refine qky ?_; (refine ⟨_, rfl, ?_⟩; refine qay ‹_› ?_; refine qaa fun Kz hz1 hz2 hz3 hz4 => ?_; refine qbv (xCn rfl rfl rfl (qad rfl ?_)); refine qck ?_; refine ⟨_, rfl, ?_⟩; refine qay rfl ?_; refine qac ?_; apply_assumption; refine qac ?_; apply_assumption; refine qac ?_; apply_assumption; refine qac ?_); exact hn _ _ ⟨ap, μ, x3, hp, hm, ha, by rw [hσ]; exact hr, by rw [length_append]; lia, by rw [length_append]; lia, by rw [length_append]; lia, w1, w2⟩
   | let_ s hs r σ' μ' hr =>
     have h1 := le1 s hs; have h2 := le2 s hs; have h3 := le3 s hs; (refine qaa fun Kz hz1 hz2 hz3 hz4 => ?_; refine qbv (xCn rfl rfl rfl (qad rfl ?_)); refine qbi ?_; refine ⟨_, rfl, ?_⟩; refine qay ‹_› ?_; refine qaa fun Kz hz1 hz2 hz3 hz4 => ?_; refine qbv (xCn rfl rfl rfl (qad rfl ?_))); refine qky ?_; (refine ⟨_, rfl, ?_⟩; refine qay ‹_› ?_; refine qaa fun Kz hz1 hz2 hz3 hz4 => ?_; refine qbv (xCn rfl rfl rfl (qad rfl ?_)); refine qck ?_; refine ⟨_, rfl, ?_⟩; refine qbd ‹_› ?_; refine qaw rfl rfl fun Kz hz1 => ?_; refine xMn rfl rfl rfl ‹_› rfl ?_; refine qa8 (qas ‹_›) (by decide) F.plainAttrs_list F.slot_list_append F.type_list_append ⟨qab _, ?_⟩; refine qag rfl (qah rfl (qbc (qah rfl (qad rfl (qah rfl (qa6 (xLn rfl rfl ?_)))))))); refine ⟨nl0_ rfl, fun la2 H4 x4 n4 e4 => ?_⟩; (refine qah rfl (qa6 (qal ?_))); refine ⟨zero_le _, fun lb H5 x5 n5 e5 => ?_⟩; (refine qal ?_); refine ⟨nl0_ rfl, ?_⟩; have X5 := x4.trans x5; have hp5 := X5.get hp; (refine qal ?_; refine qaf ?_; refine qbq ‹_› (by simp only [length_map, length_append, length_cons, length_nil]; omega) ?_)
     (try refine qa2 hp5 (by rw [length_map]; lia) ?_)
     intro H6 m6 e6; (apply_assumption; refine qac ?_; apply_assumption; refine qac ?_; apply_assumption; refine qac ?_; apply_assumption; refine qac ?_); have q1 : la2 ≠ pl := (Ext.ne hp n4).symm; have q2 : lb ≠ pl := (Ext.ne (x4.get hp) n5).symm; have q3 : la2 ≠ ml := (Ext.ne hm n4).symm; have q4 : lb ≠ ml := (Ext.ne (x4.get hm) n5).symm; refine hn _ _ ⟨ap ++ [(la2, lb, .leaf s)], μ, m6.ext (x3.trans X5) n1, by rw [e6, map_append]; rfl, m6.get hpm.symm (X5.get hm), fun p hp => ?_, by rw [map_append, hσ]; exact hr, ?_, ?_, ?_, w1, w2⟩
     . rcases mem_append.mp hp with hp | hp
       . exact ((ha p hp).more X5).mp m6
       . rw [mem_singleton.mp hp]; exact ⟨m6.get q1 (x5.get e4), m6.get q2 e5, q1, q2, q3, q4⟩
     . rw [map_append, List.sum_append, length_append]; show _ + (1 + 0) ≤ _ + 1; lia
     . rw [length_append, length_append]; simp; assumption
     . rw [length_append]; lia
section
open PySem.Builtin.Re
def okC (c : Nat) : Prop := c ∈ [40, 41, 59, 124, 97, 98, 99, 100, 101]
abbrev qpk : Sre.Seen := ({} : Sre.Seen).add 14
abbrev qna : Sre.Seen := (qpk.add 9).add 0
def reC : Array Nat := #[14, 14, 4, 1, 1, 9, 4294966783, 0, 0, 2147483648, 0, 0, 0, 0, 0, 13, 11, 9, 4294966783, 0, 0, 2147483648, 0, 0, 0, 0, 0, 1]
def reM (t : Array Nat) (n : Nat) : Sre.M := { code := reC, text := t, lim := n, start := 0, lastStart := n, pc := 15, pos := 0, handed := 0, marks := #[], seen := qpk }
theorem qph (q : Params) (S : Setting) (tO tk : Nat) (x : Str) : kRun (KF q) S tO 120 0 (reTarget "re.Pattern.search" "search" ⟨[.ref 53, .str x tk], []⟩) = some (⟨.ref 53, .str x tk, reC, x.cps, 0, 0, min (0 : Int).toNat x.cps.size, min ((2 : Int) ^ 63 - 1).toNat x.cps.size⟩, 0) := by kernel_rfl
theorem qrl {c : Nat} (h : okC c) (s : Sre.Seen) : Sre.inSet reC c reC.size 5 true s = .ok (false, (s.add 9).add 0) := by
 simp only [okC, mem_cons, List.not_mem_nil, or_false] at h; rcases h with rfl | rfl | rfl | rfl | rfl | rfl | rfl | rfl | rfl <;> kernel_rfl
theorem qjv {t : Array Nat} {n : Nat} (hc : ∀ k < n, okC (t.getD k 0)) : ∀ (f s : Nat), Sre.M.admitted (reM t n) f s qna = .ok (none, qna)
 | 0, s => rfl
 | f + 1, s => by
   unfold Sre.M.admitted; by_cases h : s ≥ (reM t n).lim
   . rw [if_pos h]
   . rw [if_neg h]; have hs : s < n := by have : ¬ s ≥ n := h; lia
     show (match Sre.inSet reC (t.getD s 0) reC.size 5 true qna with | .ok (true, seen) => _ | .ok (false, seen) => _ | .error why => _) = _; rw [qrl (hc s hs)]; exact qjv hc f (s + 1)
theorem qq3 {t : Array Nat} {n : Nat} (hn : 0 < n) (hc : ∀ k < n, okC (t.getD k 0)) (f : Nat) : Sre.M.admitted (reM t n) (f + 1) 0 qpk = .ok (none, qna) := by
 unfold Sre.M.admitted; have h : ¬ 0 ≥ (reM t n).lim := by show ¬ 0 ≥ n; lia
 rw [if_neg h]; show (match Sre.inSet reC (t.getD 0 0) reC.size 5 true qpk with | .ok (true, seen) => _ | .ok (false, seen) => _ | .error why => _) = _; rw [qrl (hc 0 hn)]; exact qjv hc f 1
theorem qpg {t : Array Nat} {n : Nat} (hn : 0 < n) (hc : ∀ k < n, okC (t.getD k 0)) : Sre.forSearch reC t 0 0 n false = { reM t n with seen := qna }.say false := by
 have e1 : Sre.forSearch reC t 0 0 n false = if (decide (0 > n) || decide (n - 0 < 1)) = true then (reM t n).say false else (reM t n).attemptFrom 0 true := by
   rw [if_neg (by simp; lia)]; unfold Sre.forSearch; dsimp only; have hh : (Sre.header reC).1 = 1 := by kernel_rfl
   rw [if_neg (by (refine (Eq.symm hh) ▸ ?_); simp; lia)]
   kernel_rfl
 rw [e1, if_neg (by simp; lia)]; have e2 : (reM t n).attemptFrom 0 true = match Sre.M.admitted (reM t n) (n + 1 - 0) 0 qpk with
   | .ok (some s, seen) => { reM t n with mustAdvance := false, seen }.attemptAt s true
   | .ok (none, seen) => { reM t n with seen }.say false
   | .error why => (reM t n).stick why := by kernel_rfl
 rw [e2, Nat.sub_zero, qq3 hn hc]
theorem qpf (K : Frag) (S : Setting) (tO tk n : Nat) (x : Str) (g : ReTarget) : kRun K S tO 80 0 (reAnswer g ({ reM x.cps n with seen := qna }.say false)) = some (.done (.ret .none), 0) := by kernel_rfl
theorem qmg (q : Params) (x : Str) (h0 : 0 < x.length) (h1 : x.length ≤ 1000) (hc : ∀ k < x.cps.size, okC (x.cps.getD k 0)) : qbz (KF q) 53 x := by
 intro prog w A E Q s tk X h; have hl : min ((2 : Int) ^ 63 - 1).toNat x.cps.size = x.cps.size := Nat.min_eq_right (le_trans (show x.cps.size ≤ 1000 from h1) (nl0_ rfl)); have ht := qph q ⟨prog, w.params⟩ s.toks tk x; rw [hl] at ht; refine wpAny_bind (qfj (tO := s.toks) X 120 0 _ ht ?_); show wpAny _ _ (reAnswer _ (Sre.forSearch reC x.cps (min (0 : Int).toNat x.cps.size) 0 x.cps.size false)) _ _ _; rw [show min (0 : Int).toNat x.cps.size = 0 from Nat.zero_min _]; rw [qpg (show 0 < x.cps.size from h0) hc]; exact qfj (tO := s.toks) X 80 0 _ (qpf _ _ _ tk _ _ _) h
end
inductive Pth (ps : List (Str × Str)) : Str -> Str -> Prop
 | one {a b : Str} (h : (a, b) ∈ ps) : Pth ps a b
 | more {a t b : Str} (h : Pth ps a t) (e : (t, b) ∈ ps) : Pth ps a b
theorem Pth.trans {ps : List (Str × Str)} {a b c : Str} (h : Pth ps a b) (k : Pth ps b c) : Pth ps a c := by
 induction k with
 | one e => exact .more h e
 | more _ e ih => exact .more ih e
theorem qo3 {cl : List (Str × Str)} {mid a b : Str} : (a, b) ∈ viaM cl mid ↔ (a, mid) ∈ cl ∧ (mid, b) ∈ cl ∧ (a, b) ∉ cl := by
 unfold viaM; rw [List.mem_flatMap]; constructor
 . rintro ⟨e, he, hl⟩; obtain ⟨l, hl1, hl2⟩ := mem_filterMap.mp hl; obtain ⟨q, hq, rfl⟩ := mem_map.mp he; obtain ⟨p, hp, rfl⟩ := mem_map.mp hl1; obtain ⟨hq1, hq2⟩ := mem_filter.mp hq; obtain ⟨hp1, hp2⟩ := mem_filter.mp hp; have e1 : q.2 = mid := by simpa using hq2
   have e2 : p.1 = mid := by simpa using hp2
   by_cases hn : cl.contains (q.1, p.2) = true
   . rw [if_pos hn] at hl2; cases hl2
   . rw [if_neg hn] at hl2; cases hl2; refine ⟨by rw [← e1]; exact hq1, by rw [← e2]; exact hp1, fun z => hn (by simpa using z)⟩
 . rintro ⟨h1, h2, h3⟩; refine ⟨a, mem_map.mpr ⟨(a, mid), mem_filter.mpr ⟨h1, by simp⟩, rfl⟩, mem_filterMap.mpr ⟨b, mem_map.mpr ⟨(mid, b), mem_filter.mpr ⟨h2, by simp⟩, rfl⟩, ?_⟩⟩; rw [if_neg (by simpa using h3)]
def ClM (C : List (Str × Str)) (M : List Str) : Prop := ∀ m ∈ M, ∀ a b, (a, m) ∈ C -> (m, b) ∈ C -> (a, b) ∈ C
theorem qkx {C : List (Str × Str)} {x a b : Str} : (a, b) ∈ C ++ viaM C x ↔ (a, b) ∈ C ∨ (a, x) ∈ C ∧ (x, b) ∈ C := by
 rw [mem_append, qo3]; by_cases h : (a, b) ∈ C <;> simp [h]
theorem ClM.step {C : List (Str × Str)} {M : List Str} {x : Str} (h : ClM C M) : ClM (C ++ viaM C x) (M ++ [x]) := by
 intro m hm a b h1 h2; rw [qkx] at h1 h2 ⊢; rcases mem_append.mp hm with hm | hm
 . rcases h1 with h1 | ⟨h1, h1'⟩ <;> rcases h2 with h2 | ⟨h2, h2'⟩
   . exact .inl (h m hm a b h1 h2)
   . exact .inr ⟨h m hm a x h1 h2, h2'⟩
   . exact .inr ⟨h1, h m hm x b h1' h2⟩
   . exact .inr ⟨h1, h2'⟩
 . rw [mem_singleton] at hm; subst hm; have g1 : (a, m) ∈ C := by rcases h1 with h1 | h1; exact h1; exact h1.1
   have g2 : (m, b) ∈ C := by rcases h2 with h2 | h2; exact h2; exact h2.2
   exact .inr ⟨g1, g2⟩
theorem ClM.all : ∀ (ls : List Str) {C : List (Str × Str)} {M : List Str}, ClM C M -> ClM (qa3 ls C) (M ++ ls) := by
 intro ls
 induction ls with
 | nil =>
   intro C M h; rw [append_nil]; exact h
 | cons x r ih =>
   intro C M h; have := ih (h.step (x := x)); rw [List.append_assoc] at this; exact this
theorem qi9 : ∀ (ls : List Str) {C : List (Str × Str)} {q : Str × Str}, q ∈ C -> q ∈ qa3 ls C := by
 intro ls
 induction ls with
 | nil =>
   intro C q h; exact h
 | cons x r ih =>
   intro C q h; exact ih (C := C ++ viaM C x) (mem_append_left _ h)
theorem qn1 {ps : List (Str × Str)} : ∀ (ls : List Str) {C : List (Str × Str)}, (∀ a b, (a, b) ∈ C -> Pth ps a b) -> ∀ a b, (a, b) ∈ qa3 ls C -> Pth ps a b := by
 intro ls
 induction ls with
 | nil =>
   intro C h a b hq; exact h a b hq
 | cons x r ih =>
   intro C h a b hq; exact ih (C := C ++ viaM C x) (fun a b hq => by
     rcases qkx.mp hq with hq | ⟨h1, h2⟩
     . exact h a b hq
     . exact (h a x h1).trans (h x b h2)) a b hq
theorem qnz {ls : List Str} {ps : List (Str × Str)} (hl : ∀ q ∈ ps, q.1 ∈ ls ∧ q.2 ∈ ls) (a b : Str) : (a, b) ∈ qa3 ls ps ↔ Pth ps a b := by
 constructor
 . exact qn1 ls (fun a b h => .one h) a b
 . intro h; have hc : ClM (qa3 ls ps) ls := ClM.all ls (M := []) (fun m z => nomatch z)
   induction h with
   | one e => exact qi9 ls e
   | more _ e ih => exact hc _ (hl _ e).1 _ _ ih (qi9 ls e)
theorem qg3 {α : Type} [BEq α] [LawfulBEq α] {c : Nat} : ∀ (D l : List α), (∀ x ∈ l, x ∈ D) -> (∀ x ∈ D, l.count x ≤ c) -> l.length ≤ D.length * c := by
 intro D
 induction D with
 | nil =>
   intro l h _; cases l with
   | nil => simp
   | cons a r => exact absurd (h a (mem_cons_self)) (by simp)
 | cons d D ih =>
   intro l h hc; have ih := ih (l.filter fun x => !(x == d)) (fun x hx => by
     obtain ⟨h1, h2⟩ := mem_filter.mp hx; have := h x h1; have h3 : ¬ x = d := by simpa using h2
     simpa [h3] using this) (fun x hx => le_trans (List.Sublist.count_le x filter_sublist) (hc x (by simp [hx])))
   have e : l.length = l.count d + (l.filter fun x => !(x == d)).length := by
     rw [List.length_eq_countP_add_countP (p := fun x => x == d), ← List.countP_eq_length_filter]; have : List.countP (fun a => decide ¬(a == d) = true) l = List.countP (fun x => !x == d) l := by
       congr 1; funext z; cases z == d <;> rfl
     rw [this]; rfl
   have := hc d (mem_cons_self); rw [length_cons, Nat.add_mul]; lia
theorem qml (cl : List (Str × Str)) (mid a : Str) : ((cl.filter fun q => q.2 == mid).map (·.1)).count a = cl.count (a, mid) := by
 induction cl with
 | nil => rfl
 | cons q r ih =>
   rw [filter_cons, count_cons, ← ih]; obtain ⟨u, v⟩ := q; by_cases e : v = mid
   . subst e; by_cases e2 : u = a <;> simp [e2]
   . simp [e]
theorem qn5 (cl : List (Str × Str)) (mid a : Str) : ((cl.filter fun q => q.1 == mid).map (·.2)).count a = cl.count (mid, a) := by
 induction cl with
 | nil => rfl
 | cons q r ih =>
   rw [filter_cons, count_cons, ← ih]; obtain ⟨u, v⟩ := q; by_cases e : u = mid
   . subst e; by_cases e2 : v = a <;> simp [e2]
   . simp [e]
theorem qn6 (cl : List (Str × Str)) (e a b : Str) (out : List Str) : (out.filterMap fun l => if cl.contains (e, l) then none else some (e, l)).count (a, b) ≤ if e = a then out.count b else 0 := by
 induction out with
 | nil => simp
 | cons l r ih =>
   rw [List.filterMap_cons]; by_cases h : cl.contains (e, l) = true
   . rw [if_pos h]; refine le_trans ih ?_; split
     . exact List.count_le_count_cons
     . exact le_refl _
   . rw [if_neg h]; show ((e, l) :: _).count (a, b) ≤ _; rw [count_cons]; by_cases h1 : e = a
     . rw [if_pos h1] at ih ⊢; rw [count_cons]; by_cases h2 : l = b
       . subst h1 h2; simpa using ih
       . simpa [h1, h2] using ih
     . rw [if_neg h1] at ih ⊢; simpa [h1] using ih
theorem qmm (cl : List (Str × Str)) (a b : Str) (out : List Str) : ∀ ins : List Str, (ins.flatMap fun e => out.filterMap fun l => if cl.contains (e, l) then none else some (e, l)).count (a, b) ≤ ins.count a * out.count b := by
 intro ins
 induction ins with
 | nil => exact zero_le _
 | cons e r h2 =>
   rw [flatMap_cons, List.count_append]; have h1 := qn6 cl e a b out; rw [count_cons]; by_cases h : e = a
   . rw [if_pos h] at h1; subst h; rw [if_pos (beq_self_eq_true e), Nat.add_mul, Nat.one_mul, add_comm]; exact Nat.add_le_add h2 h1
   . rw [if_neg h] at h1; rw [if_neg (fun z => h (beq_iff_eq.mp z)), Nat.add_zero]; exact le_trans (Nat.add_le_add h1 h2) (le_of_eq (zero_add _))
theorem qn7 (cl : List (Str × Str)) (mid a b : Str) : (viaM cl mid).count (a, b) ≤ cl.count (a, mid) * cl.count (mid, b) := by
 rw [← qml cl mid a, ← qn5 cl mid b]; exact qmm cl a b _ _
structure Fw (L : List Str) (C : List (Str × Str)) : Prop where
 lt : ∀ q ∈ C, ∃ i j : Nat, i < j ∧ L[i]? = some q.1 ∧ L[j]? = some q.2
 cnt : ∀ i j : Nat, i < j -> ∀ x y, L[i]? = some x -> L[j]? = some y -> C.count (x, y) ≤ 2 ^ (j - i)
theorem Fw.step {L : List Str} {C : List (Str × Str)} (hn : L.Nodup) (F : Fw L C) (m : Str) : Fw L (C ++ viaM C m) := by
 refine ⟨?_, fun i j hij x y hx hy => ?_⟩
 . rintro ⟨a, b⟩ hq; rcases qkx.mp hq with h | ⟨h1, h2⟩
   . exact F.lt _ h
   . obtain ⟨i, k, l1, e1, e2⟩ := F.lt _ h1; obtain ⟨k', j, l2, e3, e4⟩ := F.lt _ h2; have := qeh hn e2 e3; exact ⟨i, j, lt_trans l1 (this ▸ l2), e1, e4⟩
 . rw [List.count_append]; have c0 := F.cnt i j hij x y hx hy; by_cases h : (x, y) ∈ C
   . have : (viaM C m).count (x, y) = 0 := count_eq_zero.mpr fun z => (qo3.mp z).2.2 h; rw [this, Nat.add_zero]; exact c0
   . have h0 : C.count (x, y) = 0 := count_eq_zero.mpr h; have hv := qn7 C m x y; by_cases h1 : (x, m) ∈ C
     . by_cases h2 : (m, y) ∈ C
       . obtain ⟨i', k, l1, e1, e2⟩ := F.lt _ h1; obtain ⟨k', j', l2, e3, e4⟩ := F.lt _ h2; have z1 := qeh hn e1 hx; have z2 := qeh hn e2 e3; have z3 := qeh hn e4 hy; subst z1 z2 z3; have b1 := F.cnt i' k l1 x m e1 e2; have b2 := F.cnt k j' l2 m y e3 e4; have : 2 ^ (j' - i') = 2 ^ (k - i') * 2 ^ (j' - k) := by rw [← Nat.pow_add, add_comm, Nat.sub_add_sub_cancel (le_of_lt l2) (le_of_lt l1)]
         rw [this]; have := Nat.mul_le_mul b1 b2; rw [h0, zero_add]; exact le_trans hv this
       . rw [count_eq_zero.mpr h2, Nat.mul_zero] at hv; rw [h0, zero_add]; exact le_trans hv (zero_le _)
     . rw [count_eq_zero.mpr h1, Nat.zero_mul] at hv; rw [h0, zero_add]; exact le_trans hv (zero_le _)
theorem Fw.all {L : List Str} (hn : L.Nodup) : ∀ (ls : List Str) {C : List (Str × Str)}, Fw L C -> Fw L (qa3 ls C) := by
 intro ls
 induction ls with
 | nil =>
   intro C F; exact F
 | cons x r ih =>
   intro C F; exact ih (F.step hn x)
theorem Fw.len {L : List Str} (h5 : L.length ≤ 5) {C : List (Str × Str)} (F : Fw L C) : C.length ≤ 160 := by
 have hD : ∀ (q : Str × Str) (i j : Nat), i < j -> L[i]? = some q.1 -> L[j]? = some q.2 -> q ∈ (List.range 5).flatMap fun j => (List.range j).map fun i => (L.getD i ⟨#[]⟩, L.getD j ⟨#[]⟩) := by
   rintro ⟨x, y⟩ i j h e1 e2; have hj := (List.getElem?_eq_some_iff.mp e2).1; refine List.mem_flatMap.mpr ⟨j, mem_range.mpr (by lia), mem_map.mpr ⟨i, mem_range.mpr h, ?_⟩⟩; rw [List.getD_eq_getElem?_getD, List.getD_eq_getElem?_getD, e1, e2]; rfl
 refine qg3 (c := 16) ((List.range 5).flatMap fun j => (List.range j).map fun i => (L.getD i ⟨#[]⟩, L.getD j ⟨#[]⟩)) C (fun q hq => ?_) (fun q _ => ?_)
 . obtain ⟨i, j, h, e1, e2⟩ := F.lt q hq; exact hD q i j h e1 e2
 . by_cases hq : q ∈ C
   . obtain ⟨i, j, h, e1, e2⟩ := F.lt q hq; have hj := (List.getElem?_eq_some_iff.mp e2).1; have := F.cnt i j h q.1 q.2 e1 e2; have h2 : 2 ^ (j - i) ≤ 2 ^ 4 := Nat.pow_le_pow_right (by decide) (by lia); exact le_trans this h2
   . rw [count_eq_zero.mpr hq]; exact zero_le _
theorem qek.fw {L : List Str} {n : Nat} {ps : List (Str × Str)} (a : qek L n ps) : Fw L ps := ⟨a.lt, fun i j h x y hx hy => by
 have := (a.cnt i j h x y hx hy).1; have h2 : 2 ^ 1 ≤ 2 ^ (j - i) := Nat.pow_le_pow_right (by decide) (by lia); lia⟩
theorem qn0 {L : List Str} {n : Nat} {ps : List (Str × Str)} (a : qek L n ps) (ls : List Str) : (qa3 ls ps).length ≤ 300 := le_trans (Fw.len a.le (Fw.all a.nd ls a.fw)) (by decide)
structure Po (ls L : List Str) (ps : List (Str × Str)) (rel : Str -> Str -> Bool) : Prop where
 nd : L.Nodup
 mem : ∀ s, s ∈ L ↔ s ∈ ls
 pth : ∀ a b, rel a b = true ↔ Pth ps a b
 lt : ∀ a b, rel a b = true -> ∃ i j : Nat, i < j ∧ L[i]? = some a ∧ L[j]? = some b
theorem qtn {ls L : List Str} {ps : List (Str × Str)} {n : Nat} (a : qek L n ps) (hm : ∀ s, s ∈ L ↔ s ∈ ls) : Po ls L ps fun a b => (qa3 ls ps).contains (a, b) := by
 refine ⟨a.nd, hm, fun x y => ?_, fun x y h => ?_⟩
 . rw [contains_iff_mem]; refine qnz (fun q hq => ?_) x y; obtain ⟨i, j, _, e1, e2⟩ := a.lt q hq; exact ⟨(hm _).mp (mem_of_getElem? e1), (hm _).mp (mem_of_getElem? e2)⟩
 . rw [contains_iff_mem] at h; exact (Fw.all a.nd ls a.fw).lt _ h
section
variable {ls L : List Str} {ps : List (Str × Str)} {rel : Str -> Str -> Bool}
theorem Po.irr (O : Po ls L ps rel) (a : Str) : rel a a = false := by
 cases h : rel a a
 . rfl
 . obtain ⟨i, j, h1, h2, h3⟩ := O.lt a a h; have := qeh O.nd h2 h3; lia
theorem Po.tr (O : Po ls L ps rel) {a b c : Str} (h : rel a b = true) (k : rel b c = true) : rel a c = true := (O.pth a c).mpr (((O.pth a b).mp h).trans ((O.pth b c).mp k))
theorem Po.asy (O : Po ls L ps rel) {a b : Str} (h : rel a b = true) : rel b a = false := by
 cases k : rel b a
 . rfl
 . have := O.tr h k; rw [O.irr] at this; exact nomatch this
theorem Po.inl (O : Po ls L ps rel) {a b : Str} (h : rel a b = true) : a ∈ ls := by
 obtain ⟨i, j, h1, h2, h3⟩ := O.lt a b h; exact (O.mem a).mp (mem_of_getElem? h2)
theorem Po.inr (O : Po ls L ps rel) {a b : Str} (h : rel a b = true) : b ∈ ls := by
 obtain ⟨i, j, h1, h2, h3⟩ := O.lt a b h; exact (O.mem b).mp (mem_of_getElem? h3)
end
def Tr.Ok (rel : Str -> Str -> Bool) : Tr -> Prop
 | .leaf x => rel x x = false
 | .nod b l r => l.Ok rel ∧ r.Ok rel ∧ ∀ a ∈ l.leaves, ∀ c ∈ r.leaves, rel a c = b ∧ rel c a = false
structure FJ (ls : List Str) (rel : Str -> Str -> Bool) (tl : Tl) : Prop where
 nd : tl.ns.Nodup
 lv : (tl.flatMap fun p => p.2.leaves).Perm ls
 own : ∀ p ∈ tl, p.1 ∈ p.2.leaves
 ins : ∀ p ∈ tl, p.2.Ok rel
 out : ∀ p ∈ tl, ∀ q ∈ tl, p.1 ≠ q.1 -> ∀ a ∈ p.2.leaves, ∀ b ∈ q.2.leaves, rel a b = rel p.1 q.1
theorem qge : ∀ {tl : Tl} {x : Str}, x ∈ tl.ns -> (x, tl.tree x) ∈ tl := by
 intro tl
 induction tl with
 | nil =>
   intro x h; exact nomatch h
 | cons p r ih =>
   intro x h; unfold Tl.tree; rw [lookup_cons]; by_cases e : x = p.1
   . subst e; simp
   . have : (x == p.1) = false := by simpa using e
     rw [this]; refine mem_cons_of_mem _ (ih ?_); rcases mem_cons.mp h with z | z
     . exact absurd z e
     . exact z
theorem FJ.leaf_ls {ls : List Str} {rel : Str -> Str -> Bool} {tl : Tl} (F : FJ ls rel tl) {p : Str × Tr} (hp : p ∈ tl) {a : Str} (ha : a ∈ p.2.leaves) : a ∈ ls := F.lv.mem_iff.mp (List.mem_flatMap.mpr ⟨p, hp, ha⟩)
theorem FJ.sub {ls : List Str} {rel : Str -> Str -> Bool} {tl : Tl} (F : FJ ls rel tl) : ∀ s ∈ tl.ns, s ∈ ls := fun s hs => by
 obtain ⟨p, hp, rfl⟩ := mem_map.mp hs; exact F.leaf_ls hp (F.own p hp)
theorem FJ.leaf_len {ls : List Str} {rel : Str -> Str -> Bool} {tl : Tl} (F : FJ ls rel tl) {p : Str × Tr} (hp : p ∈ tl) : p.2.leaves.length ≤ ls.length := by
 rw [← F.lv.length_eq]; clear F
 induction tl with
 | nil => exact nomatch hp
 | cons q r ih =>
   rw [flatMap_cons, length_append]; rcases mem_cons.mp hp with rfl | z
   . lia
   . have := ih z; lia
theorem qjp {x : Str} {t : Tr} : ∀ {tl : Tl}, tl.ns.Nodup -> (x, t) ∈ tl -> tl.Perm ((x, t) :: tl.filter fun p => p.1 != x) := by
 intro tl
 induction tl with
 | nil =>
   intro _ h; exact nomatch h
 | cons p r ih =>
   intro hn h; have hn' := nodup_cons.mp hn; have hkeep : ∀ y, y ∉ Tl.ns r -> (r.filter fun p => p.1 != y) = r := fun y hy => List.filter_eq_self.mpr fun q hq => by
     have : q.1 ≠ y := fun z => hy (by rw [← z]; exact mem_map_of_mem hq); simpa using this
   by_cases e : p.1 = x
   . have : p = (x, t) := by
       rcases mem_cons.mp h with z | z
       . exact z.symm
       . exact absurd (mem_map_of_mem (f := (·.1)) z) (by rw [← e]; exact hn'.1)
     subst this; rw [filter_cons, if_neg (by simp), hkeep _ hn'.1]
   . have hm : (x, t) ∈ r := by
       rcases mem_cons.mp h with z | z
       . exact absurd (by rw [← z]) e
       . exact z
     rw [filter_cons, if_pos (by simpa using e)]; exact ((ih hn'.2 hm).cons p).trans (List.Perm.swap _ _ _)
theorem qku {tl : Tl} {x y : Str} {b : Bool} (hxy : x ≠ y) : tl.fold x y b = ((tl.filter fun p => p.1 != x).filter fun p => p.1 != y) ++ [(x, Tr.nod b (tl.tree x) (tl.tree y))] := by
 unfold Tl.fold; rw [List.filter_append]; congr 1; rw [filter_cons, if_pos (by simpa using hxy)]; rfl
theorem qe2 {tl : Tl} {x y : Str} {b : Bool} (hxy : x ≠ y) {p : Str × Tr} : p ∈ tl.fold x y b ↔ (p ∈ tl ∧ p.1 ≠ x ∧ p.1 ≠ y) ∨ p = (x, Tr.nod b (tl.tree x) (tl.tree y)) := by
 rw [qku hxy, mem_append, mem_filter, mem_filter, mem_singleton, bne_iff_ne, bne_iff_ne, and_assoc]
theorem qr0 {tl : Tl} {x y : Str} {b : Bool} (hn : tl.ns.Nodup) (hx : x ∈ tl.ns) (hy : y ∈ tl.ns) (hxy : x ≠ y) : ((tl.fold x y b).flatMap fun p => p.2.leaves).Perm (tl.flatMap fun p => p.2.leaves) := by
 have p1 := qjp hn (qge hx); have hn2 : Tl.ns (tl.filter fun p => p.1 != x) |>.Nodup := hn.sublist (filter_sublist.map _)
 have hy2 : (y, tl.tree y) ∈ tl.filter fun p => p.1 != x := mem_filter.mpr ⟨qge hy, by simpa using fun z : y = x => hxy z.symm⟩; have p2 := qjp hn2 hy2; have p3 := (p1.trans (p2.cons _)).flatMap_right (f := fun p : Str × Tr => p.2.leaves); refine .trans ?_ p3.symm; rw [qku hxy, List.flatMap_append, flatMap_cons, flatMap_cons]; refine List.perm_append_comm.trans ?_; show ((((tl.tree x).leaves ++ (tl.tree y).leaves) ++ [] : List Str) ++ _).Perm _; rw [append_nil, List.append_assoc]; rw [flatMap_cons]
structure Mk (ns : List Str) (rel : Str -> Str -> Bool) (x y : Str) (b : Bool) : Prop where
 lo : ∀ o ∈ ns, o ≠ x -> o ≠ y -> rel o x = rel o y
 up : ∀ o ∈ ns, o ≠ x -> o ≠ y -> rel x o = rel y o
 xy : rel x y = b
 yx : rel y x = false
theorem FJ.fold {ls : List Str} {rel : Str -> Str -> Bool} {tl : Tl} (F : FJ ls rel tl) {x y : Str} {b : Bool} (hx : x ∈ tl.ns) (hy : y ∈ tl.ns) (hxy : x ≠ y) (M : Mk tl.ns rel x y b) : FJ ls rel (tl.fold x y b) := by
 have tx := qge hx; have ty := qge hy; refine ⟨?_, (qr0 F.nd hx hy hxy).trans F.lv, fun p hp => ?_, fun p hp => ?_, fun p hp q hq hne a ha c hc => ?_⟩
 . rw [qku hxy]; unfold Tl.ns; rw [map_append, nodup_append]; refine ⟨F.nd.sublist ((filter_sublist.trans filter_sublist).map _), by simp, fun u hu v hv => ?_⟩; rw [map_singleton, mem_singleton] at hv; obtain ⟨p, hp, rfl⟩ := mem_map.mp hu; have := (mem_filter.mp (mem_filter.mp hp).1).2; rw [hv]; simpa using this
 . rcases (qe2 hxy).mp hp with ⟨h, _, _⟩ | rfl
   . exact F.own p h
   . exact mem_append_left _ (F.own _ tx)
 . rcases (qe2 hxy).mp hp with ⟨h, _, _⟩ | rfl
   . exact F.ins p h
   . refine ⟨F.ins _ tx, F.ins _ ty, fun a ha c hc => ⟨?_, ?_⟩⟩
     . rw [F.out _ tx _ ty hxy a ha c hc]; exact M.xy
     . rw [F.out _ ty _ tx (fun z => hxy z.symm) c hc a ha]; exact M.yx
 . rcases (qe2 hxy).mp hp with ⟨h1, h2, h3⟩ | rfl <;> rcases (qe2 hxy).mp hq with ⟨k1, k2, k3⟩ | rfl
   . exact F.out p h1 q k1 hne a ha c hc
   . have hpn : p.1 ∈ tl.ns := mem_map_of_mem h1; rcases mem_append.mp hc with hc | hc
     . exact F.out p h1 _ tx h2 a ha c hc
     . rw [F.out p h1 _ ty h3 a ha c hc]; exact (M.lo _ hpn h2 h3).symm
   . have hqn : q.1 ∈ tl.ns := mem_map_of_mem k1; rcases mem_append.mp ha with ha | ha
     . exact F.out _ tx q k1 (fun z => k2 z.symm) a ha c hc
     . rw [F.out _ ty q k1 (fun z => k3 z.symm) a ha c hc]; exact (M.up _ hqn k2 k3).symm
   . exact absurd rfl hne
theorem qd4 {xs ys : List Str} {z : Str} : z ∈ qb4 xs ys ↔ z ∈ xs ∧ z ∉ ys := by unfold qb4; simp
theorem qg9 {ls ns : List Str} {rel : Str -> Str -> Bool} {o t : Str} : o ∈ dnS ls rel ns t ↔ o ∈ ls ∧ rel o t = true ∧ o ∈ ns := by unfold dnS; simp
theorem qha {ls ns : List Str} {rel : Str -> Str -> Bool} {o t : Str} : o ∈ upS ls rel ns t ↔ o ∈ ls ∧ rel t o = true ∧ o ∈ ns := by unfold upS; simp
theorem qgb {a b : Bool} (h : a = true -> b = true) (k : b = true -> a = true) : a = b := Bool.eq_iff_iff.mpr ⟨h, k⟩
theorem qsa {ls L ns : List Str} {ps : List (Str × Str)} {rel : Str -> Str -> Bool} {x y : Str} (O : Po ls L ps rel) (hns : ∀ s ∈ ns, s ∈ ls) (hx : x ∈ ns) (hy : y ∈ ns) (hm : markF (dnS ls rel ns) (upS ls rel ns) x y ≠ Str.ofString "") :
   ∃ b, markF (dnS ls rel ns) (upS ls rel ns) x y = mkT b ∧ Mk ns rel x y b := by
 unfold markF at hm ⊢; by_cases h1 : (sameF (dnS ls rel ns) y x [] && sameF (upS ls rel ns) x y []) = true
 . rw [if_pos h1]; refine ⟨false, rfl, ?_⟩; simp only [sameF, Bool.and_eq_true, decide_eq_true_eq, List.eq_nil_iff_forall_not_mem, qd4, qg9, qha] at h1; obtain ⟨⟨a1, a2⟩, a3, a4⟩ := h1; have lo : ∀ o ∈ ns, rel o x = rel o y := fun o ho => qgb (fun h => Classical.byContradiction fun k => a2 o ⟨⟨hns o ho, h, ho⟩, fun z => k z.2.1⟩) (fun h => Classical.byContradiction fun k => a1 o ⟨⟨hns o ho, h, ho⟩, fun z => k z.2.1⟩); have up : ∀ o ∈ ns, rel x o = rel y o := fun o ho => qgb (fun h => Classical.byContradiction fun k => a3 o ⟨⟨hns o ho, h, ho⟩, fun z => k z.2.1⟩) (fun h => Classical.byContradiction fun k => a4 o ⟨⟨hns o ho, h, ho⟩, fun z => k z.2.1⟩); exact ⟨fun o ho _ _ => lo o ho, fun o ho _ _ => up o ho, by rw [← lo x hx]; exact O.irr x, by rw [← up x hx]; exact O.irr x⟩
 . rw [if_neg h1] at hm ⊢; by_cases h2 : (sameF (dnS ls rel ns) y x [x] && sameF (upS ls rel ns) x y [y]) = true
   . rw [if_pos h2]; refine ⟨true, rfl, ?_⟩; simp only [sameF, Bool.and_eq_true, decide_eq_true_eq, List.eq_nil_iff_forall_not_mem, qd4, qg9, qha] at h2; obtain ⟨⟨a1, a2⟩, a3, a4⟩ := h2; have m1 : ∀ o, o ∈ qb4 (dnS ls rel ns y) (dnS ls rel ns x) ↔ o = x := fun o => by rw [a1]; exact mem_singleton
     have m3 : ∀ o, o ∈ qb4 (upS ls rel ns x) (upS ls rel ns y) ↔ o = y := fun o => by rw [a3]; exact mem_singleton
     simp only [qd4, qg9, qha] at m1 m3; have hxy : rel x y = true := ((m1 x).mpr rfl).1.2.1; refine ⟨fun o ho hox hoy => qgb (fun h => Classical.byContradiction fun k => a2 o ⟨⟨hns o ho, h, ho⟩, fun z => k z.2.1⟩) (fun h => Classical.byContradiction fun k => hox ((m1 o).mp ⟨⟨hns o ho, h, ho⟩, fun z => k z.2.1⟩)), fun o ho hox hoy => qgb (fun h => Classical.byContradiction fun k => hoy ((m3 o).mp ⟨⟨hns o ho, h, ho⟩, fun z => k z.2.1⟩)) (fun h => Classical.byContradiction fun k => a4 o ⟨⟨hns o ho, h, ho⟩, fun z => k z.2.1⟩), hxy, O.asy hxy⟩
   . rw [if_neg h2] at hm; exact absurd rfl hm
theorem qhu {l : List Str} (h : l.Nodup) {x : Str} (hx : x ∈ l) {p : Str -> Bool} (hp : ∀ o ∈ l, p o = true ↔ o = x) : l.filter p = [x] := by
 induction l with
 | nil => exact nomatch hx
 | cons a r ih =>
   have hn := nodup_cons.mp h; by_cases e : a = x
   . subst e; rw [filter_cons, if_pos ((hp a (mem_cons_self)).mpr rfl)]; congr 1; rw [List.filter_eq_nil_iff]; intro o ho k; rw [(hp o (by simp [ho])).mp k] at ho; exact hn.1 ho
   . rw [filter_cons, if_neg fun k => e ((hp a (mem_cons_self)).mp k)]; refine ih hn.2 ?_ fun o ho => hp o (by simp [ho]); rcases mem_cons.mp hx with z | z
     . exact absurd z.symm e
     . exact z
theorem qse {ls ns : List Str} {rel : Str -> Str -> Bool} {x y : Str} {b : Bool} (hls : ls.Nodup) (irr : ∀ a, rel a a = false) (hns : ∀ s ∈ ns, s ∈ ls) (hx : x ∈ ns) (hy : y ∈ ns) (hxy : x ≠ y) (M : Mk ns rel x y b) : markF (dnS ls rel ns) (upS ls rel ns) x y ≠ Str.ofString "" := by
 have key : markF (dnS ls rel ns) (upS ls rel ns) x y = Str.ofString "|" ∨ markF (dnS ls rel ns) (upS ls rel ns) x y = Str.ofString ";" := by
   unfold markF; cases b
   . left; rw [if_pos]; simp only [sameF, Bool.and_eq_true, decide_eq_true_eq, List.eq_nil_iff_forall_not_mem, qd4, qg9, qha]; have lo : ∀ o ∈ ns, rel o x = rel o y := fun o ho => by
       by_cases e1 : o = x
       . subst e1; rw [irr]; exact M.xy.symm
       . by_cases e2 : o = y
         . subst e2; rw [irr]; exact M.yx
         . exact M.lo o ho e1 e2
     have up : ∀ o ∈ ns, rel x o = rel y o := fun o ho => by
       by_cases e1 : o = x
       . subst e1; rw [irr]; exact M.yx.symm
       . by_cases e2 : o = y
         . subst e2; rw [irr]; exact M.xy
         . exact M.up o ho e1 e2
     refine ⟨⟨?_, ?_⟩, ?_, ?_⟩ <;> rintro o ⟨⟨k1, k2, k3⟩, k4⟩ <;> refine k4 ⟨k1, ?_, k3⟩
     . rw [lo o k3]; exact k2
     . rw [← lo o k3]; exact k2
     . rw [← up o k3]; exact k2
     . rw [up o k3]; exact k2
   . by_cases h1 : (sameF (dnS ls rel ns) y x [] && sameF (upS ls rel ns) x y []) = true
     . left; rw [if_pos h1]
     . right; rw [if_neg h1, if_pos]; simp only [sameF, Bool.and_eq_true, decide_eq_true_eq, List.eq_nil_iff_forall_not_mem, qd4, qg9, qha]; have lo : ∀ o ∈ ns, o ≠ x -> rel o x = rel o y := fun o ho e1 => by
         by_cases e2 : o = y
         . subst e2; rw [irr]; exact M.yx
         . exact M.lo o ho e1 e2
       have up : ∀ o ∈ ns, o ≠ y -> rel x o = rel y o := fun o ho e1 => by
         by_cases e2 : o = x
         . subst e2; rw [irr]; exact M.yx.symm
         . exact M.up o ho e2 e1
       refine ⟨⟨?_, ?_⟩, ?_, ?_⟩
       . unfold qb4 dnS; rw [List.filter_filter]; refine qhu hls (hns x hx) fun o ho => ?_; simp only [Bool.and_eq_true, Bool.not_eq_true', contains_iff_mem, ← Bool.not_eq_true]; rw [mem_filter, Bool.and_eq_true, contains_iff_mem]; constructor
         . rintro ⟨g1, g2, g3⟩; refine Classical.byContradiction fun e => g1 ⟨ho, ?_, g3⟩; rw [lo o g3 e]; exact g2
         . rintro rfl; refine ⟨fun z => ?_, M.xy, hx⟩; rw [irr] at z; exact nomatch z.2.1
       . rintro o ⟨⟨k1, k2, k3⟩, k4⟩; refine k4 ⟨k1, ?_, k3⟩; by_cases e : o = x
         . subst e; exact M.xy
         . rw [← lo o k3 e]; exact k2
       . unfold qb4 upS; rw [List.filter_filter]; refine qhu hls (hns y hy) fun o ho => ?_; simp only [Bool.and_eq_true, Bool.not_eq_true', contains_iff_mem, ← Bool.not_eq_true]; rw [mem_filter, Bool.and_eq_true, contains_iff_mem]; constructor
         . rintro ⟨g1, g2, g3⟩; refine Classical.byContradiction fun e => g1 ⟨ho, ?_, g3⟩; rw [← up o g3 e]; exact g2
         . rintro rfl; refine ⟨fun z => ?_, M.xy, hy⟩; rw [irr] at z; exact nomatch z.2.1
       . rintro o ⟨⟨k1, k2, k3⟩, k4⟩; refine k4 ⟨k1, ?_, k3⟩; by_cases e : o = y
         . subst e; exact M.xy
         . rw [up o k3 e]; exact k2
 rcases key with e | e <;> rw [e] <;> decide +kernel
def allB : Nat -> List (List Bool)
 | 0 => [[]]
 | n + 1 => (allB n).flatMap fun l => [true :: l, false :: l]
theorem qlt : ∀ l : List Bool, l ∈ allB l.length
 | [] => by simp [allB]
 | b :: l => by
   refine List.mem_flatMap.mpr ⟨l, qlt l, ?_⟩; cases b <;> simp
def rI (bs : List Bool) (i j : Nat) : Bool := Nat.blt i j && bs.getD (j * (j - 1) / 2 + i) false
def trI (n : Nat) (r : Nat -> Nat -> Bool) : Bool := (List.range n).all fun i => (List.range n).all fun j => !r i j || (List.range n).all fun k => !r j k || r i k
def beqB (a b : Bool) : Bool := if a then b else !b
def mkI (n : Nat) (r : Nat -> Nat -> Bool) (i j : Nat) : Bool := !r j i && (List.range n).all fun k => (Nat.beq k i || Nat.beq k j) || (beqB (r k i) (r k j) && beqB (r i k) (r j k))
def twI (n : Nat) (r : Nat -> Nat -> Bool) : Bool := (List.range n).any fun i => (List.range n).any fun j => !Nat.beq i j && mkI n r i j
def noI (n : Nat) (r : Nat -> Nat -> Bool) : Bool := (List.range n).any fun a => (List.range n).any fun c => r a c && (List.range n).any fun b => r b c && (!r b a && (List.range n).any fun d => r b d && (!r a d && !r d c))
def chkI (n : Nat) : Bool := (allB 10).all fun bs => !trI n (rI bs) || (twI n (rI bs) || noI n (rI bs))
theorem chk2 : chkI 2 = true := by decide +kernel
theorem chk3 : chkI 3 = true := by decide +kernel
theorem chk4 : chkI 4 = true := by decide +kernel
theorem chk5 : chkI 5 = true := by decide +kernel
theorem qrv {n : Nat} (h1 : 2 ≤ n) (h2 : n ≤ 5) : chkI n = true := by
 have : n = 2 ∨ n = 3 ∨ n = 4 ∨ n = 5 := by lia
 rcases this with rfl | rfl | rfl | rfl
 . exact chk2
 . exact chk3
 . exact chk4
 . exact chk5
def rowI (r : Nat -> Nat -> Bool) : List Bool := [r 0 1, r 0 2, r 1 2, r 0 3, r 1 3, r 2 3, r 0 4, r 1 4, r 2 4, r 3 4]
theorem qs6 {r : Nat -> Nat -> Bool} (hr : ∀ i j, r i j = true -> i < j) {i j : Nat} (hj : j < 5) : rI (rowI r) i j = r i j := by
 by_cases h : i < j
 . cases j with
   | zero => exact absurd h (not_lt_zero i)
   | succ j =>
     cases j with
     | zero =>
       cases i with
       | zero => rfl
       | succ i =>
         exact absurd (lt_of_succ_lt_succ h) (not_lt_zero i)
     | succ j =>
       cases j with
       | zero =>
         cases i with
         | zero => rfl
         | succ i =>
           cases i with
           | zero => rfl
           | succ i =>
             exact absurd (lt_of_succ_lt_succ (lt_of_succ_lt_succ h)) (not_lt_zero i)
       | succ j =>
         cases j with
         | zero =>
           cases i with
           | zero => rfl
           | succ i =>
             cases i with
             | zero => rfl
             | succ i =>
               cases i with
               | zero => rfl
               | succ i =>
                 exact absurd (lt_of_succ_lt_succ (lt_of_succ_lt_succ (lt_of_succ_lt_succ h))) (not_lt_zero i)
         | succ j =>
           cases j with
           | zero =>
             cases i with
             | zero => rfl
             | succ i =>
               cases i with
               | zero => rfl
               | succ i =>
                 cases i with
                 | zero => rfl
                 | succ i =>
                   cases i with
                   | zero => rfl
                   | succ i =>
                     exact absurd (lt_of_succ_lt_succ (lt_of_succ_lt_succ (lt_of_succ_lt_succ (lt_of_succ_lt_succ h)))) (not_lt_zero i)
           | succ j =>
             exact absurd hj (Nat.not_lt.mpr (Nat.le_add_left 5 j))
 . have e1 : Nat.blt i j = false := by
     cases z : Nat.blt i j
     . rfl
     . exact absurd (by simpa using z) h
   have e2 : r i j = false := by
     cases z : r i j
     . rfl
     . exact absurd (hr i j z) h
   unfold rI; (refine (Eq.symm e1) ▸ ?_; refine (Eq.symm e2) ▸ ?_); rfl
theorem qqd {a b : Bool} : beqB a b = true ↔ a = b := by cases a <;> cases b <;> decide
theorem qj1 {n : Nat} {r : Nat -> Nat -> Bool} (h1 : 2 ≤ n) (h2 : n ≤ 5) (hr : ∀ i j, r i j = true -> i < j) (ht : ∀ i j k, r i j = true -> r j k = true -> r i k = true) :
   (∃ i j, i < n ∧ j < n ∧ i ≠ j ∧ r j i = false ∧ ∀ k < n, k ≠ i -> k ≠ j -> r k i = r k j ∧ r i k = r j k) ∨
   ∃ a b c d, a < n ∧ b < n ∧ c < n ∧ d < n ∧ r a c = true ∧ r b c = true ∧ r b a = false ∧ r b d = true ∧ r a d = false ∧ r d c = false := by
 have hc := all_eq_true.mp (qrv h1 h2) (rowI r) (qlt (rowI r)); have e : ∀ i j, j < n -> rI (rowI r) i j = r i j := fun i j hj => qs6 hr (by lia); have htr : trI n (rI (rowI r)) = true := by
   unfold trI; simp only [all_eq_true, mem_range, Bool.or_eq_true, Bool.not_eq_true']; intro i hi j hj; rw [e i j hj]; cases hij : r i j
   . exact .inl rfl
   . refine .inr fun k hk => ?_; rw [e j k hk, e i k hk]; cases hjk : r j k
     . exact .inl rfl
     . exact .inr (ht i j k hij hjk)
 rw [htr] at hc; simp only [Bool.not_true, Bool.false_or, Bool.or_eq_true] at hc; rcases hc with hc | hc
 . left; unfold twI at hc; simp only [any_eq_true, mem_range, Bool.and_eq_true, Bool.not_eq_true'] at hc; obtain ⟨i, hi, j, hj, hij, hm⟩ := hc; unfold mkI at hm; simp only [all_eq_true, mem_range, Bool.and_eq_true, Bool.not_eq_true', Bool.or_eq_true, qqd] at hm; obtain ⟨m1, m2⟩ := hm; refine ⟨i, j, hi, hj, fun z => ?_, by rw [← e j i hi]; exact m1, fun k hk hki hkj => ?_⟩
   . subst z; simp at hij
   . rcases m2 k hk with (z | z) | z
     . exact absurd (Nat.eq_of_beq_eq_true z) hki
     . exact absurd (Nat.eq_of_beq_eq_true z) hkj
     . rw [e k i hi, e k j hj, e i k hk, e j k hk] at z; exact z
 . right; unfold noI at hc; simp only [any_eq_true, mem_range, Bool.and_eq_true, Bool.not_eq_true'] at hc; obtain ⟨a, ha, c, hc', h3, b, hb, h4, h5, d, hd, h6, h7, h8⟩ := hc; rw [e _ _ hc'] at h3 h4 h8; rw [e _ _ ha] at h5; rw [e _ _ hd] at h6 h7; exact ⟨a, b, c, d, ha, hb, hc', hd, h3, h4, h5, h6, h7, h8⟩
section
variable {ls L : List Str} {ps : List (Str × Str)} {rel : Str -> Str -> Bool}
theorem qmy (O : Po ls L ps rel) (h5 : L.length ≤ 5) {ns : List Str} (hnd : ns.Nodup) (hns : ∀ s ∈ ns, s ∈ ls) (hls : ls.Nodup) (h2 : 2 ≤ ns.length) (hm : ∀ x ∈ ns, ∀ y ∈ ns, x ≠ y -> markF (dnS ls rel ns) (upS ls rel ns) x y = Str.ofString "") :
   ∃ a b c d, rel a c = true ∧ rel b c = true ∧ rel b a = false ∧ rel b d = true ∧ rel a d = false ∧ rel d c = false := by
 have hM : ∀ s, s ∈ L.filter (fun s => ns.contains s) ↔ s ∈ ns := fun s => by
   rw [mem_filter, contains_iff_mem]; exact ⟨fun h => h.2, fun h => ⟨(O.mem s).mpr (hns s h), h⟩⟩
 have hMn : (L.filter fun s => ns.contains s).Nodup := O.nd.filter _; have hMl : (L.filter fun s => ns.contains s).length ≤ L.length := length_filter_le ..; have hMl2 : ns.length ≤ (L.filter fun s => ns.contains s).length := qbk hnd fun x hx => (hM x).mpr hx; have hsub : (L.filter fun s => ns.contains s).Sublist L := filter_sublist; generalize L.filter (fun s => ns.contains s) = M at hM hMn hMl hMl2 hsub; have hord : ∀ (i j : Nat) (x y : Str), M[i]? = some x -> M[j]? = some y -> rel x y = true -> i < j := by
   intro i j x y hi hj hr; refine Classical.byContradiction fun hn => ?_; rcases Nat.lt_or_eq_of_le (Nat.le_of_not_lt hn) with h | h
   . obtain ⟨i1, e1⟩ := List.getElem?_eq_some_iff.mp hi; obtain ⟨j1, e2⟩ := List.getElem?_eq_some_iff.mp hj; have hp : [y, x].Sublist M := by
       have := (List.pairwise_iff_getElem (R := fun a b : Str => [a, b].Sublist M)).mp (List.pairwise_iff_forall_sublist.mpr fun h => h) j i j1 i1 h; rw [e1, e2] at this; exact this
     have hp2 := hp.trans hsub; obtain ⟨p, q, l1, l2, l3⟩ := O.lt x y hr; obtain ⟨p1, f1⟩ := List.getElem?_eq_some_iff.mp l2; obtain ⟨q1, f2⟩ := List.getElem?_eq_some_iff.mp l3; have hq : [x, y].Sublist L := by
       have := (List.pairwise_iff_getElem (R := fun a b : Str => [a, b].Sublist L)).mp (List.pairwise_iff_forall_sublist.mpr fun h => h) p q p1 q1 l1; rw [f1, f2] at this; exact this
     have hc : ∀ {l : List Str}, l.Nodup -> [x, y].Sublist l -> [y, x].Sublist l -> False := by
       intro l hl s1 s2
       induction l with
       | nil => exact nomatch s1
       | cons a r ih =>
         have hln := nodup_cons.mp hl; cases s1 with
         | cons _ s1 =>
           cases s2 with
           | cons _ s2 => exact ih hln.2 s1 s2
           | cons_cons _ s2 => exact hln.1 (s1.subset (by simp))
         | cons_cons _ s1 =>
           cases s2 with
           | cons _ s2 => exact hln.1 (s2.subset (by simp))
           | cons_cons _ s2 => exact hln.1 (s1.subset (mem_cons_self))
     exact hc O.nd hq hp2
   . subst h; rw [hi] at hj; obtain rfl := sj0_ hj; rw [O.irr] at hr; exact nomatch hr
 let r : Nat -> Nat -> Bool := fun i j => match M[i]?, M[j]? with | some a, some b => rel a b | _, _ => false
 have hr1 : ∀ {i j : Nat} {x y : Str}, M[i]? = some x -> M[j]? = some y -> r i j = rel x y := fun hi hj => by
   show (match M[_]?, M[_]? with | some a, some b => rel a b | _, _ => false) = _; rw [hi, hj]
 have hr2 : ∀ i j, r i j = true -> ∃ x y, M[i]? = some x ∧ M[j]? = some y ∧ rel x y = true := fun i j h => by
   have h : (match M[i]?, M[j]? with | some a, some b => rel a b | _, _ => false) = true := h; cases hi : M[i]? with
   | none => rw [hi] at h; exact nomatch h
   | some x =>
     cases hj : M[j]? with
     | none => rw [hi, hj] at h; exact nomatch h
     | some y => rw [hi, hj] at h; exact ⟨x, y, rfl, rfl, h⟩
 have hg : ∀ i, i < M.length -> ∃ x, M[i]? = some x := fun i hi => ⟨_, getElem?_eq_getElem hi⟩; rcases qj1 (n := M.length) (r := r) (by lia) (by lia) (fun i j h => by
     obtain ⟨x, y, e1, e2, e3⟩ := hr2 i j h; exact hord i j x y e1 e2 e3) (fun i j k h h' => by
     obtain ⟨x, y, e1, e2, e3⟩ := hr2 i j h; obtain ⟨y', z, e4, e5, e6⟩ := hr2 j k h'; rw [e2] at e4; obtain rfl := sj0_ e4; rw [hr1 e1 e5]; exact O.tr e3 e6) with ⟨i, j, hi, hj, hij, hji, hk⟩ | ⟨a, b, c, d, ha, hb, hc, hd, h1, h2, h3, h4, h6, h7⟩
 . exfalso; obtain ⟨x, ex⟩ := hg i hi; obtain ⟨y, ey⟩ := hg j hj; have hx : x ∈ ns := (hM x).mp (mem_of_getElem? ex); have hy : y ∈ ns := (hM y).mp (mem_of_getElem? ey); have hxy : x ≠ y := fun z => hij (qeh hMn ex (by rw [z]; exact ey)); refine qse (b := rel x y) hls O.irr hns hx hy hxy ⟨fun o ho hox hoy => ?_, fun o ho hox hoy => ?_, rfl, by rw [← hr1 ey ex]; exact hji⟩ (hm x hx y hy hxy)
   all_goals
     obtain ⟨k, hk1, eo⟩ := List.getElem_of_mem ((hM o).mpr ho); have ek : M[k]? = some o := by rw [← eo]; exact getElem?_eq_getElem hk1
     have := hk k hk1 (fun z => hox (by rw [z, ex] at ek; exact (sj0_ ek).symm)) (fun z => hoy (by rw [z, ey] at ek; exact (sj0_ ek).symm)); rw [hr1 ek ex, hr1 ek ey, hr1 ex ek, hr1 ey ek] at this
     first | exact this.1 | exact this.2
 . obtain ⟨xa, ea⟩ := hg a ha; obtain ⟨xb, eb⟩ := hg b hb; obtain ⟨xc, ec⟩ := hg c hc; obtain ⟨xd, ed⟩ := hg d hd; rw [hr1 ea ec] at h1; rw [hr1 eb ec] at h2; rw [hr1 eb ea] at h3; rw [hr1 eb ed] at h4; rw [hr1 ea ed] at h6; rw [hr1 ed ec] at h7; exact ⟨xa, xb, xc, xd, h1, h2, h3, h4, h6, h7⟩
end
section
variable {rel : Str -> Str -> Bool}
theorem qsg {b : Bool} {l r : Tr} (h : ∀ a ∈ l.leaves, ∀ c ∈ r.leaves, rel a c = b ∧ rel c a = false) : ∀ (x y : Str) (sx sy : Bool), (if sx then x ∈ l.leaves else x ∈ r.leaves) -> (if sy then y ∈ l.leaves else y ∈ r.leaves) -> sx ≠ sy -> rel x y = (b && sx) := by
 intro x y sx sy hx hy hne; cases sx <;> cases sy
 . exact absurd rfl hne
 . rw [(h y hy x hx).2]; cases b <;> rfl
 . rw [(h x hx y hy).1]; cases b <;> rfl
 . exact absurd rfl hne
theorem qio {l r : Tr} {x : Str} (h : x ∈ l.leaves ++ r.leaves) : ∃ s : Bool, if s then x ∈ l.leaves else x ∈ r.leaves := by
 rcases mem_append.mp h with h | h
 . exact ⟨true, h⟩
 . exact ⟨false, h⟩
theorem qoh : ∀ v sa sb sc sd : Bool, ¬ (sa = sb ∧ sb = sc ∧ sc = sd) -> (sa ≠ sc -> true = (v && sa)) -> (sb ≠ sc -> true = (v && sb)) -> (sb ≠ sa -> false = (v && sb)) -> (sb ≠ sd -> true = (v && sb)) -> (sa ≠ sd -> false = (v && sa)) -> (sd ≠ sc -> false = (v && sd)) -> False := by decide
theorem qsf : ∀ {t : Tr}, t.Ok rel -> ∀ a ∈ t.leaves, ∀ b ∈ t.leaves, ∀ c ∈ t.leaves, ∀ d ∈ t.leaves, rel a c = true -> rel b c = true -> rel b a = false -> rel b d = true -> rel a d = false -> rel d c = false -> False := by
 intro t
 induction t with
 | leaf x =>
   intro h a ha b hb c hc d hd h1 h2 h3 h4 h5 h6; have h : rel x x = false := h; rw [mem_singleton.mp ha, mem_singleton.mp hc, h] at h1; exact Bool.noConfusion h1
 | nod v l r ihl ihr =>
   intro hok a ha b hb c hc d hd h1 h2 h3 h4 h5 h6; obtain ⟨hl, hr, hx⟩ := hok; have key := qsg hx; obtain ⟨sa, ma⟩ := qio ha; obtain ⟨sb, mb⟩ := qio hb; obtain ⟨sc, mc⟩ := qio hc; obtain ⟨sd, md⟩ := qio hd; by_cases e1 : sa = sb ∧ sb = sc ∧ sc = sd
   . obtain ⟨rfl, rfl, rfl⟩ := e1; cases sa
     . exact ihr hr a ma b mb c mc d md h1 h2 h3 h4 h5 h6
     . exact ihl hl a ma b mb c mc d md h1 h2 h3 h4 h5 h6
   . have k1 := key a c sa sc ma mc; have k2 := key b c sb sc mb mc; have k3 := key b a sb sa mb ma; have k4 := key b d sb sd mb md; have k5 := key a d sa sd ma md; have k6 := key d c sd sc md mc; rw [h1] at k1; rw [h2] at k2; rw [h3] at k3; rw [h4] at k4; rw [h5] at k5; rw [h6] at k6; exact qoh v sa sb sc sd e1 k1 k2 k3 k4 k5 k6
theorem qq1 {R : Str -> Str -> Prop} : ∀ {c : List Str}, c.Pairwise R -> ∀ u ∈ c, ∀ v ∈ c, u = v ∨ R u v ∨ R v u := by
 intro c
 induction c with
 | nil =>
   intro _ u hu _ _; exact nomatch hu
 | cons x r ih =>
   intro h u hu v hv; obtain ⟨h1, h2⟩ := pairwise_cons.mp h; rcases mem_cons.mp hu with ku | ku <;> rcases mem_cons.mp hv with kv | kv
   . exact .inl (ku.trans kv.symm)
   . (refine (Eq.symm ku) ▸ ?_); exact .inr (.inl (h1 _ kv))
   . (refine (Eq.symm kv) ▸ ?_); exact .inr (.inr (h1 _ ku))
   . exact ih h2 u ku v kv
theorem qov (p : Str -> Bool) : ∀ c : List Str, c.length = (c.filter p).length + (c.filter fun x => !p x).length := by
 intro c
 induction c with
 | nil => rfl
 | cons x r ih =>
   rw [filter_cons, filter_cons, length_cons, ih]; cases p x
   . exact (Nat.add_assoc _ _ 1)
   . exact (add_right_comm _ _ 1)
theorem qqx : ∀ {t : Tr}, t.Ok rel -> ∀ c : List Str, (∀ x ∈ c, x ∈ t.leaves) -> c.Pairwise (fun a b => rel a b = true) -> c.length ≤ t.hgt := by
 intro t
 induction t with
 | leaf x =>
   intro h c hc hp; have h : rel x x = false := h; cases c with
   | nil => exact zero_le _
   | cons u r =>
     cases r with
     | nil => exact le_refl _
     | cons v r =>
       have := (pairwise_cons.mp hp).1 v (mem_cons_self ..); rw [mem_singleton.mp (hc u (mem_cons_self ..)), mem_singleton.mp (hc v (mem_cons_of_mem _ (mem_cons_self ..))), h] at this; exact Bool.noConfusion this
 | nod b l r ihl ihr =>
   intro hok c hc hp; obtain ⟨hl, hr, hx⟩ := hok; have c1 : ∀ x ∈ c.filter (fun x => l.leaves.contains x), x ∈ l.leaves := fun x h => contains_iff_mem.mp (mem_filter.mp h).2; have c2 : ∀ x ∈ c.filter (fun x => !l.leaves.contains x), x ∈ r.leaves := fun x h => by
     obtain ⟨g1, g2⟩ := mem_filter.mp h; rcases mem_append.mp (hc x g1) with z | z
     . rw [contains_iff_mem.mpr z] at g2; exact Bool.noConfusion g2
     . exact z
   have i1 := ihl hl _ c1 (hp.filter _); have i2 := ihr hr _ c2 (hp.filter _); rw [qov (fun x => l.leaves.contains x) c]; cases b
   . have : (c.filter fun x => l.leaves.contains x) = [] ∨ (c.filter fun x => !l.leaves.contains x) = [] := by
       refine Classical.byContradiction fun hn => ?_; rw [not_or] at hn; obtain ⟨u, hu⟩ := List.exists_mem_of_ne_nil _ hn.1; obtain ⟨v, hv⟩ := List.exists_mem_of_ne_nil _ hn.2; have := hx u (c1 u hu) v (c2 v hv); rcases qq1 hp u (mem_filter.mp hu).1 v (mem_filter.mp hv).1 with z | z | z
       . subst z; have g2 := (mem_filter.mp hv).2; rw [(mem_filter.mp hu).2] at g2; exact Bool.noConfusion g2
       . rw [this.1] at z; exact Bool.noConfusion z
       . rw [this.2] at z; exact Bool.noConfusion z
     rcases this with z | z <;> rw [z]
     . rw [length_nil, zero_add]; exact le_trans i2 (Nat.le_max_right _ _)
     . exact le_trans i1 (Nat.le_max_left _ _)
   . exact Nat.add_le_add i1 i2
theorem qs4 : ∀ {t : Tr}, t.Ok rel -> ∃ c : List Str, (∀ x ∈ c, x ∈ t.leaves) ∧ c.Pairwise (fun a b => rel a b = true) ∧ c.length = t.hgt := by
 intro t
 induction t with
 | leaf x => exact fun _ => ⟨[x], fun y hy => hy, List.pairwise_singleton .., rfl⟩
 | nod b l r ihl ihr =>
   intro hok; obtain ⟨hl, hr, hx⟩ := hok; obtain ⟨c1, m1, p1, e1⟩ := ihl hl; obtain ⟨c2, m2, p2, e2⟩ := ihr hr; cases b
   . by_cases h : l.hgt ≤ r.hgt
     . exact ⟨c2, fun x hx => mem_append_right _ (m2 x hx), p2, e2.trans (Nat.max_eq_right h).symm⟩
     . exact ⟨c1, fun x hx => mem_append_left _ (m1 x hx), p1, e1.trans (Nat.max_eq_left (le_of_lt (Nat.lt_of_not_le h))).symm⟩
   . refine ⟨c1 ++ c2, fun x hx => ?_, List.pairwise_append.mpr ⟨p1, p2, fun a ha b hb => (hx a (m1 a ha) b (m2 b hb)).1⟩, by rw [length_append, e1, e2]; rfl⟩; rcases mem_append.mp hx with z | z
     . exact mem_append_left _ (m1 x z)
     . exact mem_append_right _ (m2 x z)
theorem qr6 : ∀ t : Tr, 0 < t.hgt := by
 intro t
 induction t with
 | leaf _ => exact Nat.one_pos
 | nod b l r ihl ihr =>
   cases b
   . exact lt_of_lt_of_le ihl (Nat.le_max_left _ _)
   . exact lt_of_lt_of_le ihl (Nat.le_add_right _ _)
theorem qe4 {xs ys : List Str} {a b : Str} : (a, b) ∈ qgw xs ys ↔ a ∈ xs ∧ b ∈ ys := by
 unfold qgw; simp
theorem qdq : ∀ {t : Tr} {a b : Str}, (a, b) ∈ t.prs -> a ∈ t.leaves ∧ b ∈ t.leaves := by
 intro t
 induction t with
 | leaf x => exact fun h => nomatch h
 | nod v l r ihl ihr =>
   intro a b h; have h : (a, b) ∈ l.prs ∨ (a, b) ∈ r.prs ∨ (a, b) ∈ qgw l.leaves r.leaves := by
     cases v
     . rcases mem_append.mp h with h | h
       . exact .inl h
       . exact .inr (.inl h)
     . rcases mem_append.mp h with h | h
       . rcases mem_append.mp h with h | h
         . exact .inl h
         . exact .inr (.inl h)
       . exact .inr (.inr h)
   rcases h with h | h | h
   . exact ⟨mem_append_left _ (ihl h).1, mem_append_left _ (ihl h).2⟩
   . exact ⟨mem_append_right _ (ihr h).1, mem_append_right _ (ihr h).2⟩
   . exact ⟨mem_append_left _ (qe4.mp h).1, mem_append_right _ (qe4.mp h).2⟩
theorem qsb {v : Bool} {l r : Tr} {a b : Str} : (a, b) ∈ (Tr.nod v l r).prs ↔ (a, b) ∈ l.prs ∨ (a, b) ∈ r.prs ∨ v = true ∧ a ∈ l.leaves ∧ b ∈ r.leaves := by
 cases v
 . show _ ∈ l.prs ++ r.prs ↔ _; rw [mem_append]; simp
 . show _ ∈ (l.prs ++ r.prs) ++ qgw l.leaves r.leaves ↔ _; rw [mem_append, mem_append, qe4]; simp [or_assoc]
theorem qrj : ∀ {t : Tr}, t.Ok rel -> ∀ a ∈ t.leaves, ∀ b ∈ t.leaves, (rel a b = true ↔ (a, b) ∈ t.prs) := by
 intro t
 induction t with
 | leaf x =>
   intro h a ha b hb; have h : rel x x = false := h; rw [mem_singleton.mp ha, mem_singleton.mp hb, h]; exact ⟨fun z => Bool.noConfusion z, fun z => nomatch z⟩
 | nod v l r ihl ihr =>
   intro hok a ha b hb; obtain ⟨hl, hr, hx⟩ := hok; rw [qsb]; constructor
   . intro h; rcases mem_append.mp ha with ha | ha <;> rcases mem_append.mp hb with hb | hb
     . exact .inl ((ihl hl a ha b hb).mp h)
     . exact .inr (.inr ⟨(hx a ha b hb).1.symm.trans h, ha, hb⟩)
     . rw [(hx b hb a ha).2] at h; exact Bool.noConfusion h
     . exact .inr (.inl ((ihr hr a ha b hb).mp h))
   . rintro (h | h | ⟨rfl, h1, h2⟩)
     . exact (ihl hl a (qdq h).1 b (qdq h).2).mpr h
     . exact (ihr hr a (qdq h).1 b (qdq h).2).mpr h
     . exact (hx a h1 b h2).1
theorem qkr {xs ys : List Str} (h1 : xs.Nodup) (h2 : ys.Nodup) : (qgw xs ys).Nodup := by
 refine List.pairwise_flatMap.mpr ⟨fun a _ => pairwise_map.mpr (h2.imp fun h z => h (Prod.mk.inj z).2), h1.imp fun h x hx y hy z => ?_⟩; obtain ⟨_, _, rfl⟩ := mem_map.mp hx; obtain ⟨_, _, rfl⟩ := mem_map.mp hy; exact h (Prod.mk.inj z).1
theorem qju : ∀ {t : Tr}, t.leaves.Nodup -> t.prs.Nodup := by
 intro t
 induction t with
 | leaf x => exact fun _ => nodup_nil
 | nod v l r ihl ihr =>
   intro h; obtain ⟨h1, h2, h3⟩ := nodup_append.mp h; have e1 : (l.prs ++ r.prs).Nodup := nodup_append.mpr ⟨ihl h1, ihr h2, fun a ha b hb z => by
     subst z; exact h3 _ (qdq ha).1 _ (qdq hb).1 rfl⟩
   cases v
   . exact e1
   . refine nodup_append.mpr ⟨e1, qkr h1 h2, fun a ha b hb z => ?_⟩; subst z; obtain ⟨u, w⟩ := a; obtain ⟨g1, g2⟩ := qe4.mp hb; rcases mem_append.mp ha with k | k
     . exact h3 _ (qdq k).2 _ g2 rfl
     . exact h3 _ g1 _ (qdq k).1 rfl
end
section
variable {ls L : List Str} {ps : List (Str × Str)} {rel : Str -> Str -> Bool} {af : Str -> List Str}
theorem Po.at_ (O : Po ls L ps rel) {s : Str} (h : s ∈ ls) : ∃ i : Nat, L[i]? = some s := getElem?_of_mem ((O.mem s).mpr h)
theorem Po.up (O : Po ls L ps rel) (haf : ∀ s ∈ ls, ∀ t, t ∈ af s ↔ (t, s) ∈ ps) {a b : Str} (h : Pth ps a b) : ∀ {r : Nat}, a ∈ Gn af ls r -> b ∈ Gn af ls (r + 1) := by
 induction h with
 | one e =>
   intro r hr; have hb := O.inr ((O.pth _ _).mpr (.one e)); exact qnh hb ((haf _ hb _).mpr e) hr
 | more p e ih =>
   intro r hr; have hb := O.inr ((O.pth _ _).mpr (.more p e)); exact qnh hb ((haf _ hb _).mpr e) (qdw (ih hr))
theorem Po.chain_gn (O : Po ls L ps rel) (haf : ∀ s ∈ ls, ∀ t, t ∈ af s ↔ (t, s) ∈ ps) : ∀ (c : List Str) (r : Nat) (s : Str), s ∈ Gn af ls r -> (s :: c).Pairwise (fun a b => rel a b = true) -> ∃ u, u ∈ Gn af ls (r + c.length) := by
 intro c
 induction c with
 | nil => exact fun r s h _ => ⟨s, h⟩
 | cons x c ih =>
   intro r s h hp; obtain ⟨h1, h2⟩ := pairwise_cons.mp hp; obtain ⟨u, hu⟩ := ih (r + 1) x (O.up haf ((O.pth _ _).mp (h1 x (mem_cons_self ..))) h) h2; exact ⟨u, by rw [length_cons, add_comm c.length 1, ← Nat.add_assoc]; exact hu⟩
theorem Po.gn_chain (O : Po ls L ps rel) (haf : ∀ s ∈ ls, ∀ t, t ∈ af s ↔ (t, s) ∈ ps) : ∀ (r : Nat) (s : Str), s ∈ Gn af ls r -> ∃ c : List Str, c.length = r + 1 ∧ (∀ x ∈ c, x ∈ ls) ∧ c.Pairwise (fun a b => rel a b = true) ∧ ∀ x ∈ c, x = s ∨ rel x s = true := by
 intro r
 induction r with
 | zero => exact fun s h => ⟨[s], rfl, fun x hx => by rw [mem_singleton.mp hx]; exact h, List.pairwise_singleton .., fun x hx => .inl (mem_singleton.mp hx)⟩
 | succ r ih =>
   intro s h; obtain ⟨h1, t, ht, hg⟩ := qfb.mp h; have hs := qfa h1; obtain ⟨c, c1, c2, c3, c4⟩ := ih t hg; have hts : rel t s = true := (O.pth _ _).mpr (.one ((haf s hs t).mp ht)); have hall : ∀ x ∈ c, rel x s = true := fun x hx => by
     rcases c4 x hx with rfl | z
     . exact hts
     . exact O.tr z hts
   refine ⟨c ++ [s], by rw [length_append, c1]; rfl, fun x hx => ?_, List.pairwise_append.mpr ⟨c3, List.pairwise_singleton .., fun a ha b hb => by rw [mem_singleton.mp hb]; exact hall a ha⟩, fun x hx => ?_⟩
   . rcases mem_append.mp hx with z | z
     . exact c2 x z
     . rw [mem_singleton.mp z]; exact hs
   . rcases mem_append.mp hx with z | z
     . exact .inr (hall x z)
     . exact .inl (mem_singleton.mp z)
theorem qr4 {i j : Nat} (h : i ≤ j) {s : Str} (hs : s ∈ Gn af ls j) : s ∈ Gn af ls i := by
 induction h with
 | refl => exact hs
 | step _ ih => exact ih (qdw hs)
theorem Po.empty (O : Po ls L ps rel) (haf : ∀ s ∈ ls, ∀ t, t ∈ af s ↔ (t, s) ∈ ps) {N : Nat} (hst : ∀ s ∈ Gn af ls N, s ∈ Gn af ls (N + 1)) : ∀ (n i : Nat) (s : Str), i < n -> L[i]? = some s -> s ∉ Gn af ls N := by
 intro n
 induction n with
 | zero => exact fun i s h => absurd h (not_lt_zero i)
 | succ n ih =>
   intro i s h hi hs; obtain ⟨_, t, ht, hg⟩ := qfb.mp (hst s hs); obtain ⟨p, q, h1, h2, h3⟩ := O.lt t s ((O.pth _ _).mpr (.one ((haf s (qfa hs) t).mp ht))); have := qeh O.nd h3 hi; subst this; exact ih p t (lt_of_lt_of_le h1 (le_of_lt_succ h)) h2 hg
theorem Po.acc (O : Po ls L ps rel) (haf : ∀ s ∈ ls, ∀ t, t ∈ af s ↔ (t, s) ∈ ps) : ∀ (n i : Nat) (x : Str), L[i]? = some x -> L.length ≤ i + n -> Acc (fun y x => y ∈ ls ∧ x ∈ af y) x := by
 intro n
 induction n with
 | zero =>
   intro i x hi hn; exact absurd (List.getElem?_eq_some_iff.mp hi).1 (Nat.not_lt.mpr hn)
 | succ n ih =>
   intro i x hi hn; refine .intro _ fun y hy => ?_; obtain ⟨p, q, h1, h2, h3⟩ := O.lt x y ((O.pth _ _).mpr (.one ((haf y hy.1 x).mp hy.2))); have := qeh O.nd h2 hi; subst this; exact ih q y h3 (by omega)
variable {gs : List (List Str)}
theorem qcb.none (K : qcb af ls gs) (O : Po ls L ps rel) (haf : ∀ s ∈ ls, ∀ t, t ∈ af s ↔ (t, s) ∈ ps) (s : Str) : s ∉ Gn af ls gs.length := fun h => by
 obtain ⟨i, hi⟩ := O.at_ (qfa h); exact O.empty haf K.stop (i + 1) i s (by lia) hi h
theorem qm7 (K : qcb af ls gs) (O : Po ls L ps rel) (haf : ∀ s ∈ ls, ∀ t, t ∈ af s ↔ (t, s) ∈ ps) {t : Tr} (ht : t.Ok rel) (hl : ∀ s, s ∈ t.leaves ↔ s ∈ ls) : gs.length = t.hgt := by
 refine le_antisymm ?_ ?_
 . cases hg : gs.length with
   | zero => exact zero_le _
   | succ n =>
     have hn : n < gs.length := by lia
     obtain ⟨g1, g2, g3⟩ := K.rd n gs[n] (getElem?_eq_getElem hn); obtain ⟨s, hs⟩ := List.exists_mem_of_ne_nil _ g1; obtain ⟨c, c1, c2, c3, _⟩ := O.gn_chain haf n s ((g3 s).mp hs).1; (refine c1 ▸ ?_); exact qqx ht c (fun x hx => (hl x).mpr (c2 x hx)) c3
 . obtain ⟨c, c1, c2, c3⟩ := qs4 ht; have hp := qr6 t; cases c with
   | nil => rw [length_nil] at c3; lia
   | cons x c =>
     obtain ⟨u, hu⟩ := O.chain_gn haf c 0 x ((hl x).mp (c1 x (mem_cons_self))) c2; rw [zero_add] at hu; rw [length_cons] at c3; refine Classical.byContradiction fun hn => ?_; exact K.none O haf u (qr4 (by lia) hu)
theorem qcb.mem_at (K : qcb af ls gs) {s : Str} (hs : s ∈ ls) : ∀ n, n ≤ gs.length -> s ∉ Gn af ls n -> ∃ (i : Nat) (g : List Str), gs[i]? = some g ∧ s ∈ g := by
 intro n
 induction n with
 | zero => exact fun _ h => absurd hs h
 | succ n ih =>
   intro hn h; by_cases z : s ∈ Gn af ls n
   . exact ⟨n, gs[n], getElem?_eq_getElem hn, ((K.rd n _ (getElem?_eq_getElem hn)).2.2 s).mpr ⟨z, h⟩⟩
   . exact ih (le_of_lt hn) z
theorem qcb.mem (K : qcb af ls gs) (O : Po ls L ps rel) (haf : ∀ s ∈ ls, ∀ t, t ∈ af s ↔ (t, s) ∈ ps) (s : Str) : s ∈ gs.flatten ↔ s ∈ ls := by
 rw [List.mem_flatten]; constructor
 . rintro ⟨g, hg, hs⟩; obtain ⟨i, hi⟩ := getElem?_of_mem hg; exact qfa (((K.rd i g hi).2.2 s).mp hs).1
 . intro hs; obtain ⟨i, g, hi, hg⟩ := K.mem_at hs gs.length (le_refl _) (K.none O haf s); exact ⟨g, mem_of_getElem? hi, hg⟩
theorem qcb.pairs (K : qcb af ls gs) {R : Str -> Str -> Prop} (h1 : ∀ g ∈ gs, g.Pairwise R) (h : ∀ i j, i < j -> ∀ x y, x ∉ Gn af ls (i + 1) -> x ∈ ls -> y ∈ Gn af ls j -> R x y) : gs.flatten.Pairwise R := by
 refine List.pairwise_flatten.mpr ⟨h1, List.pairwise_iff_getElem.mpr fun i j hi hj hij x hx y hy => ?_⟩; have gx := ((K.rd i _ (getElem?_eq_getElem hi)).2.2 x).mp hx; have gy := ((K.rd j _ (getElem?_eq_getElem hj)).2.2 y).mp hy; exact h i j hij x y gx.2 (qfa gx.1) gy.1
theorem qcb.nodup (K : qcb af ls gs) : gs.flatten.Nodup := by
 refine K.pairs (fun g hg => ?_) fun i j hij x y hx _ hy z => ?_
 . obtain ⟨i, hi⟩ := getElem?_of_mem hg; exact (K.rd i g hi).2.1
 . subst z; exact hx (qr4 ‹_› hy)
theorem qcb.top (K : qcb af ls gs) (O : Po ls L ps rel) (haf : ∀ s ∈ ls, ∀ t, t ∈ af s ↔ (t, s) ∈ ps) : ∀ dn s r, gs.flatten = dn ++ s :: r -> ∀ t ∈ af s, t ∈ dn := by
 intro dn s r hd t ht; have hp : gs.flatten.Pairwise fun x y => y ∉ af x := by
   refine K.pairs (fun g hg => ?_) fun i j hij x y hx hxl hy z => hx (qnh hxl z (qr4 (le_of_lt ‹_›) hy)); obtain ⟨i, hi⟩ := getElem?_of_mem hg; have k := (K.rd i g hi).2.2; refine List.pairwise_of_forall_mem_list fun x hx y hy z => ?_; exact ((k x).mp hx).2 (qnh (qfa ((k x).mp hx).1) z ((k y).mp hy).1)
 have hs : s ∈ ls := (K.mem O haf s).mp (by (refine (Eq.symm hd) ▸ ?_); simp); have hts : rel t s = true := (O.pth _ _).mpr (.one ((haf s hs t).mp ht)); have htm : t ∈ gs.flatten := (K.mem O haf t).mpr (O.inl hts); rw [hd] at htm hp; rcases mem_append.mp htm with z | z
 . exact z
 . exfalso; rcases mem_cons.mp z with rfl | z
   . rw [O.irr] at hts; exact nomatch hts
   . exact (pairwise_cons.mp (List.pairwise_append.mp hp).2.1).1 t z ht
end
theorem qmv : ∀ t : Tr, 0 < t.leaves.length := by
 intro t
 induction t with
 | leaf _ => exact Nat.one_pos
 | nod b l r ihl _ => exact lt_of_lt_of_le ihl (by show _ ≤ (l.leaves ++ r.leaves).length; rw [length_append]; exact Nat.le_add_right _ _)
theorem qds (x y : Str) : (x ++ y).length = x.length + y.length := by
 show (x.cps ++ y.cps).size = _; exact Array.size_append
theorem qc7 (x y : Str) : (x ++ y).cps.toList = x.cps.toList ++ y.cps.toList := by
 show (x.cps ++ y.cps).toList = _; exact Array.toList_append
theorem qip : ∀ t : Tr, (∀ s ∈ t.leaves, s ∈ lets) -> t.text.length + 3 = 4 * t.leaves.length
 | .leaf x, h => by
   have : ∀ x ∈ lets, x.length = 1 := by decide +kernel
   have := this x (h x (mem_singleton.mpr rfl)); show x.length + 3 = 4; lia
 | .nod b l r, h => by
   have h1 := qip l fun s hs => h s (mem_append_left _ hs); have h2 := qip r fun s hs => h s (mem_append_right _ hs); have e1 : (Str.ofString "(").length = 1 := by decide +kernel
   have e2 : (Str.ofString ")").length = 1 := by decide +kernel
   have e3 : (mkT b).length = 1 := by cases b <;> decide +kernel
   show ((((Str.ofString "(" ++ l.text) ++ mkT b) ++ r.text) ++ Str.ofString ")").length + 3 = 4 * (l.leaves ++ r.leaves).length; rw [qds, qds, qds, qds, length_append, e1, e2, e3]; lia
theorem qed : ∀ t : Tr, (∀ s ∈ t.leaves, s ∈ lets) -> ∀ c ∈ t.text.cps.toList, okC c
 | .leaf x, h => by
   have : ∀ x ∈ lets, ∀ c ∈ x.cps.toList, c ∈ [40, 41, 59, 124, 97, 98, 99, 100, 101] := by decide +kernel
   exact this x (h x (mem_singleton.mpr rfl))
 | .nod b l r, h => by
   have h1 := qed l fun s hs => h s (mem_append_left _ hs); have h2 := qed r fun s hs => h s (mem_append_right _ hs); have e1 : ∀ c ∈ (Str.ofString "(").cps.toList, c ∈ [40, 41, 59, 124, 97, 98, 99, 100, 101] := by decide +kernel
   have e2 : ∀ c ∈ (Str.ofString ")").cps.toList, c ∈ [40, 41, 59, 124, 97, 98, 99, 100, 101] := by decide +kernel
   have e3 : ∀ c ∈ (mkT b).cps.toList, c ∈ [40, 41, 59, 124, 97, 98, 99, 100, 101] := by cases b <;> decide +kernel
   show ∀ c ∈ ((((Str.ofString "(" ++ l.text) ++ mkT b) ++ r.text) ++ Str.ofString ")").cps.toList, okC c; rw [qc7, qc7, qc7, qc7]; intro c hc; rcases mem_append.mp hc with hc | hc
   . rcases mem_append.mp hc with hc | hc
     . rcases mem_append.mp hc with hc | hc
       . rcases mem_append.mp hc with hc | hc
         . exact e1 c hc
         . exact h1 c hc
       . exact e3 c hc
     . exact h2 c hc
   . exact e2 c hc
theorem qhz (q : Params) {t : Tr} (h : ∀ s ∈ t.leaves, s ∈ lets) (h5 : t.leaves.length ≤ 5) : qbz (KF q) 53 t.text ∧ t.text.length ≤ 100 := by
 have h1 := qip t h; have h2 := qmv t; refine ⟨qmg q t.text (by lia) (by lia) fun k hk => qed t h _ ?_, by lia⟩; have : t.text.cps.getD k 0 = t.text.cps[k] := by simp [Array.getD, hk]
 rw [this]; exact Array.getElem_mem_toList hk
theorem qng {t : Tr} (h : ∀ s ∈ t.leaves, s ∈ lets) : t.text.cps.all (· < 128) = true := by
 rw [Array.all_eq_true_iff_forall_mem]; intro c hc; have := qed t h c (Array.mem_toList_iff.mpr hc); have h2 : ∀ c ∈ [40, 41, 59, 124, 97, 98, 99, 100, 101], c < 128 := by decide
 exact decide_eq_true (h2 c this)
section
variable {ls L : List Str} {ps : List (Str × Str)} {rel : Str -> Str -> Bool}
theorem FJ.start (O : Po ls L ps rel) (hls : ls.Nodup) {hs : List Str} (hn : hs.Nodup) (hm : ∀ s, s ∈ hs ↔ s ∈ ls) : FJ ls rel (hs.map fun s => (s, Tr.leaf s)) := by
 have e : (hs.map fun s => (s, Tr.leaf s)).flatMap (fun p => p.2.leaves) = hs := by
   clear hn hm
   induction hs with
   | nil => rfl
   | cons x r ih => rw [map_cons, flatMap_cons, ih]; rfl
 refine ⟨?_, ?_, fun p hp => ?_, fun p hp => ?_, fun p hp q hq _ a ha b hb => ?_⟩
 . show ((hs.map fun s => (s, Tr.leaf s)).map (·.1)).Nodup; rw [map_map]; have : ((fun x : Str × Tr => x.1) ∘ fun s => (s, Tr.leaf s)) = id := rfl; rw [this, List.map_id]; exact hn
 . rw [e]; exact (List.perm_ext_iff_of_nodup hn hls).mpr hm
 . obtain ⟨s, _, rfl⟩ := mem_map.mp hp; exact mem_singleton.mpr rfl
 . obtain ⟨s, _, rfl⟩ := mem_map.mp hp; exact O.irr s
 . obtain ⟨s, _, rfl⟩ := mem_map.mp hp; obtain ⟨s', _, rfl⟩ := mem_map.mp hq; rw [mem_singleton.mp ha, mem_singleton.mp hb]
theorem FJ.one {tl : Tl} (F : FJ ls rel tl) (hn : ls ≠ []) (h : tl.ns.length < 2) : ∃ x t, tl = [(x, t)] ∧ t.Ok rel ∧ t.leaves.Perm ls := by
 match tl, F, h with
 | [], F, _ => exact absurd (List.Perm.nil_eq F.lv).symm hn
 | [(x, t)], F, _ =>
   refine ⟨x, t, rfl, F.ins _ (mem_singleton.mpr rfl), ?_⟩; have := F.lv; rw [flatMap_cons] at this; simpa using this
 | _ :: _ :: _, _, h => exfalso; simp only [Tl.ns, map_cons, length_cons] at h; lia
theorem qlu {cl : List (Str × Str)} {a b : Str} : (a, b) ∈ ordF ls cl ↔ a ∈ ls ∧ b ∈ ls ∧ (a, b) ∈ cl := by
 unfold ordF; rw [List.mem_flatMap]; constructor
 . rintro ⟨e, he, h⟩; obtain ⟨l, hl, h⟩ := mem_filterMap.mp h; by_cases hc : cl.contains (e, l) = true
   . rw [if_pos hc] at h; cases h; exact ⟨he, hl, by simpa using hc⟩
   . rw [if_neg hc] at h; exact nomatch h
 . rintro ⟨h1, h2, h3⟩; refine ⟨a, h1, mem_filterMap.mpr ⟨b, h2, ?_⟩⟩; rw [if_pos (by simpa using h3)]
theorem qqy (O : Po ls L ps fun a b => (qa3 ls ps).contains (a, b)) (a b : Str) : (ordF ls (qa3 ls ps)).contains (a, b) = (qa3 ls ps).contains (a, b) := by
 rw [Bool.eq_iff_iff, contains_iff_mem, qlu]; constructor
 . rintro ⟨_, _, h⟩; rw [contains_iff_mem]; exact h
 . intro h; exact ⟨O.inl h, O.inr h, contains_iff_mem.mp h⟩
theorem qhd (h : ls.Pairwise LtS) (cl : List (Str × Str)) : (ordF ls cl).Pairwise fun a b => ltP a b = true := by
 have hin : ∀ (e : Str) (q : Str × Str), q ∈ (ls.filterMap fun l => if cl.contains (e, l) then some (e, l) else none) -> q.1 = e := by
   intro e q hq; obtain ⟨l, _, h⟩ := mem_filterMap.mp hq; by_cases hc : cl.contains (e, l) = true
   . rw [if_pos hc] at h; obtain rfl := sj0_ h; rfl
   . rw [if_neg hc] at h; exact nomatch h
 refine List.pairwise_flatMap.mpr ⟨fun e _ => List.pairwise_filterMap.mpr (h.imp fun {l l'} hl b hb b' hb' => ?_), h.imp fun {e e'} he x hx y hy => ?_⟩
 . by_cases hc : cl.contains (e, l) = true
   . by_cases hc' : cl.contains (e, l') = true
     . rw [if_pos hc] at hb; rw [if_pos hc'] at hb'; obtain rfl := sj0_ hb; obtain rfl := sj0_ hb'; unfold ltP; rw [if_pos rfl]; exact decide_eq_true hl
     . rw [if_neg hc'] at hb'; exact nomatch hb'
   . rw [if_neg hc] at hb; exact nomatch hb
 . unfold ltP; rw [hin e x hx, hin e' y hy, if_neg (qch he)]; exact decide_eq_true he
theorem qoz {a b : Str × Str} (h : ltP a b = true) (k : ltP b a = true) : a = b := by
 unfold ltP at h k; by_cases e : a.1 = b.1
 . rw [if_pos e] at h; rw [if_pos e.symm] at k; exact absurd (of_decide_eq_true k) (qg7 (of_decide_eq_true h))
 . rw [if_neg e] at h; rw [if_neg fun z => e z.symm] at k; exact absurd (of_decide_eq_true k) (qg7 (of_decide_eq_true h))
theorem qji (O : Po ls L ps fun a b => (qa3 ls ps).contains (a, b)) : qjh (ordF ls (qa3 ls ps)) = true ↔ ∃ a b c d, (qa3 ls ps).contains (a, c) = true ∧ (qa3 ls ps).contains (b, c) = true ∧ (qa3 ls ps).contains (b, a) = false ∧ (qa3 ls ps).contains (b, d) = true ∧ (qa3 ls ps).contains (a, d) = false ∧ (qa3 ls ps).contains (d, c) = false := by
 have e := qqy O; unfold qjh qg2; simp only [any_eq_true, Bool.and_eq_true, Bool.not_eq_true', e]; constructor
 . rintro ⟨⟨a, c⟩, h1, ⟨b, d⟩, h2, h3, h4, h5, h6⟩; rw [← contains_iff_mem, e] at h1 h2; exact ⟨a, b, c, d, h1, h3, h5, h2, h4, h6⟩
 . rintro ⟨a, b, c, d, h1, h3, h5, h2, h4, h6⟩; rw [← e, contains_iff_mem] at h1 h2; exact ⟨(a, c), h1, (b, d), h2, h3, h4, h5, h6⟩
theorem qk2 (O : Po ls L ps fun a b => (qa3 ls ps).contains (a, b)) {t : Tr} (ht : t.Ok fun a b => (qa3 ls ps).contains (a, b)) (hl : t.leaves.Perm ls) : qjh (ordF ls (qa3 ls ps)) = false := by
 cases h : qjh (ordF ls (qa3 ls ps))
 . rfl
 . exfalso; obtain ⟨a, b, c, d, h1, h2, h3, h4, h5, h6⟩ := (qji O).mp h; have m : ∀ s, s ∈ ls -> s ∈ t.leaves := fun s hs => hl.mem_iff.mpr hs; exact qsf ht a (m a (O.inl h1)) b (m b (O.inl h2)) c (m c (O.inr h1)) d (m d (O.inr h4)) h1 h2 h3 h4 h5 h6
theorem qm4 (O : Po ls L ps fun a b => (qa3 ls ps).contains (a, b)) (hls : ls.Pairwise LtS) {t : Tr} (ht : t.Ok fun a b => (qa3 ls ps).contains (a, b)) (hl : t.leaves.Perm ls) {qs : List (Str × Str)} (hq : qs.Perm t.prs) (hs : qs.Pairwise fun a b => ltP a b = true) : qs = ordF ls (qa3 ls ps) := by
 have hnd : t.leaves.Nodup := hl.nodup_iff.mpr (hls.imp qch); have hp : t.prs.Perm (ordF ls (qa3 ls ps)) := by
   have hon : (ordF ls (qa3 ls ps)).Nodup := (qhd hls _).imp fun {a b} h z => by
     subst z; unfold ltP at h; rw [if_pos rfl] at h; exact qhx _ (of_decide_eq_true h)
   refine (List.perm_ext_iff_of_nodup (qju hnd) hon).mpr ?_; rintro ⟨a, b⟩; rw [qlu]; constructor
   . intro h; obtain ⟨ha, hb⟩ := qdq h; exact ⟨hl.mem_iff.mp ha, hl.mem_iff.mp hb, contains_iff_mem.mp ((qrj ht a ha b hb).mpr h)⟩
   . rintro ⟨ha, hb, h⟩; exact (qrj ht a (hl.mem_iff.mpr ha) b (hl.mem_iff.mpr hb)).mp (contains_iff_mem.mpr h)
 exact (hq.trans hp).eq_of_pairwise (fun a b _ _ h k => qoz h k) hs (qhd hls _)
end
def GL (c : Cx) (a : Addr) (vs : List V) : Prop := ∃ items : Array Value, c.g.IsList a items ∧ VRs c.g vs items.toList
theorem ql7 {c : Cx} {q : Md} {d : Nat} {A : Around} {env : Env} {m : Map} {H : AH} {P : V -> AH -> Prop} {X : Exc -> AH -> Prop} {pos : Pos} {value : Expr} {lower upper : Option Expr} {pp : Pos}
   (h : awE c q d A env value m H (fun x HJ => qc3 c q d A env lower m HJ (fun y HW => qc3 c q d A env upper m HW (fun z HY => ∃ a vs lo hi, x = .ref a ∧ GL c a vs ∧ vs.length ≤ 100000 ∧ qf3 y lo ∧ qf3 z hi ∧ New HY (.list (sliceV vs lo hi)) P) X) X) X) : awE c q d A env (.Subscript value (.Slice lower upper none pp) pos) m H P X := by
 intro s F; refine qgj (T := "list") list_getitem_lookup (qaj h F (fun x HJ sJ v hp F₁ hv S => ?_) fun _ _ o => o); refine wpAny_Slice (wpAny_mono (hp.ok F₁) (fun vl sW hvl => ?_) fun _ _ o => o.from S); obtain ⟨y, HW, hpW, hy, RW, SW⟩ := hvl; have FW := F₁.step RW SW; refine wpAny_mono (hpW.ok FW) (fun vu sY hvu => ?_) fun _ _ o => o.from (S.trans SW); obtain ⟨z, HY, ⟨a, vs, lo, hi, rfl, ⟨items, ⟨ob, ho, hoc, hod⟩, hr⟩, hl, hlo, hhi, hpY⟩, hz, RY, SY⟩ := hvu; obtain rfl := hv; have hs1 : items.size = vs.length := by rw [← Array.length_toList]; exact hr.length.symm
 have hL : sY.heap.IsList a items := ⟨ob, RY.keep _ _ ho, hoc, hod⟩; have hy' := hy.mono (RW.tk SY); rw [evalPart_none]; refine wpAny_pure ⟨(hL.push _).typeIs, wpAny_getItem_list_slice (hL.push _) (Heap.IsSliceOf.new ..) (hlo.part hy') (hhi.part hz) .none (by decide) ?_ (by rw [hs1]; exact qdr hl)⟩; have RV := RY.push0 { cls := .type "slice", data := .fields #[vl, vu, .none] } sY.toks; have SV := Step.push0 HY sY { cls := .type "slice", data := .fields #[vl, vu, .none] } sY.toks; have tkV := (TK.of_keeps RY.keep).trans (RY.tk SV); refine OutE.from (S.trans (SW.trans (SY.trans SV))) ?_; exact OutE.newList (s := { sY with heap := sY.heap.push { cls := .type "slice", data := .fields #[vl, vu, .none] }, toks := sY.toks }) (t := sY.toks) RV (by rw [ql2]; unfold sliceV; cases hi <;> first | exact (hr.mono tkV).drop _ | exact ((hr.mono tkV).take _).drop _) hpY.use
theorem EqG.to' {H : AH} {n : Nat} {x y : V} {b b' : Bool} (e : EqG H n x y b) (h : b = b') : EqG H n x y b' := h ▸ e
theorem qk9 {a b : Nat} (h : a = b) : upto (fun _ => true) a b = true := h ▸ qj2 fun _ _ => rfl
theorem qry {H : AH} {n : Nat} {a b : Addr} {g : List (Str × Str)} (ha : H a = some (.list (g.map qau))) (hb : H b = some (.list (g.map qau))) : EqG H (n + 2) (.ref a) (.ref b) true :=
 EqG.to' (.list (n + 1) a b _ _ (fun _ => true) ha hb (fun _ => qk9 rfl) fun j x y h1 h2 => by
   cases h1.symm.trans h2; obtain ⟨s, _, rfl⟩ := mem_map.mp (mem_of_getElem? h1); refine EqG.to' (.tup n _ _ (fun _ => true) fun k u v k1 k2 => ?_) (qk9 rfl); cases k1.symm.trans k2
   match k, k1 with
   | 0, k1 => obtain rfl := sj0_ k1; exact EqG.to' (.str n _ _) (beq_self_eq_true _)
   | 1, k1 => obtain rfl := sj0_ k1; exact EqG.to' (.str n _ _) (beq_self_eq_true _)
   | k + 2, k1 => exact nomatch k1) (qk9 rfl)
theorem qo1 {x y z : Str} (a : LtS x y) (b : LtS y z) : LtS x z := List.lt_trans a b
theorem qm6 : ∀ (p : Str) (l : List Str), risingS p l = true -> (p :: l).Nodup -> (p :: l).Pairwise LtS := by
 intro p l
 induction l generalizing p with
 | nil => exact fun _ _ => List.pairwise_singleton ..
 | cons x r ih0 =>
   intro h hn; have h' : (!ltCps x.cps.toList p.cps.toList && risingS x r) = true := h; rw [Bool.and_eq_true] at h'; have hnx := nodup_cons.mp hn; have ih := ih0 x h'.2 hnx.2; have hpx : LtS p x := by
     have h1 : ¬ LtS x p := by
       have := h'.1; rw [ltCps_eq] at this; simpa using this
     exact Classical.byContradiction fun c => hnx.1 (by rw [qri c h1]; exact mem_cons_self ..)
   refine pairwise_cons.mpr ⟨fun y hy => ?_, ih⟩; rcases mem_cons.mp hy with rfl | hy
   . exact hpx
   . exact qo1 hpx ((pairwise_cons.mp ih).1 y hy)
theorem qnc {l : List Str} (h : sortedS l = true) (hn : l.Nodup) : l.Pairwise LtS := by
 cases l with
 | nil => exact .nil
 | cons p r => exact qm6 p r h hn
theorem qpq {ls l qs : List Str} (hls : ls.Pairwise LtS) (hl : l.Perm ls) (hq : qs.Perm l) (hs : sortedS qs = true) : qs = ls := by
 have hp := hq.trans hl; have hn : qs.Nodup := hp.nodup_iff.mpr (hls.imp qch); exact hp.eq_of_pairwise (fun a b _ _ h k => absurd k (qg7 h)) (qnc hs hn) hls
def qsk (xs : List Int) : List Int := ((xs.take 12 ++ [10, 13, 3, 6, 4, 11, 9, 2, 0, 7, 21, 16]).take 12).map fun (x : Int) => x.fmod 24
theorem qpj (xs : List Int) : (qsk xs).length = 12 := by simp [qsk]
theorem qbs : ∀ s ∈ lets, s.length = 1 ∧ (Txt.upper s).length = 1 ∧ Txt.lower s = s ∧ Txt.lower (Txt.upper s) = s := by decide +kernel
theorem qtm {K : Frag} (hcl : ∀ s ∈ lets, qbz K 48 s ∧ qbz K 48 (Txt.upper s) ∧ qbz K 53 s) : ∀ s ∈ lets, qp3 K s := fun s hs => by
 obtain ⟨h1, h2, h3, h4⟩ := qbs s hs; obtain ⟨c1, c2, c3⟩ := hcl s hs; exact ⟨by lia, h3, h4, by lia, c1, c2, c3⟩
theorem ql5 {ls : List Str} {ps : List (Str × Str)} (hls : ∀ s ∈ ls, s ∈ lets) (hps : ∀ q ∈ ps, q.1 ∈ ls ∧ q.2 ∈ ls) : ∀ s ∈ ls, ∀ t, t ∈ afOf (qdm ps) s ↔ (t, s) ∈ ps := by
 intro s hs t; unfold afOf qdm; rw [mem_map]; constructor
 . rintro ⟨q, hq, rfl⟩; obtain ⟨h1, h2⟩ := mem_filter.mp hq; obtain ⟨q', hq', rfl⟩ := mem_map.mp h1; have e : Txt.lower (Txt.upper q'.2) = Txt.lower s := by simpa using h2
   rw [(qbs _ (hls _ (hps q' hq').2)).2.2.2, (qbs s (hls s hs)).2.2.1] at e; rw [← e]; exact hq'
 . intro h; refine ⟨(Txt.upper s, t), mem_filter.mpr ⟨mem_map.mpr ⟨(t, s), h, rfl⟩, ?_⟩, rfl⟩; rw [(qbs s (hls s hs)).2.2.2, (qbs s (hls s hs)).2.2.1]; exact beq_self_eq_true s
theorem qsp (r : Int) : ∀ s ∈ ths r, s ∈ lets := (qpx r).sub
theorem qs7 {tb : List (Str × Str)} {x : Str} {t : Tr} (h : tb.length = 1) (e : TbT tb [(x, t)]) : ∃ q, tb = [q] ∧ q.2 = t.text := by
 cases tb with
 | nil => exact nomatch h
 | cons q r =>
   cases r with
   | nil => exact ⟨q, rfl, (Prod.mk.inj (List.cons.inj e).1).2⟩
   | cons _ _ => exact nomatch h
theorem qr9 : ∀ {c : Cx} {d : Nat} {p loose mg mb} {H : AH} {P : V -> AH -> Prop} {X : Exc -> AH -> Prop} {sc : Addr} {xs : List Int}
   (hprog : c.prog = rw_om0166_02.row.prog) (G : Gd (KF c.w.params) p loose mg mb c.g) (hcl : ∀ s ∈ lets, qbz (KF c.w.params) 48 s ∧ qbz (KF c.w.params) 48 (Txt.upper s) ∧ qbz (KF c.w.params) 53 s)
   (h3 : GL c sc (xs.map V.int)) (hal : xs.length ≤ 100000)
   (h : ∀ H', P (.bool true) H'), qbg c (d + 6) (.ref 383) [.ref sc] [] H P X := by
 w_on; k_fill; intro c d p loose mg mb H P X sc xs hprog G hcl h3 hal h; refine qca (d := d + 5) (binds := [(Str.ofString "script", .ref sc)]) G (by k_is) (by k_is) (by exact bnd1 fun _ => rfl) (by rfl) (by decide +kernel) (by exact of_decide_eq_true rfl) ?_ (by rfl) (by rfl) (by rfl); intro A L; (refine qaa fun Kz hz1 hz2 hz3 hz4 => ?_; refine qcg rfl (.inl rfl) rfl (qa9 rfl rfl (by decide +kernel) rfl rfl) (fun _ => rfl) ?_; refine qe9 (qba ?_)); refine ql7 ?_; (refine xN rfl rfl (qc0 ?_); refine qc1 (qad rfl ?_)); refine ⟨sc, xs.map V.int, none, some 12, rfl, h3, by simpa using hal, .none, .int 12, fun s2 H2 x2 n2 e2 => ?_⟩; (refine qa6 (qah rfl (qad rfl (qah rfl (qad rfl (qah rfl (qad rfl (qah rfl (qad rfl (qah rfl (qad rfl (qah rfl (qad rfl (qah rfl (qad rfl (qah rfl (qad rfl (qah rfl (qad rfl (qah rfl (qad rfl (qah rfl (qad rfl (qah rfl (qad rfl (qal ?_)))))))))))))))))))))))))); refine ⟨nl0_ rfl, fun s3 H3 x3 n3 e3 => ?_⟩; have hs12 : (sliceV (xs.map V.int) none (some 12)).length ≤ 12 := by simp [sliceV]; lia
 refine qci (x3.get e2) e3 (by simp; exact le_trans ‹_› (nl0_ rfl)) fun s4 H4 x4 n4 e4 => ?_; (refine qc0 ?_; refine qc1 (qad rfl ?_)); refine ⟨s4, _, none, some 12, rfl, e4, by simp; exact le_trans ‹_› (nl0_ rfl), .none, .int 12, fun s5 H5 x5 n5 e5 => ?_⟩; have hpad : sliceV (sliceV (xs.map V.int) none (some 12) ++ [V.int 10, V.int 13, V.int 3, V.int 6, V.int 4, V.int 11, V.int 9, V.int 2, V.int 0, V.int 7, V.int 21, V.int 16]) none (some 12) = ((xs.take 12 ++ [10, 13, 3, 6, 4, 11, 9, 2, 0, 7, 21, 16]).take 12).map V.int := by
   simp [sliceV, List.map_take]
 rw [hpad] at e5; have hrl := qpj xs; unfold qsk at hrl; generalize hpd : (xs.take 12 ++ [10, 13, 3, 6, 4, 11, 9, 2, 0, 7, 21, 16]).take 12 = pd at e5 hrl; rw [length_map] at hrl; refine ⟨.list s5, pd.map V.int, (qb1 e5), fun C => ?_⟩; refine qa0 V.int (fun x => some (V.int (x.fmod 24))) (fun m' H' => H' = H5) (fun m' H' j => (j ▸ qbm e5)) (by simp; lia) rfl ?_ ?_
 . rintro x hx m6 H6 acc K hacc rfl hk; refine qcq rfl ⟨hacc, ?_⟩; (refine qba (xN rfl rfl (qad rfl ?_)); refine qgd (by decide) ?_); exact hk _ _ rfl
 rintro m6 H6 rfl; refine qo5 fun ra H7 x7 n7 e7 => ?_; have hrow : ([] ++ pd.filterMap fun x => some (V.int (x.fmod 24))) = (pd.map fun (x : Int) => x.fmod 24).map V.int := by
   rw [nil_append, filterMap_eq_map', map_map]; rfl
 rw [hrow] at e7; have hrl2 : (pd.map fun (x : Int) => x.fmod 24).length = 12 := by rw [length_map]; exact hrl
 generalize (pd.map fun (x : Int) => x.fmod 24) = rw_ at e7 hrl2; obtain ⟨r, row, rfl⟩ : ∃ r row, rw_ = r :: row := by
   cases rw_ with
   | nil => cases hrl2
   | cons a b => exact ⟨a, b, rfl⟩
 have hrow11 : row.length = 11 := by simpa using hrl2
 (apply_assumption; refine qae (.inl rfl) rfl fun Kz hz1 => ?_; refine qao rfl ?_; refine qa4 ‹_› rfl (by k_is) ?_ rfl; refine ⟨_, rfl, (qap ‹_› (by k_is)), ?_⟩; refine xAn rfl rfl ?_); refine qak (qhw (d := d + 4) (row := row) hprog G e7 ?_); have T := qpx r; have hsub := qsp r; (apply_assumption; refine qae (.inl rfl) rfl fun Kz hz1 => ?_; refine qao rfl ?_; refine qa4 ‹_› rfl (by k_is) ?_ rfl; refine ⟨_, rfl, (qap ‹_› (by k_is)), ?_⟩; refine xAn rfl rfl ?_); refine qak (qot (d := d + 3) hprog G e7 hrow11 fun pa H8 Ln ps x8 e8 hLn hAl => ?_); have hlp : Ln.Perm (ths r) := by
   rcases hLn with rfl | rfl
   . exact qg5 r _
   . exact (List.reverse_perm _).trans (qg5 r _)
 have O := qtn hAl (fun s => hlp.mem_iff); have hnd : (ths r).Nodup := T.ord.imp fun h z => qch h z; have hl5 := T.len; have hl4 := T.lo; have hL5 := hAl.le; have hps20 := hAl.len; have hpin : ∀ q ∈ ps, q.1 ∈ ths r ∧ q.2 ∈ ths r := fun q hq => by
   obtain ⟨i, j, _, g1, g2⟩ := hAl.lt q hq; exact ⟨hlp.mem_iff.mp (mem_of_getElem? g1), hlp.mem_iff.mp (mem_of_getElem? g2)⟩
 have hlok := qtm hcl; have haf := ql5 hsub hpin; (apply_assumption; refine qae (.inl rfl) rfl fun Kz hz1 => ?_; refine qao rfl ?_; refine qa4 ‹_› rfl (by k_is) ?_ rfl; refine ⟨_, rfl, (qap ‹_› (by k_is)), ?_⟩; refine qag rfl ?_; refine xLm rfl rfl ?_; refine xLn rfl rfl ?_); refine qak (qms (d := d + 4) hprog G T e8 (fun k => qn0 hAl _) fun ca H9 x9 n9 e9 => ?_); (apply_assumption; refine qae (.inl rfl) rfl fun Kz hz1 => ?_; refine qao rfl ?_; refine qa4 ‹_› rfl (by k_is) ?_ rfl; refine ⟨_, rfl, (qap ‹_› (by k_is)), ?_⟩; refine xAn rfl rfl ?_); refine qak (qos (d := d + 1) hprog G (x9.get e8) (le_trans ‹_› (nl0_ rfl)) (fun q hq => ?_) fun H10 stp dd l x10 S10 => ?_)
 . obtain ⟨g1, g2⟩ := hpin q hq; have k1 := qbs _ (hsub _ g1); have k2 := qbs _ (hsub _ g2); exact ⟨by lia, by lia, (hcl _ (hsub _ g2)).2.1, (hcl _ (hsub _ g1)).2.2⟩
 have hhp : ∀ q ∈ qdm ps, q.1.length ≤ 1000 := fun q hq => by
   obtain ⟨q', hq', rfl⟩ := mem_map.mp hq; have := (qbs _ (hsub _ (hpin q' hq').2)).2.1; show (Txt.upper q'.2).length ≤ 1000; lia
 have hhl : (qdm ps).length ≤ 100 := by unfold qdm; rw [length_map]; exact le_trans ‹_› (nl0_ rfl)
 have HA := S10.at_; (apply_assumption; refine qae (.inl rfl) rfl fun Kz hz1 => ?_; refine qao rfl ?_; refine qa4 ‹_› rfl (by k_is) ?_ rfl; refine ⟨_, rfl, (qap ‹_› (by k_is)), ?_⟩; refine qag rfl ?_; refine xLm rfl rfl ?_; refine xLn rfl rfl ?_); refine qak (qmu (d := d) hprog G T HA (fun s hs => ⟨by have := (qbs s (hsub s hs)).1; lia, (hlok s (hsub s hs)).cl⟩) hhp hhl (fun s hs t ht => (hpin _ ((haf s hs t).mp ht)).1) (fun x hx => ?_) fun H11 ro gs x11 e11 KR => ?_)
 . obtain ⟨i, hi⟩ := O.at_ hx; exact O.acc haf _ i x hi (Nat.le_add_left _ _)
 have hgl : gs.length ≤ 5 := by
   have h1 : gs.flatten.length ≤ (ths r).length := qbk KR.nodup fun s hs => (KR.mem O haf s).mp hs; have h2 : gs.length ≤ gs.flatten.length := by
     have : ∀ l : List (List Str), (∀ g ∈ l, g ≠ []) -> l.length ≤ l.flatten.length := by
       intro l
       induction l with
       | nil => intro _; exact le_refl _
       | cons g l ih =>
         intro hg; have := ih fun g' hg' => hg g' (by simp [hg']); have := List.length_pos_iff.mpr (hg g (by simp)); rw [List.flatten_cons, length_append, length_cons]; lia
     refine this gs fun g hg => ?_; obtain ⟨i, hi⟩ := getElem?_of_mem hg; exact (KR.rd i g hi).1
   lia
 have hgg : ∀ g ∈ gs, g.length ≤ 5 := fun g hg => by
   obtain ⟨i, hi⟩ := getElem?_of_mem hg; obtain ⟨_, k2, k3⟩ := KR.rd i g hi; exact le_trans (qbk k2 (m := ths r) fun s hs => qfa ((k3 s).mp hs).1) hl5
 (apply_assumption; refine qae (.inl rfl) rfl fun Kz hz1 => ?_; refine qao rfl ?_; refine qa4 ‹_› rfl (by k_is) ?_ rfl; refine ⟨_, rfl, (qap ‹_› (by k_is)), ?_⟩; refine qag rfl ?_; refine xLm rfl rfl ?_; refine xLm rfl rfl ?_; refine qah rfl ?_; refine qbb rfl (qa9 rfl rfl (by decide +kernel) rfl rfl) (fun _ => rfl) ?_; refine xN rfl rfl ?_); refine ⟨.list ro, gs.map grpV, (qb1 e11), fun C => ?_⟩; refine qdl grpV (fun g => g.map V.str) 5 (fun m' H' => H' = H11) (fun m' H' j => (j ▸ qbm e11)) (by simp; lia) rfl (fun g hg => ⟨by rw [length_map]; exact hgg g hg, ?_⟩) ?_
 . rintro m7 H12 acc7 K7 hacc7 rfl hk7; refine qex rfl ?_; (refine xN rfl rfl ?_); refine ⟨.fixed (g.map V.str), g.map V.str, rfl, ?_⟩; refine qa0 V.str (fun x => some (V.str x)) (fun m' H' => H' = H12) (fun m' H' j => by simp [IK.items]) (by have := hgg g hg; lia) rfl ?_ ?_
   . rintro x hx m8 H8 acc8 K8 hacc8 rfl hk8; refine qcq rfl ⟨hacc8, ?_⟩; (refine xN rfl rfl ?_); exact hk8 _ _ rfl
   . rintro m8 H8 rfl; rw [filterMap_eq_map']; exact hk7 _ _ rfl
 rintro m7 H12 rfl; have hfl : ([] ++ gs.flatMap fun g => g.map V.str) = gs.flatten.map V.str := by
   rw [nil_append, List.map_flatten, List.flatMap_def]
 (refine (Eq.symm hfl) ▸ ?_); intro ha hha; have x13 := Ext.fresh (o := .list (gs.flatten.map V.str)) hha; have e13 := qai H12 ha (.list (gs.flatten.map V.str)); generalize upd H12 ha (.list (gs.flatten.map V.str)) = H13 at x13 e13 ⊢; (refine qal ?_); refine qak (qmt (d := d) (rel := fun a b => (qa3 (ths r) ps).contains (a, b)) (J := FJ (ths r) fun a b => (qa3 (ths r) ps).contains (a, b)) hprog G T (HA.more (x11.trans x13)) (fun s hs => hlok s (hsub s hs)) hhp hhl e13 KR.nodup (KR.mem O haf) (fun s hs o => ?_) (KR.top O haf) (FJ.start O hnd KR.nodup (KR.mem O haf)) (fun tl F => ⟨F.nd, F.sub⟩) (fun tl x y F hx hy hxy hm => ?_) fun H14 st2 dd2 l2 tb tl x14 S14 t14 j14 hno => ?_)
 . constructor
   . intro hr; cases (O.pth o s).mp hr with
     | one e => exact ⟨o, (haf s hs o).mpr e, .inl rfl⟩
     | more p e => exact ⟨_, (haf s hs _).mpr e, .inr ((O.pth _ _).mpr p)⟩
   . rintro ⟨t, ht, rfl | hr⟩
     . exact (O.pth _ _).mpr (.one ((haf s hs _).mp ht))
     . exact (O.pth _ _).mpr (.more ((O.pth _ _).mp hr) ((haf s hs _).mp ht))
 . obtain ⟨b, h1, M⟩ := qsa O F.sub hx hy hm; have F2 := F.fold hx hy hxy M; have hp := (qe2 (tl := tl) (b := b) hxy).mpr (.inr rfl); have g1 : ∀ s ∈ (Tr.nod b (tl.tree x) (tl.tree y)).leaves, s ∈ lets := fun s hs => hsub s (F2.leaf_ls hp hs); have g2 := qhz c.w.params g1 (le_trans (F2.leaf_len hp) hl5); exact ⟨b, h1, F2, g2.1, by lia⟩
 have htl : tb.length = tl.ns.length := by rw [← t14.names, length_map]
 have htl5 : tl.ns.length ≤ 5 := le_trans (qbk j14.nd j14.sub) hl5; (apply_assumption; refine qaa fun Kz hz1 hz2 hz3 hz4 => ?_; refine qbv ?_; refine qda ?_; refine qf0 ?_; refine qb7 (fun _ => rfl) ?_; refine qao rfl ?_; refine qa4 ‹_› rfl (by k_is) ?_ rfl; refine ⟨_, rfl, (qap ‹_› (by k_is)), ?_⟩; refine xAn rfl rfl ?_); have ec := x14.get (x13.get (x11.get (x10.get e9))); have s1 := S14.h1; have s2 := S14.h2; have hown : OwnM (KF c.w.params) 182 90 "__len__" := ⟨by k_is, by k_is⟩; refine qak (qfx (d := d + 4) hprog G ec ?_); by_cases h2 : 2 ≤ tl.ns.length
 . have h4 : qjh (ordF (ths r) (qa3 (ths r) ps)) = true := (qji O).mpr (qmy O hL5 j14.nd j14.sub hnd h2 hno); (refine (Eq.symm h4) ▸ ?_); (refine ⟨_, rfl, ?_⟩; refine qbd rfl ?_; refine qbd rfl ?_; refine qaa fun Kz hz1 hz2 hz3 hz4 => ?_; refine qar (qfd (qef (qao rfl (qa4 ‹_› rfl (by k_is) ?_ rfl)))); refine ⟨_, rfl, (qap ‹_› (by k_is)), ?_⟩; refine xAn rfl rfl ?_); refine qak (qfx (d := d + 4) hprog G ec ?_); (refine (Eq.symm h4) ▸ ?_); (refine ⟨_, rfl, ?_⟩; refine qay rfl ?_; refine qfc (qdi rfl (qao rfl (qax ‹_› rfl (by k_is) (by boot_by_name) (by decide) ?_ rfl))); refine ⟨_, rfl, (qab _), ?_⟩; refine xAn rfl rfl ?_); refine qeu (d := d + 4) G S14.h1 S14.h2 hown (qlm (d := d + 3) hprog G S14 (by lia) ⟨_, rfl, by lia, by lia, ?_⟩); (refine qad rfl ?_; refine qfi ?_; apply_assumption; apply_assumption); have hne : (!((tb.length : Int) == 1)) = true := by
     rw [Bool.not_eq_true', beq_eq_false_iff_ne]; lia
   (refine (Eq.symm hne) ▸ ?_); exact h H14
 . obtain ⟨x, t, rfl, hok, hlv⟩ := j14.one (by intro z; rw [z] at hl4; simp at hl4) (by lia); rw [qk2 O hok hlv]; (refine ⟨_, rfl, ?_⟩; refine qay rfl ?_; refine qf0 ?_; refine qaq rfl (qao rfl (qax ‹_› rfl (by k_is) (by boot_by_name) (by decide) ?_ rfl)); refine ⟨_, rfl, (qab _), ?_⟩; refine xAn rfl rfl ?_); refine qeu (d := d + 4) G S14.h1 S14.h2 hown (qlm (d := d + 3) hprog G S14 (by lia) ⟨_, rfl, by lia, by lia, ?_⟩); have htb1 : tb.length = 1 := htl; (refine (Eq.symm htb1) ▸ ?_); (refine qad rfl ?_; refine qfi ?_; refine ⟨_, rfl, ?_⟩; refine qay rfl ?_; refine qis ?_; refine qay rfl ?_; refine qac ?_; apply_assumption; refine qae (.inl rfl) rfl fun Kz hz1 => ?_; refine qao rfl (qa4 ‹_› rfl (by k_is) ?_ rfl); refine ⟨_, rfl, (qap ‹_› (by k_is)), ?_⟩; refine qag rfl (qah rfl (qp0 rfl (xMn rfl rfl rfl rfl rfl ?_))); refine qbe ‹_› ‹_› ‹_› (by k_is) (by k_is) (by k_is) rfl ⟨qap ‹_› (by k_is), ?_⟩; refine qav ?_; refine qaf ?_); refine qak (qkv (d := d + 4) hprog G S14 (by lia) fun va H15 x15 n15 e15 => ?_); obtain ⟨q, rfl, hq2⟩ := qs7 htb1 t14; have e15' : H15 va = some (.list [.str t.text]) := by (refine hq2 ▸ ?_); exact e15
   (refine qad rfl ?_); refine qbl e15' (by decide) (by decide) rfl ?_; have g1 : ∀ s ∈ t.leaves, s ∈ lets := fun s hs => hsub s (hlv.mem_iff.mp hs); have hlv5 : t.leaves.length ≤ 5 := by rw [hlv.length_eq]; exact hl5
   have g2 := qhz c.w.params g1 hlv5; (refine qal ?_); refine qak (qqq (d := d + 4) hprog G g1 g2.2 (qng g1) fun H16 la pb x16 e16 f16 => ?_); have hrh : gs.length = t.hgt := qm7 KR O haf hok fun s => hlv.mem_iff; have hprs : t.prs.length ≤ 25 := le_trans (qk3 t) (le_trans (Nat.mul_le_mul hlv5 hlv5) (by decide)); have er := x16.get (x15.get (x14.get (x13.get e11))); have ec2 := x16.get (x15.get ec); (apply_assumption; refine qaa fun Kz hz1 hz2 hz3 hz4 => ?_; refine qar ?_; refine qfd ?_; refine qef ?_; refine qdi rfl ?_; refine xSk rfl rfl rfl ?_; refine qbu (by decide) (by decide) rfl ?_; refine qao rfl ?_; refine qax ‹_› rfl (by k_is) (by boot_by_name) (by decide) ?_ rfl; refine ⟨_, rfl, (qab _), ?_⟩; refine xAn rfl rfl ?_); refine qd8 er (by rw [length_map]; exact le_trans ‹_› (nl0_ rfl)) ?_; rw [length_map]; have hc1 : ((t.hgt : Int) == (gs.length : Int)) = true := by (refine (Eq.symm hrh) ▸ ?_); exact beq_self_eq_true _
   (refine qd9 ?_; refine ⟨_, rfl, ?_⟩); (refine (Eq.symm hc1) ▸ ?_); (refine qay rfl ?_; refine qef (qdi rfl (qao rfl (qax ‹_› rfl (by k_is) (by boot_by_name) (by decide) ?_ rfl))); refine ⟨_, rfl, (qab _), ?_⟩; refine qag rfl (qah rfl (xSk rfl rfl rfl ?_)); refine qbu (by decide) (by decide) rfl ?_; refine qal ?_); refine qf5 e16 (lt_of_le_of_lt ‹_› (nl0_ rfl)) fun ss hp hs sa H17 x17 n17 e17 => ?_; rw [qpq T.ord hlv hp hs] at e17; (refine qao rfl (qax ‹_› rfl (by k_is) (by boot_by_name) (by decide) ?_ rfl); refine ⟨_, rfl, (qbn _), ?_⟩; refine xAn rfl rfl ?_); refine qkn rfl (by rw [T.tl]; exact le_trans ‹_› (nl0_ rfl)) fun ta hta => ?_; rw [T.sg]; have x18 := Ext.fresh (o := .list ((ths r).map V.str)) hta; have e18 := qai H17 ta (.list ((ths r).map V.str)); generalize upd H17 ta (.list ((ths r).map V.str)) = H18 at x18 e18 ⊢; have heq1 : decide (ths r = ths r) = true := decide_eq_true rfl
   skip
   refine qfh rfl (by decide) (EqG.to' (qez (n := 0) (x18.get e17) e18) heq1) ?_; (refine ⟨_, rfl, ?_⟩; refine qay rfl ?_; refine qfc (qdi rfl (qao rfl (qax ‹_› rfl (by k_is) (by boot_by_name) (by decide) ?_ rfl))); refine ⟨_, rfl, (qab _), ?_⟩; refine qag rfl (qah rfl (xSk rfl rfl rfl ?_)); refine qbu (by decide) (by decide) rfl ?_; refine qal ?_); refine qfg (x18.get (x17.get f16)) (qju (hlv.nodup_iff.mpr hnd)) (lt_of_le_of_lt ‹_› (nl0_ rfl)) fun qs hqp hqs qa H19 x19 n19 e19 => ?_; rw [qm4 O T.ord hok hlv hqp hqs] at e19; (refine xN rfl rfl ?_); refine qfh rfl (by decide) (qry (n := 0) e19 (x19.get (x18.get (x17.get ec2)))) ?_; (apply_assumption); exact h _
theorem qqo {h : Heap} : ∀ {vals : List Value} {ns : List Int}, IntsAre vals ns -> VRs h (ns.map V.int) vals := by
 intro vals ns hI
 induction hI with
 | nil => exact rfl
 | cons n t r ih => exact ⟨_, _, rfl, ⟨t, rfl⟩, ih⟩
theorem qnx (q : Params) : ∀ s ∈ lets, qbz (KF q) 48 s ∧ qbz (KF q) 48 (Txt.upper s) ∧ qbz (KF q) 53 s := by
 intro s hs; simp only [lets, mem_cons, List.not_mem_nil, or_false] at hs; rcases hs with rfl | rfl | rfl | rfl | rfl
 all_goals (refine ⟨qgt ?_, qgt ?_, qgt ?_⟩ <;> (intro S t0 tk; kernel_rfl))
theorem fin : rw_om0166_02.Holds := by
 refine hdW _ _ rfl rfl rfl ?hp ?_
 case hp => w_witness2
 w_on; k_fill; intro w sO sJ mg mb G Y fa o pm cd doc dV kV ho hd hcd hD hmg hg args vals as hpre hlay hrd hwl hlo; have KX := kIn_of Y; refine Ground.open G ?_; intro T B D TE TW
 wrow_args hpre hlay hrd hwl hlo
 rename_i w7 w6 w5 sc vs as' hL ra w1 r0 hI hr hcond _; have TR := topRead_of T; have hfa : mg (Str.ofString "law") = some (.ref 383) := mg_of KX TR.g (by kernel_rfl); have hfe : fa = 383 := by
   have h2 : mg (Str.ofString "law") = some (.ref fa) := hmg; rw [hfa] at h2; cases h2; rfl
 subst hfe; have B0 : BRep ⟨rw_om0166_02.row.prog, w, sJ.heap, (sJ.os, sJ.drawn)⟩ .quiet 6 callerA (fun _ => none) sJ :=
   ⟨⟨fun _ _ e => e, hg, rfl, (fun _ _ e => by cases e), (fun _ _ e => by cases e)⟩, ⟨by decide, by decide, fun _ => rfl, (fun z => by cases z), [], rfl, trivial, fun _ z => nomatch z⟩⟩
 have Gd0 : Gd (KF w.params) _ _ mg mb sJ.heap := ⟨KX, TR, ⟨383, o, by decide, ho⟩⟩; have key := qr9 (c := ⟨rw_om0166_02.row.prog, w, sJ.heap, (sJ.os, sJ.drawn)⟩) (d := 0) (H := fun _ => none) (P := fun x _ => x = .bool true) (X := fun _ _ => False) (sc := sc) rfl Gd0 (qnx _) ⟨vs.toArray, hL, qqo hI⟩ (by omega) fun _ => rfl; show wpAny _ _ (call (.ref 383) [.ref sc]) _ _ _; refine wpAny_call (codeAny_mono (key callerA sJ [.ref sc] [] B0 ⟨_, _, rfl, rfl, rfl⟩ qfk) fun r s' o => ?_); cases r with
 | error e => obtain ⟨_, _, z, _⟩ := o; exact z.elim
 | ok f =>
   cases f with
   | ret v =>
     obtain ⟨x, H', rfl, hv, R, _⟩ := o; obtain rfl := hv; refine ⟨.inl ⟨.bool true, .bool true, [], rfl, fun cls => ?_, .bool true, ?_, fun _ => ⟨nodup_nil, fun a ha => nomatch ha⟩⟩, .of_keep R.keep, congrArg Prod.fst R.os, .of_eq R.gens⟩
     . rfl
     . first | wrow_post | rfl
   | next => exact o.elim
   | brk => exact o.elim
   | cont => exact o.elim
end Mine
theorem PySem.Challenge.cw_om0166_02_holds : PySem.Challenge.rw_om0166_02.Holds := by
  exact Mine.fin
