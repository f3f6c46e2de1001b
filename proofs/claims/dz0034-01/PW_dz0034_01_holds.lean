import PyProof.Rows.All
import Wide.All
import OpenK.AllK
import Wide.FinOn
import PySem.Challenge.RW_dz0034_01
open PySem PySem.W PySem.Calls PyProof.Rows
set_option Elab.async false
set_option maxRecDepth 100000
set_option autoImplicit false
set_option compiler.extract_closed false
set_option linter.unusedSimpArgs false
set_option linter.unusedVariables false
namespace Mine
/-- the entries of a namespace: these names with these values, in this order -/
inductive Ents : List DictEntry → List (Str × Value) → Prop
  | nil : Ents [] []
  | cons (x : Int) (n : Str) (t : Tok) (v : Value) {es ls} : Ents es ls → Ents (⟨x, .str n t, v⟩ :: es) ((n, v) :: ls)
def putL (n : Str) (v : Value) : List (Str × Value) → List (Str × Value)
  | [] => [(n, v)]
  | (m, u) :: r => if m == n then (m, v) :: r else (m, u) :: putL n v r
def dropL (n : Str) : List (Str × Value) → List (Str × Value)
  | [] => []
  | (m, u) :: r => if m == n then r else (m, u) :: dropL n r
theorem Ents.keys {es ls} (E : Ents es ls) : StrKeys es.toArray := by
  induction E with
  | nil => intro e he; simp at he
  | cons x n t v E ih =>
    intro e he
    simp only [List.mem_toArray, List.mem_cons] at he ih
    rcases he with rfl | he
    · exact ⟨n, t, rfl⟩
    · exact ih e (by simpa using he)
theorem beq_comm_str (a b : Str) : (a == b) = (b == a) := by
  by_cases q : a = b
  · subst q; rfl
  · rw [beq_eq_false_iff_ne.mpr q, beq_eq_false_iff_ne.mpr fun z => q z.symm]
theorem Ents.find {es ls} (E : Ents es ls) (n : Str) : nsFind es.toArray n = ls.lookup n := by
  unfold nsFind findBy
  rw [List.find?_toArray]
  induction E with
  | nil => rfl
  | cons x m t v E ih =>
    rw [List.find?_cons, List.lookup_cons]
    show Option.map _ (match (m == n) with | true => _ | false => _) = _
    rw [beq_comm_str m n]
    cases n == m with
    | true => rfl
    | false => exact ih
theorem Ents.put {es ls} (E : Ents es ls) {x : Int} {n : Str} {t : Tok} {v : Value} {f : Option DictEntry → DictEntry} (h1 : ∀ e, f (some e) = { e with val := v }) (h2 : f none = ⟨x, .str n t, v⟩) : Ents (nsPutIn n.cps.size n.cps.toList f es).1 (putL n v ls) := by
  induction E with
  | nil =>
    unfold nsPutIn
    rw [h2]
    exact .cons x n t v .nil
  | cons y m u w E ih =>
    unfold nsPutIn putL
    rw [Value.isStrByCps_eq]
    rw [show Value.isStr (Value.str m u) n = (m == n) from rfl]
    cases m == n with
    | true =>
      rw [if_pos rfl, h1]
      exact .cons y m u v E
    | false => exact .cons y m u w ih
theorem Ents.put' {es ls es' b} (E : Ents es ls) {x : Int} {n : Str} {t : Tok} {v : Value} {f : Option DictEntry → DictEntry} (hq : nsPutIn n.cps.size n.cps.toList f es = (es', b)) (h1 : ∀ e, f (some e) = { e with val := v }) (h2 : f none = ⟨x, .str n t, v⟩) : Ents es' (putL n v ls) := by
  have := E.put h1 h2
  rwa [hq] at this
theorem Ents.drop {es ls} (E : Ents es ls) (n : Str) : (nsDropIn n.cps.size n.cps.toList es = none ∧ ls.lookup n = none) ∨ ∃ es', nsDropIn n.cps.size n.cps.toList es = some es' ∧ Ents es' (dropL n ls) := by
  induction E with
  | nil => exact .inl ⟨rfl, rfl⟩
  | cons y m u w E ih =>
    unfold nsDropIn dropL
    rw [Value.isStrByCps_eq, List.lookup_cons]
    show ((if (m == n) = true then _ else _) = _ ∧ _) ∨ ∃ es', (if (m == n) = true then _ else _) = _ ∧ Ents es' (if (m == n) = true then _ else _)
    rw [beq_comm_str m n]
    cases n == m with
    | true => exact .inr ⟨_, rfl, E⟩
    | false =>
      rcases ih with ⟨a, b⟩ | ⟨es', a, b⟩
      · exact .inl ⟨by rw [if_neg Bool.false_ne_true, a]; rfl, b⟩
      · exact .inr ⟨_, by rw [if_neg Bool.false_ne_true, a]; rfl, .cons y m u w b⟩

theorem ents_of : ∀ (es : List DictEntry), (∀ e ∈ es, ∃ n t, e.key = .str n t) → ∃ ls, Ents es ls
  | [], _ => ⟨[], .nil⟩
  | ⟨x, k, v⟩ :: r, h => by
    obtain ⟨n, t, e⟩ := h _ (.head _)
    obtain ⟨ls, E⟩ := ents_of r fun e he => h e (.tail _ he)
    dsimp only at e
    subst e
    exact ⟨(n, v) :: ls, .cons x n t v E⟩
theorem putL_lookup (n : Str) (v : Value) (x : Str) : ∀ ls : List (Str × Value), (putL n v ls).lookup x = if x = n then some v else ls.lookup x
  | [] => by
    unfold putL
    rw [List.lookup_cons]
    by_cases q : x = n
    · subst q; simp
    · rw [if_neg q, beq_eq_false_iff_ne.mpr q]
  | (m, u) :: r => by
    unfold putL
    by_cases q : m = n
    · subst q
      rw [if_pos (beq_self_eq_true _), List.lookup_cons, List.lookup_cons]
      by_cases q' : x = m
      · subst q'; simp
      · rw [if_neg q', beq_eq_false_iff_ne.mpr q']
    · rw [if_neg (by simpa using q), List.lookup_cons, List.lookup_cons, putL_lookup n v x r]
      by_cases q' : x = m
      · subst q'; simp [q]
      · rw [beq_eq_false_iff_ne.mpr q']
section
variable {prog : Program} {w : World} {M : Model} {A : Around} {E : Value → Shared → Prop} {h : Heap} {g : Array GenState} {d : Drawn} {t : Nat} {os : OsState}
/-- a store into a namespace leaves its object's class as it was -/
theorem ns_set {a : Addr} {m} {o : Obj} {n : Str} {v : Value} {Q : Unit → Shared → Prop} (hn : h.Ns a m) (ho : h.get? a = some o)
    (q : ∀ h' o', h'.Ns a (fun x => if x = n then some v else m x) → Heap.SameBut a h h' → h'.get? a = some o' → o'.cls = o.cls → Q () ⟨h', g, d, t + 1, os⟩) : wpAny M A (nsSet a n v) Q E ⟨h, g, d, t, os⟩ := by
  obtain ⟨o', es, ep, e, hd, hk, hm⟩ := hn
  rw [ho] at e; cases e
  obtain ⟨ls, x⟩ := ents_of es.toList (fun e he => hk e (by simpa using he))
  obtain ⟨cl, dc, da, sl⟩ := o
  dsimp only at hd
  subst hd
  unfold nsSet
  refine wpAny_bind ?_
  unfold strHash
  refine nd_bind (nd_ask (wpAny_pure ?_))
  dsimp only
  refine wpAny_pure ?_
  refine wpAny_bind (wpAny_mkText ?_)
  refine wpAny_bind (wpAny_loadPart ho ?_)
  have hany : es.any (·.refKey) = false := by
    rw [Array.any_eq_false']; intro e he; obtain ⟨n, t, h⟩ := x.keys e (by simpa using he); simp [DictEntry.refKey, h]
  simp only [aRefKeyMayBeTheName_eq, aRefKeyMayBeTheNameByArray, hany, Bool.and_false, Bool.false_eq_true, if_false]
  generalize (if n.cps.isEmpty = true then 0 else _ : Int) = hx
  have e3 : ∃ es' ep', Obj.putName n hx (.str n t) v { cls := cl, dict := dc, data := .dict es ep, slots := sl } = { cls := cl, dict := dc, data := .dict es'.toArray ep', slots := sl } ∧ Ents es' (putL n v ls) := by
    unfold Obj.putName
    dsimp only
    split
    · rename_i es' hq
      exact ⟨es', _, rfl, x.put' hq (fun _ => rfl) rfl⟩
    · rename_i es' hq
      exact ⟨es', _, rfl, x.put' hq (fun _ => rfl) rfl⟩
  obtain ⟨es', ep', e3, e2⟩ := e3
  have e4 := Heap.get?_update_self (h := h) (fun o => Obj.putName n hx (.str n t) v o) ho (by rw [e3]; rfl)
  rw [e3] at e4
  refine wpAny_updatePart ho (q _ _ ⟨_, _, _, e4, rfl, e2.keys, fun x' => ?_⟩ (Heap.SameBut.update ..) e4 rfl)
  have := x.find x'
  rw [Array.toArray_toList, hm x'] at this
  rw [e2.find, putL_lookup, ← this]
end


/-- all that stood stays as it was, but for the addresses of X -/
def Ext (X : Addr → Prop) (h h' : Heap) : Prop := h.objs.size ≤ h'.objs.size ∧ ∀ b o, h.get? b = some o → ¬ X b → h'.get? b = some o
abbrev Nil : Addr → Prop := fun _ => False

section
variable {X Y : Addr → Prop} {h h' h₁ h₂ h₃ : Heap}
theorem Ext.refl : Ext X h h := ⟨Nat.le_refl _, fun _ _ e _ => e⟩
theorem Ext.get (x : Ext X h h') {b : Addr} {o : Obj} (e : h.get? b = some o) (hb : ¬ X b) : h'.get? b = some o := x.2 b o e hb
theorem Ext.then (x : Ext X h₁ h₂) (y : Ext Y h₂ h₃) (i : ∀ b, b < h₁.objs.size → Y b → X b) : Ext X h₁ h₃ :=
  ⟨Nat.le_trans x.1 y.1, fun b o e hb => y.2 b o (x.2 b o e hb) fun q => hb (i b (Heap.lt_size e) q)⟩
theorem Ext.mono (x : Ext X h h') (i : ∀ b, b < h.objs.size → X b → Y b) : Ext Y h h' := ⟨x.1, fun b o e hb => x.2 b o e fun q => hb (i b (Heap.lt_size e) q)⟩
theorem Ext.nil (x : Ext Nil h h') : ∀ b o, h.get? b = some o → h'.get? b = some o := fun b o e => x.2 b o e id
theorem Ext.of (k : ∀ b o, h.get? b = some o → h'.get? b = some o) (hs : h.objs.size ≤ h'.objs.size) : Ext X h h' := ⟨hs, fun b o e _ => k b o e⟩
theorem Ext.push (x : Ext X h h') (o : Obj) : Ext X h (h'.push o) := ⟨Nat.le_trans x.1 (by rw [Heap.size_push]; omega), fun b o' e hb => Heap.get?_push_of_some o (x.2 b o' e hb)⟩
theorem Ext.same (x : Ext X h h₁) {a : Addr} (s : Heap.SameBut a h₁ h₂) (ha : a < h.objs.size → X a) : Ext X h h₂ :=
  ⟨Nat.le_trans x.1 (Nat.le_of_eq s.1.symm), fun b o e hb => (s.2 b fun q => hb (q ▸ ha (q ▸ Heap.lt_size e))).trans (x.2 b o e hb)⟩
theorem Ext.ns (x : Ext X h h') {a : Addr} {m} (n : h.Ns a m) (ha : ¬ X a) : h'.Ns a m :=
  let ⟨o, es, ep, e, r⟩ := n; ⟨o, es, ep, x.2 a o e ha, r⟩
theorem Ext.isCell (x : Ext X h h') {a : Addr} {v} (n : h.IsCell a v) (ha : ¬ X a) : h'.IsCell a v :=
  let ⟨o, e, r⟩ := n; ⟨o, x.2 a o e ha, r⟩
theorem Ext.codeRec (x : Ext X h h') {cd : Value} {q} (n : h.CodeRec cd q) (ha : ∀ c, cd = .ref c → ¬ X c) : h'.CodeRec cd q :=
  let ⟨c, o, vs, t, e, g, r⟩ := n; ⟨c, o, vs, t, e, x.2 c o g (ha c e), r⟩
end

/-- the names of a frame: those of ls bear their values; every own cell can be stored -/
structure Frm (h : Heap) (env : Env) (ls : List (Str × Value)) : Prop where
  ns : ∃ m, h.Ns env.locals m ∧ ∀ n v, env.kindOf n = some .local → ls.lookup n = some v → m n = some v
  cel : ∀ n v, (env.kindOf n = some .cell ∨ env.kindOf n = some .free) → ls.lookup n = some v → ∃ c, env.cells.lookup n = some c ∧ h.IsCell c (some v)
  own : ∀ n, env.kindOf n = some .cell → ∃ c, env.cells.lookup n = some c ∧ ∃ v, h.IsCell c v
  apart : ∀ n n' c, env.cells.lookup n = some c → env.cells.lookup n' = some c → n = n'
  fn : env.scope.kind = .function
  fr : ∃ o, h.get? env.locals = some o ∧ o.cls = .type "frame"

theorem lookup_cons' {n n' : Str} {v : Value} {ls : List (Str × Value)} : ((n, v) :: ls).lookup n' = if n' = n then some v else ls.lookup n' := by
  rw [List.lookup_cons]
  by_cases q : n' = n
  · subst q; simp
  · rw [if_neg q, beq_eq_false_iff_ne.mpr q]

theorem cell_ne_ns {h : Heap} {c L : Addr} {v m} (x : h.IsCell c v) (y : h.Ns L m) : c ≠ L := by
  rintro rfl
  obtain ⟨o, e, d⟩ := x
  obtain ⟨o', es, ep, e', d', _⟩ := y
  rw [e] at e'; cases e'; rw [d] at d'; cases d'

namespace Frm
variable {h h' : Heap} {env : Env} {ls : List (Str × Value)} {X : Addr → Prop}
theorem ext (F : Frm h env ls) (x : Ext X h h') (hL : ¬ X env.locals) (hc : ∀ n c, env.cells.lookup n = some c → ¬ X c) : Frm h' env ls where
  ns := let ⟨m, a, b⟩ := F.ns; ⟨m, x.ns a hL, b⟩
  cel := fun n v k e => let ⟨c, a, b⟩ := F.cel n v k e; ⟨c, a, x.isCell b (hc n c a)⟩
  own := fun n k => let ⟨c, a, v, b⟩ := F.own n k; ⟨c, a, v, x.isCell b (hc n c a)⟩
  apart := F.apart
  fn := F.fn
  fr := let ⟨o, e, c⟩ := F.fr; ⟨o, x.get e hL, c⟩
theorem keep (F : Frm h env ls) (x : Ext Nil h h') : Frm h' env ls := F.ext x id fun _ _ _ => id
theorem weaken {ls' : List (Str × Value)} (F : Frm h env ls) (i : ∀ n v, ls'.lookup n = some v → ls.lookup n = some v) : Frm h env ls' :=
  ⟨let ⟨m, a, b⟩ := F.ns; ⟨m, a, fun n v k e => b n v k (i n v e)⟩, fun n v k e => F.cel n v k (i n v e), F.own, F.apart, F.fn, F.fr⟩

variable {M : Model} {A : Around} {E : Value → Shared → Prop} {g : Array GenState} {d : Drawn} {t : Nat} {os : OsState}
theorem ldn {n : Str} {v : Value} {Q : Value → Shared → Prop} (F : Frm h env ls) (hk : env.kindOf n = some .local ∨ env.kindOf n = some .cell ∨ (env.kindOf n = some .free ∧ (n == ("__classdict__" : Str)) = false))
    (hv : ls.lookup n = some v) (q : Q v ⟨h, g, d, t, os⟩) : wpAny M A (loadName env n) Q E ⟨h, g, d, t, os⟩ := by
  rcases hk with k | k | ⟨k, hn⟩
  · obtain ⟨m, a, b⟩ := F.ns
    exact wpAny_loadName_local F.fn k a (b n v k hv) q
  · obtain ⟨c, a, b⟩ := F.cel n v (.inl k) hv
    exact wpAny_loadName_cell F.fn k a b q
  · obtain ⟨c, a, b⟩ := F.cel n v (.inr k) hv
    exact wpAny_loadName_free F.fn k a b q hn
theorem ld {n : Str} {v : Value} {pos : Pos} {Q : Value → Shared → Prop} (F : Frm h env ls) (hk : env.kindOf n = some .local ∨ env.kindOf n = some .cell ∨ (env.kindOf n = some .free ∧ (n == ("__classdict__" : Str)) = false))
    (hv : ls.lookup n = some v) (q : Q v ⟨h, g, d, t, os⟩) (hd : (n == ("__debug__" : Str)) = false := by decide) : wpAny M A (eval (.Name n pos) env) Q E ⟨h, g, d, t, os⟩ :=
  wpAny_Name (F.ldn hk hv q) hd

theorem st {n : Str} {v : Value} {Q : Unit → Shared → Prop} (F : Frm h env ls) (hk : env.kindOf n = some .local ∨ env.kindOf n = some .cell)
    (q : ∀ h' t', Frm h' env ((n, v) :: ls) → Ext (fun b => (env.kindOf n = some .local ∧ b = env.locals) ∨ (env.kindOf n = some .cell ∧ env.cells.lookup n = some b)) h h' → h'.objs.size = h.objs.size → Q () ⟨h', g, d, t', os⟩) :
    wpAny M A (storeName env n v) Q E ⟨h, g, d, t, os⟩ := by
  rcases hk with k | k
  · obtain ⟨m, a, b⟩ := F.ns
    obtain ⟨o, eo, co⟩ := F.fr
    rw [storeName_local k (by rw [F.fn]; rfl)]
    refine ns_set a eo (fun h' o' hn hs e' c' => q h' _ ⟨⟨_, hn, fun n' w k' e => ?_⟩, fun n' w k' e => ?_, fun n' k' => ?_, F.apart, F.fn, ⟨o', e', c'.trans co⟩⟩ ?_ hs.1)
    · rw [lookup_cons'] at e
      split at e
      · rename_i e'; rw [if_pos e']; exact e
      · rename_i e'; rw [if_neg e']; exact b n' w k' e
    · have ne : n' ≠ n := fun z => by rw [z, k] at k'; rcases k' with k' | k' <;> cases k'
      rw [lookup_cons', if_neg ne] at e
      obtain ⟨c, a1, a2⟩ := F.cel n' w k' e
      exact ⟨c, a1, a2.sameBut hs (cell_ne_ns a2 a)⟩
    · obtain ⟨c, a1, v', a2⟩ := F.own n' k'
      exact ⟨c, a1, v', a2.sameBut hs (cell_ne_ns a2 a)⟩
    · exact ⟨Nat.le_of_eq hs.1.symm, fun b o e hb => (hs.2 b fun z => hb (.inl ⟨k, z⟩)).trans e⟩
  · obtain ⟨m, a, b⟩ := F.ns
    obtain ⟨c, a1, v', a2⟩ := F.own n k
    refine wpAny_storeName_cell F.fn k a1 a2 (fun h' hc hs => q h' _ ⟨⟨m, a.sameBut hs (cell_ne_ns a2 a).symm, fun n' w k' e => ?_⟩, fun n' w k' e => ?_, fun n' k' => ?_, F.apart, F.fn, let ⟨o, eo, co⟩ := F.fr; ⟨o, (hs.2 _ (cell_ne_ns a2 a).symm).trans eo, co⟩⟩ ?_ hs.1)
    · have ne : n' ≠ n := fun z => by rw [z, k] at k'; cases k'
      rw [lookup_cons', if_neg ne] at e
      exact b n' w k' e
    · rw [lookup_cons'] at e
      split at e
      · rename_i e'; subst e'; cases e; exact ⟨c, a1, hc⟩
      · rename_i e'
        obtain ⟨c', b1, b2⟩ := F.cel n' w k' e
        exact ⟨c', b1, b2.sameBut hs fun z => e' (F.apart n' n c (z ▸ b1) a1)⟩
    · by_cases e' : n' = n
      · subst e'; exact ⟨c, a1, _, hc⟩
      · obtain ⟨c', b1, w, b2⟩ := F.own n' k'
        exact ⟨c', b1, w, b2.sameBut hs fun z => e' (F.apart n' n c (z ▸ b1) a1)⟩
    · exact ⟨Nat.le_of_eq hs.1.symm, fun b o e hb => (hs.2 b fun z => hb (.inr ⟨k, z ▸ a1⟩)).trans e⟩

/-- a store in a frame that was made behind h₀ -/
theorem stx {h₀ : Heap} {n : Str} {v : Value} {Q : Unit → Shared → Prop} (F : Frm h env ls) (hk : env.kindOf n = some .local ∨ env.kindOf n = some .cell) (x : Ext X h₀ h) (hL : h₀.objs.size ≤ env.locals)
    (hC : ∀ c, env.kindOf n = some .cell → env.cells.lookup n = some c → h₀.objs.size ≤ c)
    (q : ∀ h' t', Frm h' env ((n, v) :: ls) → Ext X h₀ h' → (∀ b o, h.get? b = some o → b < h₀.objs.size → h'.get? b = some o) → (∀ b o, h.get? b = some o → b ≠ env.locals → env.cells.lookup n ≠ some b → h'.get? b = some o) → h'.objs.size = h.objs.size → Q () ⟨h', g, d, t', os⟩) :
    wpAny M A (storeName env n v) Q E ⟨h, g, d, t, os⟩ := by
  refine F.st hk fun h' t' F' x' hs => ?_
  have i : ∀ b, b < h₀.objs.size → ((env.kindOf n = some .local ∧ b = env.locals) ∨ (env.kindOf n = some .cell ∧ env.cells.lookup n = some b)) → False := fun b hb e => by
    rcases e with ⟨_, rfl⟩ | ⟨k, e⟩
    · exact absurd hb (Nat.not_lt.mpr hL)
    · exact absurd hb (Nat.not_lt.mpr (hC b k e))
  refine q h' t' F' (x.then x' fun b hb e => (i b hb e).elim) (fun b o e hb => x'.get e fun z => i b hb z) (fun b o e h1 h2 => x'.get e fun z => ?_) hs
  rcases z with ⟨_, z⟩ | ⟨_, z⟩
  · exact h1 z
  · exact h2 z
end Frm


theorem cellsFrom_app : ∀ (names : List (Str × NameKind)) (k : Nat) (acc clo : List (Str × Addr)), cellsFrom k names (acc ++ clo) = cellsFrom k names acc ++ clo
  | [], _, _, _ => rfl
  | (n, kd) :: r, k, acc, clo => by
    unfold cellsFrom
    split
    · exact cellsFrom_app r (k + 1) ((n, k) :: acc) clo
    · exact cellsFrom_app r k acc clo
theorem cellsFrom_sub : ∀ (names : List (Str × NameKind)) (k : Nat) (acc : List (Str × Addr)) (p : Str × Addr), p ∈ acc → p ∈ cellsFrom k names acc
  | [], _, _, _, h => h
  | (n, kd) :: r, k, acc, p, h => by
    unfold cellsFrom
    split
    · exact cellsFrom_sub r (k + 1) _ p (.tail _ h)
    · exact cellsFrom_sub r k acc p h
theorem cellsFrom_has : ∀ (names : List (Str × NameKind)) (k : Nat) (acc : List (Str × Addr)) (n : Str), names.lookup n = some .cell → ∃ c, (n, c) ∈ cellsFrom k names acc
  | (n', kd) :: r, k, acc, n, h => by
    rw [List.lookup_cons] at h
    unfold cellsFrom
    cases hb : n == n' with
    | true =>
      rw [hb] at h
      cases h
      have := eq_of_beq hb
      subst this
      exact ⟨k, cellsFrom_sub r (k + 1) _ _ (.head _)⟩
    | false =>
      rw [hb] at h
      split
      · exact cellsFrom_has r _ _ n h
      · exact cellsFrom_has r _ _ n h
theorem lookup_of_mem : ∀ {l : List (Str × Addr)} {n : Str} {c : Addr}, (n, c) ∈ l → ∃ c', l.lookup n = some c'
  | (k, v) :: r, n, c, h => by
    rw [List.lookup_cons]
    cases hb : n == k with
    | true => exact ⟨v, rfl⟩
    | false =>
      rcases List.mem_cons.mp h with e | h
      · cases e; rw [beq_self_eq_true] at hb; cases hb
      · exact lookup_of_mem h
theorem lookup_app {l r : List (Str × Addr)} {n : Str} {c : Addr} (h : (l ++ r).lookup n = some c) : l.lookup n = some c ∨ (l.lookup n = none ∧ r.lookup n = some c) := by
  induction l with
  | nil => exact .inr ⟨rfl, h⟩
  | cons p l ih =>
    rw [List.cons_append, List.lookup_cons] at h
    rw [List.lookup_cons]
    cases hb : n == p.1 with
    | true => rw [hb] at h; exact .inl h
    | false => rw [hb] at h; exact ih h
theorem lookup_app_left {l r : List (Str × Addr)} {n : Str} {c : Addr} (h : l.lookup n = some c) : (l ++ r).lookup n = some c := by
  induction l with
  | nil => cases h
  | cons p l ih =>
    rw [List.lookup_cons] at h
    rw [List.cons_append, List.lookup_cons]
    cases hb : n == p.1 with
    | true => rw [hb] at h; exact h
    | false => rw [hb] at h; exact ih h

section
variable {M : Model} {A : Around} {E : Value → Shared → Prop} {h : Heap} {g : Array GenState} {d : Drawn} {t : Nat} {os : OsState}

theorem bindAll (f : Str × Value → PUnit → Sem (ForInStep PUnit)) {env : Env} (hf : ∀ n v u, f (n, v) u = (do storeName env n v; pure (.yield ⟨⟩))) {h₀ : Heap}
    (hL : h₀.objs.size ≤ env.locals) (hC : ∀ n c, env.kindOf n = some .cell → env.cells.lookup n = some c → h₀.objs.size ≤ c) :
    ∀ (binds ls : List (Str × Value)) (h : Heap) (t : Nat) (Q : PUnit → Shared → Prop), Frm h env ls → Ext Nil h₀ h →
      (∀ x ∈ binds, env.kindOf x.1 = some .local ∨ env.kindOf x.1 = some .cell) →
      (∀ h' t', Frm h' env (binds.reverse ++ ls) → Ext Nil h₀ h' → h'.objs.size = h.objs.size → Q ⟨⟩ ⟨h', g, d, t', os⟩) → wpAny M A (forIn binds ⟨⟩ f) Q E ⟨h, g, d, t, os⟩
  | [], ls, h, t, Q, F, x, _, q => by rw [List.forIn_nil]; exact wpAny_pure (q h t F x rfl)
  | (n, v) :: r, ls, h, t, Q, F, x, hk, q => by
    rw [List.forIn_cons, hf]
    refine wpAny_bind (wpAny_bind (F.st (hk _ (.head _)) fun h' t' F' x' hs => wpAny_pure ?_))
    have x'' : Ext Nil h₀ h' := x.then x' fun b hb e => by
      rcases e with ⟨_, rfl⟩ | ⟨k, e⟩
      · omega
      · have := hC n b k e
        omega
    exact bindAll f hf hL hC r _ h' t' Q F' x'' (fun y hy => hk y (.tail _ hy)) fun h'' t'' F'' x3 hs' => q h'' t'' (by simpa using F'') x3 (hs'.trans hs)

theorem newEnv_frm {scope : Scope} {globals : Addr} {clo : List (Str × Addr)} {binds fr : List (Str × Value)} {qual : Str} {func : Option Addr} {code : Value} {builtins : Addr} {Q : Env → Shared → Prop}
    (hk : scope.kind = .function) (hcl : ∀ n c, clo.lookup n = some c → c < h.objs.size) (hap : ∀ n n' c, clo.lookup n = some c → clo.lookup n' = some c → n = n')
    (hfr : ∀ n v, fr.lookup n = some v → scope.names.lookup n = some .free ∧ ∃ c, (cellsFrom (h.objs.size + 1) scope.names clo).lookup n = some c ∧ h.IsCell c (some v))
    (hbk : ∀ x ∈ binds, scope.names.lookup x.1 = some .local ∨ scope.names.lookup x.1 = some .cell)
    (q : ∀ env h' t', env = newEnv scope h.objs.size globals (cellsFrom (h.objs.size + 1) scope.names clo) qual func code none builtins → Frm h' env (binds.reverse ++ fr) → Ext Nil h h' →
      (∀ n c, env.cells.lookup n = some c → (clo.lookup n = some c) ∨ h.objs.size < c) → h.objs.size < h'.objs.size → Q env ⟨h', g, d, t', os⟩) :
    wpAny M A (newFunctionEnv scope globals clo binds qual func code none builtins) Q E ⟨h, g, d, t, os⟩ := by
  simp only [newFunctionEnv, Option.isSome_none, Bool.false_eq_true, if_false]
  refine wpAny_bind (wpAny_alloc ?_)
  refine wpAny_bind (wpAny_layCells _ (fun name kind cells => by cases hkc : kind == NameKind.cell <;> simp [hkc]) _ _ _ _ ?_)
  dsimp only
  have ok := cellsFrom_ok scope.names (h.push { cls := .type "frame", data := .dict #[] }) (h.objs.size + 1) [] ⟨fun _ _ hm => (nomatch hm), List.Pairwise.nil⟩ (by rw [Heap.size_push]; exact Nat.le_refl _)
  rw [Heap.size_push] at ok ⊢
  have hnew : cellsFrom (h.objs.size + 1) scope.names clo = cellsFrom (h.objs.size + 1) scope.names [] ++ clo := cellsFrom_app scope.names _ [] clo
  have hsz : h.objs.size < (pushCells (h.push { cls := .type "frame", data := .dict #[] }) scope.names).objs.size :=
    Heap.lt_size (pushCells_keeps _ _ _ _ (Heap.get?_push_size h (o := { cls := .type "frame", data := .dict #[] }) rfl))
  have hown : ∀ n c, (cellsFrom (h.objs.size + 1) scope.names clo).lookup n = some c → (clo.lookup n = some c ∧ (cellsFrom (h.objs.size + 1) scope.names []).lookup n = none) ∨ (h.objs.size < c ∧ (n, c) ∈ cellsFrom (h.objs.size + 1) scope.names []) := fun n c e => by
    rw [hnew] at e
    rcases lookup_app e with e | ⟨e0, e⟩
    · exact .inr ⟨(ok.empty n c (mem_of_lookup e)).2, mem_of_lookup e⟩
    · exact .inl ⟨e, e0⟩
  have F0 : Frm (pushCells (h.push { cls := .type "frame", data := .dict #[] }) scope.names) (newEnv scope h.objs.size globals (cellsFrom (h.objs.size + 1) scope.names clo) qual func code none builtins) fr := by
    refine ⟨⟨_, (Heap.Ns.new h (.type "frame")).keeps (pushCells_keeps _ _), fun n v k e => ?_⟩, fun n v k e => ?_, fun n k => ?_, fun n n' c e e' => ?_, hk, ⟨_, pushCells_keeps _ _ _ _ (Heap.get?_push_size h (o := { cls := .type "frame", data := .dict #[] }) rfl), rfl⟩⟩
    · have z := (hfr n v e).1
      have k' : scope.names.lookup n = some .local := k
      rw [z] at k'; cases k'
    · obtain ⟨_, c, a, b⟩ := hfr n v e
      exact ⟨c, a, b.keeps fun b o e => pushCells_keeps _ _ b o (Heap.get?_push_of_some _ e)⟩
    · obtain ⟨c, hc⟩ := cellsFrom_has scope.names (h.objs.size + 1) [] n k
      obtain ⟨c', hc'⟩ := lookup_of_mem hc
      refine ⟨c', ?_, none, (ok.empty n c' (mem_of_lookup hc')).1⟩
      show (cellsFrom (h.objs.size + 1) scope.names clo).lookup n = some c'
      rw [hnew]
      exact lookup_app_left hc'
    · rcases hown n c e with ⟨a, _⟩ | ⟨a, a'⟩ <;> rcases hown n' c e' with ⟨b, _⟩ | ⟨b, b'⟩
      · exact hap n n' c a b
      · exact absurd (hcl n c a) (Nat.not_lt.mpr (Nat.le_of_lt b))
      · exact absurd (hcl n' c b) (Nat.not_lt.mpr (Nat.le_of_lt a))
      · exact name_of_addr ok.apart a' b'
  have x0 : Ext Nil h (pushCells (h.push { cls := .type "frame", data := .dict #[] }) scope.names) := ⟨Nat.le_of_lt hsz, fun b o e _ => pushCells_keeps _ _ b o (Heap.get?_push_of_some _ e)⟩
  refine wpAny_bind (bindAll _ (env := newEnv scope h.objs.size globals (cellsFrom (h.objs.size + 1) scope.names clo) qual func code none builtins) (fun _ _ _ => rfl) (h₀ := h) (Nat.le_refl _) (fun n c k e => ?_) binds fr _ _ _ F0 x0 hbk fun h' t' F' x' hs => wpAny_pure (q _ h' t' rfl F' x' (fun n c e => ?_) (by omega)))
  · rcases hown n c e with ⟨_, a⟩ | ⟨a, _⟩
    · obtain ⟨c₁, hc₁⟩ := cellsFrom_has scope.names (h.objs.size + 1) [] n k
      obtain ⟨c', hc'⟩ := lookup_of_mem hc₁
      rw [hc'] at a; cases a
    · omega
  · rcases hown n c e with ⟨a, _⟩ | ⟨a, _⟩
    · exact .inl a
    · exact .inr a
end

section
variable {prog : Program} {w : World} {A : Around} {h : Heap} {g : Array GenState} {d : Drawn} {t : Nat} {os : OsState} {R : Result → Shared → Prop}

/-- the frame that a call of fd makes -/
abbrev envOn (fd : FuncData) (L a : Addr) : Env := newEnv fd.scope L fd.globals (cellsFrom (L + 1) fd.scope.names fd.closure) (fd.qualname ++ ".<locals>.") (some a) fd.code none fd.builtins

/-- the closure of a function object stands -/
structure Clo (h : Heap) (fd : FuncData) (fr : List (Str × Value)) : Prop where
  lt : ∀ n c, fd.closure.lookup n = some c → c < h.objs.size
  apart : ∀ n n' c, fd.closure.lookup n = some c → fd.closure.lookup n' = some c → n = n'
  has : ∀ n v, fr.lookup n = some v → fd.scope.names.lookup n = some .free ∧ ∃ c, (cellsFrom (h.objs.size + 1) fd.scope.names fd.closure).lookup n = some c ∧ h.IsCell c (some v)

theorem call_stmts {a : Addr} {o : Obj} {fd : FuncData} {body : List Stmt} {vals : List Value} {binds fr : List (Str × Value)}
    (hroom : A.depth < recursionLimit) (ho : h.get? a = some o) (hdata : o.data = .func fd) (hlim : h.NoLimit) (hcd : h.CodeRec fd.code fd.qualname)
    (hbody : fd.body = .stmts body) (hbind : bindArgs fd ⟨vals, []⟩ = pure binds) (hclo : Clo h fd fr)
    (hbk : ∀ x ∈ binds, fd.scope.names.lookup x.1 = some .local ∨ fd.scope.names.lookup x.1 = some .cell)
    (q : ∀ env h' t', env = envOn fd h.objs.size a → Frm h' env (binds.reverse ++ fr) → Ext Nil h h' → (∀ n c, env.cells.lookup n = some c → (fd.closure.lookup n = some c) ∨ h.objs.size < c) → h.objs.size < h'.objs.size →
      wpAny (model prog w) (A.deeper env) (execs body env) (fun f s' => R (.ok (.ret (match f with | .ret v => v | _ => .none))) s')
        (fun e s' => wpAny (model prog w) (A.deeper env) (leaving env e) (fun _ s'' => R (.error e) s'') (fun e' s'' => R (.error e') s'') s') ⟨h', g, d, t', os⟩)
    (hco : fd.scope.isCoroutine = false := by rfl) (hgen : fd.scope.isGenerator = false := by rfl) (hk : fd.scope.kind = .function := by rfl) :
    codeAny (model prog w) A (.call (.ref a) ⟨vals, []⟩) R ⟨h, g, d, t, os⟩ := by
  refine codeAny_call_function hroom ho hdata hco hgen hbody hcd ?_
  rw [hbind]
  refine wpAny_pure (newEnv_frm hk hclo.lt hclo.apart hclo.has hbk fun env h' t' he F x k l => ?_)
  exact ⟨hlim.keeps x.nil, codeAny_func (q env h' t' he F x k l)⟩

theorem call_expr {a : Addr} {o : Obj} {fd : FuncData} {body : Expr} {vals : List Value} {binds fr : List (Str × Value)}
    (hroom : A.depth < recursionLimit) (ho : h.get? a = some o) (hdata : o.data = .func fd) (hlim : h.NoLimit) (hcd : h.CodeRec fd.code fd.qualname)
    (hbody : fd.body = .expr body) (hbind : bindArgs fd ⟨vals, []⟩ = pure binds) (hclo : Clo h fd fr)
    (hbk : ∀ x ∈ binds, fd.scope.names.lookup x.1 = some .local ∨ fd.scope.names.lookup x.1 = some .cell)
    (q : ∀ env h' t', env = envOn fd h.objs.size a → Frm h' env (binds.reverse ++ fr) → Ext Nil h h' → (∀ n c, env.cells.lookup n = some c → (fd.closure.lookup n = some c) ∨ h.objs.size < c) → h.objs.size < h'.objs.size →
      wpAny (model prog w) (A.deeper env) (eval body env) (fun v s' => R (.ok (.ret v)) s')
        (fun e s' => wpAny (model prog w) (A.deeper env) (leaving env e) (fun _ s'' => R (.error e) s'') (fun e' s'' => R (.error e') s'') s') ⟨h', g, d, t', os⟩)
    (hco : fd.scope.isCoroutine = false := by rfl) (hgen : fd.scope.isGenerator = false := by rfl) (hk : fd.scope.kind = .function := by rfl) :
    codeAny (model prog w) A (.call (.ref a) ⟨vals, []⟩) R ⟨h, g, d, t, os⟩ := by
  refine kla_callFunE hroom ho hdata hco hgen hbody hcd ?_
  rw [hbind]
  refine wpAny_pure (newEnv_frm hk hclo.lt hclo.apart hclo.has hbk fun env h' t' he F x k l => ?_)
  exact ⟨hlim.keeps x.nil, kla_codeExpr (q env h' t' he F x k l)⟩
end


section
variable {M : Model} {A : Around} {E : Value → Shared → Prop} {s : Shared} {env : Env}

theorem spliced_nil {Q : List Value → Shared → Prop} (h : Q [] s) : wpAny M A (spliced []) Q E s := wpAny_pure h
theorem spliced_cons {t : Sem Value} {rest : List (Bool × Sem Value)} {Q : List Value → Shared → Prop}
    (h : wpAny M A t (fun v s₁ => wpAny M A (spliced rest) (fun vs s₂ => Q (v :: vs) s₂) E s₁) E s) : wpAny M A (spliced ((false, t) :: rest)) Q E s := by
  unfold spliced
  refine wpAny_bind (wpAny_mono h (fun v s₁ h₁ => ?_) fun _ _ x => x)
  exact wpAny_bind (wpAny_pure (wpAny_bind (wpAny_holding (wpAny_mono h₁ (fun vs s₂ h₂ => wpAny_pure h₂) fun _ _ x => x))))
theorem args_nil {pos : Pos} {Q : List Value → Shared → Prop} (h : Q [] s) : wpAny M A (spliced (backTo pos (starEach [] env))) Q E s := wpAny_pure h
theorem args_cons {pos : Pos} {e : Expr} {rest : List Expr} {Q : List Value → Shared → Prop}
    (h : wpAny M A (eval e env) (fun v s₁ => wpAny M A (spliced (backTo pos (starEach rest env))) (fun vs s₂ => Q (v :: vs) s₂) E s₁) E s)
    (hns : starEach (e :: rest) env = (false, eval e env) :: starEach rest env := by rfl) : wpAny M A (spliced (backTo pos (starEach (e :: rest) env))) Q E s := by
  rw [hns]; exact spliced_cons h

theorem evalArgs_pos {f : Value} {trees : List (Bool × Sem Value)} {Q : Args → Shared → Prop} (hs : trees.any (·.1) = false)
    (h : wpAny M A (spliced trees) (fun vs s₁ => Q ⟨vs, []⟩ s₁) E s) : wpAny M A (evalArgs f true trees []) Q E s := by
  match trees, hs, h with
  | [], _, h =>
    unfold evalArgs
    show wpAny M A (spliced [] >>= _) Q E s
    refine wpAny_bind (wpAny_mono h (fun vs s' h' => ?_) fun _ _ x => x)
    refine wpAny_bind (wpAny_pure (wpAny_holding ?_))
    exact wpAny_bind (wpAny_pure (wpAny_bind (wpAny_pure (wpAny_pure h'))))
  | (true, x) :: r, hs, _ => cases hs
  | (false, x) :: r, _, h => exact evalArgs_plain h

theorem callWith_gen {pos : Pos} {f : Value} {first : List Value} {trees : List (Bool × Sem Value)} {Q : Value → Shared → Prop} (hs : trees.any (·.1) = false) (hl : trees.length ≤ 30)
    (h : wpAny M A (spliced trees) (fun vs s₁ => wpAny M A (keeperOf f) (fun _ s₂ => wpAny M A (call f (first ++ vs) []) Q E s₂) E s₁) E s) : wpAny M A (callWith pos f first trees []) Q E s := by
  unfold callWith
  refine wpAny_bind (wpAny_holding (evalArgs_pos hs (wpAny_mono h (fun vs s₁ h₁ => ?_) fun _ _ x => x)))
  refine wpAny_bind (wpAny_standAt ?_)
  have hst : (trees.any (·.1) || ([] : List (Option Str × Sem Value)).any (·.1.isNone)) = false := by rw [hs]; rfl
  have hn : ¬ trees.length + 2 * ([] : List (Option Str × Sem Value)).length > 30 := by simp only [List.length_nil]; omega
  dsimp only
  rw [hst]
  refine wpAny_bind (wpAny_mono h₁ (fun k s₂ h₂ => ?_) fun _ _ x => x)
  have fin : ∀ v s₃, Q v s₃ → wpAny M A (do holding [v] point; pure v) Q E s₃ := fun v s₃ q => wpAny_bind (wpAny_holding (wpAny_point (wpAny_pure q)))
  cases k with
  | frame =>
    dsimp only
    rw [if_neg hn]
    exact wpAny_bind (wpAny_keep (wpAny_mono h₂ (fun v s₃ q => fin v s₃ q) fun _ _ x => x))
  | boundFrame =>
    dsimp only
    rw [if_neg hn]
    exact wpAny_bind (wpAny_keep (wpAny_mono h₂ (fun v s₃ q => fin v s₃ q) fun _ _ x => x))
  | machine => exact wpAny_bind (wpAny_mono h₂ (fun v s₃ q => fin v s₃ q) fun _ _ x => x)
  | caller => exact wpAny_bind (wpAny_operating (wpAny_mono h₂ (fun v s₃ q => fin v s₃ q) fun _ _ x => x))

theorem keeper_builtin {id : String} {Q : Keeper → Shared → Prop} (h : ∀ k, Q k s) : wpAny M A (keeperOf (.builtin id)) Q E s := wpAny_pure (h _)
theorem keeper_type {id : String} {Q : Keeper → Shared → Prop} (h : ∀ k, Q k s) : wpAny M A (keeperOf (.type id)) Q E s := wpAny_pure (h _)
theorem keeper_fn {a : Addr} {o : Obj} {fd : FuncData} {Q : Keeper → Shared → Prop} (ho : s.heap.get? a = some o) (hd : o.data = .func fd) (h : ∀ k, Q k s) : wpAny M A (keeperOf (.ref a)) Q E s := by
  unfold keeperOf
  refine wpAny_bind (wpAny_load ho ?_)
  rw [hd]
  exact wpAny_pure (h _)
/-- a call of a function object, its arguments by place -/
theorem call_by {fx : Expr} {args : List Expr} {pos : Pos} {Q : Value → Shared → Prop}
    (h : wpAny M A (eval fx env) (fun f s₁ => wpAny M A (spliced (backTo pos (starEach args env))) (fun vs s₂ => wpAny M A (keeperOf f) (fun _ s₃ => wpAny M A (call f vs []) Q E s₃) E s₂) E s₁) E s)
    (he : eval (.Call fx args [] pos) env = (do callWith pos (← eval fx env) [] (backTo pos (starEach args env)) (backToKw pos (keywordEach [] env))) := by rfl)
    (hs : (backTo pos (starEach args env)).any (·.1) = false := by rfl) (hl : Nat.ble (backTo pos (starEach args env)).length 30 = true := by rfl) :
    wpAny M A (eval (.Call fx args [] pos) env) Q E s := by
  rw [he]
  exact wpAny_bind (wpAny_mono h (fun f s₁ h₁ => callWith_gen hs (Nat.le_of_ble_eq_true hl) h₁) fun _ _ x => x)
end


def P0 : Program := PySem.Challenge.pw_dz0034_01
def topS (i : Nat) : Stmt := match P0.main.body[i]? with | some s => s | none => .Pass ⟨0, 0, 0, 0⟩
def fnOf (s : Stmt) (pm : Value) (code : Addr) : FuncData := match s with
  | .FunctionDef name args body _ _ _ scope _ _ _ =>
    { name, qualname := name, params := args, body := .stmts body, scope, globals := mainGlobals, closure := [], defaults := .none, kwdefaults := .none, pyModule := pm, code := .ref code, builtins := builtinsNs }
  | _ => default
def bodyOf (s : Stmt) : List Stmt := match s with | .FunctionDef _ _ body _ _ _ _ _ _ _ => body | _ => []
abbrev oFn (fd : FuncData) : Obj := { cls := .type "function", data := .func fd }
abbrev oList (its : List Value) (n : Nat) : Obj := { cls := .type "list", data := .seq its.toArray n }
abbrev oTup (its : List Value) : Obj := { cls := .type "tuple", data := .seq its.toArray }

def fdCmp : FuncData := fnOf (topS 1) (.str "cpy313.functools" 187) 20
def fdNever : FuncData := fnOf (topS 3) (.str "law_dz0034_01" 198) 27
def fdAns : FuncData := fnOf (topS 4) (.str "law_dz0034_01" 198) 34
def fdShaky : FuncData := fnOf (topS 5) (.str "law_dz0034_01" 198) 41
def fdLaw : FuncData := fnOf (topS 6) (.str "law_dz0034_01" 198) 46

def gvals : List (Str × Value) := [("cmp_to_key", .ref 21), ("_law_never", .ref 28), ("_law_answer", .ref 35), ("_law_shaky", .ref 42), ("__name__", .str "law_dz0034_01" 198), ("__builtins__", .ref 4)]
def bvals : List (Str × Value) := [("len", .builtin "len"), ("range", .type "range"), ("sorted", .builtin "sorted"), ("sum", .builtin "sum"), ("abs", .builtin "abs"), ("KeyError", .type "KeyError"), ("object", .type "object")]

/-- what the text's top has left, and what stays as it is -/
structure Sta (h : Heap) : Prop where
  st2 : h.get? 2 = some { cls := .none, data := .dict #[] 0 }
  gl : ∃ m, h.Ns mainGlobals m ∧ (∀ p ∈ gvals, m p.1 = some p.2) ∧ ∀ p ∈ bvals, m p.1 = none
  bl : ∃ m, h.Ns builtinsNs m ∧ (∀ p ∈ bvals, m p.1 = some p.2) ∧ m "__build_class__" = some (.builtin "__build_class__")
  bm : ∃ o, h.get? 4 = some o ∧ o.cls = .type "module" ∧ o.dict = some builtinsNs ∧ o.data = .plain
  f21 : h.get? 21 = some (oFn fdCmp)
  f28 : h.get? 28 = some (oFn fdNever)
  f35 : h.get? 35 = some (oFn fdAns)
  f42 : h.get? 42 = some (oFn fdShaky)
  c20 : h.CodeRec (.ref 20) "cmp_to_key"
  c27 : h.CodeRec (.ref 27) "_law_never"
  c34 : h.CodeRec (.ref 34) "_law_answer"
  c41 : h.CodeRec (.ref 41) "_law_shaky"
  hd20 : CodeHd h 20 16
  hd46 : CodeHd h 46 44
  sz : 48 ≤ h.objs.size

/-- the addresses that a run of the law may change -/
abbrev Hi (X : Addr → Prop) : Prop := ∀ b, X b → b = 16 ∨ b = 44 ∨ 47 < b

theorem Sta.ext {h h' : Heap} {X : Addr → Prop} (S : Sta h) (x : Ext X h h') (hX : Hi X) : Sta h' := by
  have lo : ∀ b, b ≠ 16 → b ≠ 44 → b ≤ 47 → ¬ X b := fun b h1 h2 h3 q => by
    rcases hX b q with r | r | r
    · exact h1 r
    · exact h2 r
    · exact absurd h3 (Nat.not_le.mpr r)
  have cr : ∀ {c q}, h.CodeRec (.ref c) q → c ≠ 16 → c ≠ 44 → c ≤ 47 → h'.CodeRec (.ref c) q := fun {c q} r h1 h2 h3 => x.codeRec r fun c' e => by cases e; exact lo _ h1 h2 h3
  have hd : ∀ {c P}, CodeHd h c P → c ≠ 16 → c ≠ 44 → c ≤ 47 → CodeHd h' c P := fun {c P} ⟨o, vs, a1, a2, a3, a4, a5, a6, a7, e, r⟩ h1 h2 h3 => ⟨o, vs, a1, a2, a3, a4, a5, a6, a7, x.get e (lo _ h1 h2 h3), r⟩
  exact
  { st2 := x.get S.st2 (lo _ (by decide) (by decide) (by decide))
    gl := let ⟨m, a, b⟩ := S.gl; ⟨m, x.ns a (lo _ (by decide) (by decide) (by decide)), b⟩
    bl := let ⟨m, a, b⟩ := S.bl; ⟨m, x.ns a (lo _ (by decide) (by decide) (by decide)), b⟩
    bm := let ⟨o, e, r⟩ := S.bm; ⟨o, x.get e (lo _ (by decide) (by decide) (by decide)), r⟩
    f21 := x.get S.f21 (lo _ (by decide) (by decide) (by decide))
    f28 := x.get S.f28 (lo _ (by decide) (by decide) (by decide))
    f35 := x.get S.f35 (lo _ (by decide) (by decide) (by decide))
    f42 := x.get S.f42 (lo _ (by decide) (by decide) (by decide))
    c20 := cr S.c20 (by decide) (by decide) (by decide)
    c27 := cr S.c27 (by decide) (by decide) (by decide)
    c34 := cr S.c34 (by decide) (by decide) (by decide)
    c41 := cr S.c41 (by decide) (by decide) (by decide)
    hd20 := hd S.hd20 (by decide) (by decide) (by decide)
    hd46 := hd S.hd46 (by decide) (by decide) (by decide)
    sz := Nat.le_trans S.sz x.1 }
theorem Sta.keep {h h' : Heap} (S : Sta h) (x : Ext Nil h h') : Sta h' := S.ext x fun _ q => q.elim
theorem Sta.nolimit {h : Heap} (S : Sta h) : h.NoLimit := ⟨fun _ => none, ⟨_, _, _, S.st2, rfl, fun e he => by simp at he, fun _ => rfl⟩, rfl⟩

section
variable {M : Model} {A : Around} {E : Value → Shared → Prop} {env : Env} {h : Heap} {g : Array GenState} {d : Drawn} {t : Nat} {os : OsState}
theorem Sta.ldg {n : Str} {v : Value} {pos : Pos} {Q : Value → Shared → Prop} (S : Sta h) (hv : (n, v) ∈ gvals) (q : Q v ⟨h, g, d, t, os⟩) (hk : env.kindOf n = some .globalImplicit) (hf : env.scope.kind = .function) (hg : env.globals = mainGlobals)
    (hd : (n == ("__debug__" : Str)) = false := by decide) : wpAny M A (eval (.Name n pos) env) Q E ⟨h, g, d, t, os⟩ := by
  refine wpAny_Name ?_ hd
  rw [loadName_read hf hk]
  obtain ⟨m, a, b, _⟩ := S.gl
  exact loadGlobal_global (by rw [hg]; exact a) (b _ hv) q
theorem Sta.ldb {n : Str} {v : Value} {pos : Pos} {Q : Value → Shared → Prop} (S : Sta h) (hv : (n, v) ∈ bvals) (q : Q v ⟨h, g, d, t, os⟩) (hk : env.kindOf n = some .globalImplicit) (hf : env.scope.kind = .function) (hg : env.globals = mainGlobals)
    (hb : env.builtins = builtinsNs) (hd : (n == ("__debug__" : Str)) = false := by decide) : wpAny M A (eval (.Name n pos) env) Q E ⟨h, g, d, t, os⟩ := by
  refine wpAny_Name ?_ hd
  rw [loadName_read hf hk]
  obtain ⟨m, a, _, b⟩ := S.gl
  obtain ⟨m', a', b', _⟩ := S.bl
  exact loadGlobal_builtin (by rw [hg]; exact a) (b _ hv) (by rw [hb]; exact a') (b' _ hv) q
end

def LstAt (h : Heap) (a : Addr) (its : List Value) : Prop := ∃ n, h.get? a = some (oList its n)
theorem lst_append {prog : Program} {w : World} {A : Around} {E : Value → Shared → Prop} {h : Heap} {g : Array GenState} {d : Drawn} {t : Nat} {os : OsState} {l : Addr} {its : List Value} {x : Value} {Q : Value → Shared → Prop} (hl : LstAt h l its)
    (q : ∀ h', LstAt h' l (its ++ [x]) → Heap.SameBut l h h' → Q .none ⟨h', g, d, t, os⟩) (hsz : its.length ≤ sizeLine) : wpAny (model prog w) A (call (.builtin "list.append") [.ref l, x]) Q E ⟨h, g, d, t, os⟩ := by
  obtain ⟨n, e⟩ := hl
  refine wpAny_list_append_plain (items := its.toArray) ⟨n, e⟩ (fun h' p s => q h' ?_ s) (by rw [List.size_toArray]; exact hsz)
  obtain ⟨n', e'⟩ := p
  exact ⟨n', by rw [List.push_toArray] at e'; exact e'⟩
theorem LstAt.isList {h : Heap} {a : Addr} {its : List Value} (x : LstAt h a its) : h.IsList a its.toArray := let ⟨n, e⟩ := x; ⟨_, e, rfl, n, rfl⟩
theorem Ext.lst {h h' : Heap} {X : Addr → Prop} (x : Ext X h h') {a : Addr} {its : List Value} (l : LstAt h a its) (ha : ¬ X a) : LstAt h' a its := let ⟨n, e⟩ := l; ⟨n, x.get e ha⟩
theorem LstAt.lt {h : Heap} {a : Addr} {its : List Value} (x : LstAt h a its) : a < h.objs.size := let ⟨_, e⟩ := x; Heap.lt_size e
theorem ints_get {vs : List Value} {ns : List Int} (I : IntsAre vs ns) : ∀ {i : Nat} {n : Int}, ns[i]? = some n → ∃ t, vs[i]? = some (.int n t) := by
  induction I with
  | nil => intro i n e; simp at e
  | cons m t I ih =>
    intro i n e
    cases i with
    | zero => simp at e; subst e; exact ⟨t, rfl⟩
    | succ i => simp at e ⊢; exact ih e

/-- two numbers lie on the same side of nought -/
def SameSign (r q : Int) : Prop := (r < 0 ↔ q < 0) ∧ (0 < r ↔ 0 < q)
/-- how two things stand: the halves of their numbers -/
def standOf (ns : List Int) (i j : Nat) : Int := (ns.getD i 0).fdiv 2 - (ns.getD j 0).fdiv 2


def kindOk (sc : Scope) (n : Str) : Bool := match sc.names.lookup n with | some .local => true | some .cell => true | _ => false
theorem bk_of {sc : Scope} {binds : List (Str × Value)} (e : (binds.all fun x => kindOk sc x.1) = true) : ∀ x ∈ binds, sc.names.lookup x.1 = some .local ∨ sc.names.lookup x.1 = some .cell := fun x hx => by
  have z := List.all_eq_true.mp e x hx
  unfold kindOk at z
  split at z
  · rename_i q; exact .inl q
  · rename_i q; exact .inr q
  · cases z
theorem LstAt.plain {h : Heap} {a : Addr} {its : List Value} (x : LstAt h a its) : PlainL h a its.toArray := let ⟨n, e⟩ := x; ⟨_, n, e, rfl, rfl, rfl⟩
theorem lk_hit {n : Str} {v : Value} {ls : List (Str × Value)} : List.lookup n ((n, v) :: ls) = some v := by rw [lookup_cons', if_pos rfl]
theorem lk_miss {n n' : Str} {v w : Value} {ls : List (Str × Value)} (hn : (n' == n) = false) (r : List.lookup n' ls = some w) : List.lookup n' ((n, v) :: ls) = some w := by
  rw [List.lookup_cons, hn]; exact r

theorem b_len : (("len" : Str), Value.builtin "len") ∈ bvals := by simp [bvals]
theorem b_range : (("range" : Str), Value.type "range") ∈ bvals := by simp [bvals]
theorem b_sorted : (("sorted" : Str), Value.builtin "sorted") ∈ bvals := by simp [bvals]
theorem b_sum : (("sum" : Str), Value.builtin "sum") ∈ bvals := by simp [bvals]
theorem b_abs : (("abs" : Str), Value.builtin "abs") ∈ bvals := by simp [bvals]
theorem b_key : (("KeyError" : Str), Value.type "KeyError") ∈ bvals := by simp [bvals]
theorem b_object : (("object" : Str), Value.type "object") ∈ bvals := by simp [bvals]
theorem g_cmp : (("cmp_to_key" : Str), Value.ref 21) ∈ gvals := by simp [gvals]
theorem g_never : (("_law_never" : Str), Value.ref 28) ∈ gvals := by simp [gvals]
theorem g_answer : (("_law_answer" : Str), Value.ref 35) ∈ gvals := by simp [gvals]
theorem g_shaky : (("_law_shaky" : Str), Value.ref 42) ∈ gvals := by simp [gvals]

section
variable {prog : Program} {w : World} {A : Around} {E : Value → Shared → Prop} {h : Heap} {g : Array GenState} {d : Drawn} {t : Nat} {os : OsState}
theorem sub_list {value slice : Expr} {l : Addr} {its : List Value} {k : Nat} {u : Tok} {v : Value} {Q : Value → Shared → Prop} (hl : LstAt h l its) (hx : its[k]? = some v) (hk : (k : Int) < 2 ^ 63) (q : Q v ⟨h, g, d, t, os⟩)
    (hs : ∀ o i : Value, subscripted slice false o i = operate [o, i] (getItem o i) := by intro _ _; with_unfolding_all rfl) :
    wpAny (model prog w) A (subscriptTail value slice (.ref l) (.int k u)) Q E ⟨h, g, d, t, os⟩ := by
  refine tail_any hl.isList.typeIs slot_list_getitem.lookup (wpAny_getItem_list hl.isList (Int.natCast_nonneg k) hk ?_ q) (hs _ _)
  simpa using hx
theorem len_lst {l : Addr} {its : List Value} {Q : Value → Shared → Prop} (hl : LstAt h l its) (hk : its.length ≤ 100000) (q : ∀ u t', Q (.int its.length u) ⟨h, g, d, t', os⟩) :
    wpAny (model prog w) A (call (.builtin "len") [.ref l]) Q E ⟨h, g, d, t, os⟩ := by
  refine len_list hl.isList (by rw [List.size_toArray]; omega) ?_
  have e : (its.toArray.size : Int) = (its.length : Int) := by rw [List.size_toArray]
  rw [e]
  exact q _ _
theorem abs_int {a : Int} {u : Tok} {Q : Value → Shared → Prop} (q : ∀ u t', Q (.int (if a < 0 then -a else a) u) ⟨h, g, d, t', os⟩) : wpAny (model prog w) A (call (.builtin "abs") [.int a u]) Q E ⟨h, g, d, t, os⟩ :=
  call_abs_int fun u tk => q u tk
end

local macro_rules | `(tactic| walk_at "m lk") => `(tactic| first | with_reducible exact lk_hit | (apply lk_miss (by decide +kernel); walk_at "m lk"))
local macro_rules | `(tactic| walk_at "m var") => `(tactic| (refine Frm.ld (by assumption) (by first | exact .inl (by kernel_rfl!) | exact .inr (.inl (by kernel_rfl!)) | exact .inr (.inr ⟨by kernel_rfl!, by decide +kernel⟩)) (by walk_at "m lk") ?_))
local macro_rules | `(tactic| walk_at "m glob") => `(tactic| first
  | (with_reducible refine Sta.ldb (by assumption) (by with_reducible first | exact b_len | exact b_range | exact b_sorted | exact b_sum | exact b_abs | exact b_key | exact b_object) ?_ (by kernel_rfl) (by kernel_rfl) (by kernel_rfl) (by kernel_rfl))
  | (with_reducible refine Sta.ldg (by assumption) (by with_reducible first | exact g_cmp | exact g_never | exact g_answer | exact g_shaky) ?_ (by kernel_rfl) (by kernel_rfl) (by kernel_rfl)))
local macro_rules | `(tactic| walk_at "m int") => `(tactic| (refine wpAny_Constant_int ?_; dsimp only))

section
variable {prog : Program} {w : World} {A : Around} {E : Value → Shared → Prop} {h : Heap} {g : Array GenState} {d : Drawn} {t : Nat} {os : OsState}

theorem answer_spec {T N a b : Addr} {its vs : List Value} {ns : List Int} {mark : Int} {tm : Tok} {i j : Nat} {xa xb : Value} {ti tj : Tok} {Q : Value → Shared → Prop}
    (S : Sta h) (hroom : A.depth < recursionLimit) (hN : LstAt h N vs) (I : IntsAre vs ns) (hT : LstAt h T its) (hsz : its.length ≤ 1000000) (ha : LstAt h a [xa, .int i ti]) (hb : LstAt h b [xb, .int j tj])
    (hi : i < ns.length) (hj : j < ns.length) (h48 : 47 < T) (hlen : ns.length ≤ 100) (hNT : N ≠ T) (haT : a ≠ T) (hbT : b ≠ T)
    (q : ∀ r u h' t' tp, Ext (· = T) h h' → LstAt h' T (its ++ [.ref tp]) → h'.get? tp = some (oTup [.int mark tm, .ref a, .ref b]) → h.objs.size ≤ tp →
      SameSign r (if mark = 0 then standOf ns i j else - standOf ns i j) → Q (.int r u) ⟨h', g, d, t', os⟩) :
    wpAny (model prog w) A (call (.ref 35) [.ref T, .ref N, .int mark tm, .ref a, .ref b]) Q E ⟨h, g, d, t, os⟩ := by
  refine wpAny_call (call_stmts (fd := fdAns) (body := bodyOf (topS 4)) (fr := []) (binds := [("notes", .ref T), ("numbers", .ref N), ("mark", .int mark tm), ("a", .ref a), ("b", .ref b)]) hroom S.f35 rfl S.nolimit S.c34 (by kernel_rfl) (by kernel_rfl) ⟨nofun, nofun, nofun⟩ (bk_of (by kernel_rfl)) ?_ (by kernel_rfl) (by kernel_rfl) (by kernel_rfl))
  intro env h1 t1 he F x1 _ hlt
  have F : Frm h1 env [("b", .ref b), ("a", .ref a), ("mark", .int mark tm), ("numbers", .ref N), ("notes", .ref T)] := F
  subst he
  have S1 := S.keep x1
  have hT1 := x1.lst hT id
  refine wpAny_execs_cons ?_
  refine wpAny_Expr_any ?_ (by kernel_rfl) (by kernel_rfl)
  refine wpAny_Call_append (by kernel_rfl) (by kernel_rfl) (by kernel_rfl) (by kernel_rfl) ?_
  walk_at "m var"
  refine ⟨T, its.toArray, rfl, hT1.plain, ?_⟩
  refine wpAny_Tuple_spliced ?_
  refine args_cons ?_
  walk_at "m var"
  refine args_cons ?_
  walk_at "m var"
  refine args_cons ?_
  walk_at "m var"
  refine args_nil ?_
  refine ⟨Nat.le_of_ble_eq_true rfl, ?_⟩
  dsimp only
  have x2 : Ext Nil h (h1.push (oTup [.int mark tm, .ref a, .ref b])) := x1.push _
  refine lst_append (its := its) (((Ext.refl (X := Nil)).push _).lst hT1 id) ?_ (Nat.le_trans hsz (by decide))
  intro h2 hT2 hs2
  have htp : h2.get? h1.objs.size = some (oTup [.int mark tm, .ref a, .ref b]) := by
    rw [hs2.2 _ (Nat.ne_of_gt hT1.lt)]
    exact Heap.get?_push_size _ rfl
  have x3 : Ext (· = T) h h2 := (x2.mono fun _ _ q => q.elim).same hs2 fun _ => rfl
  have F2 : Frm h2 (envOn fdAns h.objs.size 35) [("b", .ref b), ("a", .ref a), ("mark", .int mark tm), ("numbers", .ref N), ("notes", .ref T)] := by
    refine (F.keep ((Ext.refl (X := Nil)).push _)).ext (X := (· = T)) (Ext.same Ext.refl hs2 fun _ => rfl) (Nat.ne_of_gt hT.lt) (fun n c e => ?_)
    exact (by cases e)
  have S2 := S.ext x3 fun b e => .inr (.inr (e ▸ h48))
  have hN2 := x3.lst hN hNT
  have ha2 := x3.lst ha haT
  have hb2 := x3.lst hb hbT
  clear F S1
  obtain ⟨ui, hui⟩ := ints_get I (List.getElem?_eq_getElem hi)
  obtain ⟨uj, huj⟩ := ints_get I (List.getElem?_eq_getElem hj)
  refine wpAny_execs_cons (wpAny_Assign_Name ?_ (by kernel_rfl))
  refine wpAny_BinOp (wpAny_BinOp (Subscript_ ?_))
  walk_at "m var"
  refine Subscript_ ?_
  walk_at "m var"
  walk_at "m int"
  refine sub_list (k := 1) ha2 rfl (by decide) ?_
  refine sub_list hN2 hui (by omega) ?_
  walk_at "m int"
  refine floordiv_int (by decide) ?_
  dsimp only
  refine wpAny_BinOp (Subscript_ ?_)
  walk_at "m var"
  refine Subscript_ ?_
  walk_at "m var"
  walk_at "m int"
  refine sub_list (k := 1) hb2 rfl (by decide) ?_
  refine sub_list hN2 huj (by omega) ?_
  walk_at "m int"
  refine floordiv_int (by decide) ?_
  dsimp only
  refine sub_int ?_
  dsimp only
  refine Frm.stx F2 (.inl (by kernel_rfl)) x3 (Nat.le_refl _) (fun c k => by cases k) ?_
  intro h3 t3 F3 x4 k4 k4' hz3
  have S3 := S.ext x4 fun b e => .inr (.inr (e ▸ h48))
  have hN3 := x4.lst hN hNT
  have ha3 := x4.lst ha haT
  have hb3 := x4.lst hb hbT
  clear F2 S2 hN2 ha2 hb2
  refine wpAny_execs_cons (wpAny_Assign_Name ?_ (by kernel_rfl))
  refine wpAny_BinOp ?_
  walk_at "m int"
  refine call_by ?_
  walk_at "m glob"
  refine args_cons ?_
  refine Subscript_ ?_
  walk_at "m var"
  refine wpAny_BinOp (wpAny_BinOp (Subscript_ ?_))
  walk_at "m var"
  walk_at "m int"
  refine sub_list (k := 1) ha3 rfl (by decide) ?_
  refine wpAny_BinOp ?_
  walk_at "m int"
  refine Subscript_ ?_
  walk_at "m var"
  walk_at "m int"
  refine sub_list (k := 1) hb3 rfl (by decide) ?_
  refine mul_int ?_
  dsimp only
  refine add_int ?_
  dsimp only
  refine call_by ?_
  walk_at "m glob"
  refine args_cons ?_
  walk_at "m var"
  refine args_nil ?_
  refine keeper_builtin fun _ => ?_
  have hvl : vs.length = ns.length := I.length
  refine len_lst hN3 (by omega) fun u4 t4 => ?_
  rw [hvl]
  refine mod_int' (by omega) ?_
  dsimp only
  have hmod : ((i : Int) + 2 * (j : Int)).fmod (ns.length : Int) = (((i + 2 * j) % ns.length : Nat) : Int) := by
    rw [Int.fmod_eq_emod_of_nonneg _ (by omega), Int.natCast_emod]
    congr 1
  rw [hmod]
  have hml : (i + 2 * j) % ns.length < ns.length := Nat.mod_lt _ (by omega)
  obtain ⟨um, hum⟩ := ints_get I (List.getElem?_eq_getElem hml)
  refine sub_list hN3 hum (by omega) ?_
  refine args_nil ?_
  refine keeper_builtin fun _ => ?_
  refine abs_int fun u5 t5 => ?_
  refine add_int ?_
  dsimp only
  refine Frm.stx F3 (.inl (by kernel_rfl)) x4 (Nat.le_refl _) (fun c k => by cases k) ?_
  intro h5 t6 F5 x5 k5 k5' hz5
  refine wpAny_execs_cons (wpAny_If (wpAny_isTrue_Compare1 ?_))
  walk_at "m var"
  walk_at "m int"
  refine eq_int (wpAny_truthy_bool ?_)
  have hst : ns[i].fdiv 2 - ns[j].fdiv 2 = standOf ns i j := by
    unfold standOf
    rw [List.getD_eq_getElem?_getD, List.getD_eq_getElem?_getD, List.getElem?_eq_getElem hi, List.getElem?_eq_getElem hj]
    rfl
  rw [hst]
  have hT5 : LstAt h5 T (its ++ [.ref h1.objs.size]) := by
    obtain ⟨n, e⟩ := hT2
    exact ⟨n, k5 _ _ (k4 _ _ e hT.lt) hT.lt⟩
  have htp5 : h5.get? h1.objs.size = some (oTup [.int mark tm, .ref a, .ref b]) := k5' _ _ (k4' _ _ htp (Nat.ne_of_gt hlt) nofun) (Nat.ne_of_gt hlt) nofun
  by_cases hz : standOf ns i j = 0
  · rw [if_pos (by simpa using hz)]
    refine wpAny_execs_cons (wpAny_Return_some ?_)
    walk_at "m int"
    refine q _ _ _ _ _ x5 hT5 htp5 (Nat.le_of_lt hlt) ?_
    unfold SameSign
    split <;> omega
  · rw [if_neg (by simpa using hz)]
    refine wpAny_execs_nil ?_
    refine wpAny_execs_cons (wpAny_Return_some ?_)
    refine wpAny_IfExp (wpAny_isTrue_Compare1 (wpAny_Compare1 ?_))
    walk_at "m var"
    walk_at "m int"
    refine gt_int (wpAny_Compare1 ?_)
    walk_at "m var"
    walk_at "m int"
    refine eq_int (eq_bool (wpAny_truthy_bool ?_))
    have hfar : 0 < 1 + (if ns[(i + 2 * j) % ns.length] < 0 then -ns[(i + 2 * j) % ns.length] else ns[(i + 2 * j) % ns.length]) := by split <;> omega
    rw [hst]
    by_cases hc : (decide (0 < standOf ns i j) == (mark == 0)) = true
    · rw [if_pos hc]
      walk_at "m var"
      refine q _ _ _ _ _ x5 hT5 htp5 (Nat.le_of_lt hlt) ?_
      unfold SameSign
      by_cases hm : mark = 0
      · subst hm
        simp at hc
        simp only [if_pos]
        omega
      · have hm' : (mark == 0) = false := by simpa using hm
        rw [hm'] at hc
        simp at hc
        rw [if_neg hm]
        omega
    · rw [if_neg hc]
      refine wpAny_UnaryOp ?_
      walk_at "m var"
      refine neg_int ?_
      refine q _ _ _ _ _ x5 hT5 htp5 (Nat.le_of_lt hlt) ?_
      unfold SameSign
      by_cases hm : mark = 0
      · subst hm
        simp at hc
        simp only [if_pos]
        omega
      · have hm' : (mark == 0) = false := by simpa using hm
        rw [hm'] at hc
        simp at hc
        rw [if_neg hm]
        omega
end

/-- what stands at each address of a fragment stands in its list -/
theorem frag_all {K : Frag} {h : Heap} (a : ∀ p ∈ K, h.get? p.1 = some p.2) : K.In h ∧ ∀ x o, (x, o) ∈ K → K.lookup x = some o := by
  have I : K.In h := fun x o e => a _ (mem_of_lookupK e)
  refine ⟨I, fun x o e => ?_⟩
  have : ∃ o', K.lookup x = some o' := by
    clear I a
    induction K with
    | nil => cases e
    | cons p r ih =>
      rw [List.lookup_cons]
      cases hb : x == p.1 with
      | true => exact ⟨p.2, rfl⟩
      | false =>
        rcases List.mem_cons.mp e with e | e
        · subst e; rw [beq_self_eq_true] at hb; cases hb
        · exact ih e
  obtain ⟨o', h'⟩ := this
  have e1 := I x o' h'
  have e2 := a _ e
  dsimp only at e2
  rw [e1] at e2
  cases e2
  exact h'

/-- where the parts of a class made by cmp_to_key lie -/
structure KA where
  C : Addr
  ns : Addr
  d : Addr
  fi : Addr
  fl : Addr
  fg : Addr
  fe : Addr
  fle : Addr
  fge : Addr

def kcd (k : KA) : ClassData := { name := "K", bases := [.type "object"], mro := [.ref k.C, .type "object"], ns := k.ns, qualname := "cmp_to_key.<locals>.K", hasDict := false, slotNames := ["obj"] }
def ktab (k : KA) (v1 v2 v3 v4 : Value) : List (Str × Value) :=
  [("__module__", v1), ("__firstlineno__", v2), ("__slots__", v3), ("__init__", .ref k.fi), ("__lt__", .ref k.fl), ("__gt__", .ref k.fg), ("__eq__", .ref k.fe), ("__le__", .ref k.fle), ("__ge__", .ref k.fge), ("__hash__", .none), ("__static_attributes__", v4), ("obj", .ref k.d), ("__doc__", .none)]

/-- the body of the class statement within cmp_to_key -/
def classS : Stmt := (bodyOf (topS 1)).getD 0 (.Pass ⟨0, 0, 0, 0⟩)
def classBody (s : Stmt) : List Stmt := match s with | .ClassDef _ _ _ body _ _ _ _ _ _ _ => body | _ => []
def methS (i : Nat) : Stmt := (classBody classS).getD i (.Pass ⟨0, 0, 0, 0⟩)
def fnIn (s : Stmt) (qual : Str) (clo : List (Str × Addr)) (pm code ct doc : Value) : FuncData := match s with
  | .FunctionDef name args body _ _ _ scope _ _ _ =>
    { name, qualname := qual ++ name, params := args, body := .stmts body, scope, globals := mainGlobals, closure := clo, defaults := .none, kwdefaults := .none, pyModule := pm, code, closureTuple := ct, doc, builtins := builtinsNs }
  | _ => default
abbrev kq : Str := "cmp_to_key.<locals>.K."
/-- no record whose second part is a text -/
def NoStr (o : Obj) : Prop := ∀ vs q t, o.data = .fields vs → vs[1]? = some (.str q t) → False
/-- the kinds of object that a run of the law changes -/
def Soft (o : Obj) : Prop := (o.cls = .type "list" ∨ o.cls = .type "frame" ∨ o.cls = .type "cell" ∨ o.cls = .none ∨ o.cls = .type "range_iterator" ∨ o.cls = .type "list_iterator" ∨ ∃ v, o.data = .cell v) ∧ NoStr o
def SoftX (X : Addr → Prop) (h : Heap) : Prop := ∀ b o, X b → h.get? b = some o → Soft o
theorem soft_list {its : Array Value} {n : Nat} : Soft { cls := .type "list", data := .seq its n } := ⟨.inl rfl, nofun⟩
theorem Ext.hard {X : Addr → Prop} {h h' : Heap} (x : Ext X h h') (hX : SoftX X h) {b : Addr} {o : Obj} (e : h.get? b = some o) (hn : ¬ Soft o) : h'.get? b = some o := x.get e fun q => hn (hX b o q e)
theorem softX_nil {h : Heap} : SoftX Nil h := fun _ _ q => q.elim
theorem softX_list {h : Heap} {T : Addr} {its : List Value} (l : LstAt h T its) : SoftX (· = T) h := fun b o e q => by
  subst e
  obtain ⟨n, e⟩ := l
  rw [e] at q; cases q
  exact soft_list
theorem softX_or {X Y : Addr → Prop} {h : Heap} (x : SoftX X h) (y : SoftX Y h) : SoftX (fun b => X b ∨ Y b) h := fun b o q e => q.elim (fun q => x b o q e) fun q => y b o q e
theorem Frm.softL {h : Heap} {env : Env} {ls : List (Str × Value)} (F : Frm h env ls) : SoftX (· = env.locals) h := fun b o q e => by
  subst q
  obtain ⟨o', e', c⟩ := F.fr
  obtain ⟨m, ⟨o2, es, ep, e2, d2, _⟩, _⟩ := F.ns
  rw [e] at e' e2; cases e'; cases e2
  exact ⟨.inr (.inl c), fun vs q t z => by rw [d2] at z; cases z⟩
theorem softX_cell {h : Heap} {c : Addr} {v : Option Value} (l : h.IsCell c v) : SoftX (· = c) h := fun b o q e => by
  subst q
  obtain ⟨o', e', r⟩ := l
  rw [e] at e'; cases e'
  exact ⟨by simp [r], fun vs q t z => by rw [r] at z; cases z⟩
/-- what a store changes -/
abbrev StX (env : Env) (n : Str) (b : Addr) : Prop := (env.kindOf n = some .local ∧ b = env.locals) ∨ (env.kindOf n = some .cell ∧ env.cells.lookup n = some b)
theorem Frm.softS {h : Heap} {env : Env} {ls : List (Str × Value)} (F : Frm h env ls) (n : Str) : SoftX (StX env n) h := fun b o q e => by
  rcases q with ⟨_, q⟩ | ⟨k, q⟩
  · exact F.softL b o q e
  · obtain ⟨c, a, v, x⟩ := F.own n k
    rw [q] at a; cases a
    exact softX_cell x b o rfl e
/-- a code object that bears a name -/
def CodeAt (h : Heap) (cd : Value) (q : Str) : Prop := h.CodeRec cd q
theorem CodeAt.rec' {h : Heap} {cd : Value} {q : Str} (x : CodeAt h cd q) : h.CodeRec cd q := x
theorem CodeAt.ext {X : Addr → Prop} {h h' : Heap} {cd : Value} {q : Str} (r : CodeAt h cd q) (x : Ext X h h') (hX : SoftX X h) : CodeAt h' cd q :=
  let ⟨c, o, vs, t, e, g, d, r⟩ := r
  ⟨c, o, vs, t, e, x.hard hX g (fun z => z.2 vs q t d r), d, r⟩
/-- a method of the class stands as a function -/
def FnAt (h : Heap) (f : Addr) (s : Stmt) (clo : List (Str × Addr)) : Prop :=
  ∃ pm code ct doc, h.get? f = some (oFn (fnIn s kq clo pm code ct doc)) ∧ CodeAt h code (fnIn s kq clo pm code ct doc).qualname
theorem FnAt.ext {X : Addr → Prop} {h h' : Heap} {f : Addr} {s : Stmt} {clo : List (Str × Addr)} (F : FnAt h f s clo) (x : Ext X h h') (hX : SoftX X h) : FnAt h' f s clo :=
  let ⟨pm, code, ct, doc, a, b⟩ := F; ⟨pm, code, ct, doc, x.hard hX a (by unfold Soft; simp), b.ext x hX⟩

structure KOk (h : Heap) (k : KA) (c : Addr) (v : Value) : Prop where
  cls : ∃ sl : Array (Option Value), h.get? k.C = some { cls := .type "type", data := .cls (kcd k), slots := sl } ∧ sl.toList[4]? = some (some (.builtin "object.__new__"))
  ns : ∃ o es ep v1 v2 v3 v4, h.get? k.ns = some o ∧ o.cls = .type "dict" ∧ o.data = .dict es ep ∧ StrKeys es ∧ ∀ n, nsFind es n = (ktab k v1 v2 v3 v4).lookup n
  d : ∃ t, h.get? k.d = some { cls := .type "member_descriptor", data := .fields #[.str "obj" t, .ref k.C, .builtin "proto.slot", .builtin "proto.slot#set", .int 0 0] }
  fi : FnAt h k.fi (methS 2) []
  fl : FnAt h k.fl (methS 3) [("mycmp", c)]
  fg : FnAt h k.fg (methS 4) [("mycmp", c)]
  fe : FnAt h k.fe (methS 5) [("mycmp", c)]
  fle : FnAt h k.fle (methS 6) [("mycmp", c)]
  fge : FnAt h k.fge (methS 7) [("mycmp", c)]
  cell : h.IsCell c (some v)
theorem KOk.ext {X : Addr → Prop} {h h' : Heap} {k : KA} {c : Addr} {v : Value} (K : KOk h k c v) (x : Ext X h h') (hX : SoftX X h) (hc : ¬ X c) : KOk h' k c v where
  cls := let ⟨sl, a, b⟩ := K.cls; ⟨sl, x.hard hX a (by unfold Soft; simp), b⟩
  ns := let ⟨o, es, ep, v1, v2, v3, v4, a, b, r⟩ := K.ns; ⟨o, es, ep, v1, v2, v3, v4, x.hard hX a (by unfold Soft; rw [b, r.1]; simp), b, r⟩
  d := let ⟨t, a⟩ := K.d; ⟨t, x.hard hX a (by unfold Soft; simp)⟩
  fi := K.fi.ext x hX
  fl := K.fl.ext x hX
  fg := K.fg.ext x hX
  fe := K.fe.ext x hX
  fle := K.fle.ext x hX
  fge := K.fge.ext x hX
  cell := x.isCell K.cell hc
theorem KOk.keep {h h' : Heap} {k : KA} {c : Addr} {v : Value} (K : KOk h k c v) (x : Ext Nil h h') : KOk h' k c v := K.ext x softX_nil id

/-- a key: an object of the class, made for a thing -/
def KeyAt (h : Heap) (x C : Addr) (v : Value) : Prop := ∃ dx, h.get? x = some { cls := .ref C, dict := some dx, data := .plain, slots := #[some v] } ∧ h.get? dx = some emptyDict
theorem KeyAt.ext {X : Addr → Prop} {h h' : Heap} {x C : Addr} {v : Value} (K : KeyAt h x C v) (y : Ext X h h') (hX : SoftX X h) : KeyAt h' x C v :=
  let ⟨dx, a, b⟩ := K; ⟨dx, y.hard hX a (by unfold Soft; simp), y.hard hX b (by unfold Soft; simp)⟩


/-- what the library's looks find of the class -/
structure KLk (F : Frag) (k : KA) : Prop where
  cls : clsIn F k.C = some (kcd k)
  typC : typeIn F (.ref k.C) = some (.type "type")
  makes : makesIn F k.C = true
  ga : findIn F (.ref k.C) "__getattribute__" = some (some (.builtin "object.__getattribute__"))
  gat : findIn F (.ref k.C) "__getattr__" = some none
  sa : findIn F (.ref k.C) "__setattr__" = some (some (.builtin "object.__setattr__"))
  obj : findIn F (.ref k.C) "obj" = some (some (.ref k.d))
  init : findIn F (.ref k.C) "__init__" = some (some (.ref k.fi))
  lt : findIn F (.ref k.C) "__lt__" = some (some (.ref k.fl))
  gt : findIn F (.ref k.C) "__gt__" = some (some (.ref k.fg))
  eq : findIn F (.ref k.C) "__eq__" = some (some (.ref k.fe))
  le : findIn F (.ref k.C) "__le__" = some (some (.ref k.fle))
  ge : findIn F (.ref k.C) "__ge__" = some (some (.ref k.fge))
  ne : findIn F (.ref k.C) "__ne__" = some (some (.builtin "object.__ne__"))
  fi : typeIn F (.ref k.fi) = some (.type "function")
  fl : typeIn F (.ref k.fl) = some (.type "function")
  fg : typeIn F (.ref k.fg) = some (.type "function")
  fe : typeIn F (.ref k.fe) = some (.type "function")
  fle : typeIn F (.ref k.fle) = some (.type "function")
  fge : typeIn F (.ref k.fge) = some (.type "function")
  dt : typeIn F (.ref k.d) = some (.type "member_descriptor")
  dget : specialIn F (.ref k.d) "__get__" = some (some (.builtin "member_descriptor.__get__"))
  dtak : takesIn F (.ref k.d) = some true
  taker : takerIn F k.C "obj" = some (some (.ref k.d))
  slot : slotIn F k.d k.C = some 0
  over : plainOver F k.C = true
  third : nsIn F cStatics "thirdparty.any" = some none

theorem KOk.look {h : Heap} {k : KA} {c : Addr} {v : Value} (K : KOk h k c v) (S : Sta h) : ∃ F : Frag, F.In h ∧ KLk F k := by
  obtain ⟨sl, hC, h4⟩ := K.cls
  obtain ⟨oN, es, ep, v1, v2, v3, v4, hN, hNc, hNd, hsk, hfind⟩ := K.ns
  obtain ⟨td, hD⟩ := K.d
  obtain ⟨_, _, _, _, hfi, _⟩ := K.fi
  obtain ⟨_, _, _, _, hfl, _⟩ := K.fl
  obtain ⟨_, _, _, _, hfg, _⟩ := K.fg
  obtain ⟨_, _, _, _, hfe, _⟩ := K.fe
  obtain ⟨_, _, _, _, hfle, _⟩ := K.fle
  obtain ⟨_, _, _, _, hfge, _⟩ := K.fge
  obtain ⟨F, I, lC, lN, lD, ⟨ofi, lfi, ofi'⟩, ⟨ofl, lfl, ofl'⟩, ⟨ofg, lfg, ofg'⟩, ⟨ofe, lfe, ofe'⟩, ⟨ofle, lfle, ofle'⟩, ⟨ofge, lfge, ofge'⟩, lS⟩ : ∃ F : Frag, F.In h ∧ F.lookup k.C = some { cls := .type "type", data := .cls (kcd k), slots := sl } ∧ F.lookup k.ns = some oN ∧
      F.lookup k.d = some { cls := .type "member_descriptor", data := .fields #[.str "obj" td, .ref k.C, .builtin "proto.slot", .builtin "proto.slot#set", .int 0 0] } ∧
      (∃ o, F.lookup k.fi = some o ∧ o.cls = .type "function") ∧ (∃ o, F.lookup k.fl = some o ∧ o.cls = .type "function") ∧ (∃ o, F.lookup k.fg = some o ∧ o.cls = .type "function") ∧
      (∃ o, F.lookup k.fe = some o ∧ o.cls = .type "function") ∧ (∃ o, F.lookup k.fle = some o ∧ o.cls = .type "function") ∧ (∃ o, F.lookup k.fge = some o ∧ o.cls = .type "function") ∧ F.lookup cStatics = some { cls := .none, data := .dict #[] 0 } := by
    obtain ⟨I, L⟩ := frag_all (h := h) (K := [(k.C, _), (k.ns, _), (k.d, _), (k.fi, _), (k.fl, _), (k.fg, _), (k.fe, _), (k.fle, _), (k.fge, _), (cStatics, _)]) (by
      intro p hp
      simp only [List.mem_cons, List.not_mem_nil, or_false] at hp
      rcases hp with rfl | rfl | rfl | rfl | rfl | rfl | rfl | rfl | rfl | rfl
      · exact hC
      · exact hN
      · exact hD
      · exact hfi
      · exact hfl
      · exact hfg
      · exact hfe
      · exact hfle
      · exact hfge
      · exact S.st2)
    exact ⟨_, I, L _ _ (.head _), L _ _ (.tail _ (.head _)), L _ _ (.tail _ (.tail _ (.head _))), ⟨_, L _ _ (.tail _ (.tail _ (.tail _ (.head _)))), rfl⟩, ⟨_, L _ _ (.tail _ (.tail _ (.tail _ (.tail _ (.head _))))), rfl⟩, ⟨_, L _ _ (.tail _ (.tail _ (.tail _ (.tail _ (.tail _ (.head _)))))), rfl⟩, ⟨_, L _ _ (.tail _ (.tail _ (.tail _ (.tail _ (.tail _ (.tail _ (.head _))))))), rfl⟩, ⟨_, L _ _ (.tail _ (.tail _ (.tail _ (.tail _ (.tail _ (.tail _ (.tail _ (.head _)))))))), rfl⟩, ⟨_, L _ _ (.tail _ (.tail _ (.tail _ (.tail _ (.tail _ (.tail _ (.tail _ (.tail _ (.head _))))))))), rfl⟩, L _ _ (.tail _ (.tail _ (.tail _ (.tail _ (.tail _ (.tail _ (.tail _ (.tail _ (.tail _ (.head _))))))))))⟩
  obtain ⟨cN, dN, daN, slN⟩ := oN
  dsimp only at hNc hNd
  subst hNc hNd
  have hcls : clsIn F k.C = some (kcd k) := by unfold clsIn; rw [lC]
  have own : ∀ n, nsIn F k.ns n = some ((ktab k v1 v2 v3 v4).lookup n) := fun n => by
    unfold nsIn
    rw [lN]
    dsimp only
    have e := hfind n
    unfold nsFind findBy at e
    rw [← Array.find?_toList] at e
    cases q : es.toList.find? (·.key.isStr n) with
    | some x => rw [q] at e; rw [← e]; rfl
    | none =>
      rw [q] at e
      have hr : es.toList.any (·.refKey) = false := by
        rw [List.any_eq_false]
        intro x hx
        obtain ⟨n', t', hk⟩ := hsk x (Array.mem_def.mpr hx)
        simp [DictEntry.refKey, hk]
      rw [← e]
      dsimp only
      rw [hr]
      rfl
  have fown : ∀ n v, (ktab k v1 v2 v3 v4).lookup n = some v → findIn F (.ref k.C) n = some (some v) := fun n v e => by
    unfold findIn
    dsimp only
    rw [lC]
    show alongIn F n [.ref k.C, .type "object"] = _
    unfold alongIn ownIn
    dsimp only
    rw [lC]
    show (match nsIn F k.ns n with | some (some v) => some (some v) | some none => alongIn F n [.type "object"] | none => none) = _
    rw [own, e]
  have fobj : ∀ n r, (ktab k v1 v2 v3 v4).lookup n = none → fastBuiltinOwn "object" n = r → findIn F (.ref k.C) n = some r := fun n r e e' => by
    unfold findIn
    dsimp only
    rw [lC]
    show alongIn F n [.ref k.C, .type "object"] = _
    unfold alongIn ownIn
    dsimp only
    rw [lC]
    show (match nsIn F k.ns n with | some (some v) => some (some v) | some none => alongIn F n [.type "object"] | none => none) = _
    rw [own, e]
    dsimp only
    unfold alongIn ownIn
    dsimp only
    rw [e']
    cases r <;> rfl
  have tfn : ∀ f o, F.lookup f = some o → typeIn F (.ref f) = some o.cls := fun f o e => by unfold typeIn; dsimp only; rw [e]; rfl
  have typC := tfn _ _ lC
  refine ⟨F, I, ?_⟩
  have hdt := tfn _ _ lD
  have hrec : recIn F k.d "member_descriptor" = some [.str "obj" td, .ref k.C, .builtin "proto.slot", .builtin "proto.slot#set", .int 0 0] := by unfold recIn; rw [lD]; rfl
  have hdg : specialIn F (.ref k.d) "__get__" = some (some (.builtin "member_descriptor.__get__")) := by
    unfold specialIn
    rw [hdt]
    kernel_rfl
  have hds : specialIn F (.ref k.d) "__set__" = some (some (.builtin "member_descriptor.__set__")) := by
    unfold specialIn
    rw [hdt]
    kernel_rfl
  have htk : takesIn F (.ref k.d) = some true := by unfold takesIn; rw [hds]
  have hobj := fown "obj" (.ref k.d) (by kernel_rfl)
  refine ⟨hcls, typC, ?_, fobj _ _ (by kernel_rfl) (by kernel_rfl), fobj _ _ (by kernel_rfl) (by kernel_rfl), fobj _ _ (by kernel_rfl) (by kernel_rfl), hobj, fown _ _ (by kernel_rfl), fown _ _ (by kernel_rfl), fown _ _ (by kernel_rfl), fown _ _ (by kernel_rfl), fown _ _ (by kernel_rfl), fown _ _ (by kernel_rfl), fobj _ _ (by kernel_rfl) (by kernel_rfl),
    (tfn _ _ lfi).trans (congrArg some ofi'), (tfn _ _ lfl).trans (congrArg some ofl'), (tfn _ _ lfg).trans (congrArg some ofg'), (tfn _ _ lfe).trans (congrArg some ofe'), (tfn _ _ lfle).trans (congrArg some ofle'), (tfn _ _ lfge).trans (congrArg some ofge'), hdt, hdg, htk, ?_, ?_, ?_, ?_⟩
  · unfold makesIn
    rw [lC]
    dsimp only
    have h4' : (sl.toList[4]?).join = some (.builtin "object.__new__") := by rw [h4]; rfl
    have hsp : specialIn F (.ref k.C) "__call__" = some (some (.builtin "type.__call__")) := by unfold specialIn; rw [typC]; kernel_rfl
    have hin : instIn F (.ref k.C) (.type "type") = some true := by unfold instIn; rw [typC]; kernel_rfl
    rw [h4', hsp, hin]
    simp [kcd]
  · unfold takerIn
    rw [hobj]
    show (takesIn F (.ref k.d)).map _ = _
    rw [htk]
    rfl
  · unfold slotIn
    rw [hrec, hcls]
    simp [kcd]
  · unfold plainOver
    rw [hcls]
    rfl
  · unfold nsIn
    rw [lS]
    rfl

section
variable {prog : Program} {w : World} {A : Around} {E : Value → Shared → Prop} {h : Heap} {g : Array GenState} {d : Drawn} {t : Nat} {os : OsState} {k : KA} {c : Addr} {f : Value}
open Builtin Builtin.ObjectAttr Builtin.Getset_descriptor

theorem KeyAt.inst {x C : Addr} {v : Value} (X : KeyAt h x C v) : ∃ dx, InstAt h x { cls := .ref C, dict := some dx, data := .plain, slots := #[some v] } C (some emptyDict) :=
  let ⟨dx, a, b⟩ := X; ⟨dx, a, rfl, rfl, b⟩

theorem get_obj {x : Addr} {v : Value} {expr : Bool} {Q : Value → Shared → Prop} (K : KOk h k c f) (S : Sta h) (X : KeyAt h x k.C v) (hh : handedIn v = true) (q : ∀ t', Q v ⟨h, g, d, t', os⟩) :
    wpAny (model prog w) A (getAttr (.ref x) "obj" expr) Q E ⟨h, g, d, t, os⟩ := by
  obtain ⟨F, I, L⟩ := K.look S
  obtain ⟨dx, J⟩ := X.inst
  exact get_bind (s := ⟨h, g, d, t, os⟩) I J L.ga (findObj_data (by rw [L.cls]; rfl) L.obj L.dget L.dtak) L.gat (wpAny_call (slot_get (s := ⟨h, g, d, t + 1, os⟩) I J L.slot (v := v) rfl (handed_on hh (q _))))

theorem slot_put {F : Frag} {p x C : Addr} {ox : Obj} {od : Option Obj} {v : Value} {i : Nat} {R : Result → Shared → Prop} (X : F.In h) (I : InstAt h x ox C od) (hp : slotIn F p C = some i) (hi : i < 1000)
    (q : R (.ok (.ret .none)) ⟨h.update x fun o => { o with slots := (o.slots ++ Array.replicate (i + 1 - o.slots.size) none).setIfInBounds i (some v) }, g, d, t, os⟩) :
    codeAny (model prog w) A (.call (.builtin "member_descriptor.__set__") ⟨[.ref p, .ref x, v], []⟩) R ⟨h, g, d, t, os⟩ := by
  obtain ⟨n, tn, owner, behind, tb, dd, sl, cd, ho, hc, hm, hb, rfl⟩ := slot_of X hp
  have L0 := I.type (M := model prog w)
  have L1 := looks_mroIn (M := model prog w) X hm
  have L2 : Looks (model prog w) h (Slots.slotNamesOf (.ref C)) cd.slotNames := (looks_clsIn X hc).andThen .now
  have hx := I.at_
  have f0 := looks_field (M := model prog w) ho 0 (v := .str n tn) rfl
  have f1 := looks_field (M := model prog w) ho 1 (v := owner) rfl
  have f3 := looks_field (M := model prog w) ho 3 (v := .builtin "proto.slot#set") rfl
  have f4 := looks_field (M := model prog w) ho 4 (v := .int behind tb) rfl
  refine codeAny_call_builtin KF.slot_mset.plain KF.entry_mset (KF.slot_mset.check _ _ _ _ _ _ _ _ ⟨_, ho, rfl⟩ (KF.args_mset _ _ _) ?_)
  unfold Builtin.«member_descriptor.__set__» descrSet descrStoreThrough descrCheckInstance descrNameAndClass isInstance
  have f5 : Looks (model prog w) h (descrItself (.ref p)) [.ref p] := ((Looks.ld (part := none) ho).andThen .now).andThen (Looks.of_pure (by kernel_rfl))
  repeat lk
  refine ⟨Code.quiet_builtin _ (by decide +kernel), codeAny_builtin KF.entry_slotset ?_⟩
  unfold Builtin.«proto.slot#set» Slots.target
  repeat lk
  rw [if_neg hb]
  refine wpAny_pure (wpAny_bind ?_)
  unfold setSlotAt
  dsimp only
  rw [if_neg (by rw [sizeLine_eq]; omega)]
  exact wpAny_updatePart hx (wpAny_pure q)

/-- a new key -/
theorem key_new {v : Value} {Q : Value → Shared → Prop} (K : KOk h k c f) (S : Sta h) (hroom : A.depth + 1 < recursionLimit)
    (q : ∀ x h' t', Ext Nil h h' → KeyAt h' x k.C v → h.objs.size ≤ x → Q (.ref x) ⟨h', g, d, t', os⟩) :
    wpAny (model prog w) A (call (.ref k.C) [v]) Q E ⟨h, g, d, t, os⟩ := by
  obtain ⟨F, I, L⟩ := K.look S
  refine wpAny_call (make_core (makes_of I L.makes) (looks_findIn I L.init) (fun self => bind_fn I self L.fi) (.inl rfl) ?_)
  obtain ⟨pm, code, ct, doc, hfi, hcode⟩ := K.fi
  have x1 : Ext Nil h ((h.push emptyDict).push (instObj k.C h.objs.size)) := (Ext.refl.push _).push _
  generalize h1e : (h.push emptyDict).push (instObj k.C h.objs.size) = h1 at x1 ⊢
  have hx1 : h1.get? (h.objs.size + 1) = some (instObj k.C h.objs.size) := by
    rw [← h1e]
    have := Heap.get?_push_size (h.push emptyDict) (o := instObj k.C h.objs.size) rfl
    rwa [Heap.size_push] at this
  have hd1 : h1.get? h.objs.size = some emptyDict := by
    rw [← h1e]
    exact Heap.get?_push_of_some _ (Heap.get?_push_size h (o := emptyDict) rfl)
  have K1 := K.keep x1
  have S1 := S.keep x1
  have hsz1 : h.objs.size + 1 < h1.objs.size := Heap.lt_size hx1
  clear h1e
  refine call_stmts (fd := fnIn (methS 2) kq [] pm code ct doc) (body := bodyOf (methS 2)) (fr := []) (binds := [("self", .ref (h.objs.size + 1)), ("obj", v)]) ?_ (x1.hard softX_nil hfi (by unfold Soft; simp)) rfl S1.nolimit (hcode.ext x1 softX_nil).rec' (by kernel_rfl) (by kernel_rfl) ⟨nofun, nofun, nofun⟩ (bk_of (by kernel_rfl)) ?_ (by kernel_rfl) (by kernel_rfl) (by kernel_rfl)
  · show A.depth + _ < _
    exact Nat.lt_of_le_of_lt (Nat.add_le_add_left (Nat.le_of_ble_eq_true (by kernel_rfl)) _) hroom
  intro env h2 t2 he F2 x2 _ hlt
  have F2 : Frm h2 env [("obj", v), ("self", .ref (h.objs.size + 1))] := F2
  subst he
  refine wpAny_execs_cons (plainObj_wpAny_Assign_Attribute ?_ (by kernel_rfl))
  walk_at "m var"
  walk_at "m var"
  have S2 := S1.keep x2
  have K2 := K1.keep x2
  obtain ⟨F', I', L'⟩ := K2.look S2
  have J : InstAt h2 (h.objs.size + 1) (instObj k.C h.objs.size) k.C (some emptyDict) := ⟨x2.nil _ _ hx1, rfl, rfl, x2.nil _ _ hd1⟩
  refine set_plain (s := ⟨h2, g, d, t2, os⟩) I' J L'.sa (osa_descr (s := ⟨h2, g, d, t2 + 1, os⟩) KF.slot_mset I' J L'.over L'.taker L'.dt ?_)
  refine slot_put (h := h2) I' J L'.slot (by decide) ?_
  dsimp only
  refine wpAny_execs_nil ⟨rfl, ?_⟩
  dsimp only
  have hs := Heap.SameBut.update h2 (h.objs.size + 1) fun o => { o with slots := (o.slots ++ Array.replicate (0 + 1 - o.slots.size) none).setIfInBounds 0 (some v) }
  have x3 : Ext Nil h h2 := x1.then x2 fun _ _ q => q
  refine q _ _ _ (x3.same hs fun q => absurd q (Nat.not_lt.mpr (Nat.le_succ _))) ⟨h.objs.size, ?_, ?_⟩ (Nat.le_succ _)
  · have := Heap.get?_update_self (fun o => { o with slots := (o.slots ++ Array.replicate (0 + 1 - o.slots.size) none).setIfInBounds 0 (some v) }) J.at_ rfl
    rw [this]
    simp
  · rw [hs.2 _ (Nat.ne_of_lt (Nat.lt_succ_self _))]
    exact x2.nil _ _ hd1
end

section
variable {prog : Program} {w : World} {A : Around} {E : Value → Shared → Prop} {h : Heap} {g : Array GenState} {d : Drawn} {t : Nat} {os : OsState} {k : KA} {c : Addr} {f : Value}
theorem mycmp_clo {fd : FuncData} {c : Addr} {f : Value} (e : fd.closure = [(("mycmp" : Str), c)]) (hn : fd.scope.names.lookup ("mycmp" : Str) = some .free) (hc : ∀ n, (cellsFrom n fd.scope.names [("mycmp", c)]).lookup ("mycmp" : Str) = some c) (hv : h.IsCell c (some f)) : Clo h fd [("mycmp", f)] where
  lt := fun n c' q => by
    rw [e, List.lookup_cons] at q
    split at q
    · cases q; exact hv.lt
    · cases q
  apart := fun n n' c' q q' => by
    rw [e, List.lookup_cons] at q q'
    split at q
    · rename_i z
      split at q'
      · rename_i z'; rw [eq_of_beq z, eq_of_beq z']
      · cases q'
    · cases q
  has := fun n v q => by
    rw [lookup_cons'] at q
    split at q
    · rename_i z; subst z; cases q; exact ⟨hn, c, by rw [e]; exact hc _, hv⟩
    · cases q

theorem lt_call {k' : KA} {c' : Addr} {f' : Value} {x y : Addr} {v1 v2 : Value} {Q : Value → Shared → Prop} (K : KOk h k c f) (K' : KOk h k' c' f') (S : Sta h) (X : KeyAt h x k.C v1) (Y : KeyAt h y k'.C v2) (h1 : handedIn v1 = true) (h2' : handedIn v2 = true) (hroom : A.depth < recursionLimit)
    (hkp : ∀ h', Ext Nil h h' → ∀ A' Q' s, s.heap = h' → (∀ k, Q' k s) → wpAny (model prog w) A' (keeperOf f) Q' (fun _ _ => False) s)
    (q : ∀ env h' t', env.frame = some env.locals → h.objs.size ≤ env.locals → Frm h' env [] → Ext Nil h h' →
      wpAny (model prog w) (A.deeper env) (call f [v1, v2]) (fun r s' => ∃ i u, r = .int i u ∧ ∀ t'', Q (.bool (decide (i < 0))) { s' with toks := t'' })
        (fun e s' => wpAny (model prog w) (A.deeper env) (leaving env e) (fun _ s'' => E e s'') (fun e' s'' => E e' s'') s') ⟨h', g, d, t', os⟩) :
    wpAny (model prog w) A (call (.ref k.fl) [.ref x, .ref y]) Q E ⟨h, g, d, t, os⟩ := by
  obtain ⟨pm, code, ct, doc, hf, hcode⟩ := K.fl
  refine wpAny_call (call_stmts (fd := fnIn (methS 3) kq [("mycmp", c)] pm code ct doc) (body := bodyOf (methS 3)) (fr := [("mycmp", f)]) (binds := [("self", .ref x), ("other", .ref y)]) hroom hf rfl S.nolimit hcode.rec' (by kernel_rfl) (by kernel_rfl) (mycmp_clo (by kernel_rfl) (by kernel_rfl) (fun _ => by kernel_rfl) K.cell) (bk_of (by kernel_rfl)) ?_ (by kernel_rfl) (by kernel_rfl) (by kernel_rfl))
  intro env h2 t2 he F2 x2 _ hlt
  have F2 : Frm h2 env [("other", .ref y), ("self", .ref x), ("mycmp", f)] := F2
  subst he
  have S2 := S.keep x2
  have K2 := K.keep x2
  have K2' := K'.keep x2
  have X2 := X.ext x2 softX_nil
  have Y2 := Y.ext x2 softX_nil
  refine wpAny_execs_cons (wpAny_Return_some (wpAny_Compare1 (call_by ?_)))
  walk_at "m var"
  refine args_cons (Attribute_Name_ ?_)
  walk_at "m var"
  refine get_obj K2 S2 X2 h1 fun t3 => ?_
  refine args_cons (Attribute_Name_ ?_)
  walk_at "m var"
  refine get_obj K2' S2 Y2 h2' fun t4 => ?_
  refine args_nil ?_
  refine wpAny_mono (hkp h2 x2 _ _ _ rfl fun kk => ?_) (fun _ _ z => z) (fun _ _ z => z.elim)
  refine wpAny_mono (q _ _ _ rfl (Nat.le_refl _) (F2.weaken nofun) x2) (fun r s' z => ?_) (fun _ _ z => z)
  obtain ⟨i, u, rfl, z⟩ := z
  obtain ⟨h5, g5, d5, t5, os5⟩ := s'
  walk_at "m int"
  exact lt_int (z _)

theorem gt_call {k' : KA} {c' : Addr} {f' : Value} {x y : Addr} {v1 v2 : Value} {Q : Value → Shared → Prop} (K : KOk h k c f) (K' : KOk h k' c' f') (S : Sta h) (X : KeyAt h x k.C v1) (Y : KeyAt h y k'.C v2) (h1 : handedIn v1 = true) (h2' : handedIn v2 = true) (hroom : A.depth < recursionLimit)
    (hkp : ∀ h', Ext Nil h h' → ∀ A' Q' s, s.heap = h' → (∀ k, Q' k s) → wpAny (model prog w) A' (keeperOf f) Q' (fun _ _ => False) s)
    (q : ∀ env h' t', env.frame = some env.locals → h.objs.size ≤ env.locals → Frm h' env [] → Ext Nil h h' →
      wpAny (model prog w) (A.deeper env) (call f [v1, v2]) (fun r s' => ∃ i u, r = .int i u ∧ ∀ t'', Q (.bool (decide (i > 0))) { s' with toks := t'' })
        (fun e s' => wpAny (model prog w) (A.deeper env) (leaving env e) (fun _ s'' => E e s'') (fun e' s'' => E e' s'') s') ⟨h', g, d, t', os⟩) :
    wpAny (model prog w) A (call (.ref k.fg) [.ref x, .ref y]) Q E ⟨h, g, d, t, os⟩ := by
  obtain ⟨pm, code, ct, doc, hf, hcode⟩ := K.fg
  refine wpAny_call (call_stmts (fd := fnIn (methS 4) kq [("mycmp", c)] pm code ct doc) (body := bodyOf (methS 4)) (fr := [("mycmp", f)]) (binds := [("self", .ref x), ("other", .ref y)]) hroom hf rfl S.nolimit hcode.rec' (by kernel_rfl) (by kernel_rfl) (mycmp_clo (by kernel_rfl) (by kernel_rfl) (fun _ => by kernel_rfl) K.cell) (bk_of (by kernel_rfl)) ?_ (by kernel_rfl) (by kernel_rfl) (by kernel_rfl))
  intro env h2 t2 he F2 x2 _ hlt
  have F2 : Frm h2 env [("other", .ref y), ("self", .ref x), ("mycmp", f)] := F2
  subst he
  have S2 := S.keep x2
  have K2 := K.keep x2
  have K2' := K'.keep x2
  have X2 := X.ext x2 softX_nil
  have Y2 := Y.ext x2 softX_nil
  refine wpAny_execs_cons (wpAny_Return_some (wpAny_Compare1 (call_by ?_)))
  walk_at "m var"
  refine args_cons (Attribute_Name_ ?_)
  walk_at "m var"
  refine get_obj K2 S2 X2 h1 fun t3 => ?_
  refine args_cons (Attribute_Name_ ?_)
  walk_at "m var"
  refine get_obj K2' S2 Y2 h2' fun t4 => ?_
  refine args_nil ?_
  refine wpAny_mono (hkp h2 x2 _ _ _ rfl fun kk => ?_) (fun _ _ z => z) (fun _ _ z => z.elim)
  refine wpAny_mono (q _ _ _ rfl (Nat.le_refl _) (F2.weaken nofun) x2) (fun r s' z => ?_) (fun _ _ z => z)
  obtain ⟨i, u, rfl, z⟩ := z
  obtain ⟨h5, g5, d5, t5, os5⟩ := s'
  walk_at "m int"
  exact gt_int (z _)

theorem eq_call {k' : KA} {c' : Addr} {f' : Value} {x y : Addr} {v1 v2 : Value} {Q : Value → Shared → Prop} (K : KOk h k c f) (K' : KOk h k' c' f') (S : Sta h) (X : KeyAt h x k.C v1) (Y : KeyAt h y k'.C v2) (h1 : handedIn v1 = true) (h2' : handedIn v2 = true) (hroom : A.depth < recursionLimit)
    (hkp : ∀ h', Ext Nil h h' → ∀ A' Q' s, s.heap = h' → (∀ k, Q' k s) → wpAny (model prog w) A' (keeperOf f) Q' (fun _ _ => False) s)
    (q : ∀ env h' t', env.frame = some env.locals → h.objs.size ≤ env.locals → Frm h' env [] → Ext Nil h h' →
      wpAny (model prog w) (A.deeper env) (call f [v1, v2]) (fun r s' => ∃ i u, r = .int i u ∧ ∀ t'', Q (.bool (i == 0)) { s' with toks := t'' })
        (fun e s' => wpAny (model prog w) (A.deeper env) (leaving env e) (fun _ s'' => E e s'') (fun e' s'' => E e' s'') s') ⟨h', g, d, t', os⟩) :
    wpAny (model prog w) A (call (.ref k.fe) [.ref x, .ref y]) Q E ⟨h, g, d, t, os⟩ := by
  obtain ⟨pm, code, ct, doc, hf, hcode⟩ := K.fe
  refine wpAny_call (call_stmts (fd := fnIn (methS 5) kq [("mycmp", c)] pm code ct doc) (body := bodyOf (methS 5)) (fr := [("mycmp", f)]) (binds := [("self", .ref x), ("other", .ref y)]) hroom hf rfl S.nolimit hcode.rec' (by kernel_rfl) (by kernel_rfl) (mycmp_clo (by kernel_rfl) (by kernel_rfl) (fun _ => by kernel_rfl) K.cell) (bk_of (by kernel_rfl)) ?_ (by kernel_rfl) (by kernel_rfl) (by kernel_rfl))
  intro env h2 t2 he F2 x2 _ hlt
  have F2 : Frm h2 env [("other", .ref y), ("self", .ref x), ("mycmp", f)] := F2
  subst he
  have S2 := S.keep x2
  have K2 := K.keep x2
  have K2' := K'.keep x2
  have X2 := X.ext x2 softX_nil
  have Y2 := Y.ext x2 softX_nil
  refine wpAny_execs_cons (wpAny_Return_some (wpAny_Compare1 (call_by ?_)))
  walk_at "m var"
  refine args_cons (Attribute_Name_ ?_)
  walk_at "m var"
  refine get_obj K2 S2 X2 h1 fun t3 => ?_
  refine args_cons (Attribute_Name_ ?_)
  walk_at "m var"
  refine get_obj K2' S2 Y2 h2' fun t4 => ?_
  refine args_nil ?_
  refine wpAny_mono (hkp h2 x2 _ _ _ rfl fun kk => ?_) (fun _ _ z => z) (fun _ _ z => z.elim)
  refine wpAny_mono (q _ _ _ rfl (Nat.le_refl _) (F2.weaken nofun) x2) (fun r s' z => ?_) (fun _ _ z => z)
  obtain ⟨i, u, rfl, z⟩ := z
  obtain ⟨h5, g5, d5, t5, os5⟩ := s'
  walk_at "m int"
  exact eq_int (z _)

theorem le_call {k' : KA} {c' : Addr} {f' : Value} {x y : Addr} {v1 v2 : Value} {Q : Value → Shared → Prop} (K : KOk h k c f) (K' : KOk h k' c' f') (S : Sta h) (X : KeyAt h x k.C v1) (Y : KeyAt h y k'.C v2) (h1 : handedIn v1 = true) (h2' : handedIn v2 = true) (hroom : A.depth < recursionLimit)
    (hkp : ∀ h', Ext Nil h h' → ∀ A' Q' s, s.heap = h' → (∀ k, Q' k s) → wpAny (model prog w) A' (keeperOf f) Q' (fun _ _ => False) s)
    (q : ∀ env h' t', env.frame = some env.locals → h.objs.size ≤ env.locals → Frm h' env [] → Ext Nil h h' →
      wpAny (model prog w) (A.deeper env) (call f [v1, v2]) (fun r s' => ∃ i u, r = .int i u ∧ ∀ t'', Q (.bool (decide (i ≤ 0))) { s' with toks := t'' })
        (fun e s' => wpAny (model prog w) (A.deeper env) (leaving env e) (fun _ s'' => E e s'') (fun e' s'' => E e' s'') s') ⟨h', g, d, t', os⟩) :
    wpAny (model prog w) A (call (.ref k.fle) [.ref x, .ref y]) Q E ⟨h, g, d, t, os⟩ := by
  obtain ⟨pm, code, ct, doc, hf, hcode⟩ := K.fle
  refine wpAny_call (call_stmts (fd := fnIn (methS 6) kq [("mycmp", c)] pm code ct doc) (body := bodyOf (methS 6)) (fr := [("mycmp", f)]) (binds := [("self", .ref x), ("other", .ref y)]) hroom hf rfl S.nolimit hcode.rec' (by kernel_rfl) (by kernel_rfl) (mycmp_clo (by kernel_rfl) (by kernel_rfl) (fun _ => by kernel_rfl) K.cell) (bk_of (by kernel_rfl)) ?_ (by kernel_rfl) (by kernel_rfl) (by kernel_rfl))
  intro env h2 t2 he F2 x2 _ hlt
  have F2 : Frm h2 env [("other", .ref y), ("self", .ref x), ("mycmp", f)] := F2
  subst he
  have S2 := S.keep x2
  have K2 := K.keep x2
  have K2' := K'.keep x2
  have X2 := X.ext x2 softX_nil
  have Y2 := Y.ext x2 softX_nil
  refine wpAny_execs_cons (wpAny_Return_some (wpAny_Compare1 (call_by ?_)))
  walk_at "m var"
  refine args_cons (Attribute_Name_ ?_)
  walk_at "m var"
  refine get_obj K2 S2 X2 h1 fun t3 => ?_
  refine args_cons (Attribute_Name_ ?_)
  walk_at "m var"
  refine get_obj K2' S2 Y2 h2' fun t4 => ?_
  refine args_nil ?_
  refine wpAny_mono (hkp h2 x2 _ _ _ rfl fun kk => ?_) (fun _ _ z => z) (fun _ _ z => z.elim)
  refine wpAny_mono (q _ _ _ rfl (Nat.le_refl _) (F2.weaken nofun) x2) (fun r s' z => ?_) (fun _ _ z => z)
  obtain ⟨i, u, rfl, z⟩ := z
  obtain ⟨h5, g5, d5, t5, os5⟩ := s'
  walk_at "m int"
  exact le_int (z _)

theorem ge_call {k' : KA} {c' : Addr} {f' : Value} {x y : Addr} {v1 v2 : Value} {Q : Value → Shared → Prop} (K : KOk h k c f) (K' : KOk h k' c' f') (S : Sta h) (X : KeyAt h x k.C v1) (Y : KeyAt h y k'.C v2) (h1 : handedIn v1 = true) (h2' : handedIn v2 = true) (hroom : A.depth < recursionLimit)
    (hkp : ∀ h', Ext Nil h h' → ∀ A' Q' s, s.heap = h' → (∀ k, Q' k s) → wpAny (model prog w) A' (keeperOf f) Q' (fun _ _ => False) s)
    (q : ∀ env h' t', env.frame = some env.locals → h.objs.size ≤ env.locals → Frm h' env [] → Ext Nil h h' →
      wpAny (model prog w) (A.deeper env) (call f [v1, v2]) (fun r s' => ∃ i u, r = .int i u ∧ ∀ t'', Q (.bool (decide (i ≥ 0))) { s' with toks := t'' })
        (fun e s' => wpAny (model prog w) (A.deeper env) (leaving env e) (fun _ s'' => E e s'') (fun e' s'' => E e' s'') s') ⟨h', g, d, t', os⟩) :
    wpAny (model prog w) A (call (.ref k.fge) [.ref x, .ref y]) Q E ⟨h, g, d, t, os⟩ := by
  obtain ⟨pm, code, ct, doc, hf, hcode⟩ := K.fge
  refine wpAny_call (call_stmts (fd := fnIn (methS 7) kq [("mycmp", c)] pm code ct doc) (body := bodyOf (methS 7)) (fr := [("mycmp", f)]) (binds := [("self", .ref x), ("other", .ref y)]) hroom hf rfl S.nolimit hcode.rec' (by kernel_rfl) (by kernel_rfl) (mycmp_clo (by kernel_rfl) (by kernel_rfl) (fun _ => by kernel_rfl) K.cell) (bk_of (by kernel_rfl)) ?_ (by kernel_rfl) (by kernel_rfl) (by kernel_rfl))
  intro env h2 t2 he F2 x2 _ hlt
  have F2 : Frm h2 env [("other", .ref y), ("self", .ref x), ("mycmp", f)] := F2
  subst he
  have S2 := S.keep x2
  have K2 := K.keep x2
  have K2' := K'.keep x2
  have X2 := X.ext x2 softX_nil
  have Y2 := Y.ext x2 softX_nil
  refine wpAny_execs_cons (wpAny_Return_some (wpAny_Compare1 (call_by ?_)))
  walk_at "m var"
  refine args_cons (Attribute_Name_ ?_)
  walk_at "m var"
  refine get_obj K2 S2 X2 h1 fun t3 => ?_
  refine args_cons (Attribute_Name_ ?_)
  walk_at "m var"
  refine get_obj K2' S2 Y2 h2' fun t4 => ?_
  refine args_nil ?_
  refine wpAny_mono (hkp h2 x2 _ _ _ rfl fun kk => ?_) (fun _ _ z => z) (fun _ _ z => z.elim)
  refine wpAny_mono (q _ _ _ rfl (Nat.le_refl _) (F2.weaken nofun) x2) (fun r s' z => ?_) (fun _ _ z => z)
  obtain ⟨i, u, rfl, z⟩ := z
  obtain ⟨h5, g5, d5, t5, os5⟩ := s'
  walk_at "m int"
  exact ge_int (z _)
end

/-- the statements of the law's body -/
def lawS (i : Nat) : Stmt := (bodyOf (topS 6)).getD i (.Pass ⟨0, 0, 0, 0⟩)
/-- the lambda that a statement «x = cmp_to_key(lambda ..)» hands over -/
def lamOf (s : Stmt) : Expr := match s with | .Assign _ (.Call _ (e :: _) _ _) _ => e | _ => .Starred (.Name "" ⟨0, 0, 0, 0⟩) ⟨0, 0, 0, 0⟩
abbrev lq : Str := "law.<locals>.<lambda>"
def fdLam (e : Expr) (clo : List (Str × Addr)) (pm code ct : Value) : FuncData := match e with
  | .Lambda args body scope _ => kla_fn "<lambda>" lq args body scope clo pm code ct
  | _ => default
def lamBody (e : Expr) : Expr := match e with | .Lambda _ body _ _ => body | e => e
def LamAt (h : Heap) (f : Addr) (e : Expr) (clo : List (Str × Addr)) : Prop := ∃ pm code ct, h.get? f = some (oFn (fdLam e clo pm code ct)) ∧ CodeAt h code lq
theorem LamAt.ext {X : Addr → Prop} {h h' : Heap} {f : Addr} {e : Expr} {clo : List (Str × Addr)} (F : LamAt h f e clo) (x : Ext X h h') (hX : SoftX X h) : LamAt h' f e clo :=
  let ⟨pm, code, ct, a, b⟩ := F; ⟨pm, code, ct, x.hard hX a (by unfold Soft; simp), b.ext x hX⟩

theorem clo_of {h : Heap} {fd : FuncData} {cl : List (Str × Addr)} {fr : List (Str × Value)} (e : fd.closure = cl) (hap : cl.Pairwise fun x y => x.2 ≠ y.2) (hlt : ∀ p ∈ cl, ∃ v, h.IsCell p.2 v)
    (hfr : ∀ p ∈ fr, fd.scope.names.lookup p.1 = some .free ∧ ∃ c, (∀ n, (cellsFrom n fd.scope.names fd.closure).lookup p.1 = some c) ∧ h.IsCell c (some p.2)) : Clo h fd fr where
  lt := fun n c q => by rw [e] at q; obtain ⟨v, hv⟩ := hlt _ (mem_of_lookup q); exact hv.lt
  apart := fun n n' c q q' => by rw [e] at q q'; exact name_of_addr hap (mem_of_lookup q) (mem_of_lookup q')
  has := fun n v q => by obtain ⟨a, c, b, hc⟩ := hfr _ (mem_of_lookup q); exact ⟨a, c, b _, hc⟩

section
variable {prog : Program} {w : World} {A : Around} {E : Value → Shared → Prop} {h : Heap} {g : Array GenState} {d : Drawn} {t : Nat} {os : OsState}

theorem rising_call {fr cN cT T N a b : Addr} {its vs : List Value} {ns : List Int} {i j : Nat} {xa xb : Value} {ti tj : Tok} {Q : Value → Shared → Prop}
    (S : Sta h) (hroom : A.depth + 1 < recursionLimit) (L : LamAt h fr (lamOf (lawS 6)) [("numbers", cN), ("notes", cT)]) (hcN : h.IsCell cN (some (.ref N))) (hcT : h.IsCell cT (some (.ref T))) (hne : cN ≠ cT)
    (hN : LstAt h N vs) (I : IntsAre vs ns) (hT : LstAt h T its) (hsz : its.length ≤ 1000000) (ha : LstAt h a [xa, .int i ti]) (hb : LstAt h b [xb, .int j tj])
    (hi : i < ns.length) (hj : j < ns.length) (h48 : 47 < T) (hlen : ns.length ≤ 100) (hNT : N ≠ T) (haT : a ≠ T) (hbT : b ≠ T)
    (q : ∀ r u h' t' tp um, Ext (· = T) h h' → LstAt h' T (its ++ [.ref tp]) → h'.get? tp = some (oTup [.int 0 um, .ref a, .ref b]) → h.objs.size ≤ tp →
      SameSign r (standOf ns i j) → Q (.int r u) ⟨h', g, d, t', os⟩) :
    wpAny (model prog w) A (call (.ref fr) [.ref a, .ref b]) Q E ⟨h, g, d, t, os⟩ := by
  obtain ⟨pm, code, ct, hf, hcode⟩ := L
  refine wpAny_call (call_expr (fd := fdLam (lamOf (lawS 6)) [("numbers", cN), ("notes", cT)] pm code ct) (body := lamBody (lamOf (lawS 6))) (fr := [("numbers", .ref N), ("notes", .ref T)]) (binds := [("a", .ref a), ("b", .ref b)]) (by omega) hf rfl S.nolimit hcode.rec' (by kernel_rfl) (by kernel_rfl) ?_ (bk_of (by kernel_rfl)) ?_ (by kernel_rfl) (by kernel_rfl) (by kernel_rfl))
  · refine clo_of (cl := [("numbers", cN), ("notes", cT)]) (by kernel_rfl) (by simp [hne]) (by simp; exact ⟨⟨_, hcN⟩, ⟨_, hcT⟩⟩) ?_
    intro p hp
    simp only [List.mem_cons, List.not_mem_nil, or_false] at hp
    rcases hp with rfl | rfl
    · exact ⟨by kernel_rfl, cN, fun _ => by kernel_rfl, hcN⟩
    · exact ⟨by kernel_rfl, cT, fun _ => by kernel_rfl, hcT⟩
  intro env h2 t2 he F2 x2 _ hlt
  have F2 : Frm h2 env [("b", .ref b), ("a", .ref a), ("numbers", .ref N), ("notes", .ref T)] := F2
  subst he
  have S2 := S.keep x2
  refine call_by ?_
  walk_at "m glob"
  refine args_cons ?_
  walk_at "m var"
  refine args_cons ?_
  walk_at "m var"
  refine args_cons ?_
  walk_at "m int"
  refine args_cons ?_
  walk_at "m var"
  refine args_cons ?_
  walk_at "m var"
  refine args_nil ?_
  refine keeper_fn S2.f35 rfl fun _ => ?_
  refine answer_spec S2 (by show A.depth + 1 < _; exact hroom) (x2.lst hN id) I (x2.lst hT id) hsz (x2.lst ha id) (x2.lst hb id) hi hj h48 hlen hNT haT hbT ?_
  intro r u h3 t3 tp x3 hT3 htp hle hs
  exact q r u h3 t3 tp _ ((x2.mono fun _ _ z => z.elim).then x3 fun _ _ z => z) hT3 htp (Nat.le_trans x2.1 hle) (by simpa using hs)

theorem falling_call {fr cN cT T N a b : Addr} {its vs : List Value} {ns : List Int} {i j : Nat} {xa xb : Value} {ti tj : Tok} {Q : Value → Shared → Prop}
    (S : Sta h) (hroom : A.depth + 1 < recursionLimit) (L : LamAt h fr (lamOf (lawS 7)) [("numbers", cN), ("notes", cT)]) (hcN : h.IsCell cN (some (.ref N))) (hcT : h.IsCell cT (some (.ref T))) (hne : cN ≠ cT)
    (hN : LstAt h N vs) (I : IntsAre vs ns) (hT : LstAt h T its) (hsz : its.length ≤ 1000000) (ha : LstAt h a [xa, .int i ti]) (hb : LstAt h b [xb, .int j tj])
    (hi : i < ns.length) (hj : j < ns.length) (h48 : 47 < T) (hlen : ns.length ≤ 100) (hNT : N ≠ T) (haT : a ≠ T) (hbT : b ≠ T)
    (q : ∀ r u h' t' tp um, Ext (· = T) h h' → LstAt h' T (its ++ [.ref tp]) → h'.get? tp = some (oTup [.int 1 um, .ref a, .ref b]) → h.objs.size ≤ tp →
      SameSign r (- standOf ns i j) → Q (.int r u) ⟨h', g, d, t', os⟩) :
    wpAny (model prog w) A (call (.ref fr) [.ref a, .ref b]) Q E ⟨h, g, d, t, os⟩ := by
  obtain ⟨pm, code, ct, hf, hcode⟩ := L
  refine wpAny_call (call_expr (fd := fdLam (lamOf (lawS 7)) [("numbers", cN), ("notes", cT)] pm code ct) (body := lamBody (lamOf (lawS 7))) (fr := [("numbers", .ref N), ("notes", .ref T)]) (binds := [("a", .ref a), ("b", .ref b)]) (by omega) hf rfl S.nolimit hcode.rec' (by kernel_rfl) (by kernel_rfl) ?_ (bk_of (by kernel_rfl)) ?_ (by kernel_rfl) (by kernel_rfl) (by kernel_rfl))
  · refine clo_of (cl := [("numbers", cN), ("notes", cT)]) (by kernel_rfl) (by simp [hne]) (by simp; exact ⟨⟨_, hcN⟩, ⟨_, hcT⟩⟩) ?_
    intro p hp
    simp only [List.mem_cons, List.not_mem_nil, or_false] at hp
    rcases hp with rfl | rfl
    · exact ⟨by kernel_rfl, cN, fun _ => by kernel_rfl, hcN⟩
    · exact ⟨by kernel_rfl, cT, fun _ => by kernel_rfl, hcT⟩
  intro env h2 t2 he F2 x2 _ hlt
  have F2 : Frm h2 env [("b", .ref b), ("a", .ref a), ("numbers", .ref N), ("notes", .ref T)] := F2
  subst he
  have S2 := S.keep x2
  refine call_by ?_
  walk_at "m glob"
  refine args_cons ?_
  walk_at "m var"
  refine args_cons ?_
  walk_at "m var"
  refine args_cons ?_
  walk_at "m int"
  refine args_cons ?_
  walk_at "m var"
  refine args_cons ?_
  walk_at "m var"
  refine args_nil ?_
  refine keeper_fn S2.f35 rfl fun _ => ?_
  refine answer_spec S2 (by show A.depth + 1 < _; exact hroom) (x2.lst hN id) I (x2.lst hT id) hsz (x2.lst ha id) (x2.lst hb id) hi hj h48 hlen hNT haT hbT ?_
  intro r u h3 t3 tp x3 hT3 htp hle hs
  exact q r u h3 t3 tp _ ((x2.mono fun _ _ z => z.elim).then x3 fun _ _ z => z) hT3 htp (Nat.le_trans x2.1 hle) (by simpa using hs)
end

section
variable {M : Model} {A : Around} {E : Value → Shared → Prop} {σ : Type}
theorem kasC_list {β : Type} {f : Nat → β → StateT σ Sem (ForInStep β)} {b : Nat} (I : Nat → β → σ → Shared → Prop) {Q : β → σ → Shared → Prop}
    (hstep : ∀ i c st s, i < b → I i c st s → kasC M A E (f i c) (fun r st' s' => match r with | .done c' => Q c' st' s' | .yield c' => I (i + 1) c' st' s') st s)
    (hend : ∀ c st s, I b c st s → Q c st s) : ∀ (k i : Nat) (c : β) (st : σ) (s : Shared), i + k = b → I i c st s → kasC M A E (forIn (List.range' i k) c f) Q st s
  | 0, i, c, st, s, hk, h => kasC_nil (hend c st s (by have : i = b := by omega
                                                       subst this; exact h))
  | k + 1, i, c, st, s, hk, h => by
    rw [List.range'_succ]
    refine kasC_cons (wpAny_mono (hstep i c st s (by omega) h) (fun r s' h' => ?_) fun _ _ e => e)
    obtain ⟨r, st'⟩ := r
    cases r with
    | done c' => exact h'
    | yield c' => exact kasC_list I hstep hend k (i + 1) c' st' s' (by omega) h'
theorem kasC_rng {β : Type} {f : Nat → β → StateT σ Sem (ForInStep β)} {a b : Nat} {c : β} {st : σ} {s : Shared} (I : Nat → β → σ → Shared → Prop) {Q : β → σ → Shared → Prop} (hab : a ≤ b)
    (h : I a c st s) (hstep : ∀ i c st s, i < b → I i c st s → kasC M A E (f i c) (fun r st' s' => match r with | .done c' => Q c' st' s' | .yield c' => I (i + 1) c' st' s') st s)
    (hend : ∀ c st s, I b c st s → Q c st s) : kasC M A E (forIn [a:b] c f) Q st s :=
  kasC_range (kasC_list I hstep hend (b - a) a c st s (by omega) h)
theorem kasC_mono {α : Type} {m : StateT σ Sem α} {Q Q' : α → σ → Shared → Prop} {st : σ} {s : Shared} (h : kasC M A E m Q st s) (hq : ∀ a st' s', Q a st' s' → Q' a st' s') : kasC M A E m Q' st s :=
  wpAny_mono h (fun r s' h' => hq _ _ _ h') fun _ _ e => e
end

/-- the place that an array of places bears at x -/
def pl (p : Array Nat) (x : Nat) : Nat := p.getD x 0
/-- places: the first m permuted among themselves, the rest as they stood -/
structure Plc (n : Nat) (p : Array Nat) (m : Nat) : Prop where
  size : p.size = n
  le : m ≤ n
  fix : ∀ x, m ≤ x → x < n → pl p x = x
  lo : ∀ x, x < m → pl p x < m
  inj : ∀ x y, x < n → y < n → pl p x = pl p y → x = y
theorem pl_eq (p : Array Nat) (x : Nat) : pl p x = (p[x]?).getD 0 := Array.getD_eq_getD_getElem? ..
theorem pl_rev {p : Array Nat} {i j : Nat} (hj : j ≤ p.size) (x : Nat) : pl (kas_rev p i j) x = if i ≤ x ∧ x < j then pl p (i + j - 1 - x) else pl p x := by
  rw [pl_eq, pl_eq, pl_eq]
  unfold kas_rev
  rw [getElem?_mirror_all hj]
  split <;> rfl
theorem pl_bub {p : Array Nat} {k l : Nat} (hk : k < p.size) (hl : l ≤ k) (x : Nat) : pl (bubble p k (k - l)) x = if x = l then pl p k else if l < x ∧ x ≤ k then pl p (x - 1) else pl p x := by
  rw [pl_eq, pl_eq, pl_eq, pl_eq, getElem?_bubble hk _ (by omega), show k - (k - l) = l by omega]
  split
  · rfl
  · split <;> rfl
theorem Plc.lt {n m : Nat} {p : Array Nat} (P : Plc n p m) {x : Nat} (hx : x < n) : pl p x < n := by
  by_cases h : x < m
  · have := P.lo x h; have := P.le; omega
  · rw [P.fix x (by omega) hx]; exact hx
theorem Plc.rev {n m : Nat} {p : Array Nat} (P : Plc n p m) {i j : Nat} (hj : j ≤ m) : Plc n (kas_rev p i j) m where
  size := (mirror_size ..).trans P.size
  le := P.le
  fix := fun x h1 h2 => by rw [pl_rev (by rw [P.size]; have := P.le; omega), if_neg (by omega)]; exact P.fix x h1 h2
  lo := fun x h => by
    rw [pl_rev (by rw [P.size]; have := P.le; omega)]
    split
    · exact P.lo _ (by omega)
    · exact P.lo x h
  inj := fun x y hx hy e => by
    have hz : j ≤ p.size := by rw [P.size]; have := P.le; omega
    have hle := P.le
    rw [pl_rev hz, pl_rev hz] at e
    split at e <;> split at e
    · have := P.inj _ _ (by omega) (by omega) e; omega
    · have := P.inj _ _ (by omega) (by omega) e; omega
    · have := P.inj _ _ (by omega) (by omega) e; omega
    · exact P.inj _ _ hx hy e
theorem Plc.bub {n k : Nat} {p : Array Nat} (P : Plc n p k) (hk : k < n) {l : Nat} (hl : l ≤ k) : Plc n (bubble p k (k - l)) (k + 1) where
  size := (bubble_size ..).trans P.size
  le := hk
  fix := fun x h1 h2 => by rw [pl_bub (by rw [P.size]; exact hk) hl, if_neg (by omega), if_neg (by omega)]; exact P.fix x (by omega) h2
  lo := fun x h => by
    rw [pl_bub (by rw [P.size]; exact hk) hl]
    split
    · rw [P.fix k (Nat.le_refl _) hk]; omega
    · split
      · have := P.lo (x - 1) (by omega); omega
      · have := P.lo x (by omega); omega
  inj := fun x y hx hy e => by
    have hz : k < p.size := by rw [P.size]; exact hk
    have hfk := P.fix k (Nat.le_refl _) hk
    rw [pl_bub hz hl, pl_bub hz hl] at e
    (repeat' split at e) <;> first | omega | (have := P.inj _ _ (by omega) (by omega) e; omega)
theorem plc_start (n m : Nat) (h : m ≤ n) : Plc n (List.toArray (List.range n)) m := by
  have e : ∀ x, x < n → pl (List.toArray (List.range n)) x = x := fun x hx => by rw [pl_eq]; simp [hx]
  exact ⟨by simp, h, fun x _ hx => e x hx, fun x hx => by rw [e x (by omega)]; exact hx, fun x y hx hy q => by rw [e x hx, e y hy] at q; exact q⟩
theorem Plc.grow {n m m' : Nat} {p : Array Nat} (P : Plc n p m) (h : m ≤ m') (h' : m' ≤ n) : Plc n p m' where
  size := P.size
  le := h'
  fix := fun x h1 h2 => P.fix x (by omega) h2
  lo := fun x hx => by
    by_cases q : x < m
    · have := P.lo x q; omega
    · rw [P.fix x (by omega) (by omega)]; exact hx
  inj := P.inj

/-- the lesser ahead, like ones as they stood -/
def Lex (f : Nat → Int) (i j : Nat) : Prop := f i < f j ∨ (f i = f j ∧ i < j)
def Srt (f : Nat → Int) (p : Array Nat) (m : Nat) : Prop := ∀ a b, a < b → b < m → Lex f (pl p a) (pl p b)
/-- the greater ahead, like ones turned round -/
def Dsc (f : Nat → Int) (p : Array Nat) (m : Nat) : Prop := ∀ a b, a < b → b < m → Lex f (pl p b) (pl p a)
/-- as Dsc, but for the last q + 1 ones, which are like and stand as they stood -/
def DscQ (f : Nat → Int) (p : Array Nat) (m q : Nat) : Prop := q < m ∧ (∀ a b, a < b → b < m → b < m - (q + 1) ∨ a < m - (q + 1) → Lex f (pl p b) (pl p a)) ∧ (∀ a b, a < b → b < m → m - (q + 1) ≤ a → f (pl p a) = f (pl p b) ∧ pl p a < pl p b) ∧ ∀ a, a < m - (q + 1) → f (pl p (m - 1)) < f (pl p a)

theorem Lex.trans {f : Nat → Int} {i j k : Nat} (x : Lex f i j) (y : Lex f j k) : Lex f i k := by unfold Lex at *; omega
theorem Lex.irrefl {f : Nat → Int} {i : Nat} (x : Lex f i i) : False := by unfold Lex at x; omega
theorem Lex.le {f : Nat → Int} {i j : Nat} (x : Lex f i j) : f i ≤ f j := by unfold Lex at x; omega

theorem Srt.snoc {f : Nat → Int} {n m : Nat} {p : Array Nat} (P : Plc n p m) (S : Srt f p m) (hm : m < n) (h1 : 1 ≤ m) (hf : f (pl p (m - 1)) ≤ f (pl p m)) : Srt f p (m + 1) := fun a b hab hb => by
  by_cases hbm : b < m
  · exact S a b hab hbm
  · obtain rfl : b = m := by omega
    have hx : pl p b = b := P.fix b (Nat.le_refl _) hm
    have hlast : Lex f (pl p (b - 1)) (pl p b) := by
      have := P.lo (b - 1) (by omega)
      unfold Lex
      rw [hx] at hf ⊢
      omega
    by_cases ha : a = b - 1
    · subst ha; exact hlast
    · exact (S a (b - 1) (by omega) (by omega)).trans hlast
theorem Dsc.turn {f : Nat → Int} {n m : Nat} {p : Array Nat} (P : Plc n p m) (D : Dsc f p m) : Srt f (kas_rev p 0 m) m := fun a b hab hb => by
  have hz : m ≤ p.size := by rw [P.size]; exact P.le
  rw [pl_rev hz, pl_rev hz, if_pos (by omega), if_pos (by omega)]
  exact D _ _ (by omega) (by omega)
theorem DscQ.flat {f : Nat → Int} {n m q : Nat} {p : Array Nat} (P : Plc n p m) (D : DscQ f p m q) : Dsc f (kas_rev p (m - (q + 1)) m) m := fun a b hab hb => by
  have hz : m ≤ p.size := by rw [P.size]; exact P.le
  obtain ⟨hq, d1, d2, d3⟩ := D
  rw [pl_rev hz, pl_rev hz]
  by_cases ha : m - (q + 1) ≤ a
  · rw [if_pos (by omega), if_pos (by omega)]
    have := d2 (m - (q + 1) + m - 1 - b) (m - (q + 1) + m - 1 - a) (by omega) (by omega) (by omega)
    exact .inr ⟨this.1, this.2⟩
  · rw [if_neg (c := m - (q + 1) ≤ a ∧ a < m) (by omega)]
    split
    · exact d1 a _ (by omega) (by omega) (.inr (by omega))
    · exact d1 a b hab hb (.inr (by omega))
theorem DscQ.zero {f : Nat → Int} {m : Nat} {p : Array Nat} (D : DscQ f p m 0) : Dsc f p m := fun a b hab hb => D.2.1 a b hab hb (.inr (by omega))
theorem Dsc.snoc {f : Nat → Int} {n m : Nat} {p : Array Nat} (P : Plc n p m) (D : Dsc f p m) (hm : m < n) (h1 : 1 ≤ m) (hf : f (pl p m) < f (pl p (m - 1))) : Dsc f p (m + 1) := fun a b hab hb => by
  by_cases hbm : b < m
  · exact D a b hab hbm
  · obtain rfl : b = m := by omega
    have hlast : Lex f (pl p b) (pl p (b - 1)) := .inl hf
    by_cases ha : a = b - 1
    · subst ha; exact hlast
    · exact hlast.trans (D a (b - 1) (by omega) (by omega))
theorem Dsc.snocQ {f : Nat → Int} {n m : Nat} {p : Array Nat} (P : Plc n p m) (D : Dsc f p m) (hm : m < n) (h1 : 1 ≤ m) (hf : f (pl p m) < f (pl p (m - 1))) : DscQ f p (m + 1) 0 := by
  have D' := D.snoc P hm h1 hf
  refine ⟨by omega, fun a b hab hb _ => D' a b hab hb, fun a b hab hb h => by omega, fun a ha => ?_⟩
  show f (pl p m) < _
  by_cases h : a = m - 1
  · subst h; exact hf
  · have := (D a (m - 1) (by omega) (by omega)).le
    omega
theorem DscQ.same {f : Nat → Int} {n m q : Nat} {p : Array Nat} (P : Plc n p m) (D : DscQ f p m q) (hm : m < n) (h1 : 1 ≤ m) (hf : f (pl p m) = f (pl p (m - 1))) : DscQ f p (m + 1) (q + 1) := by
  obtain ⟨hq, d1, d2, d3⟩ := D
  have hx : pl p m = m := P.fix m (Nat.le_refl _) hm
  have hall : ∀ a, a < m → m - (q + 1) ≤ a → f (pl p a) = f (pl p m) := fun a ha hq' => by
    by_cases h : a = m - 1
    · subst h; exact hf.symm
    · rw [hf]; exact (d2 a (m - 1) (by omega) (by omega) hq').1
  refine ⟨by omega, fun a b hab hb hor => ?_, fun a b hab hb hge => ?_, fun a ha => by show f (pl p m) < _; rw [hf]; exact d3 a (by omega)⟩
  · by_cases hbm : b < m
    · exact d1 a b hab hbm (by omega)
    · obtain rfl : b = m := by omega
      have h3 := d3 a (by omega)
      left
      rw [hf]
      exact h3
  · by_cases hbm : b < m
    · exact d2 a b hab hbm (by omega)
    · obtain rfl : b = m := by omega
      refine ⟨hall a (by omega) (by omega), ?_⟩
      rw [hx]
      exact P.lo a (by omega)

theorem ins_srt {f : Nat → Int} {n k l : Nat} {p : Array Nat} (P : Plc n p k) (S : Srt f p k) (hk : k < n) (hl : l ≤ k) (hlo : ∀ i, i < l → f (pl p i) ≤ f k) (hhi : ∀ i, l ≤ i → i < k → f k < f (pl p i)) : Srt f (bubble p k (k - l)) (k + 1) := fun a b hab hb => by
  have hz : k < p.size := by rw [P.size]; exact hk
  have hfk : pl p k = k := P.fix k (Nat.le_refl _) hk
  have low : ∀ i, i < l → Lex f (pl p i) k := fun i hi => by
    have h1 := hlo i hi
    have h2 := P.lo i (by omega)
    unfold Lex; omega
  have high : ∀ i, l ≤ i → i < k → Lex f k (pl p i) := fun i h1 h2 => .inl (hhi i h1 h2)
  rw [pl_bub hz hl, pl_bub hz hl, hfk]
  by_cases ha : a = l
  · subst ha
    rw [if_pos rfl, if_neg (by omega), if_pos (by omega)]
    exact high _ (by omega) (by omega)
  · rw [if_neg ha]
    by_cases hb' : b = l
    · subst hb'
      rw [if_pos rfl, if_neg (by omega)]
      exact low a hab
    · rw [if_neg hb']
      by_cases h1 : l < a ∧ a ≤ k
      · rw [if_pos h1, if_pos (by omega)]
        exact S _ _ (by omega) (by omega)
      · rw [if_neg h1]
        split
        · exact S _ _ (by omega) (by omega)
        · exact S _ _ hab (by omega)

section
variable {prog : Program} {w : World} {A : Around} {E : Value → Shared → Prop} {κ : SortKind} {it : Array Keyed} {n : Nat} {f : Nat → Int} {Lim : Nat} {J : Nat → Shared → Prop} {Fl : Value → Shared → Prop} {p : Array Nat}

/-- each ask of a sort is answered by f, or fails; J B: at most B asks so far -/
structure Asks (prog : Program) (w : World) (A : Around) (κ : SortKind) (it : Array Keyed) (n : Nat) (f : Nat → Int) (Lim : Nat) (J : Nat → Shared → Prop) (Fl : Value → Shared → Prop) : Prop where
  mono : ∀ {B B' s}, J B s → B ≤ B' → J B' s
  ask : ∀ B i j s, i < n → j < n → B ≤ Lim → J B s → wpAny (model prog w) A (keyLt' κ (kas_item it i).1 (kas_item it j).1) (fun b s' => b = decide (f i < f j) ∧ J (B + 1) s') Fl s
def Fell (n : Nat) (Fl : Value → Shared → Prop) (st : SortSt) (s : Shared) : Prop := ∃ e, failedOf st = some e ∧ (arrOf st).size = n ∧ Fl e s

theorem ask_lt {B i j : Nat} {Q : Option Bool → SortSt → Shared → Prop} {s : Shared} (H : Asks prog w A κ it n f Lim J Fl) (hp : p.size = n) (hpi : pl p i < n) (hpj : pl p j < n) (hi : i < n) (hj : j < n) (hB : B ≤ Lim) (hJ : J B s)
    (q : ∀ s', J (B + 1) s' → Q (some (decide (f (pl p i) < f (pl p j)))) (kas_st κ it p) s') (qf : ∀ st' s', Fell n Fl st' s' → Q none st' s') : kasC (model prog w) A E (ltAt' i j) Q (kas_st κ it p) s := by
  rw [ltAt'_eq]
  refine kasC_bind (kasC_get ?_)
  show kasC _ _ _ (do let x ← elem' (arrOf (kas_st κ it p)) i; let y ← elem' (arrOf (kas_st κ it p)) j; lt' x y) Q _ _
  rw [elem'_eq, elem'_eq, kas_get (hp ▸ hi), kas_get (hp ▸ hj)]
  refine kasC_bind (kasC_pure (kasC_bind (kasC_pure ?_)))
  rw [lt'_eq]
  refine kasC_bind (kasC_get ?_)
  refine kasC_bind (kasC_lift (wpAny_attempt (wpAny_mono (H.ask B (pl p i) (pl p j) s hpi hpj hB hJ) (fun b s' hb => ?_) fun e s' he => ?_)))
  · obtain ⟨rfl, hb⟩ := hb
    exact kasC_pure (q s' hb)
  · refine kasC_bind (kasC_modify (kasC_pure (qf _ s' ⟨e, rfl, ?_, he⟩)))
    show (p.map (kas_item it)).size = n
    rw [Array.size_map, hp]

theorem asc_loop {B m nrem a : Nat} {Q : AscSt → SortSt → Shared → Prop} {s : Shared} (H : Asks prog w A κ it n f Lim J Fl) (P : Plc n p m) (h1 : 1 ≤ a) (ha : a ≤ nrem) (hz : nrem ≤ n) (hB : B + nrem ≤ Lim) (hJ : J B s)
    (q : ∀ m s', a ≤ m → m ≤ nrem → (∀ x, a ≤ x → x < m → f (pl p (x - 1)) ≤ f (pl p x)) → (m < nrem → f (pl p m) < f (pl p (m - 1))) → J (B + nrem) s' → Q (none, m) (kas_st κ it p) s')
    (qf : ∀ m st' s', Fell n Fl st' s' → Q (some none, m) st' s') : kasC (model prog w) A E (ascLoop a nrem) Q (kas_st κ it p) s := by
  unfold ascLoop
  refine kasC_rng (fun i c st s' => c = (none, i) ∧ a ≤ i ∧ st = kas_st κ it p ∧ (∀ x, a ≤ x → x < i → f (pl p (x - 1)) ≤ f (pl p x)) ∧ J (B + i) s') ha ⟨rfl, Nat.le_refl _, rfl, fun x h1 h2 => by omega, H.mono hJ (by omega)⟩ ?_ ?_
  · rintro i c st s' hi ⟨rfl, hai, rfl, hx, hJ'⟩
    dsimp only
    refine kasC_bind (ask_lt H P.size (P.lt (by omega)) (P.lt (by omega)) (by omega) (by omega) (by omega) hJ' (fun s2 hJ2 => ?_) fun st2 s2 hf => ?_)
    · dsimp only
      by_cases hc : f (pl p i) < f (pl p (i - 1))
      · rw [if_pos (decide_eq_true hc)]
        exact kasC_pure (q i s2 hai (by omega) hx (fun _ => hc) (H.mono hJ2 (by omega)))
      · rw [if_neg (by simpa using hc)]
        refine kasC_pure ⟨rfl, by omega, rfl, fun x h1 h2 => ?_, hJ2⟩
        by_cases hxi : x = i
        · subst hxi; omega
        · exact hx x h1 (by omega)
    · exact kasC_pure (qf i st2 s2 hf)
  · rintro c st s' ⟨rfl, _, rfl, hx, hJ'⟩
    exact q nrem s' ha (Nat.le_refl _) hx (fun h => absurd h (Nat.lt_irrefl _)) hJ'

theorem tail_3 {B m nrem : Nat} {Q : Option Nat → SortSt → Shared → Prop} {s : Shared} (H : Asks prog w A κ it n f Lim J Fl) (P : Plc n p m) (D : Dsc f p m) (h1 : 1 ≤ m) (hm : m ≤ nrem) (hz : nrem ≤ n) (hB : B + nrem ≤ Lim) (hJ : J B s)
    (q : ∀ p' m' s', 1 ≤ m' → m' ≤ nrem → Plc n p' m' → Srt f p' m' → J (B + nrem) s' → Q (some m') (kas_st κ it p') s') (qf : ∀ st' s', Fell n Fl st' s' → Q none st' s') : kasC (model prog w) A E (tail3 m nrem) Q (kas_st κ it p) s := by
  unfold tail3
  have P' : Plc n (kas_rev p 0 m) m := P.rev (Nat.le_refl _)
  have S' := D.turn P
  refine kasC_bind (kas_reverse (kasC_bind (asc_loop H P' h1 hm hz hB hJ (fun m' s' hm1 hm2 hx _ hJ' => ?_) fun m' st' s' hf => ?_)))
  · refine kasC_pure (q _ m' s' (by omega) hm2 (P'.grow hm1 (by omega)) ?_ hJ')
    have go : ∀ k, m + k ≤ m' → Srt f (kas_rev p 0 m) (m + k) := by
      intro k
      induction k with
      | zero => intro _; exact S'
      | succ k ih =>
        intro hk
        have := (ih (by omega)).snoc (P'.grow (Nat.le_add_right m k) (by omega)) (by omega) (by omega) (hx (m + k) (by omega) (by omega))
        exact this
    have := go (m' - m) (by omega)
    rwa [show m + (m' - m) = m' by omega] at this
  · exact kasC_pure (qf st' s' hf)

theorem desc_loop {B m nrem : Nat} {Q : DescSt → SortSt → Shared → Prop} {s : Shared} (H : Asks prog w A κ it n f Lim J Fl) (P : Plc n p m) (D : DscQ f p m 0) (hm : m ≤ nrem) (hz : nrem ≤ n) (hB : B + 2 * nrem ≤ Lim) (hJ : J B s)
    (q : ∀ p' m' q' s', m ≤ m' → m' ≤ nrem → Plc n p' m' → DscQ f p' m' q' → J (B + 2 * nrem) s' → Q (none, m', q') (kas_st κ it p') s') (qf : ∀ m' q' st' s', Fell n Fl st' s' → Q (some none, m', q') st' s') : kasC (model prog w) A E (descLoop m nrem) Q (kas_st κ it p) s := by
  unfold descLoop
  refine kasC_rng (fun i c st s' => m ≤ i ∧ ∃ p' q', c = (none, i, q') ∧ st = kas_st κ it p' ∧ Plc n p' i ∧ DscQ f p' i q' ∧ J (B + 2 * i) s') hm ⟨Nat.le_refl _, p, 0, rfl, rfl, P, D, H.mono hJ (by omega)⟩ ?_ ?_
  · rintro i c st s' hi ⟨hmi, p', q', rfl, rfl, P', D', hJ'⟩
    dsimp only
    have hi1 : 1 ≤ i := by have := D'.1; omega
    refine kasC_bind (ask_lt H P'.size (P'.lt (by omega)) (P'.lt (by omega)) (by omega) (by omega) (by omega) hJ' (fun s2 hJ2 => ?_) fun st2 s2 hf => kasC_pure (qf _ _ _ _ hf))
    dsimp only
    by_cases hc : f (pl p' i) < f (pl p' (i - 1))
    · rw [if_pos (decide_eq_true hc)]
      by_cases hq : q' > 0
      · rw [if_pos hq]
        refine kasC_bind (kas_reverse (kasC_pure ⟨by omega, _, 0, rfl, rfl, (P'.rev (Nat.le_refl _)).grow (Nat.le_succ _) (by omega), ?_, H.mono hJ2 (by omega)⟩))
        refine Dsc.snocQ (P'.rev (Nat.le_refl _)) (D'.flat P') (by omega) hi1 ?_
        have hzz : i ≤ p'.size := by rw [P'.size]; omega
        obtain ⟨hq', d1, d2, d3⟩ := D'
        rw [pl_rev hzz, pl_rev hzz, if_neg (by omega), if_pos (by omega)]
        have := d2 (i - (q' + 1) + i - 1 - (i - 1)) (i - 1) (by omega) (by omega) (by omega)
        omega
      · rw [if_neg hq]
        obtain rfl : q' = 0 := by omega
        exact kasC_pure ⟨by omega, _, 0, rfl, rfl, P'.grow (Nat.le_succ _) (by omega), Dsc.snocQ P' D'.zero (by omega) hi1 hc, H.mono hJ2 (by omega)⟩
    · rw [if_neg (by simpa using hc)]
      refine kasC_bind (ask_lt H P'.size (P'.lt (by omega)) (P'.lt (by omega)) (by omega) (by omega) (by omega) hJ2 (fun s3 hJ3 => ?_) fun st2 s2 hf => kasC_pure (qf _ _ _ _ hf))
      dsimp only
      by_cases hd : f (pl p' (i - 1)) < f (pl p' i)
      · rw [if_pos (decide_eq_true hd)]
        exact kasC_pure (q p' i q' s3 hmi (by omega) P' D' (H.mono hJ3 (by omega)))
      · rw [if_neg (by simpa using hd)]
        exact kasC_pure ⟨by omega, _, _, rfl, rfl, P'.grow (Nat.le_succ _) (by omega), D'.same P' (by omega) hi1 (by omega), H.mono hJ3 (by omega)⟩
  · rintro c st s' ⟨hmi, p', q', rfl, rfl, P', D', hJ'⟩
    exact q p' nrem q' s' hmi (Nat.le_refl _) P' D' hJ'

theorem desc_part {B m nrem : Nat} {Q : Option Nat → SortSt → Shared → Prop} {s : Shared} (H : Asks prog w A κ it n f Lim J Fl) (P : Plc n p m) (D : Dsc f p m) (h1 : 1 ≤ m) (hm : m < nrem) (hz : nrem ≤ n) (hlt : f (pl p m) < f (pl p (m - 1))) (hB : B + 3 * nrem ≤ Lim) (hJ : J B s)
    (q : ∀ p' m' s', 1 ≤ m' → m' ≤ nrem → Plc n p' m' → Srt f p' m' → J (B + 3 * nrem) s' → Q (some m') (kas_st κ it p') s') (qf : ∀ st' s', Fell n Fl st' s' → Q none st' s') : kasC (model prog w) A E (descPart m nrem) Q (kas_st κ it p) s := by
  unfold descPart
  refine kasC_bind (kasC_lift (wpAny_rule ?_))
  refine kasC_bind (desc_loop H (P.grow (Nat.le_succ m) (by omega)) (Dsc.snocQ P D (by omega) h1 hlt) hm hz (by omega) hJ (fun p' m' q' s' hm1 hm2 P' D' hJ' => ?_) fun m' q' st' s' hf => kasC_pure (qf st' s' hf))
  show kasC _ _ _ (if q' > 0 then do
      reverseSlice' (m' - (q' + 1)) m'
      tail3 m' nrem
    else tail3 m' nrem) _ _ _
  by_cases hq : q' > 0
  · rw [if_pos hq]
    exact kasC_bind (kas_reverse (tail_3 H (P'.rev (Nat.le_refl _)) (D'.flat P') (by omega) hm2 hz (by omega) hJ' (fun p2 m2 s2 a1 a2 a3 a4 a5 => q p2 m2 s2 a1 a2 a3 a4 (H.mono a5 (by omega))) qf))
  · rw [if_neg hq]
    obtain rfl : q' = 0 := by omega
    exact tail_3 H P' D'.zero (by omega) hm2 hz (by omega) hJ' (fun p2 m2 s2 a1 a2 a3 a4 a5 => q p2 m2 s2 a1 a2 a3 a4 (H.mono a5 (by omega))) qf

theorem count_run {B : Nat} {Q : Option Nat → SortSt → Shared → Prop} {s : Shared} (H : Asks prog w A κ it n f Lim J Fl) (P : Plc n p 1) (h1 : 1 ≤ n) (hB : B + 4 * n + 1 ≤ Lim) (hJ : J B s)
    (q : ∀ p' m' s', 1 ≤ m' → m' ≤ n → Plc n p' m' → Srt f p' m' → J (B + 4 * n + 1) s' → Q (some m') (kas_st κ it p') s') (qf : ∀ st' s', Fell n Fl st' s' → Q none st' s') : kasC (model prog w) A E (countRun' 0 n) Q (kas_st κ it p) s := by
  rw [countRun0_eq]
  refine kasC_bind (asc_loop H P (Nat.le_refl 1) h1 (Nat.le_refl _) (by omega) hJ (fun m s' hm1 hm2 hx hlt hJ' => ?_) fun m' st' s' hf => kasC_pure (qf st' s' hf))
  dsimp only
  have S : Srt f p m := by
    have go : ∀ k, 1 + k ≤ m → Srt f p (1 + k) := by
      intro k
      induction k with
      | zero => intro _ a b hab hb; omega
      | succ k ih =>
        intro hk
        have := (ih (by omega)).snoc (P.grow (Nat.le_add_right 1 k) (by omega)) (by omega) (by omega) (hx (1 + k) (by omega) (by omega))
        exact this
    have := go (m - 1) (by omega)
    rwa [show 1 + (m - 1) = m by omega] at this
  by_cases e1 : m = n
  · rw [if_pos (by simpa using e1)]
    exact kasC_pure (q p m s' hm1 hm2 (P.grow hm1 hm2) S (H.mono hJ' (by omega)))
  · rw [if_neg (by simpa using e1)]
    have hmn : m < n := by omega
    by_cases e2 : m > 1
    · rw [if_pos e2]
      refine kasC_bind (ask_lt H P.size (P.lt (by omega)) (P.lt (by omega)) (by omega) (by omega) (by omega) hJ' (fun s2 hJ2 => ?_) fun st2 s2 hf => kasC_pure (qf _ _ hf))
      dsimp only
      by_cases hc : f (pl p 0) < f (pl p (m - 1))
      · rw [if_pos (decide_eq_true hc)]
        exact kasC_pure (q p m s2 hm1 hm2 (P.grow hm1 hm2) S (H.mono hJ2 (by omega)))
      · rw [if_neg (by simpa using hc)]
        have Pm := P.grow hm1 hm2
        have hzz : m ≤ p.size := by rw [P.size]; exact hm2
        have hfix : ∀ x, x < n → pl p x = x := fun x hxn => by
          by_cases h : 1 ≤ x
          · exact P.fix x h hxn
          · have := P.lo x (by omega); omega
        have hall : ∀ x, x < m → f (pl p x) = f (pl p (m - 1)) := fun x hxm => by
          have a1 : f (pl p 0) ≤ f (pl p x) := by
            by_cases h : x = 0
            · subst h; omega
            · exact (S 0 x (by omega) hxm).le
          have a2 : f (pl p x) ≤ f (pl p (m - 1)) := by
            by_cases h : x = m - 1
            · subst h; omega
            · exact (S x (m - 1) (by omega) (by omega)).le
          omega
        refine kasC_bind (kas_reverse (desc_part H (Pm.rev (Nat.le_refl _)) (fun a b hab hb => ?_) hm1 hmn (Nat.le_refl _) ?_ (by omega) hJ2 (fun p2 m2 s2 a1 a2 a3 a4 a5 => q p2 m2 s2 a1 a2 a3 a4 (H.mono a5 (by omega))) qf))
        · rw [pl_rev hzz, pl_rev hzz, if_pos (by omega), if_pos (by omega)]
          refine .inr ⟨(hall _ (by omega)).trans (hall _ (by omega)).symm, ?_⟩
          rw [hfix _ (by omega), hfix _ (by omega)]
          omega
        · rw [pl_rev hzz, pl_rev hzz, if_neg (by omega), if_pos (by omega)]
          rw [hall (0 + m - 1 - (m - 1)) (by omega)]
          exact hlt hmn
    · rw [if_neg e2]
      obtain rfl : m = 1 := by omega
      exact desc_part H P (fun a b hab hb => by omega) (Nat.le_refl 1) hmn (Nat.le_refl _) (hlt hmn) (by omega) hJ' (fun p2 m2 s2 a1 a2 a3 a4 a5 => q p2 m2 s2 a1 a2 a3 a4 (H.mono a5 (by omega))) qf

theorem bin_sort {B m : Nat} {Q : Bool → SortSt → Shared → Prop} {s : Shared} (H : Asks prog w A κ it n f Lim J Fl) (P : Plc n p m) (S : Srt f p m) (h1 : 1 ≤ m) (hB : B + n * n ≤ Lim) (hJ : J B s)
    (q : ∀ p' s', Plc n p' n → Srt f p' n → J (B + n * n) s' → Q true (kas_st κ it p') s') (qf : ∀ st' s', Fell n Fl st' s' → Q false st' s') : kasC (model prog w) A E (binarySort' 0 n m) Q (kas_st κ it p) s := by
  rw [binarySort'_eq]
  simp only [Nat.zero_add]
  rw [show max m 1 = m by omega]
  refine kasC_bind (kasC_rng (fun i c st s' => c = (none, ()) ∧ m ≤ i ∧ ∃ p', st = kas_st κ it p' ∧ Plc n p' i ∧ Srt f p' i ∧ J (B + n * i) s') P.le ⟨rfl, Nat.le_refl _, p, rfl, P, S, H.mono hJ (Nat.le_add_right _ _)⟩ ?_ ?_)
  · rintro k c st s' hk ⟨rfl, hmk, p', rfl, P', S', hJ'⟩
    have hfk : pl p' k = k := P'.fix k (Nat.le_refl _) hk
    have hnk : n * k + n ≤ n * n := by rw [← Nat.mul_succ]; exact Nat.mul_le_mul_left n hk
    have hnk' : n * (k + 1) = n * k + n := Nat.mul_succ n k
    refine kasC_bind (kasC_rng (fun x c st s' => st = kas_st κ it p' ∧ J (B + n * k + x) s' ∧ ∃ l r, c = (none, l, r) ∧ l ≤ r ∧ r ≤ k ∧ r - l ≤ k - x ∧ (∀ i, i < l → f (pl p' i) ≤ f k) ∧ (∀ i, r ≤ i → i < k → f k < f (pl p' i))) (Nat.zero_le k) ⟨rfl, hJ', 0, k, rfl, by omega, by omega, by omega, fun i hi => by omega, fun i h1 h2 => by omega⟩ ?_ ?_)
    · rintro x c st s2 hx ⟨rfl, hJ2, l, r, rfl, hlr, hrk, hm, hlo, hhi⟩
      dsimp only
      by_cases hge : l ≥ r
      · rw [if_pos hge]
        obtain rfl : l = r := by omega
        refine kasC_pure ?_
        dsimp only
        refine kasC_bind (kas_move (kasC_pure ⟨rfl, by omega, _, rfl, P'.bub hk hrk, ?_, H.mono hJ2 (by omega)⟩))
        exact ins_srt P' S' hk hrk hlo hhi
      · rw [if_neg hge]
        refine kasC_bind (ask_lt H P'.size (P'.lt hk) (P'.lt (by omega)) hk (by omega) (by omega) hJ2 (fun s3 hJ3 => ?_) fun st2 s3 hf => ?_)
        · dsimp only
          rw [hfk]
          by_cases hc : f k < f (pl p' ((l + r) / 2))
          · rw [if_pos (decide_eq_true hc)]
            refine kasC_pure ⟨rfl, hJ3, l, (l + r) / 2, rfl, by omega, by omega, by omega, hlo, fun i h1 h2 => ?_⟩
            by_cases hi : i = (l + r) / 2
            · subst hi; exact hc
            · have := (S' ((l + r) / 2) i (by omega) h2).le
              omega
          · rw [if_neg (by simpa using hc)]
            refine kasC_pure ⟨rfl, hJ3, (l + r) / 2 + 1, r, rfl, by omega, hrk, by omega, fun i h1 => ?_, hhi⟩
            by_cases hi : i = (l + r) / 2
            · subst hi; omega
            · have := (S' i ((l + r) / 2) (by omega) (by omega)).le
              omega
        · refine kasC_pure ?_
          exact kasC_pure (kasC_pure (qf st2 s3 hf))
    · rintro c st s2 ⟨rfl, hJ2, l, r, rfl, hlr, hrk, hm, hlo, hhi⟩
      obtain rfl : l = r := by omega
      dsimp only
      refine kasC_bind (kas_move (kasC_pure ⟨rfl, by omega, _, rfl, P'.bub hk hrk, ?_, H.mono hJ2 (by omega)⟩))
      exact ins_srt P' S' hk hrk hlo hhi
  · rintro c st s' ⟨rfl, _, p', rfl, P', S', hJ'⟩
    exact kasC_pure (q p' s' P' S' hJ')
end

section
variable {prog : Program} {w : World} {A : Around} {E : Value → Shared → Prop} {κ : SortKind} {it : Array Keyed} {n : Nat} {f : Nat → Int} {Lim : Nat} {J : Nat → Shared → Prop} {Fl : Value → Shared → Prop}

theorem sort_runs {B : Nat} {Q : Unit → SortSt → Shared → Prop} {s : Shared} (H : Asks prog w A κ it n f Lim J Fl) (h2 : 2 ≤ n) (h64 : n < 64) (hB : B + 6000 ≤ Lim) (hJ : J B s)
    (q : ∀ p' st' s', Plc n p' n → Srt f p' n → arrOf st' = p'.map (kas_item it) → failedOf st' = none → J (B + 6000) s' → Q () st' s') (qf : ∀ st' s', Fell n Fl st' s' → Q () st' s') :
    kasC (model prog w) A E sortRuns' Q (kas_st κ it (List.toArray (List.range n))) s := by
  obtain ⟨r, rfl⟩ : ∃ r, n = r + 2 := ⟨n - 2, by omega⟩
  have hnn : (r + 2) * (r + 2) ≤ 64 * 64 := Nat.mul_le_mul (by omega) (by omega)
  have hrs : (List.toArray (List.range (r + 2))).size = r + 2 := by simp
  rw [sortRuns'_eq]
  refine kasC_bind (kasC_get ?_)
  dsimp only
  have hsz : (arrOf (kas_st κ it (List.toArray (List.range (r + 2))))).size = r + 2 := by
    show ((List.toArray (List.range (r + 2))).map (kas_item it)).size = _
    rw [Array.size_map, hrs]
  have hmr : minRun' (r + 2) (r + 2) 0 = r + 2 := by
    have e : minRun' (r + 1 + 1) (r + 2) 0 = r + 2 := by rw [minRun'_succ, if_pos h64]
    exact e
  simp only [hsz, hmr]
  refine kasC_bind (kasC_range ?_)
  show kasC _ _ _ (forIn (0 :: 1 :: List.range' 2 r) _ _) _ _ _
  refine kasC_cons ?_
  dsimp only
  rw [if_neg (by omega)]
  simp only [Nat.sub_zero, Nat.min_self, Nat.zero_add]
  refine kasC_bind (count_run H (plc_start (r + 2) 1 (by omega)) (by omega) (by omega) hJ (fun p' m s' hm1 hm2 P S hJ' => ?_) fun st' s' hf => ?_)
  · dsimp only
    by_cases hlt : m < r + 2
    · rw [if_pos hlt]
      refine kasC_bind (kasC_lift (wpAny_rule ?_))
      refine kasC_bind (bin_sort H P S hm1 (by omega) hJ' (fun p'' s'' P2 S2 hJ2 => ?_) fun st' s' hf => ?_)
      · simp only [Bool.not_true, Bool.false_eq_true, if_false]
        refine kasC_bind (kasC_get ?_)
        rw [show (pendingOf (kas_st κ it p'')).back? = none from rfl]
        dsimp only
        refine kasC_bind (kasC_modify (kasC_pure ?_))
        show kasC _ _ _ (forIn (1 :: List.range' 2 r) _ _) _ _ _
        refine kasC_cons ?_
        dsimp only
        rw [if_pos (Nat.le_refl _)]
        refine kasC_pure ?_
        dsimp only
        refine kasC_bind (kasC_range ?_)
        show kasC _ _ _ (forIn (0 :: 1 :: List.range' 2 r) _ _) _ _ _
        refine kasC_cons ?_
        refine kasC_bind (kasC_get ?_)
        rw [if_pos (show (pendingOf (setPending (kas_st κ it p'') ((pendingOf (kas_st κ it p'')).push (0, r + 2, 0)))).size ≤ 1 from Nat.le_refl 1)]
        refine kasC_pure ?_
        dsimp only
        exact kasC_pure (q p'' _ _ P2 S2 rfl rfl (H.mono hJ2 (by omega)))
      · simp only [Bool.not_false, if_true]
        refine kasC_pure ?_
        dsimp only
        exact kasC_pure (qf st' s' hf)
    · rw [if_neg hlt]
      obtain rfl : m = r + 2 := by omega
      refine kasC_bind (kasC_get ?_)
      rw [show (pendingOf (kas_st κ it p')).back? = none from rfl]
      dsimp only
      refine kasC_bind (kasC_modify (kasC_pure ?_))
      show kasC _ _ _ (forIn (1 :: List.range' 2 r) _ _) _ _ _
      refine kasC_cons ?_
      dsimp only
      rw [if_pos (Nat.le_refl _)]
      refine kasC_pure ?_
      dsimp only
      refine kasC_bind (kasC_range ?_)
      show kasC _ _ _ (forIn (0 :: 1 :: List.range' 2 r) _ _) _ _ _
      refine kasC_cons ?_
      refine kasC_bind (kasC_get ?_)
      rw [if_pos (show (pendingOf (setPending (kas_st κ it p') ((pendingOf (kas_st κ it p')).push (0, r + 2, 0)))).size ≤ 1 from Nat.le_refl 1)]
      refine kasC_pure ?_
      dsimp only
      exact kasC_pure (q p' _ _ P S rfl rfl (H.mono hJ' (by omega)))
  · refine kasC_pure ?_
    dsimp only
    exact kasC_pure (qf st' s' hf)
end

/-- the order that a sort gives: the lesser ahead, or (reverse) the greater; like ones as they stood -/
def Ordr (b : Bool) (f : Nat → Int) (i j : Nat) : Prop := if b then f j < f i ∨ (f i = f j ∧ i < j) else Lex f i j
def OutOf (b : Bool) (f : Nat → Int) (n : Nat) (vs out : List Value) : Prop :=
  ∃ q : Nat → Nat, (∀ x, x < n → q x < n) ∧ (∀ x y, x < n → y < n → q x = q y → x = y) ∧ (∀ x y, x < y → y < n → Ordr b f (q x) (q y)) ∧ out = (List.range n).map fun x => vs.getD (q x) .none

/-- what a sort under keys of a class needs of its asks -/
structure Cmp (prog : Program) (w : World) (A : Around) (h : Heap) (g : Array GenState) (d : Drawn) (os : OsState) (k : KA) (c : Addr) (v : Value) (vs : List Value) (f : Nat → Int) (X : Addr → Prop) (Lim : Nat) (U : Nat → Heap → Prop) (FU : Value → Heap → Prop) : Prop where
  K : KOk h k c v
  S : Sta h
  hi : Hi X
  lo : ∀ b, X b → b < h.objs.size
  nc : ¬ X c
  soft0 : SoftX X h
  soft : ∀ B h', U B h' → SoftX X h'
  mono : ∀ B B' h', U B h' → B ≤ B' → U B' h'
  stay : ∀ B h' h'' Y, U B h' → Ext Y h' h'' → SoftX Y h' → (∀ b, Y b → h.objs.size ≤ b) → U B h''
  fstay : ∀ e h' h'' Y, FU e h' → Ext Y h' h'' → (∀ b o, Y b → h'.get? b = some o → ∃ xs n, o.data = .seq xs n) → (∀ b, Y b → h.objs.size ≤ b) → FU e h''
  ask : ∀ B h' t' i j xi xj, i < vs.length → j < vs.length → B ≤ Lim → U B h' → Ext X h h' → KeyAt h' xi k.C (vs.getD i .none) → KeyAt h' xj k.C (vs.getD j .none) →
    wpAny (model prog w) A (keyLt' oneType' (.ref xi) (.ref xj)) (fun b s' => b = decide (f i < f j) ∧ ∃ h'' t'', s' = ⟨h'', g, d, t'', os⟩ ∧ Ext X h' h'' ∧ U (B + 1) h'')
      (fun e s' => ∃ h'' t'', s' = ⟨h'', g, d, t'', os⟩ ∧ Ext X h' h'' ∧ FU e h'') ⟨h', g, d, t', os⟩

section
variable {prog : Program} {w : World} {A : Around} {E : Value → Shared → Prop} {h h1 : Heap} {g : Array GenState} {d : Drawn} {t : Nat} {os : OsState} {k : KA} {c : Addr} {v : Value} {vs : List Value} {f : Nat → Int} {X : Addr → Prop} {Lim B : Nat} {U : Nat → Heap → Prop} {FU : Value → Heap → Prop} {P : PySem.Fin → Shared → Prop} {D kS : Addr} {b : Bool} {e1 : Nat}

theorem sort_tail {st : SortSt} {ks : Array Value} {e : Nat} (C : Cmp prog w A h g d os k c v vs f X Lim U FU) (x : Ext X h h1) (hD : h1.get? D = some (seqObj "list" #[] e1)) (hk : h1.get? kS = some (seqObj "list" ks e)) (hDk : D ≠ kS) (hDlo : h.objs.size ≤ D) (hklo : h.objs.size ≤ kS)
    (hks : ks.size < 64) (hn : (arrOf st).size = vs.length) (h64 : vs.length < 64)
    (q : ∀ h' t' , failedOf st = none → U B h1 → Ext X h h' → U B h' → LstAt h' D ((if b then ((arrOf st).map (·.2)).reverse else (arrOf st).map (·.2)).toList) → P (.done (.ret .none)) ⟨h', g, d, t', os⟩)
    (qf : ∀ e h' t', failedOf st = some e → FU e h1 → Ext X h h' → FU e h' → E e ⟨h', g, d, t', os⟩)
    (hor : (failedOf st = none ∧ U B h1) ∨ ∃ e, failedOf st = some e ∧ FU e h1) :
    wpAny (model prog w) A (ksk_tail D b e1 (.ref kS) st) P E ⟨h1, g, d, t, os⟩ := by
  have hout : (if b then ((arrOf st).map (·.2)).reverse else (arrOf st).map (·.2)).size = vs.length := by
    cases b with
    | false => simp only [Bool.false_eq_true, if_false, Array.size_map]; exact hn
    | true => simp only [if_true, Array.size_reverse, Array.size_map]; exact hn
  unfold ksk_tail
  dsimp only
  generalize hoq : (if b then ((arrOf st).map (·.2)).reverse else (arrOf st).map (·.2)) = out at hout q ⊢
  refine wpAny_bind (listUpdate_at hk rfl ?_ (by rw [sizeLine_eq]; omega) (Nat.zero_le _))
  refine wpAny_bind (wpAny_letGo ?_)
  have s1 := Heap.SameBut.update h1 kS (Obj.mapSeq fun _ => (#[] : Array Value))
  generalize h1.update kS (Obj.mapSeq fun _ => (#[] : Array Value)) = h2 at s1 ⊢
  have hD1 : h2.get? D = some (seqObj "list" #[] e1) := (s1.2 D hDk).trans hD
  refine wpAny_bind (seqEpoch_at hD1 rfl ?_)
  refine wpAny_bind (listUpdate_at hD1 rfl ?_ (Nat.zero_le _) (Nat.le_trans (Nat.le_of_eq hout) (by rw [sizeLine_eq]; omega)))
  have s2 := Heap.SameBut.update h2 D (Obj.mapSeq fun _ => out)
  obtain ⟨c2, hc2⟩ : ∃ c2, (h2.update D (Obj.mapSeq fun _ => out)).get? D = some (seqObj "list" out c2) := ⟨_, get?_update_seq hD1 fun _ => out⟩
  dsimp only
  generalize h2.update D (Obj.mapSeq fun _ => out) = h3 at s2 hc2 ⊢
  have y1 : Ext (fun b => b = kS ∨ b = D) h1 h2 := Ext.same Ext.refl s1 fun _ => .inl rfl
  have y : Ext (fun b => b = kS ∨ b = D) h1 h3 := y1.same s2 fun _ => .inr rfl
  have hY : SoftX (fun b => b = kS ∨ b = D) h1 := fun b o z qq => by
    rcases z with z | z
    · rw [z, hk] at qq; cases qq; exact soft_list
    · rw [z, hD] at qq; cases qq; exact soft_list
  have hYs : ∀ b o, (b = kS ∨ b = D) → h1.get? b = some o → ∃ xs n, o.data = .seq xs n := fun b o z qq => by
    rcases z with z | z
    · rw [z, hk] at qq; cases qq; exact ⟨_, _, rfl⟩
    · rw [z, hD] at qq; cases qq; exact ⟨_, _, rfl⟩
  have hYl : ∀ b, (b = kS ∨ b = D) → h.objs.size ≤ b := fun b z => by
    rcases z with z | z
    · rw [z]; exact hklo
    · rw [z]; exact hDlo
  have x2 : Ext X h h3 := x.then y fun b hb z => absurd hb (Nat.not_lt.mpr (hYl b z))
  rcases hor with ⟨hfl, hU⟩ | ⟨e, hfl, hF⟩
  · rw [hfl]
    simp only [bne_self_eq_false, Bool.false_eq_true, if_false]
    exact wpAny_pure (q _ _ hfl hU x2 (C.stay B _ _ _ hU y hY hYl) ⟨c2, by simpa using hc2⟩)
  · rw [hfl]
    exact wpAny_bind (wpAny_rule (wpAny_throw (qf e _ _ hfl hF x2 (C.fstay e _ _ _ hF y hYs hYl))))

/-- the place of the i-th pair of a sort, turned round or not -/
def ixOf (b : Bool) (n i : Nat) : Nat := if b then n - 1 - i else i
theorem ixOf_lt {b : Bool} {n i : Nat} (h : i < n) : ixOf b n i < n := by unfold ixOf; split <;> omega
abbrev itOf (b : Bool) (kx : List Addr) (vs : List Value) : Array Keyed := if b then ((kx.map Value.ref).toArray.zip vs.toArray).reverse else (kx.map Value.ref).toArray.zip vs.toArray
theorem itOf_size {b : Bool} {kx : List Addr} {vs : List Value} (h : kx.length = vs.length) : (itOf b kx vs).size = vs.length := by
  unfold itOf
  split <;> simp [h]
theorem itOf_item {b : Bool} {kx : List Addr} {vs : List Value} (h : kx.length = vs.length) {i : Nat} (hi : i < vs.length) :
    kas_item (itOf b kx vs) i = (.ref (kx.getD (ixOf b vs.length i) 0), vs.getD (ixOf b vs.length i) .none) := by
  have hz := itOf_size (b := b) h
  have hj := ixOf_lt (b := b) hi
  have e : kas_item (itOf b kx vs) i = (itOf b kx vs)[i]'(by omega) := by unfold kas_item; simp [Array.getD, hz, hi]
  rw [e]
  have e1 : kx.getD (ixOf b vs.length i) 0 = kx[ixOf b vs.length i]'(by omega) := by simp [h, hj]
  have e2 : vs.getD (ixOf b vs.length i) .none = vs[ixOf b vs.length i] := by simp [hj]
  rw [e1, e2]
  cases b with
  | false => simp [itOf, ixOf]
  | true => simp [itOf, ixOf, h]

theorem out_of {n : Nat} {b : Bool} {kx : List Addr} {vs : List Value} {f : Nat → Int} {p : Array Nat} (h : kx.length = vs.length) (hn : n = vs.length) (Pl : Plc n p n) (S : Srt (fun i => f (ixOf b n i)) p n) :
    OutOf b f n vs (if b then ((p.map (kas_item (itOf b kx vs))).map (·.2)).reverse else (p.map (kas_item (itOf b kx vs))).map (·.2)).toList := by
  subst hn
  refine ⟨fun x => ixOf b vs.length (pl p (ixOf b vs.length x)), fun x hx => ixOf_lt (Pl.lt (ixOf_lt hx)), fun x y hx hy e => ?_, fun x y hxy hy => ?_, ?_⟩
  · have h1 := Pl.lt (ixOf_lt (b := b) hx)
    have h2 := Pl.lt (ixOf_lt (b := b) hy)
    have : pl p (ixOf b vs.length x) = pl p (ixOf b vs.length y) := by
      unfold ixOf at e h1 h2 ⊢
      cases b <;> simp at e h1 h2 ⊢ <;> omega
    have := Pl.inj _ _ (ixOf_lt hx) (ixOf_lt hy) this
    unfold ixOf at this
    cases b <;> simp at this <;> omega
  · cases b with
    | false => exact S x y hxy hy
    | true =>
      have := S (vs.length - 1 - y) (vs.length - 1 - x) (by omega) (by omega)
      have h1 := Pl.lt (x := vs.length - 1 - y) (by omega)
      have h2 := Pl.lt (x := vs.length - 1 - x) (by omega)
      unfold Lex at this
      unfold Ordr ixOf at *
      simp only [if_true] at this ⊢
      omega
  · have hps : p.toList = (List.range vs.length).map fun x => pl p x := by
      apply List.ext_getElem
      · simp [Pl.size]
      · intro i h1 h2
        simp [pl, Array.getD]
        intro hh
        simp at h1
        omega
    have harr : ((p.map (kas_item (itOf b kx vs))).map (·.2)).toList = (List.range vs.length).map fun x => vs.getD (ixOf b vs.length (pl p x)) .none := by
      rw [Array.toList_map, Array.toList_map, hps, List.map_map, List.map_map]
      refine List.map_congr_left fun x hx => ?_
      have hx' : x < vs.length := by simpa using hx
      show (kas_item (itOf b kx vs) (pl p x)).2 = _
      rw [itOf_item h (Pl.lt hx')]
    cases b with
    | false =>
      simp only [Bool.false_eq_true, if_false]
      rw [harr]
      rfl
    | true =>
      simp only [if_true]
      rw [Array.toList_reverse, harr, ← List.map_reverse]
      apply List.ext_getElem
      · simp
      · intro i h1 h2
        simp at h1
        simp [ixOf]

theorem sort_end {kx : List Addr} {e : Nat} (C : Cmp prog w A h g d os k c v vs f X Lim U FU) (x : Ext X h h1) (hU : U B h1) (hB : B + 6000 ≤ Lim) (hD : h1.get? D = some (seqObj "list" #[] e1)) (hk : h1.get? kS = some (seqObj "list" (kx.map Value.ref).toArray e)) (hDk : D ≠ kS) (hDlo : h.objs.size ≤ D) (hklo : h.objs.size ≤ kS)
    (hlen : kx.length = vs.length) (h2 : 2 ≤ vs.length) (h64 : vs.length < 64) (hkeys : ∀ i, i < vs.length → KeyAt h1 (kx.getD i 0) k.C (vs.getD i .none))
    (q : ∀ h' t' out, Ext X h h' → U (B + 6000) h' → LstAt h' D out → OutOf b f vs.length vs out → P (.done (.ret .none)) ⟨h', g, d, t', os⟩)
    (qf : ∀ e h' t', Ext X h h' → FU e h' → E e ⟨h', g, d, t', os⟩) :
    wpAny (model prog w) A (ksk_end D b vs.toArray e1 (.ref kS) (kx.map Value.ref).toArray) P E ⟨h1, g, d, t, os⟩ := by
  have step : ∀ (T : Sem PySem.Fin), wpAny (model prog w) A T P E ⟨h1, g, d, t, os⟩ → wpAny (model prog w) A (if b = true then (do let _ ← rule "list.sort.reverse"; T) else T) P E ⟨h1, g, d, t, os⟩ := by
    intro T hT
    split
    · exact wpAny_bind (wpAny_rule hT)
    · exact hT
  unfold ksk_end
  dsimp only
  refine step _ ?_
  have h2' : ¬ vs.toArray.size < 2 := by rw [List.size_toArray]; omega
  rw [if_neg h2', if_neg h2']
  refine wpAny_bind (kas_kind (T := .ref k.C) (by rw [List.length_map, hlen]; exact h2) (fun u hu => ?_) (by rfl) (beq_self_eq_true _) ?_)
  · obtain ⟨a, ha, rfl⟩ := List.mem_map.mp hu
    obtain ⟨i, hi, rfl⟩ := List.getElem_of_mem ha
    have hK := hkeys i (by omega)
    rw [show kx.getD i 0 = kx[i] by simp [hi]] at hK
    obtain ⟨dx, J⟩ := hK.inst
    exact J.type
  have est : SortSt.mk' oneType' (itOf b kx vs) #[] 7 none = kas_st oneType' (itOf b kx vs) (List.toArray (List.range vs.length)) := by
    unfold kas_st
    rw [← itOf_size (b := b) hlen, kas_range]
  have H : Asks prog w A oneType' (itOf b kx vs) vs.length (fun i => f (ixOf b vs.length i)) Lim
      (fun B s => ∃ h' t', s = ⟨h', g, d, t', os⟩ ∧ Ext X h h' ∧ U B h' ∧ h'.get? D = some (seqObj "list" #[] e1) ∧ h'.get? kS = some (seqObj "list" (kx.map Value.ref).toArray e) ∧ ∀ i, i < vs.length → KeyAt h' (kx.getD i 0) k.C (vs.getD i .none))
      (fun er s => ∃ h' t', s = ⟨h', g, d, t', os⟩ ∧ Ext X h h' ∧ FU er h' ∧ h'.get? D = some (seqObj "list" #[] e1) ∧ h'.get? kS = some (seqObj "list" (kx.map Value.ref).toArray e)) := by
    refine ⟨fun {B B' s} hJ hBB => ?_, fun B i j s hi hj hBL hJ => ?_⟩
    · obtain ⟨h', t', rfl, a1, a2, a3⟩ := hJ
      exact ⟨h', t', rfl, a1, C.mono B B' h' a2 hBB, a3⟩
    · obtain ⟨h', t', rfl, x', hU', hD', hk', hkeys'⟩ := hJ
      rw [itOf_item hlen hi, itOf_item hlen hj]
      refine wpAny_mono (C.ask B h' t' _ _ _ _ (ixOf_lt hi) (ixOf_lt hj) hBL hU' x' (hkeys' _ (ixOf_lt hi)) (hkeys' _ (ixOf_lt hj))) (fun bb s' z => ?_) (fun er s' z => ?_)
      · obtain ⟨rfl, h'', t'', rfl, x'', hU''⟩ := z
        refine ⟨rfl, h'', t'', rfl, x'.then x'' fun _ _ z => z, hU'', x''.get hD' fun z => absurd (C.lo _ z) (Nat.not_lt.mpr hDlo), x''.get hk' fun z => absurd (C.lo _ z) (Nat.not_lt.mpr hklo), fun i hi => (hkeys' i hi).ext x'' (C.soft B h' hU')⟩
      · obtain ⟨h'', t'', rfl, x'', hF⟩ := z
        exact ⟨h'', t'', rfl, x'.then x'' fun _ _ z => z, hF, x''.get hD' fun z => absurd (C.lo _ z) (Nat.not_lt.mpr hDlo), x''.get hk' fun z => absurd (C.lo _ z) (Nat.not_lt.mpr hklo)⟩
  have run := sort_runs (E := E) (B := B) (s := ⟨h1, g, d, t, os⟩) (Q := fun _ st' s' => wpAny (model prog w) A (ksk_tail D b e1 (.ref kS) st') P E s') H h2 h64 hB ⟨h1, t, rfl, x, hU, hD, hk, hkeys⟩ (fun p' st' s' Pl S har hfl hJ => ?_) (fun st' s' hf => ?_)
  · rw [← est] at run
    exact wpAny_bind run
  · obtain ⟨h', t', rfl, x', hU', hD', hk', _⟩ := hJ
    refine sort_tail (B := B + 6000) C x' hD' hk' hDk hDlo hklo (by simp [hlen]; exact h64) (by rw [har, Array.size_map, Pl.size]) h64 (fun h'' t'' _ _ x2 hU2 hL => q h'' t'' _ x2 hU2 hL ?_) (fun er h'' t'' hfl' => by rw [hfl] at hfl'; cases hfl') (.inl ⟨hfl, hU'⟩)
    rw [har]
    exact out_of hlen rfl Pl S
  · obtain ⟨er, hfl, hsz, h', t', rfl, x', hF, hD', hk'⟩ := hf
    exact sort_tail (B := B) C x' hD' hk' hDk hDlo hklo (by simp [hlen]; exact h64) hsz h64 (fun h'' t'' hfl' => by rw [hfl] at hfl'; cases hfl') (fun er' h'' t'' hfl' _ x2 hF2 => qf er' h'' t'' x2 hF2) (.inr ⟨er, hfl, hF⟩)
end

section
variable {prog : Program} {w : World} {A : Around} {E : Value → Shared → Prop} {h h1 : Heap} {g : Array GenState} {d : Drawn} {t : Nat} {os : OsState} {k : KA} {c : Addr} {v : Value} {vs : List Value} {f : Nat → Int} {X : Addr → Prop} {Lim B : Nat} {U : Nat → Heap → Prop} {FU : Value → Heap → Prop} {P : PySem.Fin → Shared → Prop} {D kS : Addr} {b : Bool} {e1 : Nat}

theorem sort_rest (C : Cmp prog w A h g d os k c v vs f X Lim U FU) (hroom : A.depth + 1 < recursionLimit) (x : Ext X h h1) (hU : U B h1) (hB : B + 6000 ≤ Lim) (hD : h1.get? D = some (seqObj "list" #[] e1)) (hk : h1.get? kS = some (seqObj "list" #[] 0)) (hDk : D ≠ kS) (hDlo : h.objs.size ≤ D) (hklo : h.objs.size ≤ kS)
    (h2 : 2 ≤ vs.length) (h64 : vs.length < 64)
    (q : ∀ h' t' out, Ext X h h' → U (B + 6000) h' → LstAt h' D out → OutOf b f vs.length vs out → P (.done (.ret .none)) ⟨h', g, d, t', os⟩)
    (qf : ∀ e h' t', Ext X h h' → FU e h' → E e ⟨h', g, d, t', os⟩) :
    wpAny (model prog w) A (ksk_rest D (.ref k.C) b vs.toArray e1 (.ref kS)) P E ⟨h1, g, d, t, os⟩ := by
  unfold ksk_rest
  refine wpAny_bind (wpAny_rule ?_)
  first
    | rw [List.forIn_toArray]
    | (rw [← Array.forIn_toList]; simp only [List.toList_toArray])
  refine wpAny_bind (ksk_fold (fun i s' => ∃ h' t' kx e, s' = ⟨h', g, d, t', os⟩ ∧ Ext X h h' ∧ U B h' ∧ h'.get? D = some (seqObj "list" #[] e1) ∧ h'.get? kS = some (seqObj "list" (kx.map Value.ref).toArray e) ∧ kx.length = i ∧ ∀ j, j < i → KeyAt h' (kx.getD j 0) k.C (vs.getD j .none)) vs 0 _
    ⟨h1, t, [], 0, rfl, x, hU, hD, hk, rfl, fun j hj => by omega⟩ ?step ?done)
  case step =>
    rintro j u s' hx ⟨h', t', kx, e, rfl, x', hU', hD', hk', hkl, hkeys⟩
    simp only [Nat.zero_add] at hkl hkeys ⊢
    have hj : j < vs.length := (List.getElem?_eq_some_iff.mp hx).1
    have hu : vs.getD j .none = u := by rw [List.getD_eq_getElem?_getD, hx]; rfl
    refine wpAny_bind (wpAny_attempt (key_new (C.K.ext x' C.soft0 C.nc) (C.S.ext x' C.hi) hroom fun a h'' t'' x2 hK _ => ?_))
    dsimp only
    have hU2 := C.stay B h' h'' Nil hU' x2 softX_nil fun _ z => z.elim
    have hD2 := x2.nil _ _ hD'
    have hk2 := x2.nil _ _ hk'
    have s1 := Heap.SameBut.update h'' kS (Obj.mapSeq (·.push (Value.ref a)))
    obtain ⟨c2, hc2⟩ : ∃ c2, (h''.update kS (Obj.mapSeq (·.push (Value.ref a)))).get? kS = some (seqObj "list" ((kx.map Value.ref).toArray.push (.ref a)) c2) := ⟨_, get?_update_seq hk2 (·.push (.ref a))⟩
    refine wpAny_bind (listUpdate_at hk2 rfl ?_ (by rw [sizeLine_eq]; simp [hkl]; omega) (Nat.le_trans (Nat.le_of_eq (Array.size_push ..)) (by rw [sizeLine_eq]; simp [hkl]; omega)))
    dsimp only
    generalize h''.update kS (Obj.mapSeq (·.push (Value.ref a))) = h3 at s1 hc2 ⊢
    have y : Ext (· = kS) h'' h3 := Ext.same Ext.refl s1 fun _ => rfl
    have hY : SoftX (· = kS) h'' := fun b o z qq => by rw [z, hk2] at qq; cases qq; exact soft_list
    have x3 : Ext X h h3 := (x'.then x2 fun _ _ z => z.elim).then y fun b hb z => absurd hb (Nat.not_lt.mpr (by rw [z]; exact hklo))
    refine wpAny_pure ⟨rfl, h3, t'', kx ++ [a], c2, rfl, x3, C.stay B h'' h3 _ hU2 y hY (fun b z => by rw [z]; exact hklo), (s1.2 D hDk).trans hD2, by simpa using hc2, by simp [hkl], fun i hi => ?_⟩
    by_cases hij : i = j
    · subst hij
      have e1 : (kx ++ [a]).getD i 0 = a := by rw [← hkl]; simp
      rw [e1, hu]
      exact hK.ext y hY
    · have e1 : (kx ++ [a]).getD i 0 = kx.getD i 0 := by simp [List.getD_eq_getElem?_getD, List.getElem?_append_left (show i < kx.length by omega)]
      rw [e1]
      exact ((hkeys i (by omega)).ext x2 softX_nil).ext y hY
  case done =>
    rintro s' ⟨h', t', kx, e, rfl, x', hU', hD', hk', hkl, hkeys⟩
    simp only [Nat.zero_add] at hkl hkeys
    refine wpAny_bind (listItems_at hk' rfl ?_)
    exact sort_end C x' hU' hB hD' hk' hDk hDlo hklo hkl h2 h64 hkeys q qf
end

section
variable {prog : Program} {w : World} {A : Around} {E : Value → Shared → Prop} {h : Heap} {g : Array GenState} {d : Drawn} {t : Nat} {os : OsState} {k : KA} {c : Addr} {v : Value} {vs : List Value} {f : Nat → Int} {X : Addr → Prop} {Lim B : Nat} {U : Nat → Heap → Prop} {FU : Value → Heap → Prop} {b : Bool} {l : Addr} {Q : Value → Shared → Prop} {kw : List (Str × Value)}

theorem sorted_by (C : Cmp prog w A.in1.in1 h g d os k c v vs f X Lim U FU) (hroom : A.depth + 1 < recursionLimit) (hU : U B h) (hB : B + 6000 ≤ Lim) (hl : LstAt h l vs) (h2 : 2 ≤ vs.length) (h64 : vs.length < 64)
    (ha1 : argsOk "sorted" ⟨[.ref l], kw⟩) (ha2 : ∀ x, argsOk "list.sort" ⟨[.ref x], kw⟩) (ht : ∀ x, Builtin.«list.sort» ⟨[.ref x], kw⟩ = ksk_tree x (.ref k.C) b)
    (q : ∀ D h' t' out, Ext X h h' → U (B + 6000) h' → LstAt h' D out → h.objs.size ≤ D → OutOf b f vs.length vs out → Q (.ref D) ⟨h', g, d, t', os⟩)
    (qf : ∀ e h' t', Ext X h h' → FU e h' → E e ⟨h', g, d, t', os⟩) :
    wpAny (model prog w) A (call (.builtin "sorted") [.ref l] kw) Q E ⟨h, g, d, t, os⟩ := by
  refine call_function_entry_kw kind_sorted plain_sorted entry_sorted ha1 ?_
  unfold Builtin.«sorted»
  refine wpAny_bind (m := checkCount "sorted" 1 1 _) (wpAny_pure ?_)
  refine wpAny_bind (collect_list hl.isList ?_ (by rw [sizeLine_eq]; omega))
  refine wpAny_bind (wpAny_newList ?_ (by rw [sizeLine_eq]; omega))
  dsimp only
  have s0 := Heap.SameBut.update (h.push (seqObj "list" #[] 0)) h.objs.size (Obj.mapSeq (· ++ vs.toArray))
  have hsz0 : ((h.push (seqObj "list" #[] 0)).update h.objs.size (Obj.mapSeq (· ++ vs.toArray))).objs.size = h.objs.size + 1 := by rw [Heap.size_update, size_push']
  have x0 : Ext Nil h ((h.push (seqObj "list" #[] 0)).update h.objs.size (Obj.mapSeq (· ++ vs.toArray))) := (Ext.refl.push _).same s0 fun z => absurd z (Nat.lt_irrefl _)
  generalize ((h.push (seqObj "list" #[] 0)).update h.objs.size (Obj.mapSeq (· ++ vs.toArray))) = hA at x0 hsz0 ⊢
  have hD0 : (hA.push (seqObj "list" vs.toArray 0)).get? hA.objs.size = some (seqObj "list" vs.toArray 0) := Heap.get?_push_size _ rfl
  have x1 : Ext Nil h (hA.push (seqObj "list" vs.toArray 0)) := x0.push _
  have hszB : (hA.push (seqObj "list" vs.toArray 0)).objs.size = h.objs.size + 2 := by rw [Heap.size_push, hsz0]
  have hDlo : h.objs.size ≤ hA.objs.size := by omega
  have hDlt : hA.objs.size < (hA.push (seqObj "list" vs.toArray 0)).objs.size := by rw [Heap.size_push]; omega
  generalize hDe : hA.objs.size = DD at hD0 hDlo hDlt ⊢
  generalize (hA.push (seqObj "list" vs.toArray 0)) = hBB at x1 hD0 hszB hDlt ⊢
  refine wpAny_bind (wpAny_holding (wpAny_call_entry_kw slot_list_sort ⟨_, hD0, rfl⟩ entry_list_sort ?_ (ha2 _)))
  show wpAny (model prog w) A.in1.in1 (Builtin.«list.sort» ⟨[.ref DD], kw⟩) _ _ _
  rw [ht]
  unfold ksk_tree
  refine wpAny_bind (listItems_at hD0 rfl ?_)
  refine wpAny_bind (listUpdate_at hD0 rfl ?_ (by rw [List.size_toArray, sizeLine_eq]; omega) (Nat.zero_le _))
  dsimp only
  have s1 := Heap.SameBut.update hBB DD (Obj.mapSeq fun _ => (#[] : Array Value))
  obtain ⟨e1, hD1⟩ : ∃ e1, (hBB.update DD (Obj.mapSeq fun _ => (#[] : Array Value))).get? DD = some (seqObj "list" #[] e1) := ⟨_, get?_update_seq hD0 fun _ => #[]⟩
  generalize (hBB.update DD (Obj.mapSeq fun _ => (#[] : Array Value))) = hC at s1 hD1 ⊢
  refine wpAny_bind (seqEpoch_at hD1 rfl ?_)
  refine wpAny_bind (wpAny_newTuple ?_ (by show vs.length ≤ _; rw [sizeLine_eq]; omega))
  refine wpAny_bind (wpAny_newList ?_ (Nat.zero_le _))
  refine wpAny_holding ?_
  dsimp only
  have x2 : Ext Nil h hC := x1.same s1 fun z => absurd z (Nat.not_lt.mpr hDlo)
  have x3 : Ext Nil h (hC.push (seqObj "tuple" vs.toArray 0)) := x2.push _
  have hD3 : (hC.push (seqObj "tuple" vs.toArray 0)).get? DD = some (seqObj "list" #[] e1) := Heap.get?_push_of_some _ hD1
  have hDlt3 : DD < (hC.push (seqObj "tuple" vs.toArray 0)).objs.size := Heap.lt_size hD3
  generalize (hC.push (seqObj "tuple" vs.toArray 0)) = hE at x3 hD3 hDlt3 ⊢
  refine sort_rest (h := h) (B := B) C hroom ((x3.mono fun _ _ z => z.elim).push _) (C.stay B h _ Nil hU (x3.push _) softX_nil fun _ z => z.elim) hB (Heap.get?_push_of_some _ hD3) (Heap.get?_push_size _ rfl) (Nat.ne_of_lt hDlt3) hDlo (Nat.le_trans hDlo (Nat.le_of_lt hDlt3)) h2 h64 (fun h' t' out y hU' hL hO => ?_) (fun e h' t' y hF => qf e h' t' y hF)
  exact ⟨_, rfl, wpAny_pure ⟨_, rfl, q DD h' t' out y hU' hL hDlo hO⟩⟩
end

/-- the things and what the comparisons read -/
structure Askd (h : Heap) (rw : List Addr) (ns : List Int) (N T cN cT : Addr) : Prop where
  nums : ∃ vs, LstAt h N vs ∧ IntsAre vs ns
  len : rw.length = ns.length
  le : ns.length ≤ 63
  row : ∀ i, i < rw.length → ∃ x t, LstAt h (rw.getD i 0) [x, .int i t]
  eN : h.IsCell cN (some (.ref N))
  eT : h.IsCell cT (some (.ref T))
  ne : cN ≠ cT
  NT : N ≠ T
  rT : ∀ i, i < rw.length → rw.getD i 0 ≠ T
  hi : 47 < T
  lt : T < h.objs.size
theorem Askd.ext {X : Addr → Prop} {h h' : Heap} {rw : List Addr} {ns : List Int} {N T cN cT : Addr} (a : Askd h rw ns N T cN cT) (x : Ext X h h') (hN : ¬ X N) (hr : ∀ i, i < rw.length → ¬ X (rw.getD i 0)) (h1 : ¬ X cN) (h2 : ¬ X cT) : Askd h' rw ns N T cN cT where
  nums := let ⟨vs, p, q⟩ := a.nums; ⟨vs, x.lst p hN, q⟩
  len := a.len
  le := a.le
  row := fun i hi => let ⟨u, t, p⟩ := a.row i hi; ⟨u, t, x.lst p (hr i hi)⟩
  eN := x.isCell a.eN h1
  eT := x.isCell a.eT h2
  ne := a.ne
  NT := a.NT
  rT := a.rT
  hi := a.hi
  lt := Nat.lt_of_lt_of_le a.lt x.1
theorem cell_ne_lst {h : Heap} {c T : Addr} {v its} (x : h.IsCell c v) (y : LstAt h T its) : c ≠ T := by
  rintro rfl
  obtain ⟨o, e, d⟩ := x
  obtain ⟨n, e'⟩ := y
  rw [e] at e'; cases e'; cases d
def halfOf (ns : List Int) (i : Nat) : Int := (ns.getD i 0).fdiv 2
abbrev rowV (rw : List Addr) : List Value := rw.map Value.ref
theorem rowV_get {rw : List Addr} {i : Nat} (hi : i < rw.length) : (rowV rw).getD i .none = .ref (rw.getD i 0) := by simp [rowV, List.getD_eq_getElem?_getD, List.getElem?_eq_getElem hi]

section
variable {prog : Program} {w : World} {A : Around} {E : Value → Shared → Prop} {h : Heap} {g : Array GenState} {d : Drawn} {t : Nat} {os : OsState} {k : KA} {c fr : Addr} {rw : List Addr} {ns : List Int} {N T cN cT : Addr}

/-- an ask of a sort under keys of a class: its __lt__ -/
theorem key_lt {x y : Addr} {v1 f : Value} {Q : Bool → Shared → Prop} (hu : A.units < cLine) (K : KOk h k c f) (S : Sta h) (X : KeyAt h x k.C v1)
    (q : wpAny (model prog w) A (call (.ref k.fl) [.ref x, .ref y]) (fun r s' => ∃ b, r = .bool b ∧ Q b s') E ⟨h, g, d, t, os⟩) : wpAny (model prog w) A (keyLt' oneType' (.ref x) (.ref y)) Q E ⟨h, g, d, t, os⟩ := by
  obtain ⟨F, I, L⟩ := K.look S
  obtain ⟨dx, J⟩ := X.inst
  rw [keyLt'_oneType, oneLt'_eq]
  simp only [if_true]
  refine wpAny_bind (wpAny_cRoomFor hu ?_)
  refine wpAny_bind (ifBound_K (s := ⟨h, g, d, t, os⟩) I J L.lt (by unfold isFn; rw [L.fl]; rfl) (wpAny_mono q (fun r s' hv => ?_) fun _ _ e => e))
  obtain ⟨b, rfl, z⟩ := hv
  exact wpAny_truthy_bool z

theorem keeper_lam {e : Expr} {clo : List (Str × Addr)} (L : LamAt h fr e clo) : ∀ h', Ext Nil h h' → ∀ A' Q' s, s.heap = h' → (∀ k, Q' k s) → wpAny (model prog w) A' (keeperOf (.ref fr)) Q' (fun _ _ => False) s := by
  intro h' x A' Q' s hs hq
  obtain ⟨pm, code, ct, hf, _⟩ := L
  exact keeper_fn (by rw [hs]; exact x.nil _ _ hf) rfl hq

theorem rise_cmp (K : KOk h k c (.ref fr)) (S : Sta h) (L : LamAt h fr (lamOf (lawS 6)) [("numbers", cN), ("notes", cT)]) (a : Askd h rw ns N T cN cT) (hu : A.units + 10 < cLine) (hd : A.depth + 3 < recursionLimit) (its0 : List Value) (hT0 : LstAt h T its0) :
    Cmp prog w A h g d os k c (.ref fr) (rowV rw) (halfOf ns) (· = T) 900000 (fun B h' => ∃ its, LstAt h' T its ∧ its.length ≤ B) (fun _ _ => False) where
  K := K
  S := S
  hi := fun b e => .inr (.inr (e ▸ a.hi))
  lo := fun b e => e ▸ a.lt
  nc := cell_ne_lst K.cell hT0
  soft0 := softX_list hT0
  soft := fun B h' ⟨its, hT, _⟩ => softX_list hT
  mono := fun B B' h' ⟨its, hT, hl⟩ hB => ⟨its, hT, Nat.le_trans hl hB⟩
  stay := fun B h' h'' Y ⟨its, hT, hl⟩ y _ hY => ⟨its, y.lst hT fun z => absurd a.lt (Nat.not_lt.mpr (hY T z)), hl⟩
  fstay := fun _ _ _ _ z => z.elim
  ask := by
    rintro B h' t' i j xi xj hi hj hB ⟨its, hT, hl⟩ x X Y
    rw [List.length_map] at hi hj
    rw [rowV_get hi] at X
    rw [rowV_get hj] at Y
    have K' := K.ext x (softX_list hT0) (cell_ne_lst K.cell hT0)
    have S' := S.ext x fun b e => .inr (.inr (e ▸ a.hi))
    have L' := L.ext x (softX_list hT0)
    have a' := a.ext x a.NT a.rT (cell_ne_lst a.eN hT0) (cell_ne_lst a.eT hT0)
    refine key_lt (by omega) K' S' X (lt_call K' K' S' X Y rfl rfl (by omega) (keeper_lam L') fun env h2 t2 hfr hlo F x2 => ?_)
    have a2 := a'.ext x2 id (fun _ _ => id) id id
    obtain ⟨vs, hN, I⟩ := a2.nums
    obtain ⟨ui, ti, hai⟩ := a2.row i hi
    obtain ⟨uj, tj, haj⟩ := a2.row j hj
    refine rising_call (S'.keep x2) (by show A.depth + 1 + 1 < _; omega) (L'.ext x2 softX_nil) a2.eN a2.eT a2.ne hN I (x2.lst hT id) (by omega) hai haj (by rw [← a.len]; exact hi) (by rw [← a.len]; exact hj) a.hi (by have := a.le; omega) a.NT (a.rT i hi) (a.rT j hj) ?_
    intro r u h3 t3 tp um x3 hT3 htp hle hs
    refine ⟨r, u, rfl, fun t4 => ⟨_, rfl, ?_, h3, t4, rfl, (x2.mono fun _ _ z => z.elim).then x3 fun _ _ z => z, its ++ [.ref tp], hT3, by simp; omega⟩⟩
    unfold SameSign standOf at hs
    unfold halfOf
    apply decide_eq_decide.mpr
    omega
end

/-- at each site of the list the table holds, if anything, a code object of that name -/
def SitesOk (h : Heap) (ps : Array Value) (sites : List (Pos × Str)) : Prop := ∀ s ∈ sites, ∀ cv, codeAmong s.1 ps.toList = some cv → h.CodeRec cv s.2
def Tab (h : Heap) (c P : Addr) (sites : List (Pos × Str)) : Prop := CodeHd h c P ∧ ∃ ps, h.get? P = some (tabObj ps) ∧ TriplesOk ps.toList ∧ SitesOk h ps sites
theorem among_snoc {p : Pos} {a b : Int} {c cv : Value} (l : List Value) (T : TriplesOk l) (e : codeAmong p (l ++ [rawInt a, rawInt b, c]) = some cv) : codeAmong p l = some cv ∨ (a = p.line ∧ b = p.col ∧ cv = c) := by
  fun_induction TriplesOk l with
  | case1 =>
    simp only [List.nil_append, codeAmong, rawInt] at e
    split at e
    · rename_i hc
      simp only [Bool.and_eq_true, beq_iff_eq] at hc
      cases e
      exact .inr ⟨hc.1, hc.2, rfl⟩
    · cases e
  | case2 a' t b' u x rest ih =>
    simp only [List.cons_append, codeAmong] at e ⊢
    split at e
    · rename_i hc; rw [if_pos hc]; exact .inl e
    · rename_i hc; rw [if_neg hc]; exact ih T e
  | case3 l h1 h2 => exact T.elim
theorem triples_noStr {ps : Array Value} (T : TriplesOk ps.toList) : NoStr (tabObj ps) := fun vs q t e e' => by
  cases e
  obtain ⟨l⟩ := ps
  match l, T with
  | [], _ => simp at e'
  | .int _ _ :: .int _ _ :: _ :: _, _ => simp at e'
/-- the tables that a run may change -/
abbrev Up (BB : Nat) (b : Addr) : Prop := 47 < b ∧ BB ≤ b
def XT (BB : Nat) (h : Heap) (b : Addr) : Prop := (∃ ps, h.get? b = some (tabObj ps) ∧ TriplesOk ps.toList) ∧ (b = 16 ∨ Up BB b)
theorem softX_T {BB : Nat} {h : Heap} : SoftX (XT BB h) h := fun b o x e => by
  obtain ⟨⟨ps, e', T⟩, _⟩ := x
  rw [e] at e'; cases e'
  exact ⟨.inr (.inr (.inr (.inl rfl))), triples_noStr T⟩
theorem hi_T {BB : Nat} {h : Heap} : Hi (XT BB h) := fun b x => x.2.imp id fun z => .inr z.1
theorem Ext.tt {BB : Nat} {h h1 h2 : Heap} (x : Ext (XT BB h) h h1) (y : Ext (XT BB h1) h1 h2) : Ext (XT BB h) h h2 :=
  ⟨Nat.le_trans x.1 y.1, fun b o e hb => y.get (x.get e hb) fun ⟨⟨ps, e', T⟩, r⟩ => hb ⟨⟨ps, by rw [x.get e hb] at e'; cases e'; exact e, T⟩, r⟩⟩
theorem Ext.t0 {h h1 : Heap} {X : Addr → Prop} (x : Ext Nil h h1) : Ext X h h1 := x.mono fun _ _ q => q.elim
theorem XT.not_list {BB : Nat} {h : Heap} {a : Addr} {its : List Value} (l : LstAt h a its) : ¬ XT BB h a := fun ⟨⟨ps, e, _⟩, _⟩ => by
  obtain ⟨n, e'⟩ := l
  rw [e] at e'; cases e'
theorem XT.not_cell {BB : Nat} {h : Heap} {a : Addr} {v : Option Value} (l : h.IsCell a v) : ¬ XT BB h a := fun ⟨⟨ps, e, _⟩, _⟩ => by
  obtain ⟨o, e', r⟩ := l
  rw [e] at e'; cases e'; cases r
theorem XT.not_ns {BB : Nat} {h : Heap} {a : Addr} {m} (l : h.Ns a m) : ¬ XT BB h a := fun ⟨⟨ps, e, _⟩, _⟩ => by
  obtain ⟨o, es, ep, e', r, _⟩ := l
  rw [e] at e'; cases e'; cases r
theorem XT.not_tup {BB : Nat} {h : Heap} {a : Addr} {its : List Value} (l : h.get? a = some (oTup its)) : ¬ XT BB h a := fun ⟨⟨ps, e, _⟩, _⟩ => by rw [e] at l; cases l
theorem Tab.lo {BB : Nat} {h : Heap} {c P : Addr} {sites} (T : Tab h c P sites) (hP : P = 16 ∨ Up BB P) : XT BB h P := let ⟨_, ps, e, t, _⟩ := T; ⟨⟨ps, e, t⟩, hP⟩
theorem CodeHd.ext {X : Addr → Prop} {h h' : Heap} {c P : Addr} (C : CodeHd h c P) (x : Ext X h h') (hX : SoftX X h) : CodeHd h' c P := by
  obtain ⟨o, vs, a1, a2, a3, a4, a5, a6, a7, e, r, r2⟩ := C
  refine ⟨o, vs, a1, a2, a3, a4, a5, a6, a7, x.hard hX e (fun z => ?_), r, r2⟩
  have := z.1
  rw [r, r2.1] at this
  simp at this
theorem Tab.ext {X : Addr → Prop} {h h' : Heap} {c P : Addr} {sites} (T : Tab h c P sites) (x : Ext X h h') (hX : SoftX X h) (hP : ¬ X P) : Tab h' c P sites := by
  obtain ⟨C, ps, e, t, o⟩ := T
  exact ⟨CodeHd.ext C x hX, ps, x.get e hP, t, fun s hs cv q => CodeAt.ext (o s hs cv q) x hX⟩
theorem Tab.keep {h h' : Heap} {c P : Addr} {sites} (T : Tab h c P sites) (x : Ext Nil h h') : Tab h' c P sites := T.ext x softX_nil id

section
variable {prog : Program} {w : World} {A : Around} {E : Value → Shared → Prop} {h : Heap} {g : Array GenState} {d : Drawn} {t : Nat} {os : OsState}
theorem Sta.bat {P : Addr} (S : Sta h) (hP : P = 16 ∨ P = 44 ∨ 47 < P) : ∃ mg, h.Ns mainGlobals mg ∧ h.BuiltinsAt mg P ∧ mainGlobals ≠ P := by
  obtain ⟨m, a, b, _⟩ := S.gl
  obtain ⟨ob, o1, o2, o3, o4⟩ := S.bm
  refine ⟨m, a, ⟨4, ob, b ("__builtins__", .ref 4) (by simp [gvals]), by decide, by decide, ?_, o1, o2, o3, o4⟩, ?_⟩
  · rcases hP with e | e | e
    · subst e; decide
    · subst e; decide
    · exact Nat.ne_of_lt (Nat.lt_trans (by decide) e)
  · rcases hP with e | e | e
    · subst e; decide
    · subst e; decide
    · exact Nat.ne_of_lt (Nat.lt_trans (by decide) e)
theorem sites_grow {h h' : Heap} {P : Addr} {ps : Array Value} {sites : List (Pos × Str)} {pos : Pos} {qual : Str} {c' : Addr} (o : SitesOk h ps sites) (t : TriplesOk ps.toList) (x : Ext (· = P) h h') (hX : SoftX (· = P) h)
    (hu : ∀ s ∈ sites, s.1.line = pos.line → s.1.col = pos.col → s.2 = qual) (r : h'.CodeRec (.ref c') qual) : SitesOk h' (ps ++ #[rawInt pos.line, rawInt pos.col, .ref c']) sites := fun s hs cv e => by
  rw [show (ps ++ #[rawInt pos.line, rawInt pos.col, Value.ref c']).toList = ps.toList ++ [rawInt pos.line, rawInt pos.col, .ref c'] by simp] at e
  rcases among_snoc _ t e with e | ⟨e1, e2, rfl⟩
  · exact CodeAt.ext (o s hs cv e) x hX
  · rw [hu s hs (by omega) (by omega)]; exact r
theorem softX_tab {P : Addr} {ps : Array Value} (e : h.get? P = some (tabObj ps)) (T : TriplesOk ps.toList) : SoftX (· = P) h := fun b o q e' => by
  subst q
  rw [e] at e'; cases e'
  exact ⟨.inr (.inr (.inr (.inl rfl))), triples_noStr T⟩

theorem make_fn {name qual : Str} {params : Arguments} {body : List Stmt} {scope : Scope} {env : Env} {c P : Addr} {pos : Pos} {firstLine : Nat} {clos : List (Str × Addr)} {sites : List (Pos × Str)} {Q : Value → Shared → Prop}
    (S : Sta h) (T : Tab h c P sites) (hP : P = 16 ∨ P = 44 ∨ 47 < P) (hs : (pos, qual) ∈ sites) (hu : ∀ s ∈ sites, s.1.line = pos.line → s.1.col = pos.col → s.2 = qual) (hcl : closureFor scope env = pure clos) (hge : env.globals = mainGlobals) (hcode : env.code = .ref c)
    (q : ∀ f h' t' pm ctv doc cv, Ext (· = P) h h' → Tab h' c P sites → h.objs.size ≤ f → h'.get? f = some (oFn (fnX name qual params body scope clos .none .none doc pm none cv ctv)) → h'.CodeRec cv qual → Q (.ref f) ⟨h', g, d, t', os⟩) :
    wpAny (model prog w) A (makeFunction name qual params (.stmts body) scope env [] [] [] pos firstLine) Q E ⟨h, g, d, t, os⟩ := by
  obtain ⟨C, ps, e, tr, o⟩ := T
  obtain ⟨mg, hg, hb, hgP⟩ := S.bat hP
  have hX := softX_tab e tr
  cases hm : codeAmong pos ps.toList with
  | none =>
    refine makeFunction_K (s := ⟨h, g, d, t, os⟩) hcl hge hg hcode C e tr hm hgP hb fun c' ctv doc h' tk hx hge' hlt hrec ht => ?_
    have x1 : Ext (· = P) h h' := ⟨Nat.le_of_lt (Nat.lt_of_le_of_lt hge' hlt), fun b o e hb => hx b o hb e⟩
    have x2 : Ext Nil h' (h'.push (fnMade name qual params body scope clos doc ((mg "__name__").getD .none) c' ctv)) := Ext.refl.push _
    refine q _ _ _ _ ctv doc (.ref c') (x1.push _) (Tab.keep ⟨CodeHd.ext C x1 hX, _, ht, ?_, sites_grow o tr x1 hX hu hrec⟩ x2) x1.1 (Heap.get?_push_size _ rfl) (CodeAt.ext hrec x2 softX_nil)
    rw [show (ps ++ #[rawInt pos.line, rawInt pos.col, Value.ref c']).toList = ps.toList ++ [rawInt pos.line, rawInt pos.col, .ref c'] by simp]
    exact TriplesOk_snoc _ _ _ _ tr
  | some cv =>
    refine makeFunction_hit (s := ⟨h, g, d, t, os⟩) hcl hge hg hcode C e tr hm hb fun ctv doc h' tk hk hsz => ?_
    have x1 : Ext Nil h h' := .of hk hsz
    have x2 : Ext Nil h (h'.push { cls := .type "function", data := .func (fnX name qual params body scope clos .none .none doc ((mg "__name__").getD .none) none cv ctv) }) := x1.push _
    exact q _ _ _ _ ctv doc cv x2.t0 (Tab.keep ⟨C, ps, e, tr, o⟩ x2) hsz (Heap.get?_push_size _ rfl) (CodeAt.ext (o _ hs cv hm) x2 softX_nil)
theorem make_lam {name qual : Str} {params : Arguments} {body : Expr} {scope : Scope} {env : Env} {c P : Addr} {pos : Pos} {firstLine : Nat} {clos : List (Str × Addr)} {sites : List (Pos × Str)} {Q : Value → Shared → Prop}
    (S : Sta h) (T : Tab h c P sites) (hP : P = 16 ∨ P = 44 ∨ 47 < P) (hs : (pos, qual) ∈ sites) (hu : ∀ s ∈ sites, s.1.line = pos.line → s.1.col = pos.col → s.2 = qual) (hcl : closureFor scope env = pure clos) (hge : env.globals = mainGlobals) (hcode : env.code = .ref c)
    (q : ∀ f h' t' pm ctv cv, Ext (· = P) h h' → Tab h' c P sites → h.objs.size ≤ f → h'.get? f = some (oFn (kla_fn name qual params body scope clos pm cv ctv)) → h'.CodeRec cv qual → Q (.ref f) ⟨h', g, d, t', os⟩) :
    wpAny (model prog w) A (makeFunction name qual params (.expr body) scope env [] [] [] pos firstLine) Q E ⟨h, g, d, t, os⟩ := by
  obtain ⟨C, ps, e, tr, o⟩ := T
  obtain ⟨mg, hg, hb, hgP⟩ := S.bat hP
  have hX := softX_tab e tr
  cases hm : codeAmong pos ps.toList with
  | none =>
    refine kla_makeFunction (s := ⟨h, g, d, t, os⟩) hcl hge hg hcode C e tr hm hgP hb fun c' ctv h' tk hx hge' hlt hrec ht => ?_
    have x1 : Ext (· = P) h h' := ⟨Nat.le_of_lt (Nat.lt_of_le_of_lt hge' hlt), fun b o e hb => hx b o hb e⟩
    have x2 : Ext Nil h' (h'.push (kla_obj name qual params body scope clos ((mg "__name__").getD .none) c' ctv)) := Ext.refl.push _
    refine q _ _ _ _ ctv (.ref c') (x1.push _) (Tab.keep ⟨CodeHd.ext C x1 hX, _, ht, ?_, sites_grow o tr x1 hX hu hrec⟩ x2) x1.1 (Heap.get?_push_size _ rfl) (CodeAt.ext hrec x2 softX_nil)
    rw [show (ps ++ #[rawInt pos.line, rawInt pos.col, Value.ref c']).toList = ps.toList ++ [rawInt pos.line, rawInt pos.col, .ref c'] by simp]
    exact TriplesOk_snoc _ _ _ _ tr
  | some cv =>
    refine kla_makeFunctionHit (s := ⟨h, g, d, t, os⟩) hcl hge hg hcode C e tr hm hb fun ctv h' tk hk hsz => ?_
    have x1 : Ext Nil h h' := .of hk hsz
    have x2 : Ext Nil h (h'.push { cls := .type "function", data := .func (kla_fn name qual params body scope clos ((mg "__name__").getD .none) cv ctv) }) := x1.push _
    exact q _ _ _ _ ctv cv x2.t0 (Tab.keep ⟨C, ps, e, tr, o⟩ x2) hsz (Heap.get?_push_size _ rfl) (CodeAt.ext (o _ hs cv hm) x2 softX_nil)
end

def classScope (s : Stmt) : Scope := match s with | .ClassDef _ _ _ _ _ _ sc _ _ _ _ => sc | _ => default
def posIn (s : Stmt) : Pos := match s with | .ClassDef _ _ _ _ _ _ _ _ _ _ p => p | .FunctionDef _ _ _ _ _ _ _ _ _ p => p | _ => ⟨0, 0, 0, 0⟩
def basePos (s : Stmt) : Pos := match s with | .ClassDef _ (.Name _ p :: _) _ _ _ _ _ _ _ _ _ => p | _ => ⟨0, 0, 0, 0⟩
def nameIn (s : Stmt) : Str := match s with | .FunctionDef n _ _ _ _ _ _ _ _ _ => n | _ => ""
theorem class_is : classS = .ClassDef "K" [.Name "object" (basePos classS)] [] (classBody classS) [] [] (classScope classS) none "K" ["obj"] (posIn classS) := by kernel_rfl
def kSites : List (Pos × Str) := [2, 3, 4, 5, 6, 7].map fun i => (posIn (methS i), kq ++ nameIn (methS i))
/-- the table of cmp_to_key's code, and the tables below -/
def TabC (BB : Nat) (h : Heap) : Prop := BB ≤ h.objs.size ∧ CodeHd h 20 16 ∧ ∃ ps, h.get? 16 = some (tabObj ps) ∧ TriplesOk ps.toList ∧ ∀ cv, codeAmong (posIn classS) ps.toList = some cv → ∃ c P, cv = .ref c ∧ Up BB P ∧ Tab h c P kSites
def TabD (h : Heap) (c : Addr) : Prop := CodeHd h 20 16 ∧ ∃ ps, h.get? 16 = some (tabObj ps) ∧ TriplesOk ps.toList ∧ codeAmong (posIn classS) ps.toList = some (.ref c)
theorem TabD.ext {X : Addr → Prop} {h h' : Heap} {c : Addr} (T : TabD h c) (x : Ext X h h') (hX : SoftX X h) (h16 : ¬ X 16) : TabD h' c :=
  let ⟨C, ps, e, t, r⟩ := T; ⟨CodeHd.ext C x hX, ps, x.get e h16, t, r⟩
theorem TabD.done {BB : Nat} {h : Heap} {c P : Addr} (T : TabD h c) (hz : BB ≤ h.objs.size) (hP : Up BB P) (t : Tab h c P kSites) : TabC BB h :=
  let ⟨C, ps, e, tr, r⟩ := T; ⟨hz, C, ps, e, tr, fun cv q => by rw [r] at q; cases q; exact ⟨c, P, rfl, hP, t⟩⟩
theorem TabC.ext {BB : Nat} {X : Addr → Prop} {h h' : Heap} (T : TabC BB h) (x : Ext X h h') (hX : SoftX X h) (hn : ∀ b, XT BB h b → ¬ X b) : TabC BB h' := by
  obtain ⟨hz, C, ps, e, tr, r⟩ := T
  refine ⟨Nat.le_trans hz x.1, CodeHd.ext C x hX, ps, x.get e (hn _ ⟨⟨ps, e, tr⟩, .inl rfl⟩), tr, fun cv q => ?_⟩
  obtain ⟨c, P, e1, e2, e3⟩ := r cv q
  exact ⟨c, P, e1, e2, e3.ext x hX (hn _ (e3.lo (.inr e2)))⟩
theorem TabC.keep {BB : Nat} {h h' : Heap} (T : TabC BB h) (x : Ext Nil h h') : TabC BB h' := T.ext x softX_nil fun _ _ => id

theorem CodeHd.uniq {h : Heap} {c P P' : Addr} (x : CodeHd h c P) (y : CodeHd h c P') : P = P' := by
  obtain ⟨o, vs, a1, a2, a3, a4, a5, a6, a7, e, r1, r2, r3, _⟩ := x
  obtain ⟨o', vs', b1, b2, b3, b4, b5, b6, b7, e', r1', r2', r3', _⟩ := y
  rw [e] at e'; cases e'
  rw [r2] at r2'; cases r2'
  rw [r3] at r3'; cases r3'
  rfl
section
variable {prog : Program} {w : World} {A : Around} {E : Value → Shared → Prop} {h : Heap} {g : Array GenState} {d : Drawn} {t : Nat} {os : OsState}
theorem class_code {BB : Nat} {env : Env} {firstLine : Nat} {name qualname : Str} {scope : Scope} {Q : Value → Shared → Prop} (S : Sta h) (T : TabC BB h) (hc : env.code = .ref 20)
    (q : ∀ c P h' t', Ext (· = 16) h h' → TabD h' c → Up BB P → Tab h' c P kSites → (∀ h₀, Ext Nil h₀ h → TabC BB h₀ → P < h₀.objs.size → XT BB h₀ P) → Q (.ref c) ⟨h', g, d, t', os⟩) :
    wpAny (model prog w) A (classCode env (posIn classS) firstLine name qualname scope) Q E ⟨h, g, d, t, os⟩ := by
  obtain ⟨hz, C, ps, e, tr, r⟩ := T
  have hok := C.code e tr
  have hX := softX_tab e tr
  cases hm : codeAmong (posIn classS) ps.toList with
  | some cv =>
    obtain ⟨c, P, rfl, hP, t'⟩ := r cv hm
    exact wpAny_codeAt_hit (s := ⟨h, g, d, t, os⟩) hc hok hm (q c P h t .refl ⟨C, ps, e, tr, hm⟩ hP t' fun h₀ x T₀ hlt => by
      obtain ⟨_, C₀, ps₀, e₀, tr₀, r₀⟩ := T₀
      have e' := x.nil _ _ e₀
      rw [e] at e'
      have e' : ps = ps₀ := by cases e'; rfl
      subst e'
      obtain ⟨c₀, P₀, q₀, hP₀, T'⟩ := r₀ _ hm
      cases q₀
      obtain rfl : P = P₀ := CodeHd.uniq t'.1 (T'.keep x).1
      exact T'.lo (.inr hP₀))
  | none =>
    obtain ⟨o, vs, file, tf, flags, tg, inF, text, tt, op, ho, hd, h11, h2, h7, h9, h10, hop, hpd, htr, hne⟩ := id hok
    unfold classCode codeAt
    rw [hc, if_neg (show ¬ ((Value.ref 20 == Value.none) = true) from Bool.false_ne_true)]
    refine wpAny_bind (wpAny_fieldsOf ho hd ?_)
    rw [h11]
    refine wpAny_bind (wpAny_fieldsOf hop hpd ?_)
    rw [hm, h2, h7, h9, h10]
    refine wpAny_bind (wpAny_newCodeX fun c' P' h' tk hk hc' hP' hcode' htab' hrec' => ?_)
    have hop' := hk _ _ hop
    refine wpAny_bind (wpAny_updateFieldsOfTheText hop' hpd ?_)
    have hnew : (Obj.mapFields (fun vs => if (codeAmong (posIn classS) vs.toList).isSome = true then vs else vs ++ #[rawInt (posIn classS).line, rawInt (posIn classS).col, .ref c']) op).data =
        .fields (ps ++ #[rawInt (posIn classS).line, rawInt (posIn classS).col, .ref c']) := by
      rw [Obj.data_mapFields hpd, hm]; rfl
    have hget := Heap.get?_update_self (h := h') (fun o => Obj.mapFields (fun vs => if (codeAmong (posIn classS) vs.toList).isSome = true then vs else
      vs ++ #[rawInt (posIn classS).line, rawInt (posIn classS).col, .ref c']) o) hop' (Obj.isFreed_of_fields hnew)
    refine wpAny_bind (wpAny_fieldsOf hget hnew ?_)
    have hl : (ps ++ #[rawInt (posIn classS).line, rawInt (posIn classS).col, Value.ref c']).toList = ps.toList ++ [rawInt (posIn classS).line, rawInt (posIn classS).col, .ref c'] := by simp
    have ham := codeAmong_snoc (c := .ref c') _ htr hm
    rw [hl, ham]
    have x1 : Ext Nil h h' := ⟨Nat.le_trans hc' (Nat.le_of_lt hcode'.lt.1), fun b o e _ => hk b o e⟩
    have sb := Heap.SameBut.update h' 16 (fun o => Obj.mapFields (fun vs => if (codeAmong (posIn classS) vs.toList).isSome = true then vs else vs ++ #[rawInt (posIn classS).line, rawInt (posIn classS).col, .ref c']) o)
    have x2 : Ext (· = 16) h' (h'.update 16 (fun o => Obj.mapFields (fun vs => if (codeAmong (posIn classS) vs.toList).isSome = true then vs else vs ++ #[rawInt (posIn classS).line, rawInt (posIn classS).col, .ref c']) o)) := Ext.refl.same sb fun _ => rfl
    have e' := hk _ _ e
    have hX' := softX_tab e' tr
    have hP16 : P' ≠ 16 := Nat.ne_of_gt (Nat.lt_of_lt_of_le (Heap.lt_size e) hP')
    have op_eq : op = tabObj ps := Option.some.inj (hop.symm.trans e)
    refine wpAny_pure (q c' P' _ _ (x1.t0.then x2 fun _ _ z => z) ⟨CodeHd.ext (C.keeps hk) x2 hX', ps ++ #[rawInt (posIn classS).line, rawInt (posIn classS).col, Value.ref c'], ?_, ?_, ?_⟩ ⟨Nat.lt_of_lt_of_le (Nat.lt_of_lt_of_le (by decide) S.sz) hP', Nat.le_trans hz hP'⟩ (Tab.ext ⟨CodeHd.of hcode' htab', #[], htab'.2, trivial, fun s _ cv z => by cases z⟩ x2 hX' hP16) fun h₀ x _ hlt => absurd (Nat.lt_of_lt_of_le hlt x.1) (Nat.not_lt.mpr hP'))
    · rw [hget, op_eq]
      simp only [Obj.mapFields, hm]
      rfl
    · rw [hl]; exact TriplesOk_snoc _ _ _ _ tr
    · rw [hl]; exact ham
end

/-- a dict that serves as a namespace -/
def CNs (h : Heap) (a : Addr) (ls : List (Str × Value)) : Prop := ∃ es ep, h.get? a = some { cls := .type "dict", data := .dict es ep } ∧ Ents es.toList ls
theorem CNs.ns {h : Heap} {a : Addr} {ls} (C : CNs h a ls) : h.Ns a (fun n => ls.lookup n) :=
  let ⟨es, ep, e, x⟩ := C; ⟨_, es, ep, e, rfl, x.keys, x.find⟩
theorem CNs.get {h : Heap} {a : Addr} {ls} (C : CNs h a ls) : ∃ o, h.get? a = some o ∧ o.cls = .type "dict" := let ⟨_, _, e, _⟩ := C; ⟨_, e, rfl⟩
theorem CNs.ext {X : Addr → Prop} {h h' : Heap} {a : Addr} {ls} (C : CNs h a ls) (x : Ext X h h') (hX : SoftX X h) : CNs h' a ls :=
  let ⟨es, ep, e, r⟩ := C; ⟨es, ep, x.hard hX e (by unfold Soft; simp), r⟩
theorem CNs.keep {h h' : Heap} {a : Addr} {ls} (C : CNs h a ls) (x : Ext Nil h h') : CNs h' a ls := C.ext x softX_nil
section
variable {prog : Program} {w : World} {A : Around} {E : Value → Shared → Prop} {h : Heap} {g : Array GenState} {d : Drawn} {t : Nat} {os : OsState}
theorem CNs.set {a : Addr} {ls : List (Str × Value)} {n : Str} {v : Value} {Q : Unit → Shared → Prop} (C : CNs h a ls)
    (q : ∀ h', CNs h' a (putL n v ls) → Heap.SameBut a h h' → Q () ⟨h', g, d, t + 1, os⟩) : wpAny (model prog w) A (nsSet a n v) Q E ⟨h, g, d, t, os⟩ := by
  obtain ⟨es, ep, e, x⟩ := C
  unfold nsSet
  refine wpAny_bind ?_
  unfold strHash
  refine nd_bind (nd_ask (wpAny_pure ?_))
  dsimp only
  refine wpAny_pure ?_
  refine wpAny_bind (wpAny_mkText ?_)
  refine wpAny_bind (wpAny_loadPart e ?_)
  have hany : es.any (·.refKey) = false := by
    rw [Array.any_eq_false']; intro e he; obtain ⟨n, t, h⟩ := x.keys e (by simpa using he); simp [DictEntry.refKey, h]
  simp only [aRefKeyMayBeTheName_eq, aRefKeyMayBeTheNameByArray, hany, Bool.and_false, Bool.false_eq_true, if_false]
  refine wpAny_updatePart e (q _ ?_ (Heap.SameBut.update ..))
  generalize (if n.cps.isEmpty = true then 0 else _ : Int) = hx
  have e3 : ∃ es' ep', Obj.putName n hx (.str n t) v { cls := .type "dict", data := .dict es ep } = { cls := .type "dict", data := .dict es'.toArray ep' } ∧ Ents es' (putL n v ls) := by
    unfold Obj.putName
    dsimp only
    split
    · rename_i es' hq
      exact ⟨es', _, rfl, x.put' hq (fun _ => rfl) rfl⟩
    · rename_i es' hq
      exact ⟨es', _, rfl, x.put' hq (fun _ => rfl) rfl⟩
  obtain ⟨es', ep', e3, e2⟩ := e3
  exact ⟨es'.toArray, ep', by rw [Heap.get?_update_self _ e (by rw [e3]; rfl), e3], e2⟩
theorem CNs.del {a : Addr} {ls : List (Str × Value)} {n : Str} {v : Value} {Q : Bool → Shared → Prop} (C : CNs h a ls) (hv : ls.lookup n = some v)
    (q : ∀ h', CNs h' a (dropL n ls) → Heap.SameBut a h h' → Q true ⟨h', g, d, t, os⟩) : wpAny (model prog w) A (nsDel a n) Q E ⟨h, g, d, t, os⟩ := by
  obtain ⟨es, ep, e, x⟩ := C
  have hh : nsHas n { cls := .type "dict", data := .dict es ep } = pure true := by
    rw [nsHas_eq]; unfold nsHasByArray
    have : es.any (fun e => e.key.isStr n) = true := by
      have f := x.find n
      rw [hv] at f
      unfold nsFind findBy at f
      rw [Option.map_eq_some_iff] at f
      obtain ⟨e0, f0, _⟩ := f
      rw [Array.any_eq_true']
      exact ⟨e0, by simpa using Array.mem_of_find?_eq_some f0, by simpa using Array.find?_some f0⟩
    dsimp only
    rw [if_pos this]
  unfold nsDel
  refine wpAny_bind (wpAny_loadPart e ?_)
  rw [hh]
  refine wpAny_bind (wpAny_pure ?_)
  refine wpAny_bind (wpAny_updatePart e (wpAny_pure (q _ ?_ (Heap.SameBut.update ..))))
  rcases x.drop n with ⟨_, z⟩ | ⟨es', e1, e2⟩
  · rw [hv] at z; cases z
  have e3 : ∃ ep', Obj.dropName n { cls := .type "dict", data := .dict es ep } = { cls := .type "dict", data := .dict es'.toArray ep' } := by
    unfold Obj.dropName
    dsimp only
    rw [e1]
    exact ⟨_, rfl⟩
  obtain ⟨ep', e3⟩ := e3
  exact ⟨es'.toArray, ep', by rw [Heap.get?_update_self _ e (by rw [e3]; rfl), e3], e2⟩
/-- a store in the body of a class -/
theorem CNs.local {env : Env} {ls : List (Str × Value)} {n : Str} {v : Value} {Q : Unit → Shared → Prop} (C : CNs h env.locals ls)
    (q : ∀ h', CNs h' env.locals (putL n v ls) → Heap.SameBut env.locals h h' → Q () ⟨h', g, d, t + 1, os⟩) : wpAny (model prog w) A (localSet env n v) Q E ⟨h, g, d, t, os⟩ := by
  obtain ⟨o, e, hc⟩ := C.get
  unfold localSet
  refine wpAny_bind (wpAny_load e ?_)
  rw [hc]
  exact C.set q
end

/-- objects that are no functions, no code and bear no name -/
def HardX (X : Addr → Prop) (h : Heap) : Prop := ∀ b o, X b → h.get? b = some o → NoStr o ∧ o.cls ≠ .type "function" ∧ o.cls ≠ .type "code"
theorem hardX_ns {h : Heap} {a : Addr} {ls} (C : CNs h a ls) : HardX (· = a) h := fun b o q e => by
  subst q
  obtain ⟨es, ep, e', _⟩ := C
  rw [e] at e'; cases e'
  exact ⟨nofun, by simp, by simp⟩
theorem hardX_tab {h : Heap} {P : Addr} {ps : Array Value} (e : h.get? P = some (tabObj ps)) (T : TriplesOk ps.toList) : HardX (· = P) h := fun b o q e' => by
  subst q
  rw [e] at e'; cases e'
  exact ⟨triples_noStr T, by simp, by simp⟩
section
variable {X : Addr → Prop} {h h' : Heap}
theorem codeRec_hard {cd : Value} {q : Str} (r : h.CodeRec cd q) (x : Ext X h h') (hX : HardX X h) : h'.CodeRec cd q :=
  let ⟨c, o, vs, t, e, g, d, r⟩ := r
  ⟨c, o, vs, t, e, x.get g (fun z => (hX c o z g).1 vs q t d r), d, r⟩
theorem FnAt.hard {f : Addr} {s : Stmt} {clo : List (Str × Addr)} (F : FnAt h f s clo) (x : Ext X h h') (hX : HardX X h) : FnAt h' f s clo :=
  let ⟨pm, code, ct, doc, a, b⟩ := F; ⟨pm, code, ct, doc, x.get a (fun z => (hX _ _ z a).2.1 rfl), codeRec_hard b x hX⟩
theorem CodeHd.hard {c P : Addr} (C : CodeHd h c P) (x : Ext X h h') (hX : HardX X h) : CodeHd h' c P := by
  obtain ⟨o, vs, a1, a2, a3, a4, a5, a6, a7, e, r, r2⟩ := C
  exact ⟨o, vs, a1, a2, a3, a4, a5, a6, a7, x.get e (fun z => (hX _ _ z e).2.2 r), r, r2⟩
theorem Tab.hard {c P : Addr} {sites} (T : Tab h c P sites) (x : Ext X h h') (hX : HardX X h) (hP : ¬ X P) : Tab h' c P sites := by
  obtain ⟨C, ps, e, t, o⟩ := T
  exact ⟨CodeHd.hard C x hX, ps, x.get e hP, t, fun s hs cv q => codeRec_hard (o s hs cv q) x hX⟩
theorem TabD.hard {c : Addr} (T : TabD h c) (x : Ext X h h') (hX : HardX X h) (h16 : ¬ X 16) : TabD h' c :=
  let ⟨C, ps, e, t, r⟩ := T; ⟨CodeHd.hard C x hX, ps, x.get e h16, t, r⟩
end
def argsIn (s : Stmt) : Arguments := match s with | .FunctionDef _ a _ _ _ _ _ _ _ _ => a | _ => default
def scopeIn (s : Stmt) : Scope := match s with | .FunctionDef _ _ _ _ _ _ sc _ _ _ => sc | _ => default

/-- the frame of the class's body -/
abbrev kEnv (ns c fr cc : Addr) : Env := { scope := classScope classS, locals := ns, globals := mainGlobals, qual := "cmp_to_key.<locals>.K" ++ ".", code := .ref c, frame := some fr, builtins := builtinsNs, cells := [("mycmp", cc)] }

/-- within the body of the class -/
structure Bod (BB : Nat) (h₀ h : Heap) (ns c P cc : Addr) (f : Value) (ls : List (Str × Value)) (fns : List (Addr × Stmt × List (Str × Addr))) (lsts : List (Addr × List Value)) : Prop where
  S : Sta h
  C : CNs h ns ls
  D : TabD h c
  T : Tab h c P kSites
  cel : h.IsCell cc (some f)
  fns : ∀ p ∈ fns, FnAt h p.1 p.2.1 p.2.2
  lst : ∀ p ∈ lsts, LstAt h p.1 p.2
  x : Ext (XT BB h₀) h₀ h
  hP : 47 < P
  hns : 47 < ns
  old : P < h₀.objs.size → XT BB h₀ P
  nsn : h₀.objs.size ≤ ns

section
variable {prog : Program} {w : World} {A : Around} {E : Value → Shared → Prop} {BB : Nat} {h₀ h : Heap} {g : Array GenState} {d : Drawn} {t : Nat} {os : OsState} {ns c P cc fr : Addr} {f : Value} {ls : List (Str × Value)} {fns : List (Addr × Stmt × List (Str × Addr))} {lsts : List (Addr × List Value)}
theorem ns_ne_tab {a b : Addr} {ps} (C : CNs h a ls) (e : h.get? b = some (tabObj ps)) : b ≠ a := fun q => by
  subst q
  obtain ⟨es, ep, e', _⟩ := C
  rw [e] at e'; cases e'
theorem Bod.nsStep {h' : Heap} {ls' : List (Str × Value)} (B : Bod BB h₀ h ns c P cc f ls fns lsts) (C' : CNs h' ns ls') (hs : Heap.SameBut ns h h') : Bod BB h₀ h' ns c P cc f ls' fns lsts := by
  have x : Ext (· = ns) h h' := Ext.refl.same hs fun _ => rfl
  have hX := hardX_ns B.C
  have nP : P ≠ ns := by obtain ⟨_, ps, e, _⟩ := B.T; exact ns_ne_tab B.C e
  have n16 : (16 : Addr) ≠ ns := by obtain ⟨_, ps, e, _⟩ := B.D; exact ns_ne_tab B.C e
  exact
  { S := B.S.ext x fun b q => .inr (.inr (q ▸ B.hns))
    C := C'
    D := B.D.hard x hX n16
    T := B.T.hard x hX nP
    cel := x.isCell B.cel (cell_ne_ns B.cel B.C.ns)
    fns := fun p hp => (B.fns p hp).hard x hX
    lst := fun p hp => x.lst (B.lst p hp) fun q => by
      obtain ⟨n, e⟩ := B.lst p hp
      obtain ⟨es, ep, e', _⟩ := B.C
      rw [q, e'] at e; simp at e
    x := B.x.same hs fun z => absurd z (Nat.not_lt.mpr B.nsn)
    hP := B.hP
    hns := B.hns
    old := B.old
    nsn := B.nsn }
theorem Bod.tabStep {h' : Heap} (B : Bod BB h₀ h ns c P cc f ls fns lsts) (T' : Tab h' c P kSites) (x : Ext (· = P) h h') : Bod BB h₀ h' ns c P cc f ls fns lsts := by
  obtain ⟨_, ps, e, tr, _⟩ := B.T
  have hX := softX_tab e tr
  have hH := hardX_tab e tr
  have n16 : (16 : Addr) ≠ P := Nat.ne_of_lt (Nat.lt_trans (by decide) B.hP)
  exact
  { S := B.S.ext x fun b q => .inr (.inr (q ▸ B.hP))
    C := B.C.ext x hX
    D := B.D.hard x hH n16
    T := T'
    cel := x.isCell B.cel fun q => by
      obtain ⟨o, e', r⟩ := B.cel
      rw [q, e] at e'; cases e'; cases r
    fns := fun p hp => (B.fns p hp).hard x hH
    lst := fun p hp => x.lst (B.lst p hp) fun q => by
      obtain ⟨n, e'⟩ := B.lst p hp
      rw [q, e] at e'; cases e'
    x := B.x.then x fun b hb q => q ▸ B.old (q ▸ hb)
    hP := B.hP
    hns := B.hns
    old := B.old
    nsn := B.nsn }
theorem Bod.keep {h' : Heap} (B : Bod BB h₀ h ns c P cc f ls fns lsts) (x : Ext Nil h h') : Bod BB h₀ h' ns c P cc f ls fns lsts := by
  exact
  { S := B.S.keep x
    C := B.C.keep x
    D := B.D.ext x softX_nil id
    T := B.T.keep x
    cel := x.isCell B.cel id
    fns := fun p hp => (B.fns p hp).ext x softX_nil
    lst := fun p hp => x.lst (B.lst p hp) id
    x := B.x.then x fun b hb q => q.elim
    hP := B.hP
    hns := B.hns
    old := B.old
    nsn := B.nsn }
theorem store_class {env : Env} {n : Str} {v : Value} (hk : env.scope.kind = .class) (hn : env.kindOf n = some .local ∨ (env.kindOf n = none ∧ compilersOwnNames.contains n = true)) : storeName env n v = localSet env n v := by
  unfold storeName
  rcases hn with e | ⟨e, e'⟩
  · rw [e, hk]; rfl
  · rw [e, hk, e']
    unfold Env.blockKind
    rw [hk]
    rfl
theorem Bod.store {n : Str} {v : Value} {Q : Unit → Shared → Prop} (B : Bod BB h₀ h ns c P cc f ls fns lsts) (hn : (kEnv ns c fr cc).kindOf n = some .local ∨ ((kEnv ns c fr cc).kindOf n = none ∧ compilersOwnNames.contains n = true))
    (q : ∀ h' t', Bod BB h₀ h' ns c P cc f (putL n v ls) fns lsts → Q () ⟨h', g, d, t', os⟩) : wpAny (model prog w) A (storeName (kEnv ns c fr cc) n v) Q E ⟨h, g, d, t, os⟩ := by
  rw [store_class (by kernel_rfl) hn]
  exact CNs.local (env := kEnv ns c fr cc) B.C fun h' C' hs => q h' _ (B.nsStep C' hs)
theorem Bod.def {s : Stmt} {clo : List (Str × Addr)} {Q : Flow → Shared → Prop} (B : Bod BB h₀ h ns c P cc f ls fns lsts) (hs : s = .FunctionDef (nameIn s) (argsIn s) (bodyOf s) [] none [] (scopeIn s) none (nameIn s) (posIn s))
    (hcl : closureFor (scopeIn s) (kEnv ns c fr cc) = pure clo) (hd0 : (argsIn s).defaults = []) (hk0 : (argsIn s).kw_defaults = []) (ha : annTrees (argsIn s) none (kEnv ns c fr cc) = []) (hq : qualnameIn (kEnv ns c fr cc) (nameIn s) (nameIn s) = kq ++ nameIn s)
    (hst : (posIn s, kq ++ nameIn s) ∈ kSites) (hu : ∀ s' ∈ kSites, s'.1.line = (posIn s).line → s'.1.col = (posIn s).col → s'.2 = kq ++ nameIn s)
    (hn : (kEnv ns c fr cc).kindOf (nameIn s) = some .local)
    (q : ∀ fa h' t', Bod BB h₀ h' ns c P cc f (putL (nameIn s) (.ref fa) ls) ((fa, s, clo) :: fns) lsts → Q .next ⟨h', g, d, t', os⟩) : wpAny (model prog w) A (exec s (kEnv ns c fr cc)) Q E ⟨h, g, d, t, os⟩ := by
  have hfn : ∀ pm cv ctv doc, fnX (nameIn s) (kq ++ nameIn s) (argsIn s) (bodyOf s) (scopeIn s) clo .none .none doc pm none cv ctv = fnIn s kq clo pm cv ctv doc := by
    intro pm cv ctv doc
    rw [hs]
    rfl
  rw [show exec s = exec (.FunctionDef (nameIn s) (argsIn s) (bodyOf s) [] none [] (scopeIn s) none (nameIn s) (posIn s)) from congrArg exec hs]
  refine nestDef_K hd0 hk0 ha ?_
  rw [hq]
  refine make_fn B.S B.T (.inr (.inr B.hP)) hst hu hcl rfl rfl fun fa h1 t1 pm ctv doc cv x1 T1 hfa hg hc => ?_
  have B1 := B.tabStep T1 x1
  have hfns : ∀ p ∈ ((fa, s, clo) :: fns), FnAt h1 p.1 p.2.1 p.2.2 := fun p hp => by
    rcases List.mem_cons.mp hp with rfl | hp
    · refine ⟨pm, cv, ctv, doc, by rw [← hfn]; exact hg, ?_⟩
      rw [← hfn]
      exact hc
    · exact B1.fns p hp
  have B2 : Bod BB h₀ h1 ns c P cc f ls ((fa, s, clo) :: fns) lsts := ⟨B1.S, B1.C, B1.D, B1.T, B1.cel, hfns, B1.lst, B1.x, B1.hP, B1.hns, B1.old, B1.nsn⟩
  exact B2.store (.inl hn) fun h2 t2 B3 => q fa h2 t2 B3
end

section
variable {prog : Program} {w : World} {A : Around} {E : Value → Shared → Prop} {BB : Nat} {h₀ h : Heap} {g : Array GenState} {d : Drawn} {t : Nat} {os : OsState} {ns c P cc fr : Addr} {f : Value} {ls : List (Str × Value)} {fns : List (Addr × Stmt × List (Str × Addr))} {lsts : List (Addr × List Value)}
def litS : Stmt → Stmt
  | .FunctionDef n a b _ _ _ sc _ _ p => .FunctionDef n a b [] none [] sc none n p
  | s => s
theorem sites_one {s : Stmt} (e : (kSites.all fun s' => (s'.1.line != (posIn s).line) || (s'.1.col != (posIn s).col) || (s'.2 == kq ++ nameIn s)) = true) : ∀ s' ∈ kSites, s'.1.line = (posIn s).line → s'.1.col = (posIn s).col → s'.2 = kq ++ nameIn s := fun s' hs h1 h2 => by
  have z := List.all_eq_true.mp e s' hs
  rw [h1, h2] at z
  simpa using z
theorem sites_mem {s : Stmt} (e : (kSites.any fun s' => decide (s'.1 = posIn s) && (s'.2 == kq ++ nameIn s)) = true) : (posIn s, kq ++ nameIn s) ∈ kSites := by
  obtain ⟨s', hs, z⟩ := List.any_eq_true.mp e
  simp only [Bool.and_eq_true, decide_eq_true_eq, beq_iff_eq] at z
  rw [← z.1, ← z.2]
  exact hs
theorem Bod.cast {ls' : List (Str × Value)} (B : Bod BB h₀ h ns c P cc f ls fns lsts) (e : ls = ls') : Bod BB h₀ h ns c P cc f ls' fns lsts := e ▸ B
theorem body_run {m0 qv lv : Value} {Q : Flow → Shared → Prop} (B : Bod BB h₀ h ns c P cc f [("__module__", m0), ("__qualname__", qv), ("__firstlineno__", lv)] [] [])
    (q : ∀ h' t' mv sl u fi fl fg fe fle fge, (∃ tm, mv = Value.str "cpy313.functools" tm) → Bod BB h₀ h' ns c P cc f [("__module__", mv), ("__qualname__", qv), ("__firstlineno__", lv), ("__slots__", .ref sl), ("__init__", .ref fi), ("__lt__", .ref fl), ("__gt__", .ref fg), ("__eq__", .ref fe), ("__le__", .ref fle), ("__ge__", .ref fge), ("__hash__", .none)]
      [(fge, methS 7, [("mycmp", cc)]), (fle, methS 6, [("mycmp", cc)]), (fe, methS 5, [("mycmp", cc)]), (fg, methS 4, [("mycmp", cc)]), (fl, methS 3, [("mycmp", cc)]), (fi, methS 2, [])] [(sl, [.str "obj" u])] → Q .next ⟨h', g, d, t', os⟩) :
    wpAny (model prog w) A (execs (classBody classS) (kEnv ns c fr cc)) Q E ⟨h, g, d, t, os⟩ := by
  rw [show classBody classS = [methS 0, methS 1, methS 2, methS 3, methS 4, methS 5, methS 6, methS 7, methS 8] by kernel_rfl]
  refine wpAny_execs_cons (wpAny_Assign_Name (wpAny_Constant_str ?_) (by kernel_rfl))
  dsimp only
  have hmv : ∃ tm, Value.str (Str.ofString "cpy313.functools") t = Value.str "cpy313.functools" tm := ⟨t, rfl⟩
  generalize Value.str (Str.ofString "cpy313.functools") t = mv at hmv ⊢
  refine B.store (.inl (by kernel_rfl)) fun h1 t1 B1 => ?_
  have B1 := B1.cast (ls' := [("__module__", mv), ("__qualname__", qv), ("__firstlineno__", lv)]) (by kernel_rfl)
  refine wpAny_execs_cons (wpAny_Assign_Name (wpAny_List (args_cons (wpAny_Constant_str (args_nil ⟨Nat.le_of_ble_eq_true rfl, ?_⟩)))) (by kernel_rfl))
  dsimp only
  have B1' := B1.keep (Ext.refl.push (oList [.str (Str.ofString "obj") t1] 0))
  have B2 : Bod BB h₀ (h1.push (oList [.str (Str.ofString "obj") t1] 0)) ns c P cc f [("__module__", mv), ("__qualname__", qv), ("__firstlineno__", lv)] [] [(h1.objs.size, [.str "obj" t1])] :=
    ⟨B1'.S, B1'.C, B1'.D, B1'.T, B1'.cel, B1'.fns, fun p hp => by
      rw [List.mem_singleton] at hp
      subst hp
      exact ⟨0, Heap.get?_push_size _ rfl⟩, B1'.x, B1'.hP, B1'.hns, B1'.old, B1'.nsn⟩
  generalize h1.push (oList [.str (Str.ofString "obj") t1] 0) = h2 at B2
  clear B1 B1' B
  generalize h1.objs.size = sl at B2 ⊢
  refine B2.store (.inl (by kernel_rfl)) fun h3 t3 B3 => ?_
  have B3 := B3.cast (ls' := [("__module__", mv), ("__qualname__", qv), ("__firstlineno__", lv), ("__slots__", .ref sl)]) (by kernel_rfl)
  clear B2
  refine wpAny_execs_cons (B3.def (s := methS 2) (clo := []) (by kernel_rfl) (by kernel_rfl) (by kernel_rfl) (by kernel_rfl) (by kernel_rfl) (by kernel_rfl) (sites_mem (by kernel_rfl)) (sites_one (by kernel_rfl)) (by kernel_rfl) fun fi h4 t4 B4 => ?_)
  have B4 := B4.cast (ls' := [("__module__", mv), ("__qualname__", qv), ("__firstlineno__", lv), ("__slots__", .ref sl), ("__init__", .ref fi)]) (by kernel_rfl)
  clear B3
  refine wpAny_execs_cons (B4.def (s := methS 3) (clo := [("mycmp", cc)]) (by kernel_rfl) (by kernel_rfl) (by kernel_rfl) (by kernel_rfl) (by kernel_rfl) (by kernel_rfl) (sites_mem (by kernel_rfl)) (sites_one (by kernel_rfl)) (by kernel_rfl) fun fl h5 t5 B5 => ?_)
  have B5 := B5.cast (ls' := [("__module__", mv), ("__qualname__", qv), ("__firstlineno__", lv), ("__slots__", .ref sl), ("__init__", .ref fi), ("__lt__", .ref fl)]) (by kernel_rfl)
  clear B4
  refine wpAny_execs_cons (B5.def (s := methS 4) (clo := [("mycmp", cc)]) (by kernel_rfl) (by kernel_rfl) (by kernel_rfl) (by kernel_rfl) (by kernel_rfl) (by kernel_rfl) (sites_mem (by kernel_rfl)) (sites_one (by kernel_rfl)) (by kernel_rfl) fun fg h6 t6 B6 => ?_)
  have B6 := B6.cast (ls' := [("__module__", mv), ("__qualname__", qv), ("__firstlineno__", lv), ("__slots__", .ref sl), ("__init__", .ref fi), ("__lt__", .ref fl), ("__gt__", .ref fg)]) (by kernel_rfl)
  clear B5
  refine wpAny_execs_cons (B6.def (s := methS 5) (clo := [("mycmp", cc)]) (by kernel_rfl) (by kernel_rfl) (by kernel_rfl) (by kernel_rfl) (by kernel_rfl) (by kernel_rfl) (sites_mem (by kernel_rfl)) (sites_one (by kernel_rfl)) (by kernel_rfl) fun fe h7 t7 B7 => ?_)
  have B7 := B7.cast (ls' := [("__module__", mv), ("__qualname__", qv), ("__firstlineno__", lv), ("__slots__", .ref sl), ("__init__", .ref fi), ("__lt__", .ref fl), ("__gt__", .ref fg), ("__eq__", .ref fe)]) (by kernel_rfl)
  clear B6
  refine wpAny_execs_cons (B7.def (s := methS 6) (clo := [("mycmp", cc)]) (by kernel_rfl) (by kernel_rfl) (by kernel_rfl) (by kernel_rfl) (by kernel_rfl) (by kernel_rfl) (sites_mem (by kernel_rfl)) (sites_one (by kernel_rfl)) (by kernel_rfl) fun fle h8 t8 B8 => ?_)
  have B8 := B8.cast (ls' := [("__module__", mv), ("__qualname__", qv), ("__firstlineno__", lv), ("__slots__", .ref sl), ("__init__", .ref fi), ("__lt__", .ref fl), ("__gt__", .ref fg), ("__eq__", .ref fe), ("__le__", .ref fle)]) (by kernel_rfl)
  clear B7
  refine wpAny_execs_cons (B8.def (s := methS 7) (clo := [("mycmp", cc)]) (by kernel_rfl) (by kernel_rfl) (by kernel_rfl) (by kernel_rfl) (by kernel_rfl) (by kernel_rfl) (sites_mem (by kernel_rfl)) (sites_one (by kernel_rfl)) (by kernel_rfl) fun fge h9 t9 B9 => ?_)
  have B9 := B9.cast (ls' := [("__module__", mv), ("__qualname__", qv), ("__firstlineno__", lv), ("__slots__", .ref sl), ("__init__", .ref fi), ("__lt__", .ref fl), ("__gt__", .ref fg), ("__eq__", .ref fe), ("__le__", .ref fle), ("__ge__", .ref fge)]) (by kernel_rfl)
  clear B8
  refine wpAny_execs_cons (wpAny_Assign_Name (wpAny_Constant_none ?_) (by kernel_rfl))
  refine B9.store (.inl (by kernel_rfl)) fun h10 t10 B10 => ?_
  have B10 := B10.cast (ls' := [("__module__", mv), ("__qualname__", qv), ("__firstlineno__", lv), ("__slots__", .ref sl), ("__init__", .ref fi), ("__lt__", .ref fl), ("__gt__", .ref fg), ("__eq__", .ref fe), ("__le__", .ref fle), ("__ge__", .ref fge), ("__hash__", .none)]) (by kernel_rfl)
  exact wpAny_execs_nil (q h10 t10 mv sl t1 fi fl fg fe fle fge hmv B10)
end

theorem tn_entry : entryFor table "type.__new__" = some Builtin.«type.__new__» := entryFor_of_tree (by kernel_rfl)
theorem tn_plain : plainId "type.__new__" = true := by decide +kernel
theorem tn_check (a b c : Value) : checkBuiltinCall "type.__new__" ⟨[.type "type", a, b, c], []⟩ = pure () := by kernel_rfl
section
variable {M : Model} {h : Heap}
theorem pk {α : Type} {t : Sem α} {r : α} (e : peek [] ⟨M.prog, M.w.params⟩ t = some r) : Looks M h t r := Looks.of_peek (K := []) (fun _ _ z => by cases z) e
theorem tn_1 : Looks M h (isSubtype (.type "tuple") (.type "tuple")) true := pk (by kernel_rfl)
theorem tn_2 : Looks M h (isSubtype (.type "dict") (.type "dict")) true := pk (by kernel_rfl)
theorem tn_3 : Looks M h (isSubtype (.type "type") (.type "type")) true := pk (by kernel_rfl)
theorem tn_4 : Looks M h (Builtin.notOverATurnedClass [.type "object"]) () := pk (by kernel_rfl)
theorem tn_5 : Looks M h (Builtin.extendedBase [.type "object"]) (.type "object") := pk (by kernel_rfl)
theorem tn_6 : Looks M h (typeLookup (.type "dict") "__iter__") (some (.builtin "dict.__iter__")) := pk (by kernel_rfl)
theorem tn_7 : Looks M h (Builtin.mroHook? (.type "type")) none := pk (by kernel_rfl)
theorem tn_8 : Looks M h (Builtin.linearize [.type "object"] mroOf) [.type "object"] := pk (by kernel_rfl)
theorem tn_9 : Looks M h (Bind.madeBy (.type "object")) (some "object.__new__") := pk (by kernel_rfl)
theorem tn_10 : Looks M h (Builtin.Slots.givesWeak (.type "object")) false := pk (by kernel_rfl)
theorem tn_11 : Looks M h (Builtin.Slots.givesDict (.type "object")) false := pk (by kernel_rfl)
theorem tn_12 : Looks M h (Builtin.Slots.bestBase [.type "object"]) (.type "object") := pk (by kernel_rfl)
theorem tn_13 : Looks M h (Builtin.Slots.slotNamesOf (.type "object")) [] := pk (by kernel_rfl)
theorem tn_14 : Looks M h (Builtin.Slots.varSize (.type "object")) false := pk (by kernel_rfl)
end
section
variable {α β : Type} {M : Model} {A : Around} {Q : α → Shared → Prop} {E : Value → Shared → Prop} {h : Heap} {g : Array GenState} {d : Drawn} {t : Nat} {os : OsState}
theorem kn_load {a : Addr} {p : Option Value} {k : Obj → Sem α} {o : Obj} (ho : h.get? a = some o) (q : wpAny M A (k o) Q E ⟨h, g, d, t, os⟩) : wpAny M A (.load a p k) Q E ⟨h, g, d, t, os⟩ := nd_load (s := ⟨h, g, d, t, os⟩) ho q
theorem kn_fresh {k : Tok → Sem α} (q : wpAny M A (k t) Q E ⟨h, g, d, t + 1, os⟩) : wpAny M A (.fresh k) Q E ⟨h, g, d, t, os⟩ := q
theorem kn_alloc {o : Obj} {k : Addr → Sem α} (q : wpAny M A (k h.objs.size) Q E ⟨h.push o, g, d, t, os⟩) : wpAny M A (.alloc o k) Q E ⟨h, g, d, t, os⟩ := q
end
section
variable {α β : Type} {M : Model} {A : Around} {Q : β → Shared → Prop} {E : Value → Shared → Prop} {s : Shared}
theorem nd_try {m : Sem β} {k : Value → Sem β} (h : wpAny M A m Q (fun e s' => wpAny M A (k e) Q E s') s) : wpAny M A (Sem.tryCatch m k) Q E s := wpAny_tryCatch h
theorem loop_same {es : List DictEntry} {f : DictEntry → β → Sem (ForInStep β)} {b : β} (hf : ∀ e ∈ es, ∀ Q : ForInStep β → Shared → Prop, Q (.yield b) s → wpAny M A (f e b) Q E s) (q : Q b s) : wpAny M A (forIn es b f) Q E s := by
  induction es with
  | nil => rw [List.forIn_nil]; exact wpAny_pure q
  | cons e es ih =>
    rw [List.forIn_cons]
    exact wpAny_bind (hf e (.head _) _ (ih fun e' he => hf e' (.tail _ he)))
theorem loop_arr {es : Array DictEntry} {f : DictEntry → β → Sem (ForInStep β)} {b : β} (hf : ∀ e ∈ es.toList, ∀ Q : ForInStep β → Shared → Prop, Q (.yield b) s → wpAny M A (f e b) Q E s) (q : Q b s) : wpAny M A (forIn es b f) Q E s := by
  rw [← Array.forIn_toList]
  exact loop_same hf q
end

local macro_rules | `(tactic| walk_at "m tn") => `(tactic| first
  | (with_reducible first
  | refine Looks.at tn_1 ?_ | refine Looks.at tn_2 ?_ | refine Looks.at tn_3 ?_ | refine Looks.at tn_4 ?_ | refine Looks.at tn_5 ?_
  | refine Looks.at tn_6 ?_ | refine Looks.at tn_7 ?_ | refine Looks.at tn_8 ?_ | refine Looks.at tn_9 ?_ | refine Looks.at tn_10 ?_
  | refine Looks.at tn_11 ?_ | refine Looks.at tn_12 ?_ | refine Looks.at tn_13 ?_ | refine Looks.at tn_14 ?_
  | refine Looks.at (by assumption) ?_
  | refine wpAny_bind ?_ | refine nd_bind ?_ | refine wpAny_holding ?_ | refine wpAny_onRaise ?_ | refine nd_try ?_ | refine wpAny_call ?_ | refine wpAny_runValue ?_
  | refine nd_pure ?_ | refine kn_load (by assumption) ?_ | refine nd_rule ?_ | refine nd_point ?_ | refine nd_ask ?_ | refine kn_fresh ?_ | refine kn_alloc ?_)
  | k_node)

section
variable {α : Type} {M : Model} {A : Around} {Q : α → Shared → Prop} {E : Value → Shared → Prop} {s : Shared}
theorem wa_neg {c : Prop} [Decidable c] {a b : Sem α} (hc : ¬ c) (q : wpAny M A b Q E s) : wpAny M A (if c then a else b) Q E s := by rw [if_neg hc]; exact q
theorem wa_pos {c : Prop} [Decidable c] {a b : Sem α} (hc : c) (q : wpAny M A a Q E s) : wpAny M A (if c then a else b) Q E s := by rw [if_pos hc]; exact q
theorem not_of_false {b : Bool} (e : b = false) : ¬ (b = true) := by rw [e]; exact Bool.false_ne_true
end
section
variable {prog : Program} {w : World} {A : Around} {E : Value → Shared → Prop} {h : Heap} {g : Array GenState} {d : Drawn} {t : Nat} {os : OsState}
open Builtin
set_option maxHeartbeats 0 in
theorem slots_read {es : Array DictEntry} {sl : Addr} {u tk : Tok} {x : Int} {Q : Slots.Plan → Shared → Prop} (hsl : LstAt h sl [.str "obj" u]) (hl : ∃ o, h.get? (h.objs.size - 1) = some o) (hf : es.find? (·.key.isStr "__slots__") = some ⟨x, .str "__slots__" tk, .ref sl⟩)
    (hno : (es.any fun e => e.key.isStr "obj") = false) (q : ∀ h', Ext Nil h h' → Q { names := ["obj"], dict := false, weak := false, inherited := [] } ⟨h', g, d, t, os⟩) : wpAny (model prog w) A (Slots.read "K" [.type "object"] es) Q E ⟨h, g, d, t, os⟩ := by
  unfold Slots.read
  rw [hf]
  obtain ⟨n, e⟩ := hsl
  repeat (first | with_reducible refine wpAny_collect_seq sl (.inl rfl) e rfl rfl ?_ (Nat.le_of_ble_eq_true (by kernel_rfl)) | walk_at "m tn")
  intro h' hk
  have x1 : Ext Nil h h' := by
    obtain ⟨o, ho⟩ := hl
    refine .of hk ?_
    exact Nat.le_of_pred_lt (Heap.lt_size (hk _ _ ho))
  repeat walk_at "m tn"
  rw [show Slots.isIdentifier (Str.ofString "obj") = some true by kernel_rfl]
  repeat walk_at "m tn"
  have hm : ∀ m, m = ("obj" : Str) → (es.any fun x => x.key.isStr m) = false := fun m e => e ▸ hno
  refine wa_neg (not_of_false ?_) ?_
  · rw [hm _ (by kernel_rfl)]; rfl
  repeat walk_at "m tn"
  refine Eq.mpr (congrArg (fun p => Q p _) ?_) (q h' x1)
  kernel_rfl
end

/-- while the class is made: since h0 its object and its namespace alone are changed -/
structure Mk (h0 h : Heap) (C N : Addr) (o : Obj) (ls : List (Str × Value)) : Prop where
  ext : Ext (fun b => b = C ∨ b = N) h0 h
  c : h.get? C = some o
  n : CNs h N ls
  ne : C ≠ N
section
variable {prog : Program} {w : World} {A : Around} {E : Value → Shared → Prop} {h0 h : Heap} {g : Array GenState} {d : Drawn} {t : Nat} {os : OsState} {C N : Addr} {o : Obj} {ls : List (Str × Value)}
theorem Mk.updC {h' : Heap} {o' : Obj} (K : Mk h0 h C N o ls) (hs : Heap.SameBut C h h') (e : h'.get? C = some o') : Mk h0 h' C N o' ls where
  ext := K.ext.same hs fun _ => .inl rfl
  c := e
  n := let ⟨es, ep, e, r⟩ := K.n; ⟨es, ep, (hs.2 N fun q => K.ne q.symm).trans e, r⟩
  ne := K.ne
theorem Mk.updN {h' : Heap} {ls' : List (Str × Value)} (K : Mk h0 h C N o ls) (hs : Heap.SameBut N h h') (e : CNs h' N ls') : Mk h0 h' C N o ls' where
  ext := K.ext.same hs fun _ => .inr rfl
  c := (hs.2 C K.ne).trans K.c
  n := e
  ne := K.ne
theorem Mk.keep {h' : Heap} (K : Mk h0 h C N o ls) (x : Ext Nil h h') : Mk h0 h' C N o ls where
  ext := K.ext.then x fun _ _ z => z.elim
  c := x.nil _ _ K.c
  n := K.n.keep x
  ne := K.ne
theorem Mk.re (K : Mk h0 h C N o ls) : Mk h h C N o ls := ⟨.refl, K.c, K.n, K.ne⟩
theorem Mk.nlt (K : Mk h0 h C N o ls) : N < h.objs.size := Heap.lt_size K.n.get.choose_spec.1
theorem Mk.old {h₀ : Heap} (K : Mk h0 h C N o ls) (y : Ext Nil h₀ h0) (hC : h₀.objs.size ≤ C) (hN : h₀.objs.size ≤ N) : Ext Nil h₀ h :=
  y.then K.ext fun b hb z => by
    rcases z with z | z
    · exact absurd (z ▸ hb) (Nat.not_lt.mpr hC)
    · exact absurd (z ▸ hb) (Nat.not_lt.mpr hN)
theorem Mk.cast {ls' : List (Str × Value)} {o' : Obj} (K : Mk h0 h C N o ls) (e : ls = ls') (e' : o = o') : Mk h0 h C N o' ls' := e ▸ e' ▸ K
theorem Mk.slot {i : Nat} {v : Option Value} {cd : ClassData} {cl : Value} {dc : Option Addr} {sl : Array (Option Value)} {Q : Unit → Shared → Prop} (K : Mk h0 h C N ⟨cl, dc, .cls cd, sl⟩ ls) (hi : i < 1000)
    (q : ∀ h', Mk h0 h' C N ⟨cl, dc, .cls cd, (sl ++ Array.replicate (i + 1 - sl.size) none).setIfInBounds i v⟩ ls → h'.objs.size = h.objs.size → Q () ⟨h', g, d, t, os⟩) : wpAny (model prog w) A (setSlotAt C i v) Q E ⟨h, g, d, t, os⟩ := by
  unfold setSlotAt
  refine wa_neg (by rw [sizeLine_eq]; omega) ?_
  have hs := Heap.SameBut.update h C fun o => { o with slots := (o.slots ++ Array.replicate (i + 1 - o.slots.size) none).setIfInBounds i v }
  exact wpAny_updatePart K.c (q _ (K.updC hs (Heap.get?_update_self _ K.c rfl)) hs.1)
theorem Mk.cls {f : ClassData → ClassData} {cd : ClassData} {cl : Value} {dc : Option Addr} {sl : Array (Option Value)} {Q : Unit → Shared → Prop} (K : Mk h0 h C N ⟨cl, dc, .cls cd, sl⟩ ls)
    (q : ∀ h', Mk h0 h' C N ⟨cl, dc, .cls (f cd), sl⟩ ls → h'.objs.size = h.objs.size → Q () ⟨h', g, d, t, os⟩) (hp : (Data.cls (f cd)).pastItsLine = none := by kernel_rfl) : wpAny (model prog w) A (updateCls C f) Q E ⟨h, g, d, t, os⟩ := by
  unfold updateCls
  refine wpAny_bind (wpAny_load K.c ?_)
  have hs := Heap.SameBut.update h C (Obj.mapCls f)
  have e := Heap.get?_update_self (Obj.mapCls f) K.c rfl
  exact wpAny_bind (wpAny_update K.c (wpAny_lookBehind e hp (q _ (K.updC hs e) hs.1)))
theorem Mk.get {n : Str} {Q : Option Value → Shared → Prop} (K : Mk h0 h C N o ls) (q : Q (ls.lookup n) ⟨h, g, d, t, os⟩) : wpAny (model prog w) A (nsGet N n) Q E ⟨h, g, d, t, os⟩ := wpAny_nsGet (s := ⟨h, g, d, t, os⟩) K.n.ns q
theorem Mk.hit {n : Str} {v : Value} {Q : Option Value → Shared → Prop} (K : Mk h0 h C N o ls) (e : ls.lookup n = some v) (q : Q (some v) ⟨h, g, d, t, os⟩) : wpAny (model prog w) A (nsGet N n) Q E ⟨h, g, d, t, os⟩ := K.get (e ▸ q)
theorem Mk.miss {n : Str} {Q : Option Value → Shared → Prop} (K : Mk h0 h C N o ls) (e : ls.lookup n = none) (q : Q none ⟨h, g, d, t, os⟩) : wpAny (model prog w) A (nsGet N n) Q E ⟨h, g, d, t, os⟩ := K.get (e ▸ q)
theorem Mk.set {n : Str} {v : Value} {Q : Unit → Shared → Prop} (K : Mk h0 h C N o ls) (q : ∀ h', Mk h0 h' C N o (putL n v ls) → h'.objs.size = h.objs.size → Q () ⟨h', g, d, t + 1, os⟩) : wpAny (model prog w) A (nsSet N n v) Q E ⟨h, g, d, t, os⟩ :=
  K.n.set fun h' e hs => q h' (K.updN hs e) hs.1
theorem Mk.del {n : Str} {v : Value} {Q : Bool → Shared → Prop} (K : Mk h0 h C N o ls) (hv : ls.lookup n = some v) (q : ∀ h', Mk h0 h' C N o (dropL n ls) → h'.objs.size = h.objs.size → Q true ⟨h', g, d, t, os⟩) : wpAny (model prog w) A (nsDel N n) Q E ⟨h, g, d, t, os⟩ :=
  K.n.del hv fun h' e hs => q h' (K.updN hs e) hs.1
end

theorem cm_entry : entryFor table "classmethod_descriptor.__get__" = some Builtin.«classmethod_descriptor.__get__» := entryFor_of_tree (by kernel_rfl)
theorem cm_plain : plainId "classmethod_descriptor.__get__" = true := by decide +kernel
theorem cm_check1 (c : Value) : checkBuiltinCall "classmethod_descriptor.__get__" ⟨[.builtin "object.__init_subclass__", .none, c], []⟩ = pure () := by kernel_rfl
theorem cm_check2 (c : Value) : checkBuiltinCall "classmethod_descriptor.__get__" ⟨[.builtin "type.__prepare__", .none, c], []⟩ = pure () := by kernel_rfl
theorem is_entry : entryFor table "object.__init_subclass__" = some Builtin.«object.__init_subclass__» := entryFor_of_tree (by kernel_rfl)
abbrev oBm (f : String) (x : Value) : Obj := { cls := .type "builtin_function_or_method", data := .fields #[.builtin f, x] }
/-- the class's data while it is made -/
abbrev cdOf (C N : Addr) (dict : Bool) (slots : List Str) : ClassData := { name := "K", bases := [.type "object"], mro := [.ref C, .type "object"], ns := N, qualname := "cmp_to_key.<locals>.K", hasDict := dict, slotNames := slots }
section
variable {prog : Program} {w : World} {A : Around} {E : Value → Shared → Prop} {h : Heap} {g : Array GenState} {d : Drawn} {t : Nat} {os : OsState} {C : Addr} {oC : Obj} {cd : ClassData}
open Builtin
theorem sub_self {sl : Array (Option Value)} (hC : h.get? C = some ⟨.type "type", none, .cls cd, sl⟩) (hm : cd.mro = [.ref C, .type "object"]) : Looks (model prog w) h (isSubtype (.ref C) (.ref C)) true := by
  unfold isSubtype mroOf
  refine Looks.andThen (a := cd.mro) ?_ (Looks.of_pure ?_)
  · exact Looks.andThen (a := cd) (Looks.andThen (a := ⟨.type "type", none, .cls cd, sl⟩) (Looks.ld hC) .now) .now
  · rw [hm]; simp
theorem sub_obj {sl : Array (Option Value)} (hC : h.get? C = some ⟨.type "type", none, .cls cd, sl⟩) (hm : cd.mro = [.ref C, .type "object"]) : Looks (model prog w) h (isSubtype (.ref C) (.type "object")) true := by
  unfold isSubtype mroOf
  refine Looks.andThen (a := cd.mro) ?_ (Looks.of_pure ?_)
  · exact Looks.andThen (a := cd) (Looks.andThen (a := ⟨.type "type", none, .cls cd, sl⟩) (Looks.ld hC) .now) .now
  · rw [hm]; simp
theorem super_call {sl : Array (Option Value)} {Q : Value → Shared → Prop} (hC : h.get? C = some ⟨.type "type", none, .cls cd, sl⟩) (hm : cd.mro = [.ref C, .type "object"])
    (q : ∀ so h', Ext Nil h h' → h'.get? so = some { cls := .type "super", dict := none, data := .fields #[.ref C, .ref C, .ref C], slots := #[] } → Q (.ref so) ⟨h', g, d, t, os⟩) :
    wpAny (model prog w) A (call (.type "super") [.ref C, .ref C]) Q E ⟨h, g, d, t, os⟩ := by
  refine ks_callType_codesW (Q₁ := fun obj s₁ => obj = .ref h.objs.size ∧ s₁ = ⟨h.push { cls := .type "super", data := .fields #[.none, .none, .none] }, g, d, t, os⟩) F.ks_called_super (ks_wpAny_checkTypeCall_super hC rfl) F.ks_entry_super_init
    (ks_code_super_new _ _ ⟨rfl, rfl⟩) fun obj s₁ h₁ => ?_
  obtain ⟨rfl, rfl⟩ := h₁
  have y1 : Ext Nil h (h.push { cls := .type "super", data := .fields #[.none, .none, .none] }) := Ext.refl.push _
  have hso : (h.push { cls := .type "super", data := .fields #[.none, .none, .none] }).get? h.objs.size = some { cls := .type "super", dict := none, data := .fields #[.none, .none, .none], slots := #[] } := Heap.get?_push_at rfl rfl
  have hC' := y1.nil _ _ hC
  have hsub := sub_self (prog := prog) (w := w) hC' hm
  have hz : h.objs.size < (h.push { cls := .type "super", data := .fields #[.none, .none, .none] }).objs.size := Heap.lt_size hso
  generalize h.push { cls := .type "super", data := .fields #[.none, .none, .none] } = h1 at y1 hso hC' hsub hz ⊢
  refine ⟨⟨_, hso, rfl⟩, F.ks_initArgs_super _ _ _, ?_⟩
  unfold Builtin.«super.__init__» noKeywords
  repeat (first | with_reducible refine ks_wpAny_super_set3 hso ?_ | with_reducible refine ks_wpAny_isType_cls hC' rfl ?_ | walk_at "m tn")
  intro h' e k
  exact ⟨rfl, q _ h' ⟨Nat.le_of_lt (Heap.lt_size e), fun b o eb _ => k b o (Nat.ne_of_lt (Heap.lt_size eb)) (y1.nil _ _ eb)⟩ e⟩
section
variable {M : Model}
theorem sp_1 : Looks M h (typeLookup (.type "super") "__getattribute__") (some (.builtin "super.__getattribute__")) := pk (by kernel_rfl)
theorem sp_2 : Looks M h (typeLookup (.type "super") "__getattr__") none := pk (by kernel_rfl)
end
theorem opaque_none {sl : Array (Option Value)} (S : Sta h) (hC : h.get? C = some ⟨.type "type", none, .cls cd, sl⟩) (hm : cd.mro = [.ref C, .type "object"]) : Looks (model prog w) h (opaqueClassAbove (.ref C)) none := by
  have L1 : Looks (model prog w) h (nsGet cStatics "thirdparty.any") none := fun A Q E s k q => wpAny_nsGet (s := s) (m := fun _ => none) ⟨_, _, _, k _ _ S.st2, rfl, fun e he => by simp at he, fun _ => rfl⟩ q
  intro A Q E s k q
  obtain ⟨h', g', d', t', os'⟩ := s
  have L1' := L1.keeps k
  have hC' := k _ _ hC
  unfold opaqueClassAbove
  repeat walk_at "m tn"
  exact q
theorem class_get {N : Addr} {dict : Bool} {slots : List Str} {sl : Array (Option Value)} {R : Result → Shared → Prop} (hC : h.get? C = some ⟨.type "type", none, .cls (cdOf C N dict slots), sl⟩)
    (q : ∀ b h', Ext Nil h h' → h'.get? b = some (oBm "object.__init_subclass__" (.ref C)) → R (.ok (.ret (.ref b))) ⟨h', g, d, t, os⟩) :
    codeAny (model prog w) A (.call (.builtin "classmethod_descriptor.__get__") ⟨[.builtin "object.__init_subclass__", .none, .ref C], []⟩) R ⟨h, g, d, t, os⟩ := by
  refine codeAny_call_builtin cm_plain cm_entry (wpAny_of_eq (cm_check1 _) ?_)
  unfold Builtin.«classmethod_descriptor.__get__»
  have L := sub_obj (prog := prog) (w := w) hC rfl
  repeat walk_at "m tn"
  exact q _ _ (Ext.refl.push _) (Heap.get?_push_size _ rfl)
set_option maxHeartbeats 0 in
theorem super_get {so : Addr} {sl : Array (Option Value)} {Q : Value → Shared → Prop} {N : Addr} {dict : Bool} {slots : List Str} (S : Sta h) (hC : h.get? C = some ⟨.type "type", none, .cls (cdOf C N dict slots), sl⟩)
    (hso : h.get? so = some { cls := .type "super", dict := none, data := .fields #[.ref C, .ref C, .ref C], slots := #[] })
    (q : ∀ b h' t', Ext Nil h h' → h'.get? b = some (oBm "object.__init_subclass__" (.ref C)) → Q (.ref b) ⟨h', g, d, t', os⟩) :
    wpAny (model prog w) A (getAttr (.ref so) "__init_subclass__") Q E ⟨h, g, d, t, os⟩ := by
  unfold getAttr
  repeat (first | with_reducible refine Looks.at sp_1 ?_ | with_reducible refine Looks.at sp_2 ?_ | walk_at "m tn")
  refine codeAny_call_builtin F.ks_slot_super_ga.plain F.ks_entry_super_ga (F.ks_slot_super_ga.check _ _ _ _ _ _ _ _ ⟨_, hso, rfl⟩ (F.ks_gaArgs_super _ _) ?_)
  unfold Builtin.«super.__getattribute__»
  have hno := opaque_none (prog := prog) (w := w) S hC rfl
  have hst2 : h.get? cStatics = some { cls := .none, data := .dict #[] 0 } := S.st2
  have hafter : (List.dropWhile (fun x => x != #[Value.ref C, Value.ref C, Value.ref C][0]) (cdOf C N dict slots).mro).drop 1 = [.type "object"] := by simp
  have hif : (if (#[Value.ref C, Value.ref C, Value.ref C][1] == #[Value.ref C, Value.ref C, Value.ref C][2]) = true then Value.none else #[Value.ref C, Value.ref C, Value.ref C][1]) = Value.none := by simp
  repeat (first | rw [hafter] | rw [hif] | with_reducible refine ks_wpAny_notOpaque hno ?_ | with_reducible refine Looks.at sp_1 ?_ | with_reducible refine Looks.at sp_2 ?_ | walk_at "m tn")
  refine class_get hC ?_
  intro b h' y' e'
  repeat walk_at "m tn"
  exact q b h' _ y' e'
set_option maxHeartbeats 0 in
theorem init_sub {b N : Addr} {dict : Bool} {slots : List Str} {sl : Array (Option Value)} {Q : Value → Shared → Prop} (hC : h.get? C = some ⟨.type "type", none, .cls (cdOf C N dict slots), sl⟩) (hb : h.get? b = some (oBm "object.__init_subclass__" (.ref C)))
    (q : Q .none ⟨h, g, d, t, os⟩) : wpAny (model prog w) A (call (.ref b) [] []) Q E ⟨h, g, d, t, os⟩ := by
  refine wpAny_call (codeAny_of_tree ?_)
  show wpAny _ A.in1 (callAny (.ref b) _) _ _ _
  unfold callAny
  have L := sub_obj (prog := prog) (w := w) hC rfl
  repeat walk_at "m tn"
  refine ⟨Code.quiet_builtin _ (by decide +kernel), codeAny_builtin is_entry ?_⟩
  unfold Builtin.«object.__init_subclass__»
  repeat walk_at "m tn"
  exact q
end

section
variable {prog : Program} {w : World} {A : Around} {R : Result → Shared → Prop} {h : Heap} {g : Array GenState} {d : Drawn} {t : Nat} {os : OsState}
open Builtin
abbrev bodyL (mv qv lv sa : Value) (sl fi fl fg fe fle fge : Addr) : List (Str × Value) := [("__module__", mv), ("__qualname__", qv), ("__firstlineno__", lv), ("__slots__", .ref sl), ("__init__", .ref fi), ("__lt__", .ref fl), ("__gt__", .ref fg), ("__eq__", .ref fe), ("__le__", .ref fle), ("__ge__", .ref fge), ("__hash__", .none), ("__static_attributes__", sa)]
theorem Ents.one {es : List DictEntry} {n : Str} {v : Value} {ls} (E : Ents es ((n, v) :: ls)) : ∃ x t r, es = ⟨x, .str n t, v⟩ :: r ∧ Ents r ls := by
  cases E with
  | cons x _ t _ E => exact ⟨x, t, _, rfl, E⟩
theorem Ents.none {es : List DictEntry} (E : Ents es []) : es = [] := by cases E; rfl
abbrev lkL (n : Str) (ls : List (Str × Value)) : Option Value := ls.lookup n
theorem tn_alloc {α : Type} {M : Model} {Q : α → Shared → Prop} {E : Value → Shared → Prop} {h1 : Heap} {es : List DictEntry} {ls : List (Str × Value)} {k : Addr → Sem α} (X : Ents es ls) (y : Ext Nil h h1)
    (q : ∀ N h2, CNs h2 N ls → Ext Nil h h2 → h.objs.size ≤ N → h2.objs.size = N + 1 → wpAny M A (k N) Q E ⟨h2, g, d, t, os⟩) : wpAny M A (.alloc { cls := .type "dict", data := .dict ⟨es⟩ } k) Q E ⟨h1, g, d, t, os⟩ :=
  kn_alloc (q _ _ ⟨_, _, Heap.get?_push_size _ rfl, X⟩ (y.push _) y.1 (Heap.size_push ..))
theorem tn_allocC {α : Type} {M : Model} {Q : α → Shared → Prop} {E : Value → Shared → Prop} {h2 : Heap} {N : Addr} {o : Obj} {ls : List (Str × Value)} {k : Addr → Sem α} (CN : CNs h2 N ls) (y : Ext Nil h h2) (hf : o.isFreed = false)
    (q : ∀ C h3, Mk h3 h3 C N o ls → Ext Nil h h3 → h.objs.size ≤ C → wpAny M A (k C) Q E ⟨h3, g, d, t, os⟩) : wpAny M A (.alloc o k) Q E ⟨h2, g, d, t, os⟩ :=
  kn_alloc (q _ _ ⟨.refl, Heap.get?_push_size _ hf, CN.keep (Ext.refl.push _), Nat.ne_of_gt (Heap.lt_size CN.get.choose_spec.1)⟩ (y.push _) y.1)
theorem CNs.hit {N : Addr} {ls : List (Str × Value)} {n : Str} {v : Value} {E : Value → Shared → Prop} {Q : Option Value → Shared → Prop} (K : CNs h N ls) (e : ls.lookup n = some v) (q : Q (some v) ⟨h, g, d, t, os⟩) : wpAny (model prog w) A (nsGet N n) Q E ⟨h, g, d, t, os⟩ := wpAny_nsGet (s := ⟨h, g, d, t, os⟩) K.ns (by rw [e]; exact q)
theorem CNs.miss {N : Addr} {ls : List (Str × Value)} {n : Str} {E : Value → Shared → Prop} {Q : Option Value → Shared → Prop} (K : CNs h N ls) (e : ls.lookup n = none) (q : Q none ⟨h, g, d, t, os⟩) : wpAny (model prog w) A (nsGet N n) Q E ⟨h, g, d, t, os⟩ := wpAny_nsGet (s := ⟨h, g, d, t, os⟩) K.ns (by rw [e]; exact q)
abbrev bodyM (mv lv sa : Value) (sl fi fl fg fe fle fge : Addr) : List (Str × Value) := [("__module__", mv), ("__firstlineno__", lv), ("__slots__", .ref sl), ("__init__", .ref fi), ("__lt__", .ref fl), ("__gt__", .ref fg), ("__eq__", .ref fe), ("__le__", .ref fle), ("__ge__", .ref fge), ("__hash__", .none), ("__static_attributes__", sa)]
abbrev bodyN (mv lv sa : Value) (sl fi fl fg fe fle fge D : Addr) : List (Str × Value) := [("__module__", mv), ("__firstlineno__", lv), ("__slots__", .ref sl), ("__init__", .ref fi), ("__lt__", .ref fl), ("__gt__", .ref fg), ("__eq__", .ref fe), ("__le__", .ref fle), ("__ge__", .ref fge), ("__hash__", .none), ("__static_attributes__", sa), ("obj", .ref D)]
theorem Ents.len {es : List DictEntry} {ls} (E : Ents es ls) : es.length = ls.length := by
  induction E with
  | nil => rfl
  | cons x n t v E ih => rw [List.length_cons, List.length_cons, ih]
theorem Mk.setV {E : Value → Shared → Prop} {h0 : Heap} {C N : Addr} {o : Obj} {ls : List (Str × Value)} {n : Str} {v : Value} {Q : Unit → Shared → Prop} (K : Mk h0 h C N o ls) (hl : ls.length ≤ 1000) (q : ∀ h', Mk h0 h' C N o (putL n v ls) → h'.objs.size = h.objs.size → Q () ⟨h', g, d, t + 1, os⟩) :
    wpAny (model prog w) A (nsSetByValue N n v) Q E ⟨h, g, d, t, os⟩ := by
  obtain ⟨es, ep, e, X⟩ := K.n
  unfold nsSetByValue
  refine wpAny_bind (wpAny_loadPart e ?_)
  have hz : es.size ≤ 1000 := by
    have := X.len
    rw [Array.length_toList] at this
    omega
  dsimp only
  have hn : ¬ ((decide (es.size > sizeLine) && noSuchName n es) = true) := by
    rw [Bool.and_eq_true, decide_eq_true_eq, sizeLine_eq]
    intro z
    omega
  rw [if_neg hn]
  exact K.set q
abbrev bodyO (mv lv sa : Value) (sl fi fl fg fe fle fge D : Addr) : List (Str × Value) := [("__module__", mv), ("__firstlineno__", lv), ("__slots__", .ref sl), ("__init__", .ref fi), ("__lt__", .ref fl), ("__gt__", .ref fg), ("__eq__", .ref fe), ("__le__", .ref fle), ("__ge__", .ref fge), ("__hash__", .none), ("__static_attributes__", sa), ("obj", .ref D), ("__doc__", .none)]
abbrev slK (bt : Addr) (un tq : Tok) : Array (Option Value) := #[some (.ref bt), none, some (.str "K" un), some (.str "cmp_to_key.<locals>.K" tq), some (.builtin "object.__new__"), some (.bool false)]
theorem Ents.mem {es : List DictEntry} {ls} (E : Ents es ls) {e : DictEntry} (he : e ∈ es) : ∃ x n t v, e = ⟨x, .str n t, v⟩ ∧ (n, v) ∈ ls := by
  induction E with
  | nil => cases he
  | cons x n t v E ih =>
    rcases List.mem_cons.mp he with rfl | he
    · exact ⟨x, n, t, v, rfl, .head _⟩
    · obtain ⟨x', n', t', v', e', m⟩ := ih he
      exact ⟨x', n', t', v', e', .tail _ m⟩
section
variable {M : Model}
theorem ts_1 : Looks M h (typeLookup (.type "str") "__set_name__") none := pk (by kernel_rfl)
theorem ts_2 : Looks M h (typeLookup (.type "int") "__set_name__") none := pk (by kernel_rfl)
theorem ts_3 : Looks M h (typeLookup (.type "list") "__set_name__") none := pk (by kernel_rfl)
theorem ts_4 : Looks M h (typeLookup (.type "function") "__set_name__") none := pk (by kernel_rfl)
theorem ts_5 : Looks M h (typeLookup (.type "NoneType") "__set_name__") none := pk (by kernel_rfl)
theorem ts_6 : Looks M h (typeLookup (.type "tuple") "__set_name__") none := pk (by kernel_rfl)
theorem ts_7 : Looks M h (typeLookup (.type "member_descriptor") "__set_name__") none := pk (by kernel_rfl)
end
local macro_rules | `(tactic| walk_at "m mk") => `(tactic| first
  | with_reducible refine Mk.slot (by assumption) (by decide) ?_ | with_reducible refine Mk.hit (by assumption) (by assumption) ?_ | with_reducible refine Mk.miss (by assumption) (by assumption) ?_
  | with_reducible refine Mk.setV (by assumption) (Nat.le_of_ble_eq_true (by kernel_rfl)) ?_ | with_reducible refine Mk.cls (by assumption) ?_ | with_reducible refine Mk.del (by assumption) (by assumption) ?_ | with_reducible refine Mk.set (by assumption) ?_
  | walk_at "m tn")
theorem Mk.alloc {α : Type} {M : Model} {Q : α → Shared → Prop} {E : Value → Shared → Prop} {h0 : Heap} {C N : Addr} {o o1 : Obj} {ls : List (Str × Value)} {k : Addr → Sem α} (K : Mk h0 h C N o ls)
    (q : ∀ D h', Mk h0 h' C N o ls → h'.get? D = some o1 → h.objs.size = D → wpAny M A (k D) Q E ⟨h', g, d, t, os⟩) (hf : o1.isFreed = false := by kernel_rfl) : wpAny M A (.alloc o1 k) Q E ⟨h, g, d, t, os⟩ :=
  kn_alloc (q _ _ (K.keep (Ext.refl.push _)) (Heap.get?_push_size _ hf) rfl)
set_option maxHeartbeats 0 in
theorem type_new {un : Tok} {bt ns : Addr} {ms : Str} {tm tl tq : Tok} {nl : Int} {st : Addr} {sts : List Value} {sl fi fl fg fe fle fge : Addr} {u : Tok} (S : Sta h) (hbt : h.get? bt = some (oTup [.type "object"])) (C : CNs h ns (bodyL (.str ms tm) (.str "cmp_to_key.<locals>.K" tq) (.int nl tl) (.ref st) sl fi fl fg fe fle fge)) (hns : 47 < ns) (hsl' : LstAt h sl [.str "obj" u]) (hst : h.get? st = some (oTup sts)) (hfn : ∀ f ∈ [fi, fl, fg, fe, fle, fge], ∃ fd, h.get? f = some (oFn fd)) (hl : ∃ o, h.get? (h.objs.size - 1) = some o)
    (q : ∀ C N D h' t', Ext Nil h h' → h'.get? C = some ⟨.type "type", none, .cls (cdOf C N false ["obj"]), slK bt un tq⟩ → CNs h' N (bodyO (.str ms tm) (.int nl tl) (.ref st) sl fi fl fg fe fle fge D) →
      (∃ tD, h'.get? D = some { cls := .type "member_descriptor", data := .fields #[.str "obj" tD, .ref C, .builtin "proto.slot", .builtin "proto.slot#set", .int 0 0] }) → R (.ok (.ret (.ref C))) ⟨h', g, d, t', os⟩) :
    codeAny (model prog w) A (.call (.builtin "type.__new__") ⟨[.type "type", .str "K" un, .ref bt, .ref ns], []⟩) R ⟨h, g, d, t, os⟩ := by
  refine codeAny_call_builtin tn_plain tn_entry (wpAny_of_eq (tn_check _ _ _) ?_)
  obtain ⟨⟨es⟩, ep, e, X⟩ := C
  have X0 : Ents es (bodyL (.str ms tm) (.str "cmp_to_key.<locals>.K" tq) (.int nl tl) (.ref st) sl fi fl fg fe fle fge) := X
  obtain ⟨x1, t1, es1, rfl, X1⟩ := X0.one
  obtain ⟨x2, t2, es2, rfl, X2⟩ := X1.one
  obtain ⟨x3, t3, es3, rfl, X3⟩ := X2.one
  obtain ⟨x4, t4, es4, rfl, X4⟩ := X3.one
  obtain ⟨x5, t5, es5, rfl, X5⟩ := X4.one
  obtain ⟨x6, t6, es6, rfl, X6⟩ := X5.one
  obtain ⟨x7, t7, es7, rfl, X7⟩ := X6.one
  obtain ⟨x8, t8, es8, rfl, X8⟩ := X7.one
  obtain ⟨x9, t9, es9, rfl, X9⟩ := X8.one
  obtain ⟨x10, t10, es10, rfl, X10⟩ := X9.one
  obtain ⟨x11, t11, es11, rfl, X11⟩ := X10.one
  obtain ⟨x12, t12, es12, rfl, X12⟩ := X11.one
  obtain rfl := X12.none
  clear X1 X2 X3 X4 X5 X6 X7 X8 X9 X10 X11 X12
  unfold «type.__new__»
  repeat walk_at "m tn"
  have eb : (if ((some #[Value.type "object"]).getD #[]).toList.isEmpty = true then [Value.type "object"] else ((some #[Value.type "object"]).getD #[]).toList) = [Value.type "object"] := by kernel_rfl
  rw [eb]
  have eg : ((some #[Value.type "object"]).getD #[]).toList = [Value.type "object"] := by kernel_rfl
  rw [eg]
  refine wa_neg (not_of_false ?_) ?_
  · rw [beq_eq_false_iff_ne]; exact Nat.ne_of_gt (Nat.lt_trans (by decide) hns)
  repeat (first | with_reducible refine slots_read (x := x4) (tk := t4) hsl' hl (by kernel_rfl) (by kernel_rfl) ?_ | walk_at "m tn")
  intro h1 y1
  repeat (first | with_reducible refine tn_alloc X0 y1 ?_ | walk_at "m tn")
  intro N h2 CN y2 hN1 hz
  obtain ⟨nsl, hsl⟩ := hsl'
  clear hl e y1
  repeat walk_at "m tn"
  refine wa_neg (not_of_false (by kernel_rfl)) ?_
  repeat walk_at "m tn"
  refine wa_neg (not_of_false (by kernel_rfl)) ?_
  repeat walk_at "m tn"
  refine wa_neg (not_of_false (by kernel_rfl)) ?_
  have q1 : lkL "__qualname__" (bodyL (.str ms tm) (.str "cmp_to_key.<locals>.K" tq) (.int nl tl) (.ref st) sl fi fl fg fe fle fge) = some (.str "cmp_to_key.<locals>.K" tq) := by kernel_rfl
  have q2 : lkL "__doc__" (bodyL (.str ms tm) (.str "cmp_to_key.<locals>.K" tq) (.int nl tl) (.ref st) sl fi fl fg fe fle fge) = none := by kernel_rfl
  repeat (first | with_reducible refine tn_allocC CN y2 rfl ?_ | with_reducible refine CNs.hit (by assumption) (by assumption) ?_ | with_reducible refine CNs.miss (by assumption) (by assumption) ?_ | walk_at "m tn")
  intro C h3 K y3 hC3
  clear q1 q2 CN y2 hz
  repeat walk_at "m mk"
  intro h4 K4 z4; clear K
  repeat walk_at "m mk"
  intro h5 K5 z5; clear K4
  repeat walk_at "m mk"
  intro h6 K6 z6; clear K5
  have q1 : lkL "__qualname__" (bodyL (.str ms tm) (.str "cmp_to_key.<locals>.K" tq) (.int nl tl) (.ref st) sl fi fl fg fe fle fge) = some (.str "cmp_to_key.<locals>.K" tq) := by kernel_rfl
  repeat walk_at "m mk"
  intro h7 K7' z7; clear K6 q1
  have K7 := K7'.cast (ls' := bodyM (.str ms tm) (.int nl tl) (.ref st) sl fi fl fg fe fle fge) (by kernel_rfl) rfl
  clear K7'
  have q1 : lkL "__new__" (bodyM (.str ms tm) (.int nl tl) (.ref st) sl fi fl fg fe fle fge) = none := by kernel_rfl
  have q2 : lkL "__init_subclass__" (bodyM (.str ms tm) (.int nl tl) (.ref st) sl fi fl fg fe fle fge) = none := by kernel_rfl
  have q3 : lkL "__class_getitem__" (bodyM (.str ms tm) (.int nl tl) (.ref st) sl fi fl fg fe fle fge) = none := by kernel_rfl
  have q4 : lkL "__classcell__" (bodyM (.str ms tm) (.int nl tl) (.ref st) sl fi fl fg fe fle fge) = none := by kernel_rfl
  have q5 : lkL "__classdictcell__" (bodyM (.str ms tm) (.int nl tl) (.ref st) sl fi fl fg fe fle fge) = none := by kernel_rfl
  repeat walk_at "m mk"
  rw [show List.filter (fun x => x != Value.ref C) [Value.ref C, Value.type "object"] = [Value.type "object"] by simp]
  repeat walk_at "m mk"
  intro h8 K8' z8; clear K7
  have K8 := K8'.cast (o' := ⟨.type "type", none, .cls (cdOf C N true []), #[some (.ref bt), none, some (.str "K" un), some (.str "cmp_to_key.<locals>.K" tq)]⟩) rfl (by kernel_rfl)
  clear K8'
  have c8 := K8.c
  repeat walk_at "m mk"
  intro h9 K9' z9; clear K8 c8
  have K9 := K9'.cast (o' := ⟨.type "type", none, .cls (cdOf C N true []), #[some (.ref bt), none, some (.str "K" un), some (.str "cmp_to_key.<locals>.K" tq), some (.builtin "object.__new__")]⟩) rfl (by kernel_rfl)
  clear K9'
  have c9 := K9.c
  repeat walk_at "m mk"
  refine wa_neg (not_of_false (by kernel_rfl)) ?_
  have q6 : lkL "obj" (bodyM (.str ms tm) (.int nl tl) (.ref st) sl fi fl fg fe fle fge) = none := by kernel_rfl
  repeat (first | with_reducible refine Mk.alloc (by assumption) ?_ | walk_at "m mk")
  intro D h10 K10' hD zD
  have y10 := K10'.old y3 hC3 hN1
  have nDC : ¬ (D = C ∨ D = N) := fun z => by
    rcases z with z | z
    · exact absurd (zD.trans z) (Nat.ne_of_gt (Heap.lt_size c9))
    · exact absurd (zD.trans z) (Nat.ne_of_gt K9.nlt)
  have K10 := K10'.re
  clear K9 c9 K10'
  have c10 := K10.c
  repeat walk_at "m mk"
  intro h11 K11' z11; clear K10 c10
  have K11 := K11'.cast (ls' := bodyN (.str ms tm) (.int nl tl) (.ref st) sl fi fl fg fe fle fge D) (by kernel_rfl) rfl
  clear K11'
  have c11 := K11.c
  repeat walk_at "m mk"
  intro h12 K12' z12; clear K11 c11
  have K12 := K12'.cast (o' := ⟨.type "type", none, .cls (cdOf C N false ["obj"]), #[some (.ref bt), none, some (.str "K" un), some (.str "cmp_to_key.<locals>.K" tq), some (.builtin "object.__new__")]⟩) rfl (by kernel_rfl)
  clear K12'
  have c12 := K12.c
  repeat walk_at "m mk"
  intro h13 K13' z13; clear K12 c12
  have K13 := K13'.cast (o' := ⟨.type "type", none, .cls (cdOf C N false ["obj"]), slK bt un tq⟩) rfl (by kernel_rfl)
  clear K13'
  have q7 : lkL "__doc__" (bodyN (.str ms tm) (.int nl tl) (.ref st) sl fi fl fg fe fle fge D) = none := by kernel_rfl
  repeat walk_at "m mk"
  intro h14 K14' z14; clear K13
  have K14 := K14'.cast (ls' := bodyO (.str ms tm) (.int nl tl) (.ref st) sl fi fl fg fe fle fge D) (by kernel_rfl) rfl
  clear K14' q1 q2 q3 q4 q5 q6 q7
  have q1 : lkL "__eq__" (bodyO (.str ms tm) (.int nl tl) (.ref st) sl fi fl fg fe fle fge D) = some (.ref fe) := by kernel_rfl
  have q2 : lkL "__hash__" (bodyO (.str ms tm) (.int nl tl) (.ref st) sl fi fl fg fe fle fge D) = some .none := by kernel_rfl
  obtain ⟨es, ep14, e14, X14⟩ := K14.n
  repeat (first | with_reducible refine loop_arr ?_ ?_ | walk_at "m mk")
  · intro e he Q' q'
    obtain ⟨x, n, tn, v, rfl, _⟩ := X14.mem he
    repeat walk_at "m mk"
    exact q'
  repeat (first | with_reducible refine loop_arr ?_ ?_ | walk_at "m mk")
  · intro e he Q' q'
    obtain ⟨x, n, tn, v, rfl, hv⟩ := X14.mem he
    have y14 := K14.old y10 hC3 hN1
    have v0 := K14.ext.get hD nDC
    have v1 := y14.nil _ _ hsl
    have v2 := y14.nil _ _ hst
    obtain ⟨fdi, wi⟩ := hfn fi (by simp)
    obtain ⟨fdl, wl⟩ := hfn fl (by simp)
    obtain ⟨fdg, wg⟩ := hfn fg (by simp)
    obtain ⟨fde, we⟩ := hfn fe (by simp)
    obtain ⟨fdle, wle⟩ := hfn fle (by simp)
    obtain ⟨fdge, wge⟩ := hfn fge (by simp)
    have vi := y14.nil _ _ wi
    have vl := y14.nil _ _ wl
    have vg := y14.nil _ _ wg
    have ve := y14.nil _ _ we
    have vle := y14.nil _ _ wle
    have vge := y14.nil _ _ wge
    simp only [bodyO, List.mem_cons, Prod.mk.injEq, List.not_mem_nil, or_false] at hv
    rcases hv with ⟨rfl, rfl⟩ | ⟨rfl, rfl⟩ | ⟨rfl, rfl⟩ | ⟨rfl, rfl⟩ | ⟨rfl, rfl⟩ | ⟨rfl, rfl⟩ | ⟨rfl, rfl⟩ | ⟨rfl, rfl⟩ | ⟨rfl, rfl⟩ | ⟨rfl, rfl⟩ | ⟨rfl, rfl⟩ | ⟨rfl, rfl⟩ | ⟨rfl, rfl⟩
    all_goals repeat (first | with_reducible refine Looks.at ts_1 ?_ | with_reducible refine Looks.at ts_2 ?_ | with_reducible refine Looks.at ts_3 ?_ | with_reducible refine Looks.at ts_4 ?_ | with_reducible refine Looks.at ts_5 ?_ | with_reducible refine Looks.at ts_6 ?_ | with_reducible refine Looks.at ts_7 ?_ | walk_at "m mk")
    all_goals exact q'
  have c14 := K14.c
  have y14 := K14.old y10 hC3 hN1
  have v0 := K14.ext.get hD nDC
  have n14 := K14.n
  repeat (first | with_reducible refine super_call c14 rfl ?_ | walk_at "m mk")
  intro so h15 y15 eso
  repeat (first | with_reducible refine super_get (S.keep (y14.then y15 fun _ _ z => z)) (y15.nil _ _ c14) eso ?_ | walk_at "m mk")
  intro b h16 t16 y16 eb
  repeat (first | with_reducible refine init_sub (y16.nil _ _ (y15.nil _ _ c14)) eb ?_ | walk_at "m mk")
  refine q C N D h16 _ ((y14.then y15 fun _ _ z => z).then y16 fun _ _ z => z) (y16.nil _ _ (y15.nil _ _ c14)) ((n14.keep y15).keep y16) ⟨t, ?_⟩
  rw [y16.nil _ _ (y15.nil _ _ v0)]
  kernel_rfl
end

theorem ti_entry : entryFor table "type.__init__" = some Builtin.«type.__init__» := entryFor_of_tree (by kernel_rfl)
theorem ti_plain : plainId "type.__init__" = true := by decide +kernel
theorem ti_slot : Slot "type" "__init__" "type.__init__" := .of (owner := "type") (n := "__init__") (by rw [typeLookup_type, builtinLookup_eq_fast]; kernel_rfl) (by decide +kernel) (by decide +kernel) (by decide +kernel)
  (by first | exact .inl (by decide +kernel) | exact .inr (by decide +kernel)) (by rw [isSubtype_type]; kernel_rfl)
theorem ti_args (o a b c : Value) : argsOk "type.__init__" ⟨[o, a, b, c], []⟩ := by unfold argsOk; kernel_rfl
section
variable {M : Model} {h : Heap}
theorem tc_1 (a b c : Value) : Looks M h (checkTypeCall "type" ⟨[a, b, c], []⟩) () := pk (by kernel_rfl)
theorem tc_2 : Looks M h (Bind.madeBy (.type "type")) (some "type.__new__") := pk (by kernel_rfl)
theorem tc_3 : Looks M h (mroOf (.type "type")) [.type "type", .type "object"] := pk (by kernel_rfl)
theorem tc_4 : Looks M h (typeLookup (.type "type") "__init__") (some (.builtin "type.__init__")) := pk (by kernel_rfl)
end
section
variable {prog : Program} {w : World} {A : Around} {E : Value → Shared → Prop} {h : Heap} {g : Array GenState} {d : Drawn} {t : Nat} {os : OsState}
open Builtin
set_option maxHeartbeats 0 in
theorem type_call {un : Tok} {bt ns : Addr} {ms : Str} {tm tl tq : Tok} {nl : Int} {st : Addr} {sts : List Value} {sl fi fl fg fe fle fge : Addr} {u : Tok} {Q : Value → Shared → Prop} (S : Sta h) (hbt : h.get? bt = some (oTup [.type "object"]))
    (C : CNs h ns (bodyL (.str ms tm) (.str "cmp_to_key.<locals>.K" tq) (.int nl tl) (.ref st) sl fi fl fg fe fle fge)) (hns : 47 < ns) (hsl' : LstAt h sl [.str "obj" u]) (hst : h.get? st = some (oTup sts)) (hfn : ∀ f ∈ [fi, fl, fg, fe, fle, fge], ∃ fd, h.get? f = some (oFn fd)) (hl : ∃ o, h.get? (h.objs.size - 1) = some o)
    (q : ∀ C N D h' t', Ext Nil h h' → h'.get? C = some ⟨.type "type", none, .cls (cdOf C N false ["obj"]), slK bt un tq⟩ → CNs h' N (bodyO (.str ms tm) (.int nl tl) (.ref st) sl fi fl fg fe fle fge D) →
      (∃ tD, h'.get? D = some { cls := .type "member_descriptor", data := .fields #[.str "obj" tD, .ref C, .builtin "proto.slot", .builtin "proto.slot#set", .int 0 0] }) → Q (.ref C) ⟨h', g, d, t', os⟩) :
    wpAny (model prog w) A (call (.type "type") [.str "K" un, .ref bt, .ref ns]) Q E ⟨h, g, d, t, os⟩ := by
  refine wpAny_call (codeAny_of_tree ?_)
  show wpAny _ _ (callAny (.type "type") _) _ _ _
  refine wpAny_pure ⟨Code.quiet_builtin _ (by decide +kernel), codeAny_builtin F.entry_type_call ?_⟩
  unfold «type.__call__»
  repeat (first | with_reducible refine Looks.at (tc_1 _ _ _) ?_ | with_reducible refine Looks.at tc_2 ?_ | with_reducible refine Looks.at tc_3 ?_ | with_reducible refine Looks.at tc_4 ?_ | walk_at "m tn")
  refine type_new S hbt C hns hsl' hst hfn hl ?_
  intro C1 N D h1 t1 y1 e1 n1 d1
  repeat (first | with_reducible refine Looks.at tc_4 ?_ | walk_at "m tn")
  refine codeAny_call_builtin ti_plain ti_entry (ti_slot.check _ _ _ _ _ _ _ _ ⟨_, e1, rfl⟩ (ti_args _ _ _ _) ?_)
  unfold «type.__init__»
  repeat walk_at "m tn"
  exact q C1 N D h1 t1 y1 e1 n1 d1
end

section
variable {M : Model} {h : Heap}
theorem pr_1 : Looks M h (typeLookup (.type "type") "__getattribute__") (some (.builtin "type.__getattribute__")) := pk (by kernel_rfl)
theorem pr_2 : Looks M h (typeLookup (.type "type") "__getattr__") none := pk (by kernel_rfl)
end
theorem ga_entry : entryFor table "type.__getattribute__" = some Builtin.«type.__getattribute__» := entryFor_of_tree (by kernel_rfl)
theorem ga_plain : plainId "type.__getattribute__" = true := by decide +kernel
section
variable {prog : Program} {w : World} {A : Around} {E : Value → Shared → Prop} {h : Heap} {g : Array GenState} {d : Drawn} {t : Nat} {os : OsState}
open Builtin
set_option maxHeartbeats 0 in
theorem prep_get {Q : Option Value → Shared → Prop} (q : ∀ b h' t', Ext Nil h h' → h'.get? b = some (oBm "type.__prepare__" (.type "type")) → Q (some (.ref b)) ⟨h', g, d, t', os⟩) :
    wpAny (model prog w) A (getAttr? (.type "type") "__prepare__") Q E ⟨h, g, d, t, os⟩ := by
  unfold getAttr?
  repeat (first | with_reducible refine Looks.at pr_1 ?_ | with_reducible refine Looks.at pr_2 ?_ | with_reducible refine wpAny_attempt ?_ | walk_at "m tn")
  refine codeAny_call_builtin ga_plain ga_entry (wpAny_of_eq (show checkBuiltinCall "type.__getattribute__" ⟨[.type "type", .str "__prepare__" t], []⟩ = pure () by kernel_rfl) ?_)
  unfold «type.__getattribute__»
  repeat (first | with_reducible refine Looks.at pr_1 ?_ | with_reducible refine Looks.at pr_2 ?_ | walk_at "m tn")
  refine codeAny_call_builtin cm_plain cm_entry (wpAny_of_eq (cm_check2 _) ?_)
  unfold Builtin.«classmethod_descriptor.__get__»
  repeat walk_at "m tn"
  exact q _ _ _ (Ext.refl.push _) (Heap.get?_push_size _ rfl)
theorem pp_entry : entryFor table "type.__prepare__" = some Builtin.«type.__prepare__» := entryFor_of_tree (by kernel_rfl)
set_option maxHeartbeats 0 in
theorem prep_call {b bt : Addr} {un : Tok} {Q : Value → Shared → Prop} (hb : h.get? b = some (oBm "type.__prepare__" (.type "type")))
    (q : ∀ ns h', Ext Nil h h' → CNs h' ns [] → h.objs.size ≤ ns → Q (.ref ns) ⟨h', g, d, t, os⟩) : wpAny (model prog w) A (call (.ref b) [.str "K" un, .ref bt] []) Q E ⟨h, g, d, t, os⟩ := by
  refine wpAny_call (codeAny_of_tree ?_)
  show wpAny _ A.in1 (callAny (.ref b) _) _ _ _
  unfold callAny
  repeat walk_at "m tn"
  refine ⟨Code.quiet_builtin _ (by decide +kernel), codeAny_builtin pp_entry ?_⟩
  unfold Builtin.«type.__prepare__»
  repeat walk_at "m tn"
  exact q _ _ (Ext.refl.push _) ⟨_, _, Heap.get?_push_size _ rfl, .nil⟩ (Nat.le_refl _)
end

/-- what a class statement does behind the frame of its body -/
def bcRest (ce : Env) (line : Nat) (nameV bt : Value) (ns : Addr) : Sem Value := do
  (do storeName ce "__module__" (← loadName ce "__name__")
      storeName ce "__qualname__" (← mkText "cmp_to_key.<locals>.K")
      storeName ce "__firstlineno__" (← mkInt line)
      pure () : Sem Unit).onRaise (leavingAround ce)
  let _ ← run (.body (classBody classS) ce)
  (do storeName ce "__static_attributes__" (← newTextTuple (← ([("obj" : Str)]).mapM mkText))
      pure () : Sem Unit).onRaise (leavingAround ce)
  (call (.type "type") [nameV, bt, .ref ns] >>= fun cls => pure cls)
section
variable {prog : Program} {w : World} {A : Around} {E : Value → Shared → Prop} {BB : Nat} {h₀ h : Heap} {g : Array GenState} {d : Drawn} {t : Nat} {os : OsState} {ns c P cc fr : Addr} {f : Value} {ls : List (Str × Value)} {fns : List (Addr × Stmt × List (Str × Addr))} {lsts : List (Addr × List Value)}
theorem load_nm {Q : Value → Shared → Prop} (S : Sta h) (C : CNs h ns []) (q : Q (.str "law_dz0034_01" 198) ⟨h, g, d, t, os⟩) : wpAny (model prog w) A (loadName (kEnv ns c fr cc) "__name__") Q E ⟨h, g, d, t, os⟩ := by
  unfold loadName
  have h1 : ((kEnv ns c fr cc).scope.kind.isAnnotationScope && (kEnv ns c fr cc).kindOf "__classdict__" == some .free && ("__name__" : Str) != "__classdict__") = false := by kernel_rfl
  have h2 : (kEnv ns c fr cc).blockKind = .class := by kernel_rfl
  have h3 : (kEnv ns c fr cc).kindOf "__name__" = none := by kernel_rfl
  rw [h1, h2, h3]
  obtain ⟨o, e, hc⟩ := C.get
  have lg : wpAny (model prog w) A (loadGlobal (kEnv ns c fr cc) "__name__") Q E ⟨h, g, d, t, os⟩ := by
    obtain ⟨m, a, b, _⟩ := S.gl
    exact loadGlobal_global a (b ("__name__", .str "law_dz0034_01" 198) (by simp [gvals])) q
  have lo : wpAny (model prog w) A (localGet (kEnv ns c fr cc) "__name__") (fun r s' => r = none ∧ s' = ⟨h, g, d, t, os⟩) E ⟨h, g, d, t, os⟩ := by
    unfold localGet
    refine wpAny_bind (wpAny_load e ?_)
    rw [hc]
    exact CNs.miss (N := ns) C rfl ⟨rfl, rfl⟩
  have h4 : compilersOwnNames.contains "__name__" = true := by kernel_rfl
  simp only [Bool.false_eq_true, if_false, h4, Bool.not_true]
  refine wpAny_bind (wpAny_mono lo (fun r s' z => ?_) fun _ _ z => z)
  obtain ⟨rfl, rfl⟩ := z
  exact lg
theorem Bod.kok {ms : Str} {tm tq tl : Tok} {nl : Int} {st sl fi fl fg fe fle fge C N D bt : Addr} {u un : Tok} {h' : Heap} {ls : List (Str × Value)} (B : Bod BB h₀ h ns c P cc f ls
      [(fge, methS 7, [("mycmp", cc)]), (fle, methS 6, [("mycmp", cc)]), (fe, methS 5, [("mycmp", cc)]), (fg, methS 4, [("mycmp", cc)]), (fl, methS 3, [("mycmp", cc)]), (fi, methS 2, [])] [(sl, [.str "obj" u])])
    (x : Ext Nil h h') (hC : h'.get? C = some ⟨.type "type", none, .cls (cdOf C N false ["obj"]), slK bt un tq⟩) (hN : CNs h' N (bodyO (.str ms tm) (.int nl tl) (.ref st) sl fi fl fg fe fle fge D))
    (hD : ∃ tD, h'.get? D = some { cls := .type "member_descriptor", data := .fields #[.str "obj" tD, .ref C, .builtin "proto.slot", .builtin "proto.slot#set", .int 0 0] }) :
    KOk h' ⟨C, N, D, fi, fl, fg, fe, fle, fge⟩ cc f := by
  obtain ⟨es, ep, e, X⟩ := hN
  exact
  { cls := ⟨_, hC, rfl⟩
    ns := ⟨_, es, ep, _, _, _, _, e, rfl, rfl, X.keys, fun n => by rw [X.find n]; rfl⟩
    d := hD
    fi := (B.fns (fi, methS 2, []) (by simp)).ext x softX_nil
    fl := (B.fns (fl, methS 3, [("mycmp", cc)]) (by simp)).ext x softX_nil
    fg := (B.fns (fg, methS 4, [("mycmp", cc)]) (by simp)).ext x softX_nil
    fe := (B.fns (fe, methS 5, [("mycmp", cc)]) (by simp)).ext x softX_nil
    fle := (B.fns (fle, methS 6, [("mycmp", cc)]) (by simp)).ext x softX_nil
    fge := (B.fns (fge, methS 7, [("mycmp", cc)]) (by simp)).ext x softX_nil
    cell := x.isCell B.cel id }
theorem FnAt.obj {f : Addr} {s : Stmt} {clo : List (Str × Addr)} (F : FnAt h f s clo) : ∃ fd, h.get? f = some (oFn fd) := let ⟨pm, code, ct, doc, a, b⟩ := F; ⟨_, a⟩
theorem bc_rest {line : Nat} {bt : Addr} {un : Tok} {Q : Value → Shared → Prop} (B : Bod BB h₀ h ns c P cc f [] [] []) (hUp : Up BB P) (hz0 : BB ≤ h₀.objs.size) (hbt : h₀.get? bt = some (oTup [.type "object"]))
    (q : ∀ k h' t', Ext (XT BB h₀) h₀ h' → KOk h' k cc f → TabC BB h' → Q (.ref k.C) ⟨h', g, d, t', os⟩) :
    wpAny (model prog w) A (bcRest (kEnv ns c fr cc) line (.str "K" un) (.ref bt) ns) Q E ⟨h, g, d, t, os⟩ := by
  unfold bcRest
  refine wpAny_bind (wpAny_onRaise (wpAny_bind (load_nm B.S B.C (wpAny_bind (B.store (.inl (by kernel_rfl)) fun h1 t1 B1 => ?_)))))
  refine wpAny_bind (wpAny_mkText (wpAny_bind (B1.store (.inr ⟨by kernel_rfl, by kernel_rfl⟩) fun h2 t2 B2 => ?_)))
  dsimp only
  refine wpAny_bind (wpAny_mkInt (wpAny_bind (B2.store (.inr ⟨by kernel_rfl, by kernel_rfl⟩) fun h3 t3 B3 => ?_)))
  dsimp only at B3 ⊢
  have B3 := B3.cast (ls' := [("__module__", .str "law_dz0034_01" 198), ("__qualname__", .str "cmp_to_key.<locals>.K" t1), ("__firstlineno__", .int line t2)]) (by kernel_rfl)
  refine wpAny_pure (wpAny_bind (wpAny_run (codeAny_body (by kernel_rfl) (by kernel_rfl) (body_run B3 fun h4 t4 mv sl u fi fl fg fe fle fge hmv B4 => ?_))))
  obtain ⟨tm, rfl⟩ := hmv
  dsimp only
  refine wpAny_bind (wpAny_onRaise (wpAny_bind ?_))
  rw [show List.mapM mkText [("obj" : Str)] = (do let x ← mkText "obj"; pure [x]) from rfl]
  refine wpAny_bind (wpAny_mkText (wpAny_pure ?_))
  dsimp only
  refine wpAny_bind (wpAny_bind (m := alloc _) (wpAny_alloc ?_))
  dsimp only
  refine wpAny_pure (wpAny_bind ?_)
  have B5' := B4.keep (Ext.refl.push (oTup [.str "obj" t4]))
  have hst : (h4.push (oTup [.str "obj" t4])).get? h4.objs.size = some (oTup [.str "obj" t4]) := Heap.get?_push_size _ rfl
  have hsz := Heap.size_push h4 (oTup [.str "obj" t4])
  have B5 : Bod BB h₀ (h4.push (oTup [.str "obj" t4])) ns c P cc f _ _ _ := B5'
  generalize h4.push (oTup [.str "obj" t4]) = h5 at B5 hst hsz
  generalize h4.objs.size = st at hst hsz ⊢
  clear B5' B4 B3 B2 B1
  rw [store_class (by kernel_rfl) (.inr ⟨by kernel_rfl, by kernel_rfl⟩)]
  refine CNs.local (env := kEnv ns c fr cc) B5.C fun h6 C6 hs6 => ?_
  have B6 := (B5.nsStep C6 hs6).cast (ls' := bodyL (.str "cpy313.functools" tm) (.str "cmp_to_key.<locals>.K" t1) (.int line t2) (.ref st) sl fi fl fg fe fle fge) (by kernel_rfl)
  have hst6 : h6.get? st = some (oTup [.str "obj" t4]) := (hs6.2 st (fun q => by
    obtain ⟨es, ep, e, _⟩ := B5.C
    have q : st = ns := q
    subst q; rw [hst] at e; simp at e)).trans hst
  have hsz6 : h6.objs.size = st + 1 := by rw [hs6.1, hsz]
  clear B5 C6 hs6
  refine wpAny_pure (wpAny_bind ?_)
  refine type_call B6.S (B6.x.get hbt (XT.not_tup hbt)) B6.C B6.hns (B6.lst (sl, [.str "obj" u]) (by simp)) hst6 ?_ ⟨_, by rw [hsz6]; exact hst6⟩ ?_
  · intro z hz'
    simp only [List.mem_cons, List.not_mem_nil, or_false] at hz'
    rcases hz' with rfl | rfl | rfl | rfl | rfl | rfl
    · exact (B6.fns (_, methS 2, []) (by simp)).obj
    · exact (B6.fns (_, methS 3, [("mycmp", cc)]) (by simp)).obj
    · exact (B6.fns (_, methS 4, [("mycmp", cc)]) (by simp)).obj
    · exact (B6.fns (_, methS 5, [("mycmp", cc)]) (by simp)).obj
    · exact (B6.fns (_, methS 6, [("mycmp", cc)]) (by simp)).obj
    · exact (B6.fns (_, methS 7, [("mycmp", cc)]) (by simp)).obj
  · intro C N D h7 t7 x7 hC hN hD
    have K := B6.kok x7 hC hN hD
    refine wpAny_pure (q _ h7 t7 (B6.x.then x7 fun _ _ z => z.elim) K ?_)
    exact (B6.D.ext x7 softX_nil id).done (Nat.le_trans hz0 (Nat.le_trans B6.x.1 x7.1)) hUp (B6.T.keep x7)
end

section
variable {prog : Program} {w : World} {A : Around} {E : Value → Shared → Prop} {h : Heap} {g : Array GenState} {d : Drawn} {t : Nat} {os : OsState}
open Builtin
theorem to_1 {M : Model} : Looks M h (typeOf (.type "object")) (.type "type") := pk (by kernel_rfl)
theorem di_1 {M : Model} : Looks M h (typeLookup (.type "dict") "__getitem__") (some (.builtin "dict.__getitem__")) := pk (by kernel_rfl)
theorem guard_ok {env : Env} {Q : Unit → Shared → Prop} (S : Sta h) (hb : env.builtins = builtinsNs) (q : Q () ⟨h, g, d, t, os⟩) : wpAny (model prog w) A (buildClassGuard env) Q E ⟨h, g, d, t, os⟩ := by
  obtain ⟨m, a, _, e⟩ := S.bl
  unfold buildClassGuard
  rw [hb]
  refine wpAny_bind (wpAny_nsGet (s := ⟨h, g, d, t, os⟩) a ?_)
  rw [e]
  exact wpAny_pure q
theorem evalArgs_false {M : Model} {s : Shared} {f : Value} {trees : List (Bool × Sem Value)} {Q : Args → Shared → Prop} (q : wpAny M A (spliced trees) (fun vs s₁ => Q ⟨vs, []⟩ s₁) E s) : wpAny M A (evalArgs f false trees []) Q E s := by
  unfold evalArgs
  refine wpAny_bind (wpAny_mono q (fun vs s' h' => ?_) fun _ _ x => x)
  refine wpAny_bind (wpAny_pure (wpAny_holding ?_))
  exact wpAny_bind (wpAny_pure (wpAny_bind (wpAny_pure (wpAny_pure h'))))
theorem prep_call' {b bt : Addr} {un : Tok} {kw : List (Str × Value)} {Q : Value → Shared → Prop} (hb : h.get? b = some (oBm "type.__prepare__" (.type "type"))) (hk : kw = [])
    (q : ∀ ns h', Ext Nil h h' → CNs h' ns [] → h.objs.size ≤ ns → Q (.ref ns) ⟨h', g, d, t, os⟩) : wpAny (model prog w) A (call (.ref b) [.str "K" un, .ref bt] kw) Q E ⟨h, g, d, t, os⟩ := hk ▸ prep_call hb q
set_option maxHeartbeats 0 in
theorem build_class {BB : Nat} {env : Env} {line : Nat} {cc : Addr} {f : Value} {Q : Value → Shared → Prop} (S : Sta h) (T : TabC BB h) (hcode : env.code = .ref 20) (hg : env.globals = mainGlobals) (hb : env.builtins = builtinsNs) (hcl : closureFor (classScope classS) env = pure ([("mycmp", cc)] : List (Str × Addr))) (cel : h.IsCell cc (some f)) (hq : qualnameIn env "K" "K" = "cmp_to_key.<locals>.K") (hroom : A.depth + 2 < recursionLimit)
    (q : ∀ k h' t', Ext (XT BB h) h h' → KOk h' k cc f → TabC BB h' → Q (.ref k.C) ⟨h', g, d, t', os⟩) :
    wpAny (model prog w) A (buildClass "K" (qualnameIn env "K" "K") [.type "object"] [] (classBody classS) (classScope classS) ["obj"] line env (posIn classS) none) Q E ⟨h, g, d, t, os⟩ := by
  rw [hq]
  unfold buildClass
  repeat (first | with_reducible refine Looks.at to_1 ?_ | with_reducible refine prep_get ?_ | walk_at "m tn")
  intro b h2 t2 y2 eb
  repeat (first | with_reducible refine prep_call' eb (by kernel_rfl) ?_ | walk_at "m tn")
  intro ns h3 y3 C3 hns3
  have hns4 : 47 < ns := Nat.lt_of_lt_of_le (Nat.lt_of_lt_of_le (by decide) S.sz) (Nat.le_trans (Nat.le_trans (by rw [Heap.size_push]; exact Nat.le_succ _) y2.1) hns3)
  repeat walk_at "m tn"
  refine wa_neg (not_of_false ?_) ?_
  · rw [beq_eq_false_iff_ne]; exact Nat.ne_of_gt (Nat.lt_trans (by decide) hns4)
  obtain ⟨es3, ep3, e3, X3⟩ := C3
  have y03 : Ext Nil h h3 := ((Ext.refl (X := Nil)).push (oTup [.type "object"])).then (y2.then y3 fun _ _ z => z) fun _ _ z => z
  have S3 := S.keep y03
  have T3 := T.keep y03
  repeat (first | with_reducible refine Looks.at di_1 ?_ | with_reducible refine class_code S3 T3 hcode ?_ | walk_at "m tn")
  intro c P h4 t4 x4 D4 hP4 T4 hold
  have S4 := S3.ext x4 fun b e => .inl e
  obtain ⟨mg, hmg, ⟨bm, ob, b1, b2, b3, b4, b5, b6, b7, b8⟩, hgP⟩ := S4.bat (P := P) (.inr (.inr hP4.1))
  rw [hg, hb, hcl]
  have hx : Ext (XT BB (h.push (oTup [.type "object"]))) (h.push (oTup [.type "object"])) h4 := by
    refine ((y2.then y3 fun _ _ z => z).t0 (X := XT BB (h.push (oTup [.type "object"])))).then x4 fun b hb e => ?_
    subst e
    obtain ⟨hz, C, ps, e, tr, r⟩ := T.keep ((Ext.refl (X := Nil)).push (oTup [.type "object"]))
    exact ⟨⟨ps, e, tr⟩, .inl rfl⟩
  have hns0 : (h.push (oTup [.type "object"])).objs.size ≤ ns := Nat.le_trans y2.1 hns3
  repeat (first | with_reducible refine wpAny_builtinsFor (s := ⟨h4, g, d, t4, os⟩) hmg b1 b2 b5 b6 b7 b8 ?_ | with_reducible refine wpAny_nsGet (s := ⟨h4, g, d, t4, os⟩) hmg ?_ | with_reducible refine wpAny_enterFrame (s := ⟨_, g, d, t4, os⟩) ?hl (by omega) ?_ | walk_at "m tn")
  · exact (S4.keep (Ext.refl.push _)).nolimit
  change wpAny _ _ (bcRest (kEnv ns c h4.objs.size cc) line (.str "K" _) (.ref h.objs.size) ns) Q E _
  have y5 := (Ext.refl (h := h4) (X := Nil)).push { cls := Value.type "frame", slots := #[some (Value.ref c), some (Value.ref mainGlobals), some (Value.ref ns), none, some ((mg "__name__").getD Value.none), none, some (Value.ref builtinsNs)] }
  have C3 : CNs h3 ns [] := ⟨es3, ep3, e3, X3⟩
  have hX4 : SoftX (· = 16) h3 := by
    obtain ⟨hz, C, ps, e, tr, r⟩ := T3
    exact softX_tab e tr
  refine bc_rest (BB := BB) (h₀ := h.push (oTup [.type "object"])) (P := P) (f := f) ?_ hP4 (Nat.le_trans T.1 (by rw [Heap.size_push]; exact Nat.le_succ _)) (Heap.get?_push_size _ rfl) ?_
  · refine Bod.keep ?_ y5
    exact
    { S := S4
      C := C3.ext x4 hX4
      D := D4
      T := T4
      cel := x4.isCell (y03.isCell cel id) (fun e => by
        have e : cc = 16 := e
        subst e
        obtain ⟨o, e', r⟩ := y03.isCell cel id
        obtain ⟨hz, C, ps, e, tr, _⟩ := T3
        rw [e] at e'; cases e'; cases r)
      fns := fun p hp => nomatch hp
      lst := fun p hp => nomatch hp
      x := hx
      hP := hP4.1
      hns := hns4
      old := fun hlt => hold _ (y2.then y3 fun _ _ z => z) (T.keep (Ext.refl.push _)) hlt
      nsn := hns0 }
  · intro k h6 t6 x6 K6 T6
    exact q k h6 t6 (((Ext.refl (X := Nil)).push (oTup [.type "object"])).t0.tt x6) K6 T6
end

section
variable {prog : Program} {w : World} {A : Around} {E : Value → Shared → Prop} {h : Heap} {g : Array GenState} {d : Drawn} {t : Nat} {os : OsState}
set_option maxHeartbeats 0 in
theorem cmp_call {BB : Nat} {f : Value} {Q : Value → Shared → Prop} (S : Sta h) (T : TabC BB h) (hroom : A.depth + 5 < recursionLimit) (hf : handedIn f = true)
    (q : ∀ k c h' t', Ext (XT BB h) h h' → KOk h' k c f → TabC BB h' → h.objs.size ≤ c → Q (.ref k.C) ⟨h', g, d, t', os⟩) :
    wpAny (model prog w) A (call (.ref 21) [f]) Q E ⟨h, g, d, t, os⟩ := by
  refine wpAny_call (call_stmts (fd := fdCmp) (body := bodyOf (topS 1)) (fr := []) (binds := [("mycmp", f)]) (by omega) S.f21 rfl S.nolimit S.c20 (by kernel_rfl) (by kernel_rfl) ⟨nofun, nofun, nofun⟩ (bk_of (by kernel_rfl)) ?_ (by kernel_rfl) (by kernel_rfl) (by kernel_rfl))
  intro env h1 t1 he F x1 hcl hlt
  have F : Frm h1 env [("mycmp", f)] := F
  have S1 := S.keep x1
  have T1 := T.keep x1
  rw [show bodyOf (topS 1) = [classS, (bodyOf (topS 1)).getD 1 (.Pass ⟨0, 0, 0, 0⟩)] by kernel_rfl]
  refine wpAny_execs_cons ?_
  rw [class_is, arm_exec_ClassDef]
  subst he
  have hcells : (envOn fdCmp h.objs.size 21).cells = ([(("mycmp" : Str), (h.objs.size + 1 : Addr))] : List (Str × Addr)) := by kernel_rfl
  obtain ⟨cc, hc1, hc2⟩ := F.cel "mycmp" f (.inl (by kernel_rfl)) (by kernel_rfl)
  have hcc : cc = h.objs.size + 1 := by
    rw [hcells] at hc1
    have z : List.lookup ("mycmp" : Str) [(("mycmp" : Str), h.objs.size + 1)] = some (h.objs.size + 1) := by kernel_rfl
    rw [z] at hc1
    cases hc1; rfl
  subst hcc
  rw [show evalAll (evalEach [] (envOn fdCmp h.objs.size 21)) = pure [] from rfl]
  refine wpAny_bind (wpAny_pure (wpAny_bind (wpAny_standAt (wpAny_bind (guard_ok S1 rfl (wpAny_bind (wpAny_holding (wpAny_bind (evalArgs_false (args_cons ?_))))))))))
  walk_at "m glob"
  refine args_nil ?_
  refine wpAny_bind (wpAny_standAt (wpAny_holding ?_))
  refine build_class (cc := h.objs.size + 1) (f := f) S1 T1 (by kernel_rfl) (by kernel_rfl) (by kernel_rfl) (by kernel_rfl) hc2 (by kernel_rfl) (by show A.depth + 1 + 2 < _; omega) ?_
  intro k h2 t2 x2 K2 T2
  dsimp only
  have F2 : Frm h2 (envOn fdCmp h.objs.size 21) [("mycmp", f)] := by
    refine F.ext x2 ?_ fun n c e => ?_
    · obtain ⟨m, a, _⟩ := F.ns
      exact XT.not_ns a
    · rw [hcells] at e
      have e := mem_of_lookup e
      simp only [List.mem_cons, List.not_mem_nil, or_false, Prod.mk.injEq] at e
      rw [e.2]
      exact XT.not_cell hc2
  refine wpAny_bind (m := decorate [] (.ref k.C)) (wpAny_pure (wpAny_bind (wpAny_standAt (wpAny_bind (wpAny_bindName ?_)))))
  refine F2.st (.inl (by kernel_rfl)) ?_
  intro h3 t3 F3 x3 hs3
  refine wpAny_pure ?_
  dsimp only
  refine wpAny_execs_cons (wpAny_Return_some ?_)
  walk_at "m var"
  have hX3 := F2.softS "K"
  have x3' : Ext (StX (envOn fdCmp h.objs.size 21) "K") h2 h3 := x3
  have hlo : ∀ b, StX (envOn fdCmp h.objs.size 21) "K" b → b = h.objs.size := fun b z => by
    rcases z with ⟨_, z⟩ | ⟨z, _⟩
    · exact z
    · exact absurd (show (some NameKind.local) = some NameKind.cell from z) (by simp)
  refine q k (h.objs.size + 1) h3 t3 ?_ (K2.ext x3' hX3 (fun z => absurd (hlo _ z) (Nat.succ_ne_self _))) (T2.ext x3' hX3 (fun b z z' => ?_)) (Nat.le_succ _)
  · refine (x1.t0.tt x2).then x3' fun b hb z => absurd hb (Nat.not_lt.mpr (Nat.le_of_eq (hlo b z).symm))
  · obtain ⟨m, a, _⟩ := F2.ns
    rw [hlo b z'] at z
    exact XT.not_ns a z
end

/-- the frames of the functions that run -/
def Frs (h : Heap) (l : List Env) : Prop := ∀ env ∈ l, env.scope.kind ≠ .module ∧ ∃ L o, env.frame = some L ∧ h.get? L = some o ∧ ∀ vs, o.data ≠ .fields vs
theorem Frs.ext {X : Addr → Prop} {h h' : Heap} {l : List Env} (f : Frs h l) (x : Ext X h h') (hX : ∀ env ∈ l, ∀ a, env.frame = some a → ¬ X a) : Frs h' l := fun env he =>
  let ⟨hk, L, o, hf, ho, hd⟩ := f env he; ⟨hk, L, o, hf, x.get ho (hX env he L hf), hd⟩
theorem Frs.cons {h : Heap} {env : Env} {l : List Env} {ls : List (Str × Value)} (f : Frs h l) (F : Frm h env ls) (hf : env.frame = some env.locals) : Frs h (env :: l) := fun env' he => by
  rcases List.mem_cons.mp he with rfl | he
  · obtain ⟨m, ⟨o, es, ep, e, d, _⟩, _⟩ := F.ns
    exact ⟨by rw [F.fn]; decide, _, o, hf, e, fun vs q => by rw [d] at q; cases q⟩
  · exact f env' he
/-- what of a heap lies below z and is no frame -/
structure Low (z : Nat) (l : List Env) (h B : Heap) : Prop where
  of : ∀ b o, B.get? b = some o → h.get? b = some o
  no : ∀ b, (z ≤ b ∨ ∃ env ∈ l, env.frame = some b) → B.get? b = none
  has : ∀ b o, h.get? b = some o → b < z → (∀ env ∈ l, env.frame ≠ some b) → B.get? b = some o
theorem low_of (z : Nat) (l : List Env) (h : Heap) : Low z l h (hideAll h (l.filterMap (·.frame) ++ List.range' z (h.objs.size - z))) where
  of := fun b o e => of_hideAll _ e
  no := fun b hb => by
    rcases hb with hb | ⟨env, he, hf⟩
    · by_cases hz : b < h.objs.size
      · exact hideAll_none _ (List.mem_append.mpr (.inr (List.mem_range'_1.mpr ⟨hb, by omega⟩)))
      · cases q : (hideAll h (l.filterMap (·.frame) ++ List.range' z (h.objs.size - z))).get? b with
        | none => rfl
        | some o => exact absurd (Heap.lt_size (of_hideAll _ q)) hz
    · exact hideAll_none _ (List.mem_append.mpr (.inl (List.mem_filterMap.mpr ⟨env, he, hf⟩)))
  has := fun b o e hb hl => hideAll_get _ e fun hm => by
    rcases List.mem_append.mp hm with hm | hm
    · obtain ⟨env, he, hf⟩ := List.mem_filterMap.mp hm
      exact hl env he hf
    · exact absurd hb (Nat.not_lt.mpr (List.mem_range'_1.mp hm).1)
theorem Low.less {z : Nat} {l : List Env} {env : Env} {h B : Heap} (w : Low z (env :: l) h B) {L : Addr} (hf : env.frame = some L) (hz : z ≤ L) : Low z l h B where
  of := w.of
  no := fun b hb => w.no b (hb.imp id fun ⟨e, he, hf⟩ => ⟨e, .tail _ he, hf⟩)
  has := fun b o e hb hl => w.has b o e hb fun env' he' q => by
    rcases List.mem_cons.mp he' with rfl | he'
    · rw [hf] at q; cases q; exact absurd hb (Nat.not_lt.mpr hz)
    · exact hl env' he' q
theorem Frs.low {z : Nat} {h B : Heap} {l' : List Env} (w : Low z l' h B) : ∀ {l : List Env}, Frs h l → (∀ env ∈ l, env ∈ l') → h.FunFrames B l
  | [], _, _ => trivial
  | env :: _, f, hin => by
    obtain ⟨hk, L, o, hf, ho, hd⟩ := f env (.head _)
    exact ⟨hk, ⟨L, o, hf, w.no L (.inr ⟨env, hin env (.head _), hf⟩), ho, hd⟩, Frs.low w (fun e he => f e (.tail _ he)) fun e he => hin e (.tail _ he)⟩
section
variable {M : Model} {A : Around} {E : Value → Shared → Prop} {s : Shared}
theorem leaves_newW {base h : Heap} {env : Env} {outer : List Env} {L e : Addr} {cls : String} {Q : Unit → Shared → Prop}
    (hfr : A.frames = some (env :: outer)) (hf : env.frame = some L) (hkb : base.StaysIn h) (hl : h.FunFrames base (env :: outer)) (hx : Heap.NewExc h s.heap e cls)
    (hQ : ∀ h' a0, Heap.FlyingW base outer e (.type cls) a0 h' → s.heap.UpToSlots h' → Q () { s with heap := h' }) : wpAny M A (leaving env (.ref e)) Q E s := by
  obtain ⟨ob, t, he, hc, hd⟩ := hx.there
  have fresh : ∀ b, h.get? b = none → base.get? b = none := fun b hb => by
    cases hq : base.get? b with
    | none => rfl
    | some o' => have := hkb b o' hq; rw [hb] at this; cases this
  refine wpAny_leaving_firstW (a0 := t) hfr (hl.of_keeps fun b o hb _ => ⟨o, hx.keeps b o hb, rfl⟩) hf he (fun b o hb => hx.keeps b o (hkb b o hb)) (fresh e hx.new) hd rfl rfl fun h' hL => ?_
  obtain ⟨k1, ⟨_, _, k2⟩, k3, k4⟩ := hL
  exact hQ h' t ⟨k1, fresh e hx.new, k2, hc ▸ k3⟩ k4
end
section
variable {prog : Program} {w : World} {A : Around} {E : Value → Shared → Prop} {h : Heap} {g : Array GenState} {d : Drawn} {t : Nat} {os : OsState}

theorem shaky_spec {T N a b : Addr} {its vs : List Value} {ns : List Int} {lim : Nat} {tl : Tok} {i j : Nat} {xa xb : Value} {ti tj : Tok} {l : List Env} {z : Nat} {Q : Value → Shared → Prop}
    (S : Sta h) (hroom : A.depth + 1 < recursionLimit) (hfr : A.frames = some l) (hh : A.handled = none) (hff : Frs h l) (hfT : ∀ env ∈ l, ∀ a, env.frame = some a → a ≠ T) (hz : z ≤ h.objs.size)
    (hN : LstAt h N vs) (I : IntsAre vs ns) (hT : LstAt h T its) (hsz : its.length ≤ 50000) (ha : LstAt h a [xa, .int i ti]) (hb : LstAt h b [xb, .int j tj])
    (hi : i < ns.length) (hj : j < ns.length) (h48 : 47 < T) (hlen : ns.length ≤ 100) (hNT : N ≠ T) (haT : a ≠ T) (hbT : b ≠ T)
    (q : ∀ r u h' t' tp, Ext (· = T) h h' → LstAt h' T (its ++ [.ref tp]) → its.length + 1 ≤ lim → SameSign r (standOf ns i j) → Q (.int r u) ⟨h', g, d, t', os⟩)
    (qf : ∀ e a0 h5 h' t' tp B, Ext (· = T) h h5 → LstAt h5 T (its ++ [.ref tp]) → lim < its.length + 1 → Low z l h5 B → Heap.FlyingW B l e (.type "KeyError") a0 h' → h5.UpToSlots h' → h.objs.size ≤ h'.objs.size → E (.ref e) ⟨h', g, d, t', os⟩) :
    wpAny (model prog w) A (call (.ref 42) [.ref T, .int lim tl, .ref N, .ref a, .ref b]) Q E ⟨h, g, d, t, os⟩ := by
  refine wpAny_call (call_stmts (fd := fdShaky) (body := bodyOf (topS 5)) (fr := []) (binds := [("notes", .ref T), ("limit", .int lim tl), ("numbers", .ref N), ("a", .ref a), ("b", .ref b)]) (by omega) S.f42 rfl S.nolimit S.c41 (by kernel_rfl) (by kernel_rfl) ⟨nofun, nofun, nofun⟩ (bk_of (by kernel_rfl)) ?_ (by kernel_rfl) (by kernel_rfl) (by kernel_rfl))
  intro env h1 t1 he F x1 _ hlt
  have F : Frm h1 env [("b", .ref b), ("a", .ref a), ("numbers", .ref N), ("limit", .int lim tl), ("notes", .ref T)] := F
  subst he
  have S1 := S.keep x1
  refine wpAny_execs_cons (wpAny_Assign_Name (call_by ?_) (by kernel_rfl))
  walk_at "m glob"
  refine args_cons ?_
  walk_at "m var"
  refine args_cons ?_
  walk_at "m var"
  refine args_cons ?_
  walk_at "m int"
  refine args_cons ?_
  walk_at "m var"
  refine args_cons ?_
  walk_at "m var"
  refine args_nil ?_
  refine keeper_fn S1.f35 rfl fun _ => ?_
  refine answer_spec S1 (by show A.depth + 1 < _; exact hroom) (x1.lst hN id) I (x1.lst hT id) (by omega) (x1.lst ha id) (x1.lst hb id) hi hj h48 hlen hNT haT hbT ?_
  intro r u h2 t2 tp x2 hT2 htp hle hs
  have hs : SameSign r (standOf ns i j) := by simpa using hs
  have x12 : Ext (· = T) h h2 := x1.t0.then x2 fun _ _ z => z
  have F2 : Frm h2 (envOn fdShaky h.objs.size 42) [("b", .ref b), ("a", .ref a), ("numbers", .ref N), ("limit", .int lim tl), ("notes", .ref T)] :=
    F.ext x2 (Nat.ne_of_gt hT.lt) fun n c e => by cases e
  refine F2.stx (.inl (by kernel_rfl)) x12 (Nat.le_refl _) (fun c k => by cases k) ?_
  intro h3 t3 F3 x3 k3 k3' hz3
  have S3 := S.ext x3 fun b e => .inr (.inr (e ▸ h48))
  have hT3 : LstAt h3 T (its ++ [.ref tp]) := by
    obtain ⟨n, e⟩ := hT2
    exact ⟨n, k3 _ _ e hT.lt⟩
  refine wpAny_execs_cons (wpAny_If (wpAny_isTrue_Compare1 (call_by ?_)))
  walk_at "m glob"
  refine args_cons ?_
  walk_at "m var"
  refine args_nil ?_
  refine keeper_builtin fun _ => ?_
  refine len_lst hT3 (by simp; omega) fun u4 t4 => ?_
  walk_at "m var"
  refine gt_int (wpAny_truthy_bool ?_)
  by_cases hgt : lim < its.length + 1
  · rw [if_pos (by simp; omega)]
    refine wpAny_execs_cons (Raise_new hh ?_)
    refine call_by ?_
    walk_at "m glob"
    refine args_cons ?_
    walk_at "m var"
    refine args_nil ?_
    refine keeper_type fun _ => ?_
    refine call_exc_raise excClass_KeyError (fun h4 e hx => ?_) (Nat.le_of_ble_eq_true (by kernel_rfl))
    have hfr' : (A.deeper (envOn fdShaky h.objs.size 42)).frames = some (envOn fdShaky h.objs.size 42 :: l) := Around.frames_deeper hfr
    have lw := low_of z (envOn fdShaky h.objs.size 42 :: l) h3
    generalize hideAll h3 _ = B at lw
    have hz' : z ≤ (envOn fdShaky h.objs.size 42).locals := hz
    have ff : h3.FunFrames B (envOn fdShaky h.objs.size 42 :: l) := Frs.low lw (((hff.ext x3 fun env he a hf => hfT env he a hf)).cons F3 rfl) fun e he => he
    refine leaves_newW hfr' rfl (fun b o e => lw.of b o e) ff hx fun h5 a0 fl ups => ?_
    have ups' : h3.UpToSlots h5 := (Heap.UpToSlots.of_keeps hx.keeps).trans ups
    refine qf e a0 h3 h5 _ tp B x3 hT3 hgt (lw.less rfl hz') fl ups' ?_
    obtain ⟨m, ⟨o, es, ep, eo, dd, _⟩, _⟩ := F3.ns
    obtain ⟨sl, e5⟩ := ups' _ o eo fun vs q => by rw [dd] at q; cases q
    exact Nat.le_of_lt (Heap.lt_size e5)
  · rw [if_neg (by simp; omega)]
    refine wpAny_execs_nil ?_
    refine wpAny_execs_cons (wpAny_Return_some ?_)
    walk_at "m var"
    exact q r u h3 _ tp x3 hT3 (by omega) hs
end

section
variable {prog : Program} {w : World} {A : Around} {E : Value → Shared → Prop} {h : Heap} {g : Array GenState} {d : Drawn} {t : Nat} {os : OsState}
theorem shaky_call {fr cN cL cT T N a b : Addr} {its vs : List Value} {ns : List Int} {lim : Nat} {tl : Tok} {i j : Nat} {xa xb : Value} {ti tj : Tok} {l : List Env} {z : Nat} {Q : Value → Shared → Prop}
    (S : Sta h) (hroom : A.depth + 2 < recursionLimit) (hfr : A.frames = some l) (hh : A.handled = none) (hff : Frs h l) (hfT : ∀ env ∈ l, ∀ a, env.frame = some a → a ≠ T) (hz : z ≤ h.objs.size)
    (L : LamAt h fr (lamOf (lawS 20)) [("numbers", cN), ("limit", cL), ("heard", cT)]) (hcN : h.IsCell cN (some (.ref N))) (hcL : h.IsCell cL (some (.int lim tl))) (hcT : h.IsCell cT (some (.ref T))) (hne : cN ≠ cT) (hne1 : cN ≠ cL) (hne2 : cL ≠ cT)
    (hN : LstAt h N vs) (I : IntsAre vs ns) (hT : LstAt h T its) (hsz : its.length ≤ 50000) (ha : LstAt h a [xa, .int i ti]) (hb : LstAt h b [xb, .int j tj])
    (hi : i < ns.length) (hj : j < ns.length) (h48 : 47 < T) (hlen : ns.length ≤ 100) (hNT : N ≠ T) (haT : a ≠ T) (hbT : b ≠ T)
    (q : ∀ r u h' t' tp, Ext (· = T) h h' → LstAt h' T (its ++ [.ref tp]) → its.length + 1 ≤ lim → SameSign r (standOf ns i j) → Q (.int r u) ⟨h', g, d, t', os⟩)
    (qf : ∀ e a0 h5 h' t' tp B, Ext (· = T) h h5 → LstAt h5 T (its ++ [.ref tp]) → lim < its.length + 1 → Low z l h5 B → Heap.FlyingW B l e (.type "KeyError") a0 h' → h5.UpToSlots h' → h.objs.size ≤ h'.objs.size → E (.ref e) ⟨h', g, d, t', os⟩) :
    wpAny (model prog w) A (call (.ref fr) [.ref a, .ref b]) Q E ⟨h, g, d, t, os⟩ := by
  obtain ⟨pm, code, ct, hf, hcode⟩ := L
  refine wpAny_call (call_expr (fd := fdLam (lamOf (lawS 20)) [("numbers", cN), ("limit", cL), ("heard", cT)] pm code ct) (body := lamBody (lamOf (lawS 20))) (fr := [("numbers", .ref N), ("limit", .int lim tl), ("heard", .ref T)]) (binds := [("a", .ref a), ("b", .ref b)]) (by omega) hf rfl S.nolimit hcode.rec' (by kernel_rfl) (by kernel_rfl) ?_ (bk_of (by kernel_rfl)) ?_ (by kernel_rfl) (by kernel_rfl) (by kernel_rfl))
  · refine clo_of (cl := [("numbers", cN), ("limit", cL), ("heard", cT)]) (by kernel_rfl) (by simp [hne, hne1, hne2]) (by simp; exact ⟨⟨_, hcN⟩, ⟨_, hcL⟩, ⟨_, hcT⟩⟩) ?_
    intro p hp
    simp only [List.mem_cons, List.not_mem_nil, or_false] at hp
    rcases hp with rfl | rfl | rfl
    · exact ⟨by kernel_rfl, cN, fun _ => by kernel_rfl, hcN⟩
    · exact ⟨by kernel_rfl, cL, fun _ => by kernel_rfl, hcL⟩
    · exact ⟨by kernel_rfl, cT, fun _ => by kernel_rfl, hcT⟩
  intro env h2 t2 he F2 x2 _ hlt
  have F2 : Frm h2 env [("b", .ref b), ("a", .ref a), ("numbers", .ref N), ("limit", .int lim tl), ("heard", .ref T)] := F2
  subst he
  have S2 := S.keep x2
  refine call_by ?_
  walk_at "m glob"
  refine args_cons ?_
  walk_at "m var"
  refine args_cons ?_
  walk_at "m var"
  refine args_cons ?_
  walk_at "m var"
  refine args_cons ?_
  walk_at "m var"
  refine args_cons ?_
  walk_at "m var"
  refine args_nil ?_
  refine keeper_fn S2.f42 rfl fun _ => ?_
  have hz' : z ≤ (envOn (fdLam (lamOf (lawS 20)) [("numbers", cN), ("limit", cL), ("heard", cT)] pm code ct) h.objs.size fr).locals := hz
  have hff' := (hff.ext x2 fun _ _ _ _ => id).cons F2 rfl
  refine shaky_spec (z := z) S2 (by show A.depth + 1 + 1 < _; exact hroom) (Around.frames_deeper hfr) hh hff' (fun env he a hf => ?_) (Nat.le_trans hz x2.1) (x2.lst hN id) I (x2.lst hT id) hsz (x2.lst ha id) (x2.lst hb id) hi hj h48 hlen hNT haT hbT ?_ ?_
  · rcases List.mem_cons.mp he with rfl | he
    · cases hf
      exact Nat.ne_of_gt hT.lt
    · exact hfT env he a hf
  · intro r u h3 t3 tp x3 hT3 hle hs
    exact q r u h3 t3 tp (x2.t0.then x3 fun _ _ z => z) hT3 hle hs
  · intro e a0 h5 h6 t6 tp B x5 hT5 hgt lw fl ups hsz6
    refine wpAny_leaves_onW (s := ⟨h6, g, d, t6, os⟩) (Around.frames_deeper hfr) rfl fl fun h7 fl7 ups7 => ?_
    have ups' := ups.trans ups7
    refine qf e a0 h5 h7 t6 tp B (x2.t0.then x5 fun _ _ z => z) hT5 hgt (lw.less rfl hz') fl7 ups' ?_
    obtain ⟨m, ⟨o, es, ep, eo, dd, _⟩, _⟩ := F2.ns
    obtain ⟨sl, e5⟩ := ups' _ o (x5.get eo (Nat.ne_of_gt hT.lt)) fun vs q => by rw [dd] at q; cases q
    exact Nat.le_of_lt (Heap.lt_size e5)
end

theorem isCell_slots {h h' : Heap} {c : Addr} {v : Option Value} (x : h.UpToSlots h') (l : h.IsCell c v) : h'.IsCell c v := by
  obtain ⟨o, e, d⟩ := l
  obtain ⟨sl, e'⟩ := x c o e fun vs q => by rw [d] at q; cases q
  exact ⟨_, e', d⟩
theorem Frm.slots {h h' : Heap} {env : Env} {ls : List (Str × Value)} (F : Frm h env ls) (x : h.UpToSlots h') : Frm h' env ls where
  ns := let ⟨m, a, b⟩ := F.ns; ⟨m, x.ns a, b⟩
  cel := fun n v k e => let ⟨c, a, b⟩ := F.cel n v k e; ⟨c, a, isCell_slots x b⟩
  own := fun n k => let ⟨c, a, v, b⟩ := F.own n k; ⟨c, a, v, isCell_slots x b⟩
  apart := F.apart
  fn := F.fn
  fr := by
    obtain ⟨m, ⟨o, es, ep, e, d, _⟩, _⟩ := F.ns
    obtain ⟨o', e', c'⟩ := F.fr
    rw [e] at e'; cases e'
    obtain ⟨sl, e2⟩ := x _ o e fun vs q => by rw [d] at q; cases q
    exact ⟨_, e2, c'⟩
theorem Low.low {z z' : Nat} {l : List Env} {h B B' : Heap} (w : Low z l h B) (w' : Low z' l B B') (hz : z' ≤ z) : Low z' l h B' where
  of := fun b o e => w.of b o (w'.of b o e)
  no := fun b hb => w'.no b hb
  has := fun b o e hb hl => w'.has b o (w.has b o e (Nat.lt_of_lt_of_le hb hz) hl) hb hl
/-- a KeyError has left the sort: the last ask was the one behind the limit -/
def Fled (h : Heap) (envL : Env) (ls : List (Str × Value)) (T : Addr) (lim : Nat) (e : Value) (h' : Heap) : Prop :=
  ∃ eA a0 B h5 its, e = .ref eA ∧ Low h.objs.size [envL] h5 B ∧ Heap.FlyingW B [envL] eA (.type "KeyError") a0 h' ∧ LstAt B T its ∧ its.length = lim + 1 ∧ Frm h' envL ls ∧ (∀ b o, h.get? b = some o → b ≠ T → b ≠ envL.locals → B.get? b = some o)
section
variable {prog : Program} {w : World} {A : Around} {E : Value → Shared → Prop} {h : Heap} {g : Array GenState} {d : Drawn} {t : Nat} {os : OsState} {k : KA} {c fr : Addr} {rw : List Addr} {ns : List Int} {N T cN cL cT : Addr} {lim : Nat} {tl : Tok} {envL : Env} {ls : List (Str × Value)}

theorem Fled.stay {e : Value} {h' h'' : Heap} {Y : Addr → Prop} (f : Fled h envL ls T lim e h') (y : Ext Y h' h'') (hs : ∀ b o, Y b → h'.get? b = some o → ∃ xs n, o.data = .seq xs n) (hY : ∀ b, Y b → h.objs.size ≤ b)
    (hfe : envL.frame = some envL.locals) (hL : envL.locals < h.objs.size) (hcl : ∀ n c, envL.cells.lookup n = some c → c < h.objs.size) : Fled h envL ls T lim e h'' := by
  obtain ⟨eA, a0, B, h5, its, rfl, lw, ⟨f1, f2, f3, f4⟩, hT, hlen, F, hold⟩ := f
  have nY : ∀ b, b < h.objs.size → ¬ Y b := fun b hb z => absurd hb (Nat.not_lt.mpr (hY b z))
  have nS : ∀ b o vs, h'.get? b = some o → o.data = .fields vs → h''.get? b = some o := fun b o vs e dd => y.get e fun z => by
    obtain ⟨xs, n, q⟩ := hs b o z e
    rw [dd] at q; cases q
  refine ⟨eA, a0, B, h5, its, rfl, lw, ⟨fun b o e => y.get (f1 b o e) fun z => ?_, f2, ?_, ?_⟩, hT, hlen, F.ext y (nY _ hL) fun n c e => nY _ (hcl n c e), hold⟩
  · rw [lw.no b (.inl (hY b z))] at e
    cases e
  · obtain ⟨hk, ⟨L, o, hf, hn, ho, hd⟩, _⟩ := f3
    rw [hfe] at hf
    cases hf
    exact ⟨hk, ⟨_, o, hfe, hn, y.get ho (nY _ hL), hd⟩, trivial⟩
  · obtain ⟨oe, vs, T, oT, ts, he, hcls, hd, h1, hnT, hTe, hT, hdT, h3⟩ := f4
    exact ⟨oe, vs, T, oT, ts, nS _ _ _ he hd, hcls, hd, h1, hnT, hTe, nS _ _ _ hT hdT, hdT, h3⟩

theorem shaky_cmp (K : KOk h k c (.ref fr)) (S : Sta h) (L : LamAt h fr (lamOf (lawS 20)) [("numbers", cN), ("limit", cL), ("heard", cT)]) (a : Askd h rw ns N T cN cT) (hcL : h.IsCell cL (some (.int lim tl))) (hne1 : cN ≠ cL) (hne2 : cL ≠ cT)
    (F : Frm h envL ls) (hfe : envL.frame = some envL.locals) (h48 : 47 < envL.locals) (hcl : ∀ n c, envL.cells.lookup n = some c → c < h.objs.size) (hclT : ∀ n c, envL.cells.lookup n = some c → c ≠ T)
    (hu : A.units + 10 < cLine) (hd : A.depth + 4 < recursionLimit) (hfr : A.frames = some [envL]) (hh : A.handled = none) (hlim : lim ≤ 40000) (its0 : List Value) (hT0 : LstAt h T its0) :
    Cmp prog w A h g d os k c (.ref fr) (rowV rw) (halfOf ns) (fun b => b = T ∨ b = envL.locals) 900000 (fun B h' => (∃ its, LstAt h' T its ∧ its.length ≤ lim) ∧ Frm h' envL ls) (fun e h' => Fled h envL ls T lim e h') := by
  have hL0 : envL.locals < h.objs.size := by obtain ⟨m, ⟨o, es, ep, e, _⟩, _⟩ := F.ns; exact Heap.lt_size e
  have nL : ∀ {b v}, h.IsCell b v → b ≠ envL.locals := fun x => by
    obtain ⟨m, a, _⟩ := F.ns
    exact cell_ne_ns x a
  have nLl : ∀ {b its}, LstAt h b its → b ≠ envL.locals := fun {b its} x z => by
    obtain ⟨o, e, c⟩ := F.fr
    obtain ⟨n, e'⟩ := x
    rw [z] at e'
    rw [e] at e'; cases e'; simp at c
  have soft : ∀ h', (∃ its, LstAt h' T its) → Frm h' envL ls → SoftX (fun b => b = T ∨ b = envL.locals) h' := fun h' ⟨its, hT⟩ F' => softX_or (softX_list hT) F'.softL
  have nc : ¬ (c = T ∨ c = envL.locals) := fun z => z.elim (cell_ne_lst K.cell hT0) (nL K.cell)
  have hhi : Hi (fun b => b = T ∨ b = envL.locals) := fun b e => .inr (.inr (e.elim (fun e => e ▸ a.hi) fun e => e ▸ h48))
  refine
  { K := K
    S := S
    hi := hhi
    lo := fun b e => e.elim (fun e => e ▸ a.lt) fun e => e ▸ hL0
    nc := nc
    soft0 := soft h ⟨its0, hT0⟩ F
    soft := fun B h' ⟨⟨its, hT, _⟩, F'⟩ => soft h' ⟨its, hT⟩ F'
    mono := fun B B' h' x _ => x
    stay := fun B h' h'' Y ⟨⟨its, hT, hl⟩, F'⟩ y _ hY => ⟨⟨its, y.lst hT fun z => absurd a.lt (Nat.not_lt.mpr (hY T z)), hl⟩, F'.ext y (fun z => absurd hL0 (Nat.not_lt.mpr (hY _ z))) fun n c e z => absurd (hcl n c e) (Nat.not_lt.mpr (hY _ z))⟩
    fstay := fun e h' h'' Y f y hs hY => f.stay y hs hY hfe hL0 hcl
    ask := ?_ }
  rintro B h' t' i j xi xj hi hj hB ⟨⟨its, hT, hl⟩, F'⟩ x X Y
  rw [List.length_map] at hi hj
  rw [rowV_get hi] at X
  rw [rowV_get hj] at Y
  have sf := soft h ⟨its0, hT0⟩ F
  have K' := K.ext x sf nc
  have S' := S.ext x hhi
  have L' := L.ext x sf
  have nrow : ∀ i, i < rw.length → ¬ (rw.getD i 0 = T ∨ rw.getD i 0 = envL.locals) := fun i hi z => z.elim (a.rT i hi) (by obtain ⟨u, t, p⟩ := a.row i hi; exact nLl p)
  have nN : ¬ (N = T ∨ N = envL.locals) := fun z => z.elim a.NT (by obtain ⟨vs, p, _⟩ := a.nums; exact nLl p)
  have ncell : ∀ {b v}, h.IsCell b v → ¬ (b = T ∨ b = envL.locals) := fun x z => z.elim (cell_ne_lst x hT0) (nL x)
  have a' := a.ext x nN nrow (ncell a.eN) (ncell a.eT)
  have cL' := x.isCell hcL (ncell hcL)
  refine key_lt (by omega) K' S' X (lt_call K' K' S' X Y rfl rfl (by omega) (keeper_lam L') fun env h2 t2 hfre hlo F2 x2 => ?_)
  have a2 := a'.ext x2 id (fun _ _ => id) id id
  obtain ⟨vs, hN, I⟩ := a2.nums
  obtain ⟨ui, ti, hai⟩ := a2.row i hi
  obtain ⟨uj, tj, haj⟩ := a2.row j hj
  have FL2 := F'.keep x2
  have frs : Frs h2 [env, envL] := Frs.cons (Frs.cons (fun _ z => by cases z) FL2 hfe) F2 hfre
  have hzz : h.objs.size ≤ env.locals := Nat.le_trans x.1 hlo
  refine shaky_call (z := h'.objs.size) (S'.keep x2) (by show A.depth + 1 + 2 < _; omega) (Around.frames_deeper hfr) hh frs (fun e he b hb => ?_) x2.1 (L'.ext x2 softX_nil) a2.eN (x2.isCell cL' id) a2.eT a2.ne hne1 hne2 hN I (x2.lst hT id) (by omega) hai haj (by rw [← a.len]; exact hi) (by rw [← a.len]; exact hj) a.hi (by have := a.le; omega) a.NT (a.rT i hi) (a.rT j hj) ?_ ?_
  · simp only [List.mem_cons, List.not_mem_nil, or_false] at he
    rcases he with rfl | rfl
    · rw [hfre] at hb; cases hb
      exact Nat.ne_of_gt (Nat.lt_of_lt_of_le a.lt hzz)
    · rw [hfe] at hb; cases hb
      exact (nLl hT0).symm
  · intro r u h3 t3 tp x3 hT3 hle hs
    have x23 : Ext (· = T) h' h3 := x2.t0.then x3 fun _ _ z => z
    refine ⟨r, u, rfl, fun t4 => ⟨_, rfl, ?_, h3, t4, rfl, x23.mono fun _ _ z => .inl z, ⟨its ++ [.ref tp], hT3, by simp; omega⟩, ?_⟩⟩
    · unfold SameSign standOf at hs
      unfold halfOf
      apply decide_eq_decide.mpr
      omega
    · exact F'.ext x23 (nLl hT0).symm hclT
  · intro e a0 h5 h6 t6 tp B x5 hT5 hgt lw fl ups hsz6
    refine wpAny_leaves_onW (s := ⟨h6, g, d, t6, os⟩) (Around.frames_deeper hfr) hfre fl fun h7 fl7 ups7 => ?_
    have ups' := ups.trans ups7
    have x25 : Ext (· = T) h' h5 := x2.t0.then x5 fun _ _ z => z
    have F5 := F'.ext x25 (nLl hT0).symm hclT
    have lw1 := lw.less hfre hlo
    have lw2 := low_of h.objs.size [envL] B
    generalize hideAll B _ = B' at lw2
    have lw' := lw1.low lw2 x.1
    have fl8 := flyingW_base (base := B') (fun b o e => lw2.of b o e) fl7
    have hTB : LstAt B' T (its ++ [.ref tp]) := by
      obtain ⟨n, e⟩ := hT5
      refine ⟨n, lw'.has _ _ e a.lt fun e' he' q => ?_⟩
      rw [List.mem_singleton] at he'
      rw [he', hfe] at q
      exact nLl hT0 (Option.some.inj q).symm
    have hsz7 : h'.objs.size ≤ h7.objs.size := by
      obtain ⟨m, ⟨o, es, ep, eo, dd, _⟩, _⟩ := F2.ns
      obtain ⟨sl, e5⟩ := ups' _ o (x5.get eo (Nat.ne_of_gt (Nat.lt_of_lt_of_le a.lt hzz))) fun vs q => by rw [dd] at q; cases q
      exact Nat.le_of_lt (Nat.lt_of_le_of_lt hlo (Heap.lt_size e5))
    have keepB : ∀ b o, h.get? b = some o → b ≠ T → b ≠ envL.locals → B'.get? b = some o := fun b o e n1 n2 => by
      refine lw'.has _ _ (x25.get (x.get e fun z => z.elim n1 n2) n1) (Heap.lt_size e) fun e' he' q => ?_
      rw [List.mem_singleton] at he'
      rw [he', hfe] at q
      exact n2 (Option.some.inj q).symm
    refine ⟨h7, t6, rfl, ⟨hsz7, fun b o e hb => ?_⟩, e, a0, B', h5, _, rfl, lw', fl8, hTB, by simp; omega, F5.slots ups', keepB⟩
    refine fl7.1 b o (lw1.has b o (x25.get e fun z => hb (.inl z)) (Heap.lt_size e) fun e' he' q => ?_)
    rw [List.mem_singleton] at he'
    rw [he', hfe] at q
    exact hb (.inr (Option.some.inj q).symm)
end

-- after M20
/-- the frame of the law's call -/
abbrev EL (L fa : Addr) : Env := envOn fdLaw L fa
def noE : Expr := .Starred (.Name "" ⟨0, 0, 0, 0⟩) ⟨0, 0, 0, 0⟩
def valOf (s : Stmt) : Expr := match s with | .Assign _ v _ => v | _ => noE
def itemsOf (e : Expr) : List Expr := match e with | .List es _ => es | .BinOp _ _ (.List es _) _ => es | _ => []
def askE (i : Nat) : Expr := (itemsOf (valOf (lawS 15)) ++ itemsOf (valOf (lawS 16))).getD i noE
def lamPos (e : Expr) : Pos := match e with | .Lambda _ _ _ p => p | _ => ⟨0, 0, 0, 0⟩
def lamArgs (e : Expr) : Arguments := match e with | .Lambda a _ _ _ => a | _ => default
def lamScope (e : Expr) : Scope := match e with | .Lambda _ _ s _ => s | _ => default
def lamsE : List Expr := [lamOf (lawS 6), lamOf (lawS 7), lamOf (lawS 20), askE 0, askE 1, askE 2, askE 3, askE 4, askE 5]
def lSites : List (Pos × Str) := lamsE.map fun e => (lamPos e, lq)
theorem lSites_q : ∀ s ∈ lSites, s.2 = lq := fun s hs => by
  obtain ⟨e, _, rfl⟩ := List.mem_map.mp hs
  rfl
abbrev X0 (b : Addr) : Prop := b = 16 ∨ b = 44
def cellNames : List Str := (EL 0 0).cells.map (·.1)
theorem cellsFrom_bd : ∀ (names : List (Str × NameKind)) (k m : Nat) (acc : List (Str × Addr)) (p : Str × Addr), p ∈ cellsFrom k names acc → (names.countP fun x => x.2 == .cell) ≤ m → p ∈ acc ∨ (k ≤ p.2 ∧ p.2 < k + m ∧ (p.1, .cell) ∈ names)
  | [], _, _, _, _, h, _ => .inl h
  | (n, kd) :: r, k, m, acc, p, h, hm => by
    unfold cellsFrom at h
    rw [List.countP_cons] at hm
    split at h
    · rename_i hk
      rw [if_pos hk] at hm
      rcases cellsFrom_bd r (k + 1) (m - 1) _ p h (by omega) with h | ⟨h1, h2, h3⟩
      · rcases List.mem_cons.mp h with rfl | h
        · refine .inr ⟨Nat.le_refl _, by show k < k + m; omega, ?_⟩
          rw [eq_of_beq hk]; exact .head _
        · exact .inl h
      · exact .inr ⟨Nat.le_of_succ_le h1, Nat.lt_of_lt_of_le h2 (by omega), .tail _ h3⟩
    · rename_i hk
      rw [if_neg hk] at hm
      rcases cellsFrom_bd r k m acc p h (by omega) with h | ⟨h1, h2, h3⟩
      · exact .inl h
      · exact .inr ⟨h1, h2, .tail _ h3⟩
theorem el_cell {L fa c : Addr} {n : Str} (e : (EL L fa).cells.lookup n = some c) : (EL L fa).kindOf n = some .cell ∧ L < c ∧ c ≤ L + 9 := by
  have h := mem_of_lookup e
  rcases cellsFrom_bd fdLaw.scope.names (L + 1) 9 fdLaw.closure (n, c) h (Nat.le_of_ble_eq_true (by kernel_rfl)) with h | ⟨h1, h2, h3⟩
  · cases h
  · refine ⟨?_, h1, by have : c < L + 1 + 9 := h2; exact Nat.le_of_lt_succ (by omega)⟩
    have hall : (fdLaw.scope.names.all fun p => p.2 != .cell || fdLaw.scope.names.lookup p.1 == some .cell) = true := by kernel_rfl
    have := List.all_eq_true.mp hall _ h3
    have this : fdLaw.scope.names.lookup n = some .cell := by simpa using this
    exact this

/-- an iterator -/
def IterO (o : Obj) : Prop := (o.cls = .type "range_iterator" ∨ o.cls = .type "list_iterator") ∧ NoStr o ∧ ∃ vs, o.data = .fields vs
theorem IterO.no_list {h : Heap} {b : Addr} {o : Obj} {its : List Value} (i : IterO o) (e : h.get? b = some o) (l : LstAt h b its) : False := by
  obtain ⟨n, e'⟩ := l
  rw [e] at e'; cases e'
  simp [IterO] at i
theorem IterO.no_cell {h : Heap} {b : Addr} {o : Obj} {v : Option Value} (i : IterO o) (e : h.get? b = some o) (l : h.IsCell b v) : False := by
  obtain ⟨o', e', r⟩ := l
  rw [e] at e'; cases e'
  obtain ⟨_, _, vs, q⟩ := i
  rw [r] at q; cases q
theorem IterO.no_tab {h : Heap} {b : Addr} {o : Obj} {ps : Array Value} (i : IterO o) (e : h.get? b = some o) (l : h.get? b = some (tabObj ps)) : False := by
  rw [e] at l; cases l
  simp [IterO] at i
/-- the state of the law's run -/
structure Law (h0 : Heap) (L fa : Addr) (h : Heap) (ls : List (Str × Value)) (lsts : List (Addr × List Value)) (ks : List (KA × Addr × Value)) (lams : List (Addr × Expr × List (Str × Addr))) (kys : List (Addr × Addr × Value)) (hds : List (Addr × Obj)) : Prop where
  S : Sta h
  T : TabC h0.objs.size h
  TL : Tab h 46 44 lSites
  F : Frm h (EL L fa) ls
  x : Ext X0 h0 h
  lst : ∀ p ∈ lsts, LstAt h p.1 p.2
  nd : (lsts.map Prod.fst).Nodup
  ge : ∀ p ∈ lsts, 47 < p.1
  kok : ∀ p ∈ ks, KOk h p.1 p.2.1 p.2.2
  kc : ∀ p ∈ ks, L + 9 < p.2.1
  lam : ∀ p ∈ lams, LamAt h p.1 p.2.1 p.2.2
  key : ∀ p ∈ kys, KeyAt h p.1 p.2.1 p.2.2
  hL : h0.objs.size ≤ L
  h48 : 47 < L
  top : L + 9 < h.objs.size
  hld : ∀ p ∈ hds, h.get? p.1 = some p.2 ∧ IterO p.2

section
variable {prog : Program} {w : World} {M : Model} {A : Around} {E : Value → Shared → Prop} {h0 h h' : Heap} {g : Array GenState} {d : Drawn} {t : Nat} {os : OsState} {L fa : Addr} {ls ls' : List (Str × Value)} {lsts : List (Addr × List Value)} {ks : List (KA × Addr × Value)} {lams : List (Addr × Expr × List (Str × Addr))} {kys : List (Addr × Addr × Value)} {hds : List (Addr × Obj)} {X : Addr → Prop}

theorem Law.go (W : Law h0 L fa h ls lsts ks lams kys hds) (x : Ext X h h') (hX : SoftX X h) (hi : Hi X) (h1 : ∀ b, X b → b < h0.objs.size → b = 16 ∨ b = 44) (T' : TabC h0.objs.size h') (TL' : Tab h' 46 44 lSites) (F' : Frm h' (EL L fa) ls')
    (nl : ∀ p ∈ lsts, ¬ X p.1) (nc : ∀ p ∈ ks, ¬ X p.2.1) (nh : ∀ p ∈ hds, ¬ X p.1) : Law h0 L fa h' ls' lsts ks lams kys hds where
  S := W.S.ext x hi
  T := T'
  TL := TL'
  F := F'
  x := W.x.then x fun b hb z => h1 b z hb
  lst := fun p hp => x.lst (W.lst p hp) (nl p hp)
  nd := W.nd
  ge := W.ge
  kok := fun p hp => (W.kok p hp).ext x hX (nc p hp)
  kc := W.kc
  lam := fun p hp => (W.lam p hp).ext x hX
  key := fun p hp => (W.key p hp).ext x hX
  hL := W.hL
  h48 := W.h48
  top := Nat.lt_of_lt_of_le W.top x.1
  hld := fun p hp => ⟨x.get (W.hld p hp).1 (nh p hp), (W.hld p hp).2⟩
theorem Law.keep (W : Law h0 L fa h ls lsts ks lams kys hds) (x : Ext Nil h h') : Law h0 L fa h' ls lsts ks lams kys hds :=
  W.go x softX_nil (fun _ z => z.elim) (fun _ z => z.elim) (W.T.keep x) (W.TL.keep x) (W.F.keep x) (fun _ _ => id) (fun _ _ => id) fun _ _ => id
theorem Law.sub {lsts' : List (Addr × List Value)} {ks' : List (KA × Addr × Value)} {lams' : List (Addr × Expr × List (Str × Addr))} {kys' : List (Addr × Addr × Value)} (W : Law h0 L fa h ls lsts ks lams kys hds)
    (i : ∀ n v, ls'.lookup n = some v → ls.lookup n = some v) (hl : lsts'.Sublist lsts) (hk : ∀ p ∈ ks', p ∈ ks) (hm : ∀ p ∈ lams', p ∈ lams) (hy : ∀ p ∈ kys', p ∈ kys) : Law h0 L fa h ls' lsts' ks' lams' kys' hds :=
  ⟨W.S, W.T, W.TL, W.F.weaken i, W.x, fun p hp => W.lst p (hl.subset hp), W.nd.sublist (hl.map _), fun p hp => W.ge p (hl.subset hp), fun p hp => W.kok p (hk p hp), fun p hp => W.kc p (hk p hp), fun p hp => W.lam p (hm p hp), fun p hp => W.key p (hy p hp), W.hL, W.h48, W.top, W.hld⟩
theorem Law.names (W : Law h0 L fa h ls lsts ks lams kys hds) (i : ∀ n v, ls'.lookup n = some v → ls.lookup n = some v) : Law h0 L fa h ls' lsts ks lams kys hds :=
  W.sub i (List.Sublist.refl _) (fun _ z => z) (fun _ z => z) fun _ z => z
theorem Law.perm {lsts' : List (Addr × List Value)} (W : Law h0 L fa h ls lsts ks lams kys hds) (p : lsts'.Perm lsts) : Law h0 L fa h ls lsts' ks lams kys hds :=
  ⟨W.S, W.T, W.TL, W.F, W.x, fun q hq => W.lst q (p.subset hq), (p.map Prod.fst).nodup_iff.mpr W.nd, fun q hq => W.ge q (p.subset hq), W.kok, W.kc, W.lam, W.key, W.hL, W.h48, W.top, W.hld⟩
theorem Law.lst_ne_L (W : Law h0 L fa h ls lsts ks lams kys hds) {a : Addr} {its : List Value} (l : LstAt h a its) : a ≠ L := fun z => by
  obtain ⟨o, e, c⟩ := W.F.fr
  obtain ⟨n, e'⟩ := l
  rw [z] at e'
  have e : h.get? L = some o := e
  rw [e] at e'; cases e'; simp at c
theorem Law.cellAt (W : Law h0 L fa h ls lsts ks lams kys hds) {n : Str} {c : Addr} (e : (EL L fa).cells.lookup n = some c) : ∃ v, h.IsCell c v := by
  obtain ⟨c', e', v, x⟩ := W.F.own n (el_cell e).1
  rw [e] at e'; cases e'
  exact ⟨v, x⟩
theorem Law.store {n : Str} {v : Value} {Q : Unit → Shared → Prop} (W : Law h0 L fa h ls lsts ks lams kys hds) (hk : (EL L fa).kindOf n = some .local ∨ (EL L fa).kindOf n = some .cell)
    (q : ∀ h' t', Law h0 L fa h' ((n, v) :: ls) lsts ks lams kys hds → h'.objs.size = h.objs.size → Q () ⟨h', g, d, t', os⟩) : wpAny M A (storeName (EL L fa) n v) Q E ⟨h, g, d, t, os⟩ := by
  refine W.F.st hk fun h' t' F' x hs => q h' t' ?_ hs
  have hge : ∀ b, StX (EL L fa) n b → L ≤ b ∧ b ≤ L + 9 := fun b z => by
    rcases z with ⟨_, z⟩ | ⟨_, z⟩
    · have z : b = L := z
      rw [z]; exact ⟨Nat.le_refl _, Nat.le_add_right _ _⟩
    · exact ⟨Nat.le_of_lt (el_cell z).2.1, (el_cell z).2.2⟩
  have hobj : ∀ b, StX (EL L fa) n b → (∃ m, h.Ns b m) ∨ ∃ v, h.IsCell b v := fun b z => by
    rcases z with ⟨_, z⟩ | ⟨_, z⟩
    · obtain ⟨m, a, _⟩ := W.F.ns
      exact .inl ⟨m, z ▸ a⟩
    · exact .inr (W.cellAt z)
  refine W.go (X := StX (EL L fa) n) x (W.F.softS n) (fun b z => .inr (.inr (Nat.lt_of_lt_of_le W.h48 (hge b z).1))) (fun b z hb => absurd hb (Nat.not_lt.mpr (Nat.le_trans W.hL (hge b z).1))) (W.T.ext x (W.F.softS n) fun b z z' => ?_) (W.TL.ext x (W.F.softS n) fun z => ?_) F' (fun p hp z => ?_) (fun p hp z => ?_) (fun p hp z => ?_)
  · rcases hobj b z' with ⟨m, a⟩ | ⟨v, a⟩
    · exact XT.not_ns a z
    · exact XT.not_cell a z
  · exact absurd (Nat.lt_of_lt_of_le W.h48 (hge _ z).1) (by decide)
  · rcases z with ⟨_, z⟩ | ⟨_, z⟩
    · exact W.lst_ne_L (W.lst p hp) z
    · obtain ⟨v, a⟩ := W.cellAt z
      exact cell_ne_lst a (W.lst p hp) rfl
  · exact absurd (hge _ z).2 (Nat.not_le.mpr (W.kc p hp))
  · obtain ⟨e, i⟩ := W.hld p hp
    rcases z with ⟨_, z⟩ | ⟨_, z⟩
    · obtain ⟨o, e', c⟩ := W.F.fr
      rw [← z, e] at e'; cases e'
      simp [IterO, c] at i
    · obtain ⟨v, a⟩ := W.cellAt z
      exact i.no_cell e a
theorem Law.alloc (W : Law h0 L fa h ls lsts ks lams kys hds) (its : List Value) : Law h0 L fa (h.push (oList its 0)) ls ((h.objs.size, its) :: lsts) ks lams kys hds := by
  have W' := W.keep ((Ext.refl (X := Nil)).push (oList its 0))
  refine ⟨W'.S, W'.T, W'.TL, W'.F, W'.x, fun p hp => ?_, ?_, fun p hp => ?_, W'.kok, W'.kc, W'.lam, W'.key, W'.hL, W'.h48, W'.top, W'.hld⟩
  · rcases List.mem_cons.mp hp with rfl | hp
    · exact ⟨0, Heap.get?_push_size _ rfl⟩
    · exact W'.lst p hp
  · rw [List.map_cons, List.nodup_cons]
    refine ⟨fun z => ?_, W.nd⟩
    obtain ⟨p, hp, e⟩ := List.mem_map.mp z
    exact absurd (W.lst p hp).lt (by rw [e]; exact Nat.lt_irrefl _)
  · rcases List.mem_cons.mp hp with rfl | hp
    · exact Nat.lt_trans W.h48 (Nat.lt_of_le_of_lt (Nat.le_add_right _ _) W.top)
    · exact W.ge p hp
/-- a list that lies apart from those known -/
theorem Law.add {a : Addr} {its : List Value} (W : Law h0 L fa h ls lsts ks lams kys hds) (l : LstAt h a its) (hn : ∀ p ∈ lsts, p.1 ≠ a) (h48 : 47 < a) : Law h0 L fa h ls ((a, its) :: lsts) ks lams kys hds := by
  refine ⟨W.S, W.T, W.TL, W.F, W.x, fun p hp => ?_, ?_, fun p hp => ?_, W.kok, W.kc, W.lam, W.key, W.hL, W.h48, W.top, W.hld⟩
  · rcases List.mem_cons.mp hp with rfl | hp
    · exact l
    · exact W.lst p hp
  · rw [List.map_cons, List.nodup_cons]
    refine ⟨fun z => ?_, W.nd⟩
    obtain ⟨p, hp, e⟩ := List.mem_map.mp z
    exact hn p hp e
  · rcases List.mem_cons.mp hp with rfl | hp
    · exact h48
    · exact W.ge p hp
/-- a change of one list -/
theorem Law.upd {a : Addr} {its its' : List Value} (W : Law h0 L fa h ls ((a, its) :: lsts) ks lams kys hds) (l : LstAt h' a its') (x : Ext (· = a) h h') (ha : h0.objs.size ≤ a) : Law h0 L fa h' ls ((a, its') :: lsts) ks lams kys hds := by
  have l0 := W.lst (a, its) (.head _)
  have hX := softX_list l0
  have hne : ∀ p ∈ lsts, p.1 ≠ a := fun p hp z => by
    have := W.nd
    rw [List.map_cons, List.nodup_cons] at this
    exact this.1 (z ▸ List.mem_map.mpr ⟨p, hp, rfl⟩)
  have W1 : Law h0 L fa h ls lsts ks lams kys hds := W.sub (fun _ _ z => z) (List.sublist_cons_self _ _) (fun _ z => z) (fun _ z => z) fun _ z => z
  have h48 := W.ge (a, its) (.head _)
  have W2 : Law h0 L fa h' ls lsts ks lams kys hds := W1.go x hX (fun b z => .inr (.inr (z ▸ h48))) (fun b z hb => absurd hb (Nat.not_lt.mpr (z ▸ ha))) (W.T.ext x hX fun b z z' => XT.not_list l0 (z' ▸ z)) (W.TL.ext x hX fun z => ?_)
    (W.F.ext x (fun z => W.lst_ne_L l0 z.symm) fun n c e z => ?_) hne (fun p hp z => ?_) (fun p hp z => ?_)
  · refine W2.add l hne h48
  · have z : (44 : Addr) = a := z
    have h48 : 47 < a := h48
    rw [← z] at h48
    exact absurd h48 (by decide)
  · obtain ⟨v, y⟩ := W.cellAt e
    exact cell_ne_lst y l0 z
  · exact cell_ne_lst (W.kok p hp).cell l0 z
  · have z : p.1 = a := z
    exact (W.hld p hp).2.no_list (W.hld p hp).1 (z ▸ l0)
end

-- after M31
abbrev lkS (n : Str) (ls : List (Str × Value)) : Option Value := ls.lookup n
/-- the cell of a name of the law's frame -/
def cAt (L : Addr) (n : Str) : Addr := ((EL L 0).cells.lookup n).getD 0
abbrev clN (L : Addr) : List (Str × Addr) := [("numbers", cAt L "numbers"), ("notes", cAt L "notes")]
abbrev clH (L : Addr) : List (Str × Addr) := [("numbers", cAt L "numbers"), ("limit", cAt L "limit"), ("heard", cAt L "heard")]
section
variable {prog : Program} {w : World} {A : Around} {E : Value → Shared → Prop} {h0 h h' : Heap} {g : Array GenState} {d : Drawn} {t : Nat} {os : OsState} {L fa : Addr} {ls ls' : List (Str × Value)} {lsts : List (Addr × List Value)} {ks : List (KA × Addr × Value)} {lams : List (Addr × Expr × List (Str × Addr))} {kys : List (Addr × Addr × Value)} {hds : List (Addr × Obj)} {X : Addr → Prop}

theorem Law.cell {n : Str} {v : Value} (W : Law h0 L fa h ls lsts ks lams kys hds) (hk : (EL L fa).kindOf n = some .cell) (hv : lkS n ls = some v) : h.IsCell (cAt L n) (some v) := by
  obtain ⟨c, a, b⟩ := W.F.cel n v (.inl hk) hv
  have a' : (EL L 0).cells.lookup n = some c := a
  unfold cAt
  rw [a']
  exact b
theorem Law.cell_ne {n n' : Str} {v v' : Value} (W : Law h0 L fa h ls lsts ks lams kys hds) (hk : (EL L fa).kindOf n = some .cell) (hv : lkS n ls = some v) (hk' : (EL L fa).kindOf n' = some .cell) (hv' : lkS n' ls = some v') (hne : n ≠ n') : cAt L n ≠ cAt L n' := fun z => by
  obtain ⟨c, a, _⟩ := W.F.cel n v (.inl hk) hv
  obtain ⟨c', a', _⟩ := W.F.cel n' v' (.inl hk') hv'
  have b : (EL L 0).cells.lookup n = some c := a
  have b' : (EL L 0).cells.lookup n' = some c' := a'
  unfold cAt at z
  rw [b, b'] at z
  have z : c = c' := z
  subst z
  exact hne (W.F.apart n n' c a a')
theorem Law.lambda {e : Expr} {clo : List (Str × Addr)} {Q : Value → Shared → Prop} (W : Law h0 L fa h ls lsts ks lams kys hds) (he : e = .Lambda (lamArgs e) (lamBody e) (lamScope e) (lamPos e)) (hm : (lamPos e, lq) ∈ lSites)
    (hdef : defaultsOf (lamArgs e) (EL L fa) = ([], [])) (hcl : closureFor (lamScope e) (EL L fa) = pure clo)
    (q : ∀ f h' t', Law h0 L fa h' ls lsts ks ((f, e, clo) :: lams) kys hds → Q (.ref f) ⟨h', g, d, t', os⟩) : wpAny (model prog w) A (eval e (EL L fa)) Q E ⟨h, g, d, t, os⟩ := by
  have hfd : ∀ pm cv ct, fdLam e clo pm cv ct = kla_fn "<lambda>" lq (lamArgs e) (lamBody e) (lamScope e) clo pm cv ct := fun pm cv ct => by rw [he]; rfl
  rw [show eval e = eval (.Lambda (lamArgs e) (lamBody e) (lamScope e) (lamPos e)) from congrArg eval he]
  refine kla_eval hdef ?_
  rw [show (EL L fa).qual ++ ("<lambda>" : Str) = lq by kernel_rfl]
  refine make_lam W.S W.TL (.inr (.inl rfl)) hm (fun s hs _ _ => lSites_q s hs) hcl (by kernel_rfl) (by kernel_rfl) fun f h1 t1 pm ctv cv x1 T1 hf hg hc => ?_
  obtain ⟨_, ps, e44, tr, _⟩ := W.TL
  have hX := softX_tab e44 tr
  have W1 : Law h0 L fa h1 ls lsts ks lams kys hds := W.go x1 hX (fun b z => .inr (.inl z)) (fun b z _ => .inr z) (W.T.ext x1 hX fun b z z' => ?_) T1 (W.F.ext x1 (fun z => ?_) fun n c e z => ?_) (fun p hp z => ?_) (fun p hp z => ?_) (fun p hp z => ?_)
  · refine q f h1 t1 ⟨W1.S, W1.T, W1.TL, W1.F, W1.x, W1.lst, W1.nd, W1.ge, W1.kok, W1.kc, fun p hp => ?_, W1.key, W1.hL, W1.h48, W1.top, W1.hld⟩
    rcases List.mem_cons.mp hp with rfl | hp
    · exact ⟨pm, cv, ctv, by rw [hfd]; exact hg, hc⟩
    · exact W1.lam p hp
  · rcases z.2 with z2 | z2
    · rw [z'] at z2; exact absurd z2 (by decide)
    · have := z2.1
      rw [z'] at this; exact absurd this (by decide)
  · have z : L = 44 := z
    have := W.h48
    rw [z] at this; exact absurd this (by decide)
  · obtain ⟨v, y⟩ := W.cellAt e
    obtain ⟨o, e', r⟩ := y
    rw [z, e44] at e'; cases e'; cases r
  · have := W.ge p hp
    rw [z] at this; exact absurd this (by decide)
  · obtain ⟨o, e', r⟩ := (W.kok p hp).cell
    rw [z, e44] at e'; cases e'; cases r
  · have z : p.1 = 44 := z
    exact (W.hld p hp).2.no_tab (W.hld p hp).1 (z ▸ e44)
theorem Law.mkey {k : KA} {c : Addr} {f v : Value} {Q : Value → Shared → Prop} (W : Law h0 L fa h ls lsts ks lams kys hds) (hk : (k, c, f) ∈ ks) (hroom : A.depth + 1 < recursionLimit)
    (q : ∀ x h' t', Law h0 L fa h' ls lsts ks lams ((x, k.C, v) :: kys) hds → Ext Nil h h' → Q (.ref x) ⟨h', g, d, t', os⟩) : wpAny (model prog w) A (call (.ref k.C) [v]) Q E ⟨h, g, d, t, os⟩ := by
  refine key_new (W.kok _ hk) W.S hroom fun x h1 t1 x1 K1 hx => q x h1 t1 ?_ x1
  have W1 := W.keep x1
  refine ⟨W1.S, W1.T, W1.TL, W1.F, W1.x, W1.lst, W1.nd, W1.ge, W1.kok, W1.kc, W1.lam, fun p hp => ?_, W1.hL, W1.h48, W1.top, W1.hld⟩
  rcases List.mem_cons.mp hp with rfl | hp
  · exact K1
  · exact W1.key p hp
/-- the things: the row, its items, the numbers -/
structure Thg (lsts : List (Addr × List Value)) (N R : Addr) (rw : List Addr) (ns : List Int) : Prop where
  nums : ∃ vs, (N, vs) ∈ lsts ∧ IntsAre vs ns
  row : (R, rowV rw) ∈ lsts
  item : ∀ i, i < rw.length → ∃ x t, (rw.getD i 0, [x, Value.int i t]) ∈ lsts
  len : rw.length = ns.length
  le : ns.length ≤ 63
  two : 2 ≤ ns.length
theorem Law.askd {N R T : Addr} {its : List Value} {rw : List Addr} {ns : List Int} {nm : Str} (W : Law h0 L fa h ls ((T, its) :: lsts) ks lams kys hds) (G : Thg lsts N R rw ns) (hN : lkS "numbers" ls = some (.ref N)) (hT : lkS nm ls = some (.ref T)) (hk : (EL L fa).kindOf nm = some .cell) (hne : "numbers" ≠ nm) :
    Askd h rw ns N T (cAt L "numbers") (cAt L nm) := by
  have hnd : ∀ {a xs}, (a, xs) ∈ lsts → a ≠ T := fun {a xs} hm z => by
    have := W.nd
    rw [List.map_cons, List.nodup_cons] at this
    exact this.1 (List.mem_map.mpr ⟨_, hm, z⟩)
  exact
  { nums := let ⟨vs, a, b⟩ := G.nums; ⟨vs, W.lst _ (.tail _ a), b⟩
    len := G.len
    le := G.le
    row := fun i hi => let ⟨x, t, a⟩ := G.item i hi; ⟨x, t, W.lst _ (.tail _ a)⟩
    eN := W.cell (by kernel_rfl) hN
    eT := W.cell hk hT
    ne := W.cell_ne (by kernel_rfl) hN hk hT hne
    NT := let ⟨vs, a, b⟩ := G.nums; hnd a
    rT := fun i hi => let ⟨x, t, a⟩ := G.item i hi; hnd a
    hi := W.ge _ (.head _)
    lt := (W.lst _ (.head _)).lt }
theorem Law.sorted {k : KA} {c f R T N : Addr} {b : Bool} {kw : List (Str × Value)} {its : List Value} {rw : List Addr} {ns : List Int} {Q : Value → Shared → Prop} (W : Law h0 L fa h ls ((T, its) :: lsts) ks lams kys hds) (G : Thg lsts N R rw ns)
    (hN : lkS "numbers" ls = some (.ref N)) (hT : lkS "notes" ls = some (.ref T)) (hk : (k, c, .ref f) ∈ ks) (hl : (f, lamOf (lawS 6), clN L) ∈ lams) (hi : its.length ≤ 20000) (hT0 : h0.objs.size ≤ T)
    (hu : A.units + 12 < cLine) (hd : A.depth + 3 < recursionLimit)
    (ha1 : argsOk "sorted" ⟨[.ref R], kw⟩) (ha2 : ∀ x, argsOk "list.sort" ⟨[.ref x], kw⟩) (ht : ∀ x, Builtin.«list.sort» ⟨[.ref x], kw⟩ = ksk_tree x (.ref k.C) b)
    (q : ∀ D h' t' out its', Law h0 L fa h' ls ((T, its') :: (D, out) :: lsts) ks lams kys hds → its'.length ≤ its.length + 6000 → OutOf b (halfOf ns) rw.length (rowV rw) out → Q (.ref D) ⟨h', g, d, t', os⟩) :
    wpAny (model prog w) A (call (.builtin "sorted") [.ref R] kw) Q E ⟨h, g, d, t, os⟩ := by
  have a := W.askd G hN hT (by kernel_rfl) (by decide)
  have hlen : (rowV rw).length = rw.length := List.length_map ..
  refine sorted_by (B := its.length) (rise_cmp (W.kok _ hk) W.S (W.lam _ hl) a (by show A.units + 1 + 1 + 10 < _; omega) hd its (W.lst _ (.head _))) (by omega) ⟨its, W.lst _ (.head _), Nat.le_refl _⟩ (by omega) (W.lst _ (.tail _ G.row)) (by rw [hlen, G.len]; exact G.two) (by rw [hlen, G.len]; have := G.le; omega) ha1 ha2 ht ?_ (fun _ _ _ _ z => z.elim)
  rintro D h1 t1 out x1 ⟨its', hT', hle⟩ hD hDlo hO
  have W1 := W.upd hT' x1 hT0
  have W2 := W1.add hD (fun p hp => ?_) (Nat.lt_of_lt_of_le (Nat.lt_trans W.h48 (Nat.lt_of_le_of_lt (Nat.le_add_right _ _) W.top)) hDlo)
  · refine q D h1 t1 out its' (W2.perm (List.Perm.swap _ _ _)) hle (by rw [hlen] at hO; exact hO)
  · rcases List.mem_cons.mp hp with rfl | hp
    · exact Nat.ne_of_lt (Nat.lt_of_lt_of_le (W.lst _ (.head _)).lt hDlo)
    · exact Nat.ne_of_lt (Nat.lt_of_lt_of_le (W.lst p (.tail _ hp)).lt hDlo)
end

-- after M32 M27
section
variable {prog : Program} {w : World} {A : Around} {E : Value → Shared → Prop} {h0 h h' : Heap} {g : Array GenState} {d : Drawn} {t : Nat} {os : OsState} {L fa : Addr} {ls ls' : List (Str × Value)} {lsts : List (Addr × List Value)} {ks : List (KA × Addr × Value)} {lams : List (Addr × Expr × List (Str × Addr))} {kys : List (Addr × Addr × Value)} {hds : List (Addr × Obj)} {X : Addr → Prop}
theorem Law.cmp {f : Value} {Q : Value → Shared → Prop} (W : Law h0 L fa h ls lsts ks lams kys hds) (hroom : A.depth + 5 < recursionLimit) (hf : handedIn f = true)
    (q : ∀ k c h' t', Law h0 L fa h' ls lsts ((k, c, f) :: ks) lams kys hds → Q (.ref k.C) ⟨h', g, d, t', os⟩) : wpAny (model prog w) A (call (.ref 21) [f]) Q E ⟨h, g, d, t, os⟩ := by
  refine cmp_call W.S W.T hroom hf fun k c h1 t1 x1 K1 T1 hc => ?_
  have n44 : ¬ XT h0.objs.size h 44 := fun z => by
    rcases z.2 with z | z
    · exact absurd z (by decide)
    · exact absurd z.1 (by decide)
  have W1 : Law h0 L fa h1 ls lsts ks lams kys hds := W.go x1 softX_T hi_T (fun b z hb => .inl (z.2.elim id fun z => absurd hb (Nat.not_lt.mpr z.2))) T1 (W.TL.ext x1 softX_T n44) (W.F.ext x1 ?_ fun n c e => ?_) (fun p hp => XT.not_list (W.lst p hp)) (fun p hp => XT.not_cell (W.kok p hp).cell) (fun p hp z => by obtain ⟨⟨ps, e, _⟩, _⟩ := z; exact (W.hld p hp).2.no_tab (W.hld p hp).1 e)
  · refine q k c h1 t1 ⟨W1.S, W1.T, W1.TL, W1.F, W1.x, W1.lst, W1.nd, W1.ge, fun p hp => ?_, fun p hp => ?_, W1.lam, W1.key, W1.hL, W1.h48, W1.top, W1.hld⟩
    · rcases List.mem_cons.mp hp with rfl | hp
      · exact K1
      · exact W1.kok p hp
    · rcases List.mem_cons.mp hp with rfl | hp
      · exact Nat.lt_of_lt_of_le W.top hc
      · exact W1.kc p hp
  · obtain ⟨m, a, _⟩ := W.F.ns
    exact XT.not_ns a
  · obtain ⟨v, y⟩ := W.cellAt e
    exact XT.not_cell y
end

-- after M32
section
variable {prog : Program} {w : World} {A : Around} {E : Value → Shared → Prop} {h0 h h' : Heap} {g : Array GenState} {d : Drawn} {t : Nat} {os : OsState} {L fa : Addr} {ls ls' : List (Str × Value)} {lsts : List (Addr × List Value)} {ks : List (KA × Addr × Value)} {lams : List (Addr × Expr × List (Str × Addr))} {kys : List (Addr × Addr × Value)} {hds : List (Addr × Obj)} {X : Addr → Prop}
theorem Law.names1 {n : Str} {v v' : Value} (W : Law h0 L fa h ((n, v) :: (n, v') :: ls) lsts ks lams kys hds) : Law h0 L fa h ((n, v) :: ls) lsts ks lams kys hds :=
  W.names fun m u e => by
    rw [lookup_cons'] at e ⊢
    split at e
    · rename_i z; rw [if_pos z]; exact e
    · rename_i z; rw [if_neg z, lookup_cons', if_neg z]; exact e
theorem Law.lists {lsts' : List (Addr × List Value)} (W : Law h0 L fa h ls lsts ks lams kys hds) (hl : lsts'.Sublist lsts) : Law h0 L fa h ls lsts' ks lams kys hds :=
  W.sub (fun _ _ z => z) hl (fun _ z => z) (fun _ z => z) fun _ z => z
/-- script = script[:24] -/
theorem st0 {a : Addr} {vs : List Value} {ns : List Int} {Q : Flow → Shared → Prop} (W : Law h0 L fa h [("script", .ref a)] [] [] [] [] []) (hs : h.IsList a vs.toArray) (I : IntsAre vs ns) (hn : ns.length ≤ 63)
    (q : ∀ s1 vs1 h' t', IntsAre vs1 (ns.take 24) → Law h0 L fa h' [("script", .ref s1)] [(s1, vs1)] [] [] [] [] → Q .next ⟨h', g, d, t', os⟩) :
    wpAny (model prog w) A (exec (lawS 0) (EL L fa)) Q E ⟨h, g, d, t, os⟩ := by
  have F := W.F
  refine wpAny_Assign_Name (wpAny_Subscript_list_slice ?_) (by kernel_rfl)
  walk_at "m var"
  rw [evalPart_none]
  refine wpAny_pure ?_
  rw [evalPart_some]
  walk_at "m int"
  have hl := I.length
  refine ⟨a, vs.toArray, none, some 24, rfl, hs, by rw [List.size_toArray, sizeLine_eq]; omega, .none, .int _ _, ?_⟩
  have I1 : IntsAre (slicePick vs.toArray none (some 24) none).toList (ns.take 24) := kmk_upto I (by decide)
  have W1 := (W.keep ((Ext.refl (X := Nil)).push { cls := .type "slice", data := .fields #[.none, .int 24 t, .none] })).alloc (slicePick vs.toArray none (some 24) none).toList
  rw [Heap.size_push] at W1
  unfold oList at W1
  rw [Array.toArray_toList] at W1
  refine W1.store (.inl (by kernel_rfl)) fun h2 t2 W2 _ => q _ _ h2 t2 I1 W2.names1
theorem six_ints (a b c d e f : Int) (t1 t2 t3 t4 t5 t6 : Tok) : IntsAre [.int a t1, .int b t2, .int c t3, .int d t4, .int e t5, .int f t6] [a, b, c, d, e, f] := .cons _ _ (.cons _ _ (.cons _ _ (.cons _ _ (.cons _ _ (.cons _ _ .nil)))))
theorem ints_app {vs ws : List Value} {ns ms : List Int} (I : IntsAre vs ns) (J : IntsAre ws ms) : IntsAre (vs ++ ws) (ns ++ ms) := by
  induction I with
  | nil => exact J
  | cons n t I ih => exact .cons n t ih
def tail6 : List Int := [5, 0, 4, 1, 2, 5]
/-- numbers = script + [5, 0, 4, 1, 2, 5] -/
theorem st1 {s1 : Addr} {vs1 : List Value} {sc : List Int} {Q : Flow → Shared → Prop} (W : Law h0 L fa h [("script", .ref s1)] [(s1, vs1)] [] [] [] []) (I : IntsAre vs1 sc) (hn : sc.length ≤ 24)
    (q : ∀ N vs h' t', IntsAre vs (sc ++ tail6) → Law h0 L fa h' [("numbers", .ref N), ("script", .ref s1)] [(N, vs), (s1, vs1)] [] [] [] [] → Q .next ⟨h', g, d, t', os⟩) :
    wpAny (model prog w) A (exec (lawS 1) (EL L fa)) Q E ⟨h, g, d, t, os⟩ := by
  have F := W.F
  have hl := I.length
  refine wpAny_Assign_Name (wpAny_BinOp ?_) (by kernel_rfl)
  walk_at "m var"
  refine wpAny_List ?_
  refine args_cons ?_
  walk_at "m int"
  refine args_cons ?_
  walk_at "m int"
  refine args_cons ?_
  walk_at "m int"
  refine args_cons ?_
  walk_at "m int"
  refine args_cons ?_
  walk_at "m int"
  refine args_cons ?_
  walk_at "m int"
  refine args_nil ⟨Nat.le_of_ble_eq_true rfl, ?_⟩
  dsimp only
  have J := six_ints 5 0 4 1 2 5 t (t + 1) (t + 1 + 1) (t + 1 + 1 + 1) (t + 1 + 1 + 1 + 1) (t + 1 + 1 + 1 + 1 + 1)
  have W1 := W.alloc [.int 5 t, .int 0 (t + 1), .int 4 (t + 1 + 1), .int 1 (t + 1 + 1 + 1), .int 2 (t + 1 + 1 + 1 + 1), .int 5 (t + 1 + 1 + 1 + 1 + 1)]
  obtain ⟨n1, e1⟩ := W1.lst _ (.tail _ (.head _))
  obtain ⟨n2, e2⟩ := W1.lst _ (.head _)
  refine P.add_list (s := ⟨_, g, d, _, os⟩) e1 e2 ?_ (by simp [sizeLine_eq]; omega)
  have W2 := W1.alloc (vs1 ++ [.int 5 t, .int 0 (t + 1), .int 4 (t + 1 + 1), .int 1 (t + 1 + 1 + 1), .int 2 (t + 1 + 1 + 1 + 1), .int 5 (t + 1 + 1 + 1 + 1 + 1)])
  unfold oList at W2
  rw [← List.append_toArray] at W2
  refine W2.store (.inr (by kernel_rfl)) fun h2 t2 W3 _ => q _ _ h2 t2 (ints_app I J) (W3.lists ?_)
  exact List.Sublist.cons_cons _ (List.sublist_cons_self _ _)
/-- many = len(numbers) -/
theorem st2 {N : Addr} {vs : List Value} {ns : List Int} {Q : Flow → Shared → Prop} (W : Law h0 L fa h ls lsts ks lams kys hds) (hN : lkS "numbers" ls = some (.ref N)) (hm : (N, vs) ∈ lsts) (I : IntsAre vs ns) (hn : ns.length ≤ 100)
    (q : ∀ u h' t', Law h0 L fa h' (("many", .int ns.length u) :: ls) lsts ks lams kys hds → Q .next ⟨h', g, d, t', os⟩) :
    wpAny (model prog w) A (exec (lawS 2) (EL L fa)) Q E ⟨h, g, d, t, os⟩ := by
  have S := W.S
  have hl := I.length
  refine wpAny_Assign_Name (call_by ?_) (by kernel_rfl)
  walk_at "m glob"
  refine args_cons ?_
  refine W.F.ld (.inr (.inl (by kernel_rfl!))) hN ?_
  refine args_nil ?_
  refine keeper_builtin fun _ => ?_
  refine len_lst (W.lst _ hm) (by dsimp only; omega) fun u t1 => ?_
  rw [hl]
  exact W.store (.inl (by kernel_rfl)) fun h2 t2 W2 _ => q u h2 t2 W2
end

-- after M34 M33
section
variable {prog : Program} {w : World} {A : Around} {E : Value → Shared → Prop} {h : Heap} {g : Array GenState} {d : Drawn} {t : Nat} {os : OsState}
theorem stop_iter {α : Type} {Q : α → Shared → Prop} (hh : A.handled = none) (q : ∀ h' a o, h'.get? a = some o → o.cls = .type "StopIteration" → Ext Nil h h' → E (.ref a) ⟨h', g, d, t, os⟩) :
    wpAny (model prog w) A (Builtin.SmallTypes.stopIteration (α := α)) Q E ⟨h, g, d, t, os⟩ := by
  unfold Builtin.SmallTypes.stopIteration newExc newTuple
  refine wpAny_bind (wpAny_bind (wpAny_newObj_type (wpAny_bind (m := firstArgMember _ _) (wpAny_of_eq (a := Value.none) rfl (wpAny_newObj_type ?_ (by size_fits)))) (by size_fits)))
  unfold raiseNew
  refine wpAny_bind (wpAny_handled ?_)
  rw [hh]
  refine wpAny_bind (wpAny_pure (wpAny_throw ?_))
  exact q _ _ _ (Heap.get?_push_size _ rfl) rfl ((Ext.refl.push _).push _)
theorem range_end {it : Addr} {x left step : Int} {Q : Option Value → Shared → Prop} (hh : A.handled = none) (hit : IsRangeIter h it x left step) (hl : left ≤ 0) (q : ∀ h', Ext Nil h h' → Q none ⟨h', g, d, t, os⟩) :
    wpAny (model prog w) A (pyNext (.ref it)) Q E ⟨h, g, d, t, os⟩ := by
  have hT : Shared.TypeIs ⟨h, g, d, t, os⟩ (.ref it) "range_iterator" := ⟨_, hit, rfl⟩
  unfold pyNext
  refine wpAny_bind (wpAny_attempt (wpAny_callSpecial?_slot (name := Str.ofString "__next__") hT F.slot_range_iterator_next (wpAny_call_entry F.slot_range_iterator_next hT F.entry_range_iterator_next ?_ (F.args_range_iterator_next_1 _))))
  unfold Builtin.«range_iterator.__next__»
  refine wpAny_bind (m := slotArgs _ _ _) (wpAny_pure ?_)
  dsimp only
  refine wpAny_bind (wpAny_field hit rfl (x := rawInt x) rfl (wpAny_bind (wpAny_field hit rfl (x := rawInt left) rfl (wpAny_bind (wpAny_field hit rfl (x := rawInt step) rfl ?_)))))
  refine wa_pos hl (wpAny_bind (wpAny_rule (wpAny_bind ?_)))
  refine stop_iter hh fun h' a o e hc x => ?_
  exact wpAny_bind (wpAny_isInstance (T := "StopIteration") (b := true) ⟨o, e, hc⟩ isSubtype_stop (wpAny_pure (q _ x)))
theorem list_end {it l : Addr} {i : Nat} {items : Array Value} {Q : Option Value → Shared → Prop} (hh : A.handled = none) (hit : h.IsListIter it l i) (hl : h.IsList l items) (hx : items[i]? = none) (q : ∀ h', Ext (· = it) h h' → Q none ⟨h', g, d, t, os⟩) :
    wpAny (model prog w) A (pyNext (.ref it)) Q E ⟨h, g, d, t, os⟩ := by
  obtain ⟨o, ho, hc, hd⟩ := id hit
  obtain ⟨ol, hol, _, nl, hdl⟩ := hl
  have hT : Shared.TypeIs ⟨h, g, d, t, os⟩ (.ref it) "list_iterator" := ⟨_, ho, hc⟩
  unfold pyNext
  refine wpAny_bind (wpAny_attempt (wpAny_callSpecial?_slot (name := Str.ofString "__next__") hT slot_listiter_next (wpAny_call_entry slot_listiter_next hT entry_listiter_next ?_ (args_listiter_next _))))
  unfold Builtin.«list_iterator.__next__»
  refine wpAny_bind (m := slotArgs _ _ _) (wpAny_pure ?_)
  dsimp only
  refine wpAny_bind (wpAny_field ho hd (x := .ref l) rfl (wa_neg (by simp) (wpAny_bind (wpAny_field ho hd (x := .int i 0) rfl (wpAny_bind (wpAny_seqItems hol hdl ?_))))))
  simp only [Int.toNat_natCast, hx]
  refine wpAny_bind (wpAny_rule (wpAny_bind (wpAny_setField ho hd (by simp) ?_)))
  have x1 : Ext (· = it) h (h.update it (Obj.mapFields fun x => x.setIfInBounds 0 Value.none)) := Ext.refl.same (Heap.SameBut.update ..) fun _ => rfl
  dsimp only
  generalize h.update it (Obj.mapFields fun x => x.setIfInBounds 0 Value.none) = h1 at x1 ⊢
  refine stop_iter hh fun h' a o e hc x => ?_
  exact wpAny_bind (wpAny_isInstance (T := "StopIteration") (b := true) ⟨o, e, hc⟩ isSubtype_stop (wpAny_pure (q _ (x1.then x fun _ _ z => z.elim))))
end

-- after M35
abbrev riO (x left : Int) : Obj := { cls := .type "range_iterator", dict := none, data := .fields #[rawInt x, rawInt left, rawInt 1], slots := #[] }
theorem riO_iter (x left : Int) : IterO (riO x left) := ⟨.inl rfl, fun vs q t e e' => by
  cases e
  simp [rawInt] at e', _, rfl⟩
theorem soft_iter {h : Heap} {I : Addr} {o : Obj} (e : h.get? I = some o) (i : IterO o) : SoftX (· = I) h := fun b o' q e' => by
  have q : b = I := q
  rw [q, e] at e'; cases e'
  refine ⟨?_, i.2.1⟩
  rcases i.1 with c | c <;> simp [c]
section
variable {prog : Program} {w : World} {A : Around} {E : Value → Shared → Prop} {h0 h h' : Heap} {g : Array GenState} {d : Drawn} {t : Nat} {os : OsState} {L fa : Addr} {ls ls' : List (Str × Value)} {lsts : List (Addr × List Value)} {ks : List (KA × Addr × Value)} {lams : List (Addr × Expr × List (Str × Addr))} {kys : List (Addr × Addr × Value)} {hds : List (Addr × Obj)} {X : Addr → Prop}
theorem Law.hold {I : Addr} {o : Obj} (W : Law h0 L fa h ls lsts ks lams kys hds) (e : h.get? I = some o) (i : IterO o) : Law h0 L fa h ls lsts ks lams kys ((I, o) :: hds) :=
  ⟨W.S, W.T, W.TL, W.F, W.x, W.lst, W.nd, W.ge, W.kok, W.kc, W.lam, W.key, W.hL, W.h48, W.top, fun p hp => by
    rcases List.mem_cons.mp hp with rfl | hp
    · exact ⟨e, i⟩
    · exact W.hld p hp⟩
theorem Law.drop {p : Addr × Obj} (W : Law h0 L fa h ls lsts ks lams kys (p :: hds)) : Law h0 L fa h ls lsts ks lams kys hds :=
  ⟨W.S, W.T, W.TL, W.F, W.x, W.lst, W.nd, W.ge, W.kok, W.kc, W.lam, W.key, W.hL, W.h48, W.top, fun p hp => W.hld p (.tail _ hp)⟩
theorem Law.turn {I : Addr} {o o' : Obj} (W : Law h0 L fa h ls lsts ks lams kys ((I, o) :: hds)) (x : Ext (· = I) h h') (e' : h'.get? I = some o') (i' : IterO o') (hne : ∀ p ∈ hds, p.1 ≠ I) (h48 : 47 < I) (hI : h0.objs.size ≤ I) : Law h0 L fa h' ls lsts ks lams kys ((I, o') :: hds) := by
  obtain ⟨e, i⟩ := W.hld _ (.head _)
  have hX := soft_iter e i
  have W1 : Law h0 L fa h' ls lsts ks lams kys hds := W.drop.go x hX (fun b z => .inr (.inr (z ▸ h48))) (fun b z hb => absurd hb (Nat.not_lt.mpr (z ▸ hI))) (W.T.ext x hX fun b z z' => ?_) (W.TL.ext x hX fun z => ?_) (W.F.ext x (fun z => ?_) fun n c ec z => ?_) (fun p hp z => ?_) (fun p hp z => ?_) hne
  · exact W1.hold e' i'
  · have z' : b = I := z'
    obtain ⟨⟨ps, ez, _⟩, _⟩ := z
    exact i.no_tab e (z' ▸ ez)
  · have z : (44 : Addr) = I := z
    rw [← z] at h48
    exact absurd h48 (by decide)
  · have z : L = I := z
    obtain ⟨o2, e2, c2⟩ := W.F.fr
    have e2 : h.get? L = some o2 := e2
    rw [z] at e2
    have e : h.get? I = some o := e
    rw [e] at e2; cases e2
    obtain ⟨c | c, _⟩ := i <;> · rw [c2] at c; simp at c
  · obtain ⟨v, a⟩ := W.cellAt ec
    have z : c = I := z
    exact i.no_cell e (z ▸ a)
  · have z : p.1 = I := z
    exact i.no_list e (z ▸ W.lst p hp)
  · have z : p.2.1 = I := z
    exact i.no_cell e (z ▸ (W.kok p hp).cell)
/-- for x in range(n) -/
theorem for_rng {x : Str} {px p1 p2 pos : Pos} {e : Expr} {body : List Stmt} {n : Nat} {u : Tok} {Q : Flow → Shared → Prop} (hh : A.handled = none) (hk : (EL L fa).kindOf x = some .local) (hn : n ≤ 100)
    (Pr : Nat → List (Str × Value) → List (Addr × List Value) → List (KA × Addr × Value) → List (Addr × Expr × List (Str × Addr)) → List (Addr × Addr × Value) → Prop)
    (W : Law h0 L fa h ls lsts ks lams kys hds) (hp : Pr 0 ls lsts ks lams kys)
    (he : ∀ Q' : Value → Shared → Prop, (∀ t', Q' (.int n u) ⟨h, g, d, t', os⟩) → wpAny (model prog w) A (eval e (EL L fa)) Q' E ⟨h, g, d, t, os⟩)
    (turn : ∀ i ls lsts ks lams kys h t I o v, i < n → Pr i ls lsts ks lams kys → Law h0 L fa h ((x, .int i v) :: ls) lsts ks lams kys ((I, o) :: hds) →
      wpAny (model prog w) A (execs body (EL L fa)) (fun f s' => f = .next ∧ ∃ ls' lsts' ks' lams' kys' h' t', s' = ⟨h', g, d, t', os⟩ ∧ Pr (i + 1) ls' lsts' ks' lams' kys' ∧ Law h0 L fa h' ls' lsts' ks' lams' kys' ((I, o) :: hds)) (fun _ _ => False) ⟨h, g, d, t, os⟩)
    (q : ∀ ls' lsts' ks' lams' kys' h' t', Pr n ls' lsts' ks' lams' kys' → Law h0 L fa h' ls' lsts' ks' lams' kys' hds → Q .next ⟨h', g, d, t', os⟩)
    (hse : starEach [e] (EL L fa) = [(false, eval e (EL L fa))] := by rfl) :
    wpAny (model prog w) A (exec (.For (.Name x px) (.Call (.Name "range" p1) [e] [] p2) body [] pos) (EL L fa)) Q E ⟨h, g, d, t, os⟩ := by
  have S := W.S
  refine wpAny_For (call_by ?_ (by rfl) (by rw [hse]; rfl) (by rw [hse]; rfl)) (by intro _; rfl)
  walk_at "m glob"
  refine args_cons (he _ fun t1 => args_nil (keeper_type fun _ => ?_)) hse
  refine call_range_1 (s := ⟨h, g, d, t1, os⟩) ?_
  dsimp only
  refine wpAny_pyIter_range (s := ⟨_, g, d, _, os⟩) (IsRange.new ..) (small_one (by omega) (by omega) (by omega) (by omega)) ?_
  rw [rangeSize_one]
  have hsz : (if (0 : Int) < (n : Int) then (n : Int) - 0 else 0) = n := by split <;> omega
  rw [hsz]
  have W1 := (W.keep ((Ext.refl (X := Nil)).push { cls := .type "range", data := .fields #[.int 0 t1, .int n u, .int 1 (t1 + 1)] }))
  have hlt : ∀ p ∈ hds, p.1 < h.objs.size := fun p hp => Heap.lt_size (W.hld p hp).1
  have hsp := Heap.size_push h { cls := .type "range", data := .fields #[.int 0 t1, .int n u, .int 1 (t1 + 1)] }
  dsimp only
  generalize h.push { cls := .type "range", data := .fields #[.int 0 t1, .int n u, .int 1 (t1 + 1)] } = h1 at W1 hsp ⊢
  have W2 := (W1.keep ((Ext.refl (X := Nil)).push (riO 0 n))).hold (Heap.get?_push_size _ rfl) (riO_iter 0 n)
  have hI0 : h0.objs.size ≤ h1.objs.size := W1.x.1
  have hI48 : 47 < h1.objs.size := Nat.lt_trans W1.h48 (Nat.lt_of_le_of_lt (Nat.le_add_right _ _) W1.top)
  have hne : ∀ p ∈ hds, p.1 ≠ h1.objs.size := fun p hp => Nat.ne_of_lt (by rw [hsp]; exact Nat.lt_succ_of_lt (hlt p hp))
  generalize h1.objs.size = I at W2 hI0 hI48 hne ⊢
  refine codeAny_forLoop (fun k s' => ∃ i ls lsts ks lams kys h t, i ≤ n ∧ k = n + 1 - i ∧ s' = ⟨h, g, d, t, os⟩ ∧ Pr i ls lsts ks lams kys ∧ Law h0 L fa h ls lsts ks lams kys ((I, riO i (n - i)) :: hds)) ?_ (n + 1) ⟨0, ls, lsts, ks, lams, kys, _, _, Nat.zero_le _, rfl, rfl, hp, by simpa using W2⟩ (by intro _; rfl)
  rintro k s' ⟨i, ls, lsts, ks, lams, kys, h2, t2, hi, rfl, rfl, hp2, W3⟩
  obtain ⟨ei, ii⟩ := W3.hld _ (.head _)
  by_cases hlt' : i < n
  · refine wpAny_pyNext_range_item (s := ⟨h2, g, d, t2, os⟩) ei (by omega) fun h3 e3 s3 => ?_
    have W4 := W3.turn (Ext.refl.same s3 fun _ => rfl) e3 (riO_iter _ _) hne hI48 hI0
    refine wpAny_assign_Name (W4.store (.inl hk) fun h4 t4 W5 _ => ?_)
    refine wpAny_mono (turn i ls lsts ks lams kys h4 t4 I _ t2 hlt' hp2 W5) (fun f s5 z => ?_) fun _ _ z => z.elim
    obtain ⟨rfl, ls', lsts', ks', lams', kys', h5, t5, rfl, hp5, W6⟩ := z
    refine ⟨n + 1 - (i + 1), by omega, i + 1, ls', lsts', ks', lams', kys', h5, t5, hlt', rfl, rfl, hp5, ?_⟩
    have e1 : ((i : Int) + 1) = ((i + 1 : Nat) : Int) := by omega
    have e2 : ((n : Int) - (i : Int) - 1) = (n : Int) - ((i : Int) + 1) := by omega
    rw [← e1, ← e2]
    exact W6
  · obtain rfl : i = n := by omega
    refine range_end hh ei (by omega) fun h3 x3 => ?_
    exact wpAny_execs_nil (q ls lsts ks lams kys h3 t2 hp2 (W3.keep x3).drop)
end

-- after M36
/-- an iterator that was made behind h1 -/
structure Wk (prog : Program) (w : World) (A : Around) (h1 : Heap) (I : Addr) (n : Nat) (val : Nat → Value → Prop) (St : Nat → Heap → Prop) : Prop where
  ge : h1.objs.size ≤ I
  get : ∀ i h, St i h → ∃ o, h.get? I = some o ∧ IterO o
  mv : ∀ i h h' X, St i h → Ext X h h' → ¬ X I → (∀ b, X b → h1.objs.size ≤ b) → St i h'
  item : ∀ i h g d t os (Q : Option Value → Shared → Prop) (E : Value → Shared → Prop), i < n → St i h → (∀ v h' t', val i v → St (i + 1) h' → Ext (· = I) h h' → Q (some v) ⟨h', g, d, t', os⟩) → wpAny (model prog w) A (pyNext (.ref I)) Q E ⟨h, g, d, t, os⟩
  done : ∀ h g d t os (Q : Option Value → Shared → Prop) (E : Value → Shared → Prop), St n h → (∀ h', Ext (· = I) h h' → Q none ⟨h', g, d, t, os⟩) → wpAny (model prog w) A (pyNext (.ref I)) Q E ⟨h, g, d, t, os⟩
  self : ∀ i h g d t os (Q : Value → Shared → Prop) (E : Value → Shared → Prop), St i h → Q (.ref I) ⟨h, g, d, t, os⟩ → wpAny (model prog w) A (pyIter (.ref I)) Q E ⟨h, g, d, t, os⟩
section
variable {prog : Program} {w : World} {A : Around} {E : Value → Shared → Prop} {h1 : Heap}
theorem wk_range {I : Addr} (hh : A.handled = none) (hI : h1.objs.size ≤ I) (n : Nat) : Wk prog w A h1 I n (fun i v => ∃ t, v = .int i t) (fun i h => h.get? I = some (riO i (n - i))) where
  ge := hI
  get := fun i h e => ⟨_, e, riO_iter _ _⟩
  mv := fun i h h' X e x hX _ => x.get e hX
  item := fun i h g d t os Q E hi e q => wpAny_pyNext_range_item (s := ⟨h, g, d, t, os⟩) e (by omega) fun h' e' s' => q _ h' _ ⟨t, rfl⟩ (by
    have e1 : ((i : Int) + 1) = ((i + 1 : Nat) : Int) := by omega
    have e2 : ((n : Int) - (i : Int) - 1) = (n : Int) - ((i + 1 : Nat) : Int) := by omega
    rw [e1, e2] at e'
    exact e') (Ext.refl.same s' fun _ => rfl)
  done := fun h g d t os Q E e q => range_end hh e (by omega) fun h' x => q h' x.t0
  self := fun i h g d t os Q E e q => wpAny_pyIter_rangeiter (s := ⟨h, g, d, t, os⟩) e q
theorem wk_list {I l : Addr} {its : List Value} (hh : A.handled = none) (hI : h1.objs.size ≤ I) (hl : l < h1.objs.size) : Wk prog w A h1 I its.length (fun i v => its[i]? = some v) (fun i h => h.IsListIter I l i ∧ LstAt h l its) where
  ge := hI
  get := fun i h e => by
    obtain ⟨⟨o, e, c, dd⟩, _⟩ := e
    exact ⟨o, e, .inr c, fun vs q t z z' => by rw [dd] at z; cases z; simp at z', _, dd⟩
  mv := fun i h h' X e x hX hb => ⟨let ⟨o, a, b⟩ := e.1; ⟨o, x.get a hX, b⟩, x.lst e.2 fun z => absurd hl (Nat.not_lt.mpr (hb _ z))⟩
  item := fun i h g d t os Q E hi e q => by
    refine wpAny_pyNext_list_item (s := ⟨h, g, d, t, os⟩) e.1 e.2.isList (x := its[i]) (by simp [hi]) fun h' e' s' => ?_
    have x : Ext (· = I) h h' := Ext.refl.same s' fun _ => rfl
    exact q _ h' t (by simp [hi]) ⟨e', x.lst e.2 (Nat.ne_of_lt (Nat.lt_of_lt_of_le hl hI))⟩ x
  done := fun h g d t os Q E e q => list_end hh e.1 e.2.isList (by simp) q
  self := fun i h g d t os Q E e q => wpAny_pyIter_listiter (s := ⟨h, g, d, t, os⟩) e.1 q
end
/-- what a comprehension's own doings may change -/
def Inn (D : Addr) (h : Heap) (b : Addr) : Prop := (∃ o, h.get? b = some o ∧ IterO o) ∨ (∃ m, h.Ns b m) ∨ b = D
section
variable {prog : Program} {w : World} {A : Around} {E : Value → Shared → Prop} {env : Env} {h1 h2 : Heap} {g : Array GenState} {d : Drawn} {t : Nat} {os : OsState}
theorem comp_core {elt iter : Expr} {x : Str} {px : Pos} {ifs : List Expr} {scope : Scope} {cl : List (Str × Addr)} {pos : Pos} {I : Addr} {n : Nat} {val : Nat → Value → Prop} {St : Nat → Heap → Prop} {RR : Value → Addr → Result → Shared → Prop}
    (K : Wk prog w A h1 I n val St) (x2 : Ext Nil h1 h2) (hst : St 0 h2) (hn : n ≤ 100000) (P : Addr → Nat → List Value → Heap → Prop)
    (hcell : ∀ y ∈ scope.names, y.2 ≠ .cell) (hkind : scope.kind = .function) (hx : scope.names.lookup x = some .local)
    (p0 : ∀ D h, Ext Nil h2 h → h2.objs.size ≤ D → P D 0 [] h)
    (mv : ∀ D i ys h h' X, P D i ys h → Ext X h h' → (∀ b, X b → Inn D h b) → P D i ys h')
    (turn : ∀ D i v ys h t C m E', i < n → val i v → Ext Nil h1 h → h1.objs.size ≤ C → h.Ns C m → m x = some v → LstAt h D ys → P D i ys h →
      wpAny (model prog w) A (forIn ifs true fun c r => if r = true then do let ok ← isTrue c (compEnvC scope cl C env) (eval c (compEnvC scope cl C env)); pure (ForInStep.yield ok) else pure (ForInStep.yield r))
        (fun ok s₃ => if ok = true then wpAny (model prog w) A (eval elt (compEnvC scope cl C env)) (fun y s₄ => ∃ h' t', s₄ = ⟨h', g, d, t', os⟩ ∧ Ext Nil h h' ∧ P D (i + 1) (ys ++ [y]) h') E' s₃
          else ∃ h' t', s₃ = ⟨h', g, d, t', os⟩ ∧ Ext Nil h h' ∧ P D (i + 1) ys h') E' ⟨h, g, d, t, os⟩)
    (hRR : ∀ D C h' t' ys m', Ext Nil h1 h' → h'.Ns C m' → h1.objs.size ≤ C → h1.objs.size ≤ D → LstAt h' D ys → P D n ys h' → RR (.ref D) C (.ok .next) ⟨h', g, d, t', os⟩) :
    wpAny (model prog w) A (newList []) (fun acc s₃ => wpAny (model prog w) A (newFunctionEnv scope env.globals cl [] env.qual none .none (some env)) (fun cenv s₄ =>
      codeAny (model prog w) A (.compStart (.ListComp elt [⟨.Name x px, iter, ifs, 0⟩] scope pos) 0 (.ref I) acc { cenv with scope := relabel scope env }) (RR acc cenv.locals) s₄) E s₃) E ⟨h2, g, d, t, os⟩ := by
  refine wpAny_newObj_type (wpAny_newFunctionEnv hcell (by intro y hy; simp at hy) (fun h4 hns hsb => ?_) hkind)
  dsimp only at hns hsb ⊢
  have hD3 : (h2.push (oList [] 0)).get? h2.objs.size = some (oList [] 0) := Heap.get?_push_size _ rfl
  have x3 : Ext Nil h2 (h2.push (oList [] 0)) := Ext.refl.push _
  have hs3 := Heap.size_push h2 (oList [] 0)
  change h4.Ns (h2.push (oList [] 0)).objs.size _ at hns
  change Heap.SameBut (h2.push (oList [] 0)).objs.size ((h2.push (oList [] 0)).push _) h4 at hsb
  change codeAny _ _ (.compStart _ 0 (.ref I) (.ref h2.objs.size) (compEnvC scope cl (h2.push (oList [] 0)).objs.size env)) (RR (.ref h2.objs.size) (h2.push (oList [] 0)).objs.size) _
  generalize h2.push (oList [] 0) = h3 at hD3 x3 hs3 hns hsb ⊢
  have hC1 : h1.objs.size ≤ h3.objs.size := Nat.le_trans x2.1 x3.1
  have hC2 : h2.objs.size ≤ h3.objs.size := x3.1
  have hD1 : h1.objs.size ≤ h2.objs.size := x2.1
  have x4 : Ext Nil h2 h4 := (x3.push _).same hsb fun z => absurd z (Nat.not_lt.mpr hC2)
  have hD4 : LstAt h4 h2.objs.size [] := ⟨0, (hsb.2 _ (Nat.ne_of_lt (by rw [hs3]; exact Nat.lt_succ_self _))).trans (Heap.get?_push_of_some _ hD3)⟩
  have st4 := K.mv 0 h2 h4 Nil hst x4 id fun _ z => z.elim
  have P4 := p0 h2.objs.size h4 x4 (Nat.le_refl _)
  have x14 : Ext Nil h1 h4 := x2.then x4 fun _ _ z => z
  generalize h2.objs.size = D at hD4 P4 hD1 ⊢
  generalize h3.objs.size = C at hns hC1 ⊢
  clear hD3 x3 hs3 hsb hC2 x4 p0 hst x2
  have loop : ∀ t, codeAny (model prog w) A (.compLoop (.ListComp elt [⟨.Name x px, iter, ifs, 0⟩] scope pos) 0 (.ref I) (.ref D) (compEnvC scope cl C env)) (RR (.ref D) C) ⟨h4, g, d, t, os⟩ := by
    intro t
    refine codeAny_compLoop_tests (fun k s' => ∃ i ys h t m, i ≤ n ∧ k = n + 1 - i ∧ s' = ⟨h, g, d, t, os⟩ ∧ Ext Nil h1 h ∧ St i h ∧ h.Ns C m ∧ LstAt h D ys ∧ ys.length ≤ i ∧ P D i ys h) ?_ (n + 1) ⟨0, [], h4, t, _, Nat.zero_le _, rfl, rfl, x14, st4, hns, hD4, Nat.le_refl _, P4⟩ (by intro _; rfl)
    rintro k s' ⟨i, ys, h, t, m, hi, rfl, rfl, xh, st, hC, hD, hyl, hP⟩
    have nCD : C ≠ D := fun z => by
      obtain ⟨o, es, ep, e, dd, _⟩ := hC
      obtain ⟨n, e'⟩ := hD
      rw [z, e'] at e; cases e; cases dd
    have nIC : I ≠ C := fun z => by
      obtain ⟨o, e, i⟩ := K.get i h st
      obtain ⟨o', es, ep, e', dd, _⟩ := hC
      rw [z, e'] at e; cases e
      obtain ⟨_, _, vs, q⟩ := i
      rw [dd] at q; cases q
    have nID : I ≠ D := fun z => by
      obtain ⟨o, e, i⟩ := K.get i h st
      exact i.no_list e (z ▸ hD)
    by_cases hlt : i < n
    · refine K.item i h g d t os _ _ hlt st fun v h5 t5 hv st5 x5 => ?_
      have hC5 := x5.ns hC (fun z => nIC z.symm)
      have hD5 := x5.lst hD (fun z => nID z.symm)
      have hP5 := mv D i ys h h5 _ hP x5 fun b z => .inl (z ▸ K.get i h st)
      have x15 : Ext Nil h1 h5 := xh.then x5 fun b hb z => absurd hb (Nat.not_lt.mpr (z ▸ K.ge))
      refine wpAny_assign_Name (wpAny_storeName_local (lookup_relabel_local hx) hC5 (fun h6 hC6 s6 => ?_) (by simp [compEnvC, relabel, hkind]))
      have s6 : Heap.SameBut C h5 h6 := s6
      have hC6 : h6.Ns C _ := hC6
      have x6 : Ext (· = C) h5 h6 := Ext.refl.same s6 fun _ => rfl
      have hD6 := x6.lst hD5 nCD.symm
      have hP6 := mv D i ys h5 h6 _ hP5 x6 fun b z => .inr (.inl ⟨_, z ▸ hC5⟩)
      have x16 : Ext Nil h1 h6 := x15.then x6 fun b hb z => absurd hb (Nat.not_lt.mpr (z ▸ hC1))
      have st6 := K.mv (i + 1) h5 h6 _ st5 x6 nIC fun b z => z ▸ hC1
      refine wpAny_mono (turn D i v ys h6 _ C _ _ hlt hv x16 hC1 hC6 (by simp) hD6 hP6) (fun ok s7 z => ?_) fun _ _ z => z
      cases ok with
      | false =>
        obtain ⟨h7, t7, rfl, x7, hP7⟩ := z
        exact ⟨n + 1 - (i + 1), by omega, i + 1, ys, h7, t7, _, hlt, rfl, rfl, x16.then x7 fun _ _ z => z, K.mv _ _ _ _ st6 x7 id fun _ z => z.elim, x7.ns hC6 id, x7.lst hD6 id, by omega, hP7⟩
      | true =>
        refine wpAny_mono z (fun y s8 z => ?_) fun _ _ z => z
        obtain ⟨h7, t7, rfl, x7, hP7⟩ := z
        refine lst_append (x7.lst hD6 id) (fun h8 hD8 s8 => ?_) (by rw [sizeLine_eq]; omega)
        have x8 : Ext (· = D) h7 h8 := Ext.refl.same s8 fun _ => rfl
        have x17 := x16.then x7 fun _ _ z => z
        exact ⟨n + 1 - (i + 1), by omega, i + 1, ys ++ [y], h8, t7, _, hlt, rfl, rfl, x17.then x8 fun b hb z => absurd hb (Nat.not_lt.mpr (z ▸ hD1)), K.mv _ _ _ _ (K.mv _ _ _ _ st6 x7 id fun _ z => z.elim) x8 nID fun b z => z ▸ hD1,
          x8.ns (x7.ns hC6 id) nCD, hD8, by simp; omega, mv D (i + 1) _ h7 h8 _ hP7 x8 fun b z => .inr (.inr z)⟩
    · obtain rfl : i = n := by omega
      refine K.done h g d t os _ _ st fun h5 x5 => ?_
      exact hRR D C h5 t ys m (xh.then x5 fun b hb z => absurd hb (Nat.not_lt.mpr (z ▸ K.ge))) (x5.ns hC (fun z => nIC z.symm)) hC1 hD1 (x5.lst hD (fun z => nID z.symm)) (mv D i ys h h5 _ hP x5 fun b z => .inl (z ▸ K.get i h st))
  exact codeAny_compStart_list (loop _) (K.self 0 h4 g d _ os _ _ st4 (loop _))
/-- a list comprehension over an iterator -/
theorem comp_run {elt iter : Expr} {x : Str} {px : Pos} {ifs : List Expr} {scope : Scope} {cl : List (Str × Addr)} {pos : Pos} {Q : Value → Shared → Prop}
    (hclos : closureFor scope env = pure cl) (hcell : ∀ y ∈ scope.names, y.2 ≠ .cell) (hkind : scope.kind = .function) (hnames : ∀ y ∈ scope.names, y.2 = .local → scope.names.lookup y.1 = some .local) (hx : scope.names.lookup x = some .local)
    (P : Addr → Nat → List Value → Heap → Prop) (mv : ∀ D i ys h h' X, P D i ys h → Ext X h h' → (∀ b, X b → Inn D h b) → P D i ys h')
    (h : wpAny (model prog w) A (eval iter env) (fun xv s₁ => wpAny (model prog w) A (pyIter xv) (fun it s₂ => ∃ I n val St h2 t2, it = .ref I ∧ s₂ = ⟨h2, g, d, t2, os⟩ ∧ Wk prog w A h1 I n val St ∧ Ext Nil h1 h2 ∧ St 0 h2 ∧ n ≤ 100000 ∧
      (∀ D h, Ext Nil h2 h → h2.objs.size ≤ D → P D 0 [] h) ∧
      (∀ D i v ys h t C m E', i < n → val i v → Ext Nil h1 h → h1.objs.size ≤ C → h.Ns C m → m x = some v → LstAt h D ys → P D i ys h →
        wpAny (model prog w) A (forIn ifs true fun c r => if r = true then do let ok ← isTrue c (compEnvC scope cl C env) (eval c (compEnvC scope cl C env)); pure (ForInStep.yield ok) else pure (ForInStep.yield r))
          (fun ok s₃ => if ok = true then wpAny (model prog w) A (eval elt (compEnvC scope cl C env)) (fun y s₄ => ∃ h' t', s₄ = ⟨h', g, d, t', os⟩ ∧ Ext Nil h h' ∧ P D (i + 1) (ys ++ [y]) h') E' s₃
            else ∃ h' t', s₃ = ⟨h', g, d, t', os⟩ ∧ Ext Nil h h' ∧ P D (i + 1) ys h') E' ⟨h, g, d, t, os⟩) ∧
      (∀ D h' t' ys, Ext Nil h1 h' → h1.objs.size ≤ D → LstAt h' D ys → P D n ys h' → Q (.ref D) ⟨h', g, d, t', os⟩)) E s₁) E ⟨h1, g, d, t, os⟩)
    (hs : ∀ x, foldedSetIterable iter env x = pure x := by intro _; rfl) :
    wpAny (model prog w) A (eval (.ListComp elt [⟨.Name x px, iter, ifs, 0⟩] scope pos) env) Q E ⟨h1, g, d, t, os⟩ := by
  rw [eval_ListComp]
  refine wpAny_comprehension_free (use := none) rfl hs hclos hkind hnames (wpAny_mono h (fun xv s₁ h₁ => wpAny_mono h₁ (fun it s₂ h₂ => ?_) fun _ _ e => e) fun _ _ e => e)
  obtain ⟨I, n, val, St, h2, t2, rfl, rfl, K, x2, st, hn, p0, turn, q⟩ := h₂
  refine comp_core (RR := fun acc C => compPost (model prog w) A E none Q acc C) K x2 st hn P hcell hkind hx p0 mv turn ?_
  intro D C h' t' ys m' xh hC hC1 hD1 hD hP
  refine ⟨m', hC, fun h'' s'' => ?_⟩
  have x'' : Ext (· = C) h' h'' := Ext.refl.same s'' fun _ => rfl
  have nCD : D ≠ C := fun z => by
    obtain ⟨o, es, ep, e, dd, _⟩ := hC
    obtain ⟨n, e'⟩ := hD
    rw [z, e] at e'; cases e'; cases dd
  exact q D h'' t' ys (xh.then x'' fun b hb z => absurd hb (Nat.not_lt.mpr (z ▸ hC1))) hD1 (x''.lst hD nCD) (mv D n ys h' h'' _ hP x'' fun b z => .inr (.inl ⟨_, z ▸ hC⟩))
end

-- after M37
section
variable {prog : Program} {w : World} {A : Around} {E : Value → Shared → Prop} {h0 h h' : Heap} {g : Array GenState} {d : Drawn} {t : Nat} {os : OsState} {L fa : Addr} {ls ls' : List (Str × Value)} {lsts : List (Addr × List Value)} {ks : List (KA × Addr × Value)} {lams : List (Addr × Expr × List (Str × Addr))} {kys : List (Addr × Addr × Value)} {hds : List (Addr × Obj)} {X : Addr → Prop}
/-- never = cmp_to_key(_law_never) -/
theorem st3 {Q : Flow → Shared → Prop} (W : Law h0 L fa h ls lsts ks lams kys hds) (hd : A.depth + 5 < recursionLimit)
    (q : ∀ k c h' t', Law h0 L fa h' (("never", .ref k.C) :: ls) lsts ((k, c, .ref 28) :: ks) lams kys hds → Q .next ⟨h', g, d, t', os⟩) :
    wpAny (model prog w) A (exec (lawS 3) (EL L fa)) Q E ⟨h, g, d, t, os⟩ := by
  have S := W.S
  refine wpAny_Assign_Name (call_by ?_) (by kernel_rfl)
  walk_at "m glob"
  refine args_cons ?_
  walk_at "m glob"
  refine args_nil ?_
  refine keeper_fn S.f21 rfl fun _ => ?_
  refine W.cmp hd rfl fun k c h1 t1 W1 => ?_
  exact W1.store (.inr (by kernel_rfl)) fun h2 t2 W2 _ => q k c h2 t2 W2
theorem cnm_cell {scope : Scope} {cl : List (Str × Addr)} {C c : Addr} {env : Env} {x : Str} {pos : Pos} {v : Value} {Q : Value → Shared → Prop} (hk : (compEnvC scope cl C env).scope.kind = .function) (hx : (compEnvC scope cl C env).kindOf x = some .cell) (hc : cl.lookup x = some c) (y : h.IsCell c (some v))
    (q : Q v ⟨h, g, d, t, os⟩) (hb : (x == ("__debug__" : Str)) = false := by decide) : wpAny (model prog w) A (eval (.Name x pos) (compEnvC scope cl C env)) Q E ⟨h, g, d, t, os⟩ := wpAny_Name (wpAny_loadName_cell (s := ⟨h, g, d, t, os⟩) hk hx hc y q) hb
theorem cnm_local {scope : Scope} {cl : List (Str × Addr)} {C : Addr} {env : Env} {x : Str} {pos : Pos} {v : Value} {m : Str → Option Value} {Q : Value → Shared → Prop} (hk : (compEnvC scope cl C env).scope.kind = .function) (hx : (compEnvC scope cl C env).kindOf x = some .local) (y : h.Ns C m) (e : m x = some v)
    (q : Q v ⟨h, g, d, t, os⟩) (hb : (x == ("__debug__" : Str)) = false := by decide) : wpAny (model prog w) A (eval (.Name x pos) (compEnvC scope cl C env)) Q E ⟨h, g, d, t, os⟩ := wpAny_Name (wpAny_loadName_local (s := ⟨h, g, d, t, os⟩) hk hx y e q) hb
theorem tests_nil {env : Env} {Q : Bool → Shared → Prop} {s : Shared} (q : Q true s) : wpAny (model prog w) A (forIn ([] : List Expr) true fun c r => if r = true then do let ok ← isTrue c env (eval c env); pure (ForInStep.yield ok) else pure (ForInStep.yield r)) Q E s := wpAny_pure q
theorem tests_one {env : Env} {c : Expr} {Q : Bool → Shared → Prop} {s : Shared} (q : wpAny (model prog w) A (isTrue c env (eval c env)) Q E s) : wpAny (model prog w) A (forIn [c] true fun c r => if r = true then do let ok ← isTrue c env (eval c env); pure (ForInStep.yield ok) else pure (ForInStep.yield r)) Q E s := by
  rw [List.forIn_cons]
  refine wpAny_bind ?_
  simp only [if_true]
  exact wpAny_bind (wpAny_mono q (fun ok s' z => wpAny_pure (wpAny_pure z)) fun _ _ z => z)
/-- range(n) and its iterator -/
theorem range_iter {n : Nat} {u : Tok} {Q : Value → Shared → Prop} (hn : n ≤ 100000) (q : ∀ I h2 t2, Ext Nil h h2 → h.objs.size ≤ I → h2.get? I = some (riO 0 n) → Q (.ref I) ⟨h2, g, d, t2, os⟩) :
    wpAny (model prog w) A (call (.type "range") [.int n u]) (fun xv s₁ => wpAny (model prog w) A (pyIter xv) Q E s₁) E ⟨h, g, d, t, os⟩ := by
  refine call_range_1 (s := ⟨h, g, d, t, os⟩) ?_
  dsimp only
  refine wpAny_pyIter_range (s := ⟨_, g, d, _, os⟩) (IsRange.new ..) (small_one (by omega) (by omega) (by omega) (by omega)) ?_
  rw [rangeSize_one]
  have hsz : (if (0 : Int) < (n : Int) then (n : Int) - 0 else 0) = n := by split <;> omega
  rw [hsz]
  exact q _ _ _ ((Ext.refl.push _).push _) (by rw [Heap.size_push]; exact Nat.le_succ _) (Heap.get?_push_size _ rfl)
def compOf (s : Stmt) : Expr := valOf s
def eltOf (e : Expr) : Expr := match e with | .ListComp x _ _ _ => x | _ => noE
def iterOf (e : Expr) : Expr := match e with | .ListComp _ (g :: _) _ _ => g.iter | _ => noE
def scopeOf (e : Expr) : Scope := match e with | .ListComp _ _ sc _ => sc | _ => default
theorem keeper_cls {a : Addr} {o : Obj} {cd : ClassData} {M : Model} {s : Shared} {Q : Keeper → Shared → Prop} (ho : s.heap.get? a = some o) (hd : o.data = .cls cd) (hc : o.cls = .type "type") (q : ∀ k, Q k s) : wpAny M A (keeperOf (.ref a)) Q E s := by
  unfold keeperOf
  refine wpAny_bind (wpAny_load ho ?_)
  rw [hd]
  exact wpAny_bind (wpAny_specialOf (T := "type") ⟨o, ho, hc⟩ tc_lookup (wpAny_pure (q _)))
/-- the items of the row so far -/
def RowP (z : Nat) (D : Addr) (i : Nat) (ys : List Value) (h : Heap) : Prop :=
  ∃ its : List (Addr × List Value), its.length = i ∧ ys = its.map (fun p => Value.ref p.1) ∧ (∀ p ∈ its, LstAt h p.1 p.2 ∧ z ≤ p.1 ∧ p.1 ≠ D) ∧ (its.map Prod.fst).Nodup ∧ ∀ (j : Nat) (p : Addr × List Value), its[j]? = some p → ∃ x t, p.2 = [x, Value.int j t]
theorem RowP.mv {z : Nat} {D : Addr} {i : Nat} {ys : List Value} {h h' : Heap} {X : Addr → Prop} (p : RowP z D i ys h) (x : Ext X h h') (hX : ∀ b, X b → Inn D h b) : RowP z D i ys h' := by
  obtain ⟨its, a1, a2, a3, a4, a5⟩ := p
  refine ⟨its, a1, a2, fun p hp => ⟨x.lst (a3 p hp).1 fun q => ?_, (a3 p hp).2⟩, a4, a5⟩
  rcases hX _ q with ⟨o, e, i⟩ | ⟨m, o, es, ep, e, dd, _⟩ | e
  · exact i.no_list e (a3 p hp).1
  · obtain ⟨n, e'⟩ := (a3 p hp).1
    rw [e] at e'; cases e'; cases dd
  · exact (a3 p hp).2.2 e
/-- row = [[never(k), k] for k in range(many)] -/
theorem st4 {k : KA} {c : Addr} {f : Value} {n : Nat} {u : Tok} {Q : Flow → Shared → Prop} (W : Law h0 L fa h ls lsts ks lams kys hds) (hh : A.handled = none) (hd : A.depth + 5 < recursionLimit) (hm : lkS "many" ls = some (.int n u)) (hn : n ≤ 100) (hv : lkS "never" ls = some (.ref k.C)) (hk : (k, c, f) ∈ ks)
    (q : ∀ R its h' t', its.length = n → (∀ (j : Nat) (p : Addr × List Value), its[j]? = some p → ∃ x t, p.2 = [x, Value.int j t]) → Law h0 L fa h' (("row", .ref R) :: ls) ((R, its.map fun p => .ref p.1) :: (its ++ lsts)) ks lams kys hds → Q .next ⟨h', g, d, t', os⟩) :
    wpAny (model prog w) A (exec (lawS 4) (EL L fa)) Q E ⟨h, g, d, t, os⟩ := by
  have S := W.S
  refine wpAny_Assign_Name (comp_run (cl := [("never", cAt L "never")]) (by kernel_rfl) (by decide) (by kernel_rfl) (by decide) (by kernel_rfl) (RowP h.objs.size) (fun D i ys h h' X p x hX => p.mv x hX) ?_) (by kernel_rfl)
  refine call_by ?_
  walk_at "m glob"
  refine args_cons ?_
  refine W.F.ld (.inl (by kernel_rfl!)) hm ?_
  refine args_nil (keeper_type fun _ => ?_)
  refine range_iter (by omega) fun I h2 t2 x2 hI e2 => ?_
  refine ⟨I, n, _, _, h2, t2, rfl, rfl, wk_range hh hI n, x2, by simpa using e2, by omega, fun D h' x hD => ⟨[], rfl, rfl, (fun p hp => by cases hp), List.Pairwise.nil, (fun j p e => by simp at e)⟩, ?_, ?_⟩
  · rintro D i v ys h5 t5 C m E' hi ⟨tv, rfl⟩ x5 hC hm' hmv hD ⟨its, a1, a2, a3, a4, a5⟩
    refine tests_nil ?_
    simp only [if_true]
    refine wpAny_List (args_cons (call_by ?_))
    refine cnm_cell (by kernel_rfl) (by kernel_rfl) (by kernel_rfl) (x5.isCell (W.cell (by kernel_rfl) hv) id) ?_
    refine args_cons ?_
    refine cnm_local (by kernel_rfl) (by kernel_rfl) hm' hmv ?_
    refine args_nil ?_
    have K5 := (W.kok _ hk).keep x5
    obtain ⟨sl, eC, _⟩ := K5.cls
    refine keeper_cls eC rfl rfl fun _ => ?_
    refine key_new K5 (S.keep x5) (by omega) fun y h6 t6 x6 hy _ => ?_
    refine args_cons ?_
    refine cnm_local (by kernel_rfl) (by kernel_rfl) (x6.ns hm' id) hmv ?_
    refine args_nil ⟨Nat.le_of_ble_eq_true rfl, ?_⟩
    dsimp only
    have x7 : Ext Nil h5 (h6.push (oList [.ref y, .int i tv] 0)) := x6.push _
    refine ⟨_, _, rfl, x7, its ++ [(h6.objs.size, [.ref y, .int i tv])], by simp [a1], by simp [a2], fun p hp => ?_, ?_, fun j p e => ?_⟩
    · rcases List.mem_append.mp hp with hp | hp
      · exact ⟨x7.lst (a3 p hp).1 id, (a3 p hp).2⟩
      · rw [List.mem_singleton] at hp
        subst hp
        exact ⟨⟨0, Heap.get?_push_size _ rfl⟩, Nat.le_trans x5.1 x6.1, Nat.ne_of_gt (Nat.lt_of_lt_of_le hD.lt x6.1)⟩
    · rw [List.map_append, List.map_singleton, List.nodup_append]
      refine ⟨a4, List.Pairwise.cons (by simp) List.Pairwise.nil, fun a ha b hb => ?_⟩
      obtain ⟨p, hp, rfl⟩ := List.mem_map.mp ha
      rw [List.mem_singleton] at hb
      rw [hb]
      exact Nat.ne_of_lt (Nat.lt_of_lt_of_le (a3 p hp).1.lt x6.1)
    · by_cases hj : j < its.length
      · rw [List.getElem?_append_left hj] at e
        exact a5 j p e
      · rw [List.getElem?_append_right (by omega)] at e
        have : j - its.length = 0 := by
          cases hq : j - its.length with
          | zero => rfl
          | succ m => rw [hq] at e; simp at e
        rw [this] at e
        simp at e
        subst e
        have : j = i := by omega
        subst this
        exact ⟨_, _, rfl⟩
  · rintro D h5 t5 ys x5 hD hys ⟨its, a1, a2, a3, a4, a5⟩
    have W5 := W.keep x5
    have go : ∀ (l : List (Addr × List Value)), (∀ p ∈ l, p ∈ its) → (l.map Prod.fst).Nodup → Law h0 L fa h5 ls (l ++ lsts) ks lams kys hds := by
      intro l
      induction l with
      | nil => intro _ _; exact W5
      | cons p l ih =>
        intro hl hn
        rw [List.map_cons, List.nodup_cons] at hn
        have Wl := ih (fun p hp => hl p (.tail _ hp)) hn.2
        obtain ⟨b1, b2, b3⟩ := a3 p (hl p (.head _))
        refine Wl.add b1 (fun q hq z => ?_) (Nat.lt_of_lt_of_le (Nat.lt_trans W.h48 (Nat.lt_of_le_of_lt (Nat.le_add_right _ _) W.top)) b2)
        rcases List.mem_append.mp hq with hq | hq
        · exact hn.1 (List.mem_map.mpr ⟨q, hq, z⟩)
        · exact absurd (W.lst q hq).lt (Nat.not_lt.mpr (z ▸ b2))
    have W6 := (go its (fun _ z => z) a4).add hys (fun q hq z => ?_) (Nat.lt_of_lt_of_le (Nat.lt_trans W.h48 (Nat.lt_of_le_of_lt (Nat.le_add_right _ _) W.top)) hD)
    · subst a2
      exact W6.store (.inr (by kernel_rfl)) fun h7 t7 W7 _ => q D its h7 t7 a1 a5 W7
    · rcases List.mem_append.mp hq with hq | hq
      · exact (a3 q hq).2.2 z
      · exact absurd (W.lst q hq).lt (Nat.not_lt.mpr (z ▸ hD))
end

-- after M38
section
variable {prog : Program} {w : World} {A : Around} {E : Value → Shared → Prop} {h0 h h' : Heap} {g : Array GenState} {d : Drawn} {t : Nat} {os : OsState} {L fa : Addr} {ls ls' : List (Str × Value)} {lsts : List (Addr × List Value)} {ks : List (KA × Addr × Value)} {lams : List (Addr × Expr × List (Str × Addr))} {kys : List (Addr × Addr × Value)} {hds : List (Addr × Obj)} {X : Addr → Prop}
/-- x = [] -/
theorem st_empty {x : Str} {p p2 p3 : Pos} {Q : Flow → Shared → Prop} (W : Law h0 L fa h ls lsts ks lams kys hds) (hk : (EL L fa).kindOf x = some .local ∨ (EL L fa).kindOf x = some .cell)
    (q : ∀ a h' t', Law h0 L fa h' ((x, .ref a) :: ls) ((a, []) :: lsts) ks lams kys hds → h0.objs.size ≤ a → h'.objs.size = a + 1 → Q .next ⟨h', g, d, t', os⟩) (hs : swapsWith (.List [] p2) (some (.Name x p)) p3.line (EL L fa) = pure false := by kernel_rfl) :
    wpAny (model prog w) A (exec (.Assign [.Name x p] (.List [] p2) p3) (EL L fa)) Q E ⟨h, g, d, t, os⟩ := by
  refine wpAny_Assign_Name (wpAny_List (args_nil ⟨Nat.le_of_ble_eq_true rfl, ?_⟩)) hs
  dsimp only
  exact (W.alloc []).store hk fun h2 t2 W2 hz => q _ h2 t2 W2 W.x.1 (by rw [hz, Heap.size_push])
/-- rising = cmp_to_key(lambda ..) -/
theorem st6 {Q : Flow → Shared → Prop} (W : Law h0 L fa h ls lsts ks lams kys hds) (hd : A.depth + 5 < recursionLimit)
    (q : ∀ k c f h' t', Law h0 L fa h' (("rising", .ref k.C) :: ls) lsts ((k, c, .ref f) :: ks) ((f, lamOf (lawS 6), clN L) :: lams) kys hds → Q .next ⟨h', g, d, t', os⟩) :
    wpAny (model prog w) A (exec (lawS 6) (EL L fa)) Q E ⟨h, g, d, t, os⟩ := by
  have S := W.S
  refine wpAny_Assign_Name (call_by ?_) (by kernel_rfl)
  walk_at "m glob"
  refine args_cons (W.lambda (e := lamOf (lawS 6)) (clo := clN L) (by kernel_rfl) (by simp [lSites, lamsE]) (by kernel_rfl) (by kernel_rfl) fun f h1 t1 W1 => args_nil ?_)
  refine keeper_fn W1.S.f21 rfl fun _ => ?_
  refine W1.cmp hd rfl fun k c h2 t2 W2 => ?_
  exact W2.store (.inl (by kernel_rfl)) fun h3 t3 W3 _ => q k c f h3 t3 W3
theorem st7 {Q : Flow → Shared → Prop} (W : Law h0 L fa h ls lsts ks lams kys hds) (hd : A.depth + 5 < recursionLimit)
    (q : ∀ k c f h' t', Law h0 L fa h' (("falling", .ref k.C) :: ls) lsts ((k, c, .ref f) :: ks) ((f, lamOf (lawS 7), clN L) :: lams) kys hds → Q .next ⟨h', g, d, t', os⟩) :
    wpAny (model prog w) A (exec (lawS 7) (EL L fa)) Q E ⟨h, g, d, t, os⟩ := by
  have S := W.S
  refine wpAny_Assign_Name (call_by ?_) (by kernel_rfl)
  walk_at "m glob"
  refine args_cons (W.lambda (e := lamOf (lawS 7)) (clo := clN L) (by kernel_rfl) (by simp [lSites, lamsE]) (by kernel_rfl) (by kernel_rfl) fun f h1 t1 W1 => args_nil ?_)
  refine keeper_fn W1.S.f21 rfl fun _ => ?_
  refine W1.cmp hd rfl fun k c h2 t2 W2 => ?_
  exact W2.store (.inl (by kernel_rfl)) fun h3 t3 W3 _ => q k c f h3 t3 W3
theorem st20 {Q : Flow → Shared → Prop} (W : Law h0 L fa h ls lsts ks lams kys hds) (hd : A.depth + 5 < recursionLimit)
    (q : ∀ k c f h' t', Law h0 L fa h' (("shaky", .ref k.C) :: ls) lsts ((k, c, .ref f) :: ks) ((f, lamOf (lawS 20), clH L) :: lams) kys hds → Q .next ⟨h', g, d, t', os⟩) :
    wpAny (model prog w) A (exec (lawS 20) (EL L fa)) Q E ⟨h, g, d, t, os⟩ := by
  have S := W.S
  refine wpAny_Assign_Name (call_by ?_) (by kernel_rfl)
  walk_at "m glob"
  refine args_cons (W.lambda (e := lamOf (lawS 20)) (clo := clH L) (by kernel_rfl) (by simp [lSites, lamsE]) (by kernel_rfl) (by kernel_rfl) fun f h1 t1 W1 => args_nil ?_)
  refine keeper_fn W1.S.f21 rfl fun _ => ?_
  refine W1.cmp hd rfl fun k c h2 t2 W2 => ?_
  exact W2.store (.inl (by kernel_rfl)) fun h3 t3 W3 _ => q k c f h3 t3 W3
def insAt {α : Type} (l : List α) (c : Nat) (y : α) : List α := l.take c ++ y :: l.drop c
def insF (x : Int) (y : Value) : Array Value → Array Value := fun xs => have k := if x < 0 then (x + ((xs.size : Nat) : Int)).toNat else min x.toNat xs.size; (xs.extract 0 k).push y ++ xs.extract k
theorem insF_eq {c : Nat} {x : Int} {y : Value} {its : List Value} (hx : x = c) (hc : c ≤ its.length) : insF x y its.toArray = (insAt its c y).toArray := by
  have hneg : ¬ x < 0 := by omega
  have hmin : min x.toNat its.toArray.size = c := by rw [hx, Int.toNat_natCast, List.size_toArray]; omega
  unfold insF
  dsimp only
  rw [if_neg hneg, hmin, kl_ins_eq]
  rfl
theorem lst_insert' {D : Addr} {its : List Value} {c : Nat} {x : Int} {u : Tok} {y : Value} {Q : Value → Shared → Prop} (hx : x = c) (hl : LstAt h D its) (hc : c ≤ its.length) (hz : its.length ≤ 10000) (q : ∀ h', LstAt h' D (insAt its c y) → Heap.SameBut D h h' → Q .none ⟨h', g, d, t, os⟩) :
    wpAny (model prog w) A (call (.builtin "list.insert") [.ref D, .int x u, y]) Q E ⟨h, g, d, t, os⟩ := by
  obtain ⟨n, e⟩ := hl
  have hfit : ¬ (!Builtin.List.listFitsIndex x) = true := by
    have : Builtin.List.listFitsIndex x = true := by
      unfold Builtin.List.listFitsIndex
      have h1 : x ≤ 10000 := by omega
      have h2 : 0 ≤ x := by omega
      rw [Bool.and_eq_true, decide_eq_true_eq, decide_eq_true_eq]
      exact ⟨Int.le_trans (by decide) h2, Int.lt_of_le_of_lt h1 (by decide)⟩
    simp [this]
  have hz0 : its.toArray.size ≤ sizeLine := by rw [List.size_toArray, sizeLine_eq]; omega
  have e' := get?_update_seq (c := "list") (n := n) e (insF x y)
  rw [insF_eq hx hc] at e'
  refine call_meets PySem.F.slot_list_insert ⟨_, e, rfl⟩ PySem.F.entry_list_insert (PySem.F.args_list_insert_3 _ _ _) (PySem.AutoSeq1.list_insert_list_int_val_1 D its.toArray n x u y hfit hz0) ⟨e, ?_⟩
  exact q (h.update D (Obj.mapSeq (insF x y))) ⟨_, e'⟩ (Heap.SameBut.update ..)
theorem lst_insert {D : Addr} {its : List Value} {c : Nat} {u : Tok} {y : Value} {Q : Value → Shared → Prop} (hl : LstAt h D its) (hc : c ≤ its.length) (hz : its.length ≤ 10000) (q : ∀ h', LstAt h' D (insAt its c y) → Heap.SameBut D h h' → Q .none ⟨h', g, d, t, os⟩) :
    wpAny (model prog w) A (call (.builtin "list.insert") [.ref D, .int c u, y]) Q E ⟨h, g, d, t, os⟩ := lst_insert' rfl hl hc hz q
/-- a call of a list's insert -/
theorem call_insert {env : Env} {o e1 e2 : Expr} {apos pos : Pos} {Q : Value → Shared → Prop} (hbase : attributeBase o "insert" env (eval o env) = eval o env) (hform : methodCallForm 2 (backTo pos (starEach [e1, e2] env)) (backToKw pos (keywordEach [] env)) = true) (hline : (apos.endLine == pos.line) = true)
    (hs : (backTo pos (starEach [e1, e2] env)).any (·.1) = false) (hl : Nat.ble (backTo pos (starEach [e1, e2] env)).length 30 = true)
    (q : wpAny (model prog w) A (eval o env) (fun ov s₁ => ∃ D its, ov = .ref D ∧ LstAt s₁.heap D its ∧ wpAny (model prog w) A (spliced (backTo pos (starEach [e1, e2] env))) (fun vs s₂ => wpAny (model prog w) A (call (.builtin "list.insert") (.ref D :: vs)) Q E s₂) E s₁) E ⟨h, g, d, t, os⟩) :
    wpAny (model prog w) A (eval (.Call (.Attribute o "insert" apos) [e1, e2] [] pos) env) Q E ⟨h, g, d, t, os⟩ := by
  rw [arm_eval_Call, hbase]
  refine wpAny_bind (wpAny_mono q (fun ov s₁ h₁ => ?_) fun _ _ e => e)
  obtain ⟨D, its, rfl, ⟨n, e⟩, hcall⟩ := h₁
  refine wpAny_bind (wpAny_standAt ?_)
  have hpos : methodCallPos true o env apos pos = pure pos := by unfold methodCallPos; simp [hline]
  unfold methodCall
  rw [show methodCallForm (List.length [e1, e2] + List.length ([] : List Keyword)) (backTo pos (starEach [e1, e2] env)) (backToKw pos (keywordEach [] env)) = true from hform]
  refine wpAny_bind (wpAny_holding (getMethod_builtin ⟨_, e, rfl⟩ PySem.F.plainAttrs_list PySem.F.slot_list_insert PySem.F.type_list_insert (fun a z => by cases z; exact ⟨_, e, rfl⟩) ?_))
  refine wpAny_bind (wpAny_of_eq hpos ?_)
  exact callWith_gen hs (Nat.le_of_ble_eq_true hl) (wpAny_mono hcall (fun vs s₂ h₂ => keeper_builtin fun _ => h₂) fun _ _ z => z)
end

-- after M39
/-- the places in the order due: each laid in behind those whose half is no greater -/
def dues (ns : List Int) : Nat → List Nat
  | 0 => []
  | i + 1 => insAt (dues ns i) ((dues ns i).countP fun j => decide (halfOf ns j ≤ halfOf ns i)) i
def backs (ns : List Int) : Nat → List Nat
  | 0 => []
  | i + 1 => insAt (backs ns i) ((backs ns i).countP fun j => decide (halfOf ns j ≥ halfOf ns i)) i
abbrev NatsAre (vs : List Value) (l : List Nat) : Prop := IntsAre vs (l.map fun j => ((j : Nat) : Int))
theorem insAt_length {α : Type} (l : List α) (c : Nat) (y : α) : (insAt l c y).length = l.length + 1 := by
  unfold insAt
  rw [List.length_append, List.length_cons, List.length_take, List.length_drop]
  omega
theorem dues_length (ns : List Int) : ∀ i, (dues ns i).length = i
  | 0 => rfl
  | i + 1 => by unfold dues; rw [insAt_length, dues_length]
theorem backs_length (ns : List Int) : ∀ i, (backs ns i).length = i
  | 0 => rfl
  | i + 1 => by unfold backs; rw [insAt_length, backs_length]
theorem insAt_mem {α : Type} {l : List α} {c : Nat} {y x : α} (h : x ∈ insAt l c y) : x = y ∨ x ∈ l := by
  unfold insAt at h
  rcases List.mem_append.mp h with h | h
  · exact .inr (List.mem_of_mem_take h)
  · rcases List.mem_cons.mp h with h | h
    · exact .inl h
    · exact .inr (List.mem_of_mem_drop h)
theorem dues_lt (ns : List Int) : ∀ i, ∀ j ∈ dues ns i, j < i
  | 0, _, h => by cases h
  | i + 1, j, h => by
    rcases insAt_mem h with rfl | h
    · exact Nat.lt_succ_self _
    · exact Nat.lt_succ_of_lt (dues_lt ns i j h)
theorem backs_lt (ns : List Int) : ∀ i, ∀ j ∈ backs ns i, j < i
  | 0, _, h => by cases h
  | i + 1, j, h => by
    rcases insAt_mem h with rfl | h
    · exact Nat.lt_succ_self _
    · exact Nat.lt_succ_of_lt (backs_lt ns i j h)
theorem ints_take {vs : List Value} {ns : List Int} (I : IntsAre vs ns) : ∀ c, IntsAre (vs.take c) (ns.take c) := by
  induction I with
  | nil => intro c; simp; exact .nil
  | cons n t I ih =>
    intro c
    cases c with
    | zero => exact .nil
    | succ c => exact .cons n t (ih c)
theorem ints_drop {vs : List Value} {ns : List Int} (I : IntsAre vs ns) : ∀ c, IntsAre (vs.drop c) (ns.drop c) := by
  induction I with
  | nil => intro c; simp; exact .nil
  | cons n t I ih =>
    intro c
    cases c with
    | zero => exact .cons n t I
    | succ c => exact ih c
theorem nats_ins {vs : List Value} {l : List Nat} (I : NatsAre vs l) (c y : Nat) (t : Tok) : NatsAre (insAt vs c (.int y t)) (insAt l c y) := by
  unfold insAt NatsAre
  rw [List.map_append, List.map_cons, List.map_take, List.map_drop]
  exact ints_app (ints_take I c) (.cons _ _ (ints_drop I c))
theorem nats_len {vs : List Value} {l : List Nat} (I : NatsAre vs l) : vs.length = l.length := by rw [I.length, List.length_map]
theorem nats_get {vs : List Value} {l : List Nat} (I : NatsAre vs l) {i : Nat} {v : Value} (e : vs[i]? = some v) : ∃ j t, l[i]? = some j ∧ v = .int j t := by
  have hi : i < vs.length := (List.getElem?_eq_some_iff.mp e).1
  rw [nats_len I] at hi
  obtain ⟨t, h⟩ := ints_get I (i := i) (n := ((l[i] : Nat) : Int)) (by simp [hi])
  rw [e] at h
  cases h
  exact ⟨l[i], t, by simp [hi], rfl⟩
theorem half_get {ns : List Int} {j : Nat} (hj : j < ns.length) : ns[j].fdiv 2 = halfOf ns j := by
  unfold halfOf
  rw [List.getD_eq_getElem?_getD, List.getElem?_eq_getElem hj]
  rfl
theorem count_take {α : Type} {l : List α} {i : Nat} {x : α} {p : α → Bool} (e : l[i]? = some x) : (l.take (i + 1)).countP p = (l.take i).countP p + if p x then 1 else 0 := by
  rw [List.take_add_one, List.countP_append, e]
  simp
section
variable {prog : Program} {w : World} {A : Around} {E : Value → Shared → Prop} {h0 h h' : Heap} {g : Array GenState} {d : Drawn} {t : Nat} {os : OsState} {L fa : Addr} {ls ls' : List (Str × Value)} {lsts : List (Addr × List Value)} {ks : List (KA × Addr × Value)} {lams : List (Addr × Expr × List (Str × Addr))} {kys : List (Addr × Addr × Value)} {hds : List (Addr × Obj)} {X : Addr → Prop}
theorem Law.unname {x : Str} {v : Value} (W : Law h0 L fa h ((x, v) :: ls) lsts ks lams kys hds) (hx : lkS x ls = none) : Law h0 L fa h ls lsts ks lams kys hds :=
  W.names fun m u e => by
    rw [lookup_cons']
    split
    · rename_i z
      rw [z] at e
      have hx : ls.lookup x = none := hx
      rw [hx] at e; cases e
    · exact e
theorem lkS_cons {x y : Str} {v w : Value} (h : lkS x ls = some w) (hn : (x == y) = false) : lkS x ((y, v) :: ls) = some w := by
  show List.lookup x ((y, v) :: ls) = some w
  rw [List.lookup_cons, hn]
  exact h
abbrev cNH (L : Addr) : List (Str × Addr) := [("numbers", cAt L "numbers"), ("half", cAt L "half")]
/-- a test of the comprehensions: the half of a place's number beside half -/
theorem half_test {C N : Addr} {scope : Scope} {vs : List Value} {ns : List Int} {j : Nat} {tj th : Tok} {hv : Int} {m : Str → Option Value} {env : Env} {p1 p2 p3 p4 p5 p6 p7 : Pos} {op : CmpOp} {Q : Bool → Shared → Prop}
    (hk : (compEnvC scope (cNH L) C env).scope.kind = .function) (k1 : (compEnvC scope (cNH L) C env).kindOf "numbers" = some .cell) (k2 : (compEnvC scope (cNH L) C env).kindOf "half" = some .cell) (k3 : (compEnvC scope (cNH L) C env).kindOf "j" = some .local)
    (c1 : h.IsCell (cAt L "numbers") (some (.ref N))) (c2 : h.IsCell (cAt L "half") (some (.int hv th))) (hC : h.Ns C m) (hm : m "j" = some (.int j tj)) (hN : LstAt h N vs) (I : IntsAre vs ns) (hj : j < ns.length) (hn : ns.length ≤ 100)
    (q : ∀ u t', wpAny (model prog w) A (compareOp op (.int (halfOf ns j) u) (.int hv th)) (fun v s' => ∃ b, v = .bool b ∧ Q b s') E ⟨h, g, d, t', os⟩) (hs : ∀ o i : Value, subscripted (.Name "j" p2) false o i = operate [o, i] (getItem o i) := by intro _ _; with_unfolding_all rfl) :
    wpAny (model prog w) A (isTrue (.Compare (.BinOp (.Subscript (.Name "numbers" p1) (.Name "j" p2) p3) .FloorDiv (.Constant (.int 2) 0 p4) p5) [op] [.Name "half" p6] p7) (compEnvC scope (cNH L) C env) (eval (.Compare (.BinOp (.Subscript (.Name "numbers" p1) (.Name "j" p2) p3) .FloorDiv (.Constant (.int 2) 0 p4) p5) [op] [.Name "half" p6] p7) (compEnvC scope (cNH L) C env))) Q E ⟨h, g, d, t, os⟩ := by
  refine wpAny_isTrue_Compare1 (wpAny_BinOp (Subscript_ ?_))
  refine cnm_cell hk k1 (by kernel_rfl) c1 ?_
  refine cnm_local hk k3 hC hm ?_
  obtain ⟨uj, huj⟩ := ints_get I (List.getElem?_eq_getElem hj)
  refine sub_list hN huj (by omega) ?_ hs
  walk_at "m int"
  refine floordiv_int (by decide) ?_
  dsimp only
  refine cnm_cell hk k2 (by kernel_rfl) c2 ?_
  rw [half_get hj]
  refine wpAny_mono (q _ _) (fun v s' z => ?_) fun _ _ z => z
  obtain ⟨b, rfl, z⟩ := z
  exact wpAny_truthy_bool z
end

-- after M40
section
variable {prog : Program} {w : World} {A : Around} {E : Value → Shared → Prop} {h0 h h' : Heap} {g : Array GenState} {d : Drawn} {t : Nat} {os : OsState} {L fa : Addr} {ls ls' : List (Str × Value)} {lsts : List (Addr × List Value)} {ks : List (KA × Addr × Value)} {lams : List (Addr × Expr × List (Str × Addr))} {kys : List (Addr × Addr × Value)} {hds : List (Addr × Obj)} {X : Addr → Prop}
/-- how many the comprehension has taken -/
def CntP (l : List Nat) (p : Nat → Bool) (_ : Addr) (i : Nat) (ys : List Value) (_ : Heap) : Prop := ys.length = (l.take i).countP p
/-- an iterator over a list -/
theorem lst_iter {l : Addr} {its : List Value} {Q : Value → Shared → Prop} (hl : LstAt h l its) (q : ∀ I h2, Ext Nil h h2 → h.objs.size ≤ I → h2.IsListIter I l 0 → Q (.ref I) ⟨h2, g, d, t, os⟩) : wpAny (model prog w) A (pyIter (.ref l)) Q E ⟨h, g, d, t, os⟩ := by
  refine wpAny_pyIter_list (s := ⟨h, g, d, t, os⟩) hl.isList ?_
  exact q _ _ (Ext.refl.push _) (Nat.le_refl _) ⟨_, Heap.get?_push_size _ rfl, rfl, rfl⟩
def forBody (s : Stmt) : List Stmt := match s with | .For _ _ b _ _ => b | _ => []
def fb (i : Nat) : Stmt := (forBody (lawS 10)).getD i (.Pass ⟨0, 0, 0, 0⟩)
theorem ins_due {N Dd : Addr} {vd vs : List Value} {ns : List Int} {i : Nat} {v uh : Tok} {l : List Nat} {Q : Flow → Shared → Prop} (W : Law h0 L fa h ls ((Dd, vd) :: lsts) ks lams kys hds) (hh : A.handled = none) (hN : lkS "numbers" ls = some (.ref N)) (hH : lkS "half" ls = some (.int (halfOf ns i) uh)) (hD : lkS "due" ls = some (.ref Dd)) (hk : lkS "k" ls = some (.int i v))
    (hvs : (N, vs) ∈ lsts) (I : IntsAre vs ns) (hn : ns.length ≤ 63) (Id : NatsAre vd l) (hl : ∀ j ∈ l, j < ns.length) (hlen : l.length ≤ 100) (hD0 : h0.objs.size ≤ Dd)
    (q : ∀ h' t', Law h0 L fa h' ls ((Dd, insAt vd (l.countP fun j => decide (halfOf ns j ≤ halfOf ns i)) (.int i v)) :: lsts) ks lams kys hds → Q .next ⟨h', g, d, t', os⟩) :
    wpAny (model prog w) A (exec (fb 1) (EL L fa)) Q E ⟨h, g, d, t, os⟩ := by
  have S := W.S
  have hvl := nats_len Id
  refine wpAny_Expr_any (call_insert (by kernel_rfl) (by kernel_rfl) (by kernel_rfl) (by kernel_rfl) (by kernel_rfl) ?_) (by kernel_rfl) (by kernel_rfl)
  refine W.F.ld (.inr (.inl (by kernel_rfl!))) hD ?_
  refine ⟨Dd, vd, rfl, W.lst _ (.head _), ?_⟩
  refine args_cons (call_by ?_)
  walk_at "m glob"
  refine args_cons (comp_run (cl := cNH L) (by kernel_rfl) (by decide) (by kernel_rfl) (by decide) (by kernel_rfl) (CntP l fun j => decide (halfOf ns j ≤ halfOf ns i)) (fun D i ys h h' X p x hX => p) ?_)
  refine W.F.ld (.inr (.inl (by kernel_rfl!))) hD ?_
  refine lst_iter (W.lst _ (.head _)) fun It h2 x2 hI hit => ?_
  refine ⟨It, vd.length, _, _, h2, t, rfl, rfl, wk_list hh hI (W.lst _ (.head _)).lt, x2, ⟨hit, x2.lst (W.lst _ (.head _)) id⟩, by omega, fun D h' x hD => rfl, ?_, ?_⟩
  · intro D i' v' ys h5 t5 C m E' hi' hv' x5 hC hCm hmv hDl hP
    obtain ⟨j, tj, hj, rfl⟩ := nats_get Id hv'
    have hjl : j < ns.length := hl j (List.mem_of_getElem? hj)
    have hP : ys.length = (l.take i').countP _ := hP
    have W5 := W.keep x5
    refine tests_one (half_test (by kernel_rfl) (by kernel_rfl) (by kernel_rfl) (by kernel_rfl) (W5.cell (by kernel_rfl) hN) (W5.cell (by kernel_rfl) hH) hCm hmv (W5.lst _ (.tail _ hvs)) I hjl (by omega) (fun u5 t6 => ?_))
    refine le_int ⟨_, rfl, ?_⟩
    by_cases hc : halfOf ns j ≤ halfOf ns i
    · rw [if_pos (decide_eq_true hc)]
      refine cnm_local (by kernel_rfl) (by kernel_rfl) hCm hmv ?_
      refine ⟨h5, _, rfl, .refl, ?_⟩
      show (ys ++ [_]).length = (l.take (i' + 1)).countP _
      rw [count_take hj, List.length_append, hP, if_pos (decide_eq_true hc)]
      rfl
    · rw [if_neg (by simpa using hc)]
      refine ⟨h5, _, rfl, .refl, ?_⟩
      show ys.length = (l.take (i' + 1)).countP _
      rw [count_take hj, hP, if_neg (by simpa using hc)]
      rfl
  · intro D h5 t5 ys x5 hD5 hys hP
    have hP : ys.length = (l.take vd.length).countP _ := hP
    rw [hvl, List.take_length] at hP
    have W5 := W.keep x5
    refine args_nil (keeper_builtin fun _ => ?_)
    have hcnt : ys.length ≤ l.length := by rw [hP]; exact List.countP_le_length
    refine len_lst hys (by omega) fun u6 t6 => ?_
    refine args_cons (W5.F.ld (.inl (by kernel_rfl!)) hk (args_nil ?_))
    refine lst_insert (W5.lst _ (.head _)) (by dsimp only; omega) (by dsimp only; omega) fun h6 l6 s6 => ?_
    rw [hP] at l6
    exact q h6 _ (W5.upd l6 (Ext.refl.same s6 fun _ => rfl) hD0)
theorem ins_back {N Dd : Addr} {vd vs : List Value} {ns : List Int} {i : Nat} {v uh : Tok} {l : List Nat} {Q : Flow → Shared → Prop} (W : Law h0 L fa h ls ((Dd, vd) :: lsts) ks lams kys hds) (hh : A.handled = none) (hN : lkS "numbers" ls = some (.ref N)) (hH : lkS "half" ls = some (.int (halfOf ns i) uh)) (hD : lkS "back" ls = some (.ref Dd)) (hk : lkS "k" ls = some (.int i v))
    (hvs : (N, vs) ∈ lsts) (I : IntsAre vs ns) (hn : ns.length ≤ 63) (Id : NatsAre vd l) (hl : ∀ j ∈ l, j < ns.length) (hlen : l.length ≤ 100) (hD0 : h0.objs.size ≤ Dd)
    (q : ∀ h' t', Law h0 L fa h' ls ((Dd, insAt vd (l.countP fun j => decide (halfOf ns j ≥ halfOf ns i)) (.int i v)) :: lsts) ks lams kys hds → Q .next ⟨h', g, d, t', os⟩) :
    wpAny (model prog w) A (exec (fb 2) (EL L fa)) Q E ⟨h, g, d, t, os⟩ := by
  have S := W.S
  have hvl := nats_len Id
  refine wpAny_Expr_any (call_insert (by kernel_rfl) (by kernel_rfl) (by kernel_rfl) (by kernel_rfl) (by kernel_rfl) ?_) (by kernel_rfl) (by kernel_rfl)
  refine W.F.ld (.inl (by kernel_rfl!)) hD ?_
  refine ⟨Dd, vd, rfl, W.lst _ (.head _), ?_⟩
  refine args_cons (call_by ?_)
  walk_at "m glob"
  refine args_cons (comp_run (cl := cNH L) (by kernel_rfl) (by decide) (by kernel_rfl) (by decide) (by kernel_rfl) (CntP l fun j => decide (halfOf ns j ≥ halfOf ns i)) (fun D i ys h h' X p x hX => p) ?_)
  refine W.F.ld (.inl (by kernel_rfl!)) hD ?_
  refine lst_iter (W.lst _ (.head _)) fun It h2 x2 hI hit => ?_
  refine ⟨It, vd.length, _, _, h2, t, rfl, rfl, wk_list hh hI (W.lst _ (.head _)).lt, x2, ⟨hit, x2.lst (W.lst _ (.head _)) id⟩, by omega, fun D h' x hD => rfl, ?_, ?_⟩
  · intro D i' v' ys h5 t5 C m E' hi' hv' x5 hC hCm hmv hDl hP
    obtain ⟨j, tj, hj, rfl⟩ := nats_get Id hv'
    have hjl : j < ns.length := hl j (List.mem_of_getElem? hj)
    have hP : ys.length = (l.take i').countP _ := hP
    have W5 := W.keep x5
    refine tests_one (half_test (by kernel_rfl) (by kernel_rfl) (by kernel_rfl) (by kernel_rfl) (W5.cell (by kernel_rfl) hN) (W5.cell (by kernel_rfl) hH) hCm hmv (W5.lst _ (.tail _ hvs)) I hjl (by omega) (fun u5 t6 => ?_))
    refine ge_int ⟨_, rfl, ?_⟩
    by_cases hc : halfOf ns j ≥ halfOf ns i
    · rw [if_pos (decide_eq_true hc)]
      refine cnm_local (by kernel_rfl) (by kernel_rfl) hCm hmv ?_
      refine ⟨h5, _, rfl, .refl, ?_⟩
      show (ys ++ [_]).length = (l.take (i' + 1)).countP _
      rw [count_take hj, List.length_append, hP, if_pos (decide_eq_true hc)]
      rfl
    · rw [if_neg (by simpa using hc)]
      refine ⟨h5, _, rfl, .refl, ?_⟩
      show ys.length = (l.take (i' + 1)).countP _
      rw [count_take hj, hP, if_neg (by simpa using hc)]
      rfl
  · intro D h5 t5 ys x5 hD5 hys hP
    have hP : ys.length = (l.take vd.length).countP _ := hP
    rw [hvl, List.take_length] at hP
    have W5 := W.keep x5
    refine args_nil (keeper_builtin fun _ => ?_)
    have hcnt : ys.length ≤ l.length := by rw [hP]; exact List.countP_le_length
    refine len_lst hys (by omega) fun u6 t6 => ?_
    refine args_cons (W5.F.ld (.inl (by kernel_rfl!)) hk (args_nil ?_))
    refine lst_insert (W5.lst _ (.head _)) (by dsimp only; omega) (by dsimp only; omega) fun h6 l6 s6 => ?_
    rw [hP] at l6
    exact q h6 _ (W5.upd l6 (Ext.refl.same s6 fun _ => rfl) hD0)
theorem st10 {N Dd Bk : Addr} {vs : List Value} {ns : List Int} {u : Tok} {rest : List (Addr × List Value)} {Q : Flow → Shared → Prop} (W : Law h0 L fa h ls ((Dd, []) :: (Bk, []) :: rest) ks lams kys hds) (hh : A.handled = none)
    (hm : lkS "many" ls = some (.int ns.length u)) (hN : lkS "numbers" ls = some (.ref N)) (hD : lkS "due" ls = some (.ref Dd)) (hB : lkS "back" ls = some (.ref Bk)) (hvs : (N, vs) ∈ rest) (I : IntsAre vs ns) (hn : ns.length ≤ 63)
    (hk0 : lkS "k" ls = none) (hh0 : lkS "half" ls = none) (hD0 : h0.objs.size ≤ Dd) (hB0 : h0.objs.size ≤ Bk)
    (q : ∀ vd vb h' t', NatsAre vd (dues ns ns.length) → NatsAre vb (backs ns ns.length) → Law h0 L fa h' ls ((Dd, vd) :: (Bk, vb) :: rest) ks lams kys hds → Q .next ⟨h', g, d, t', os⟩) :
    wpAny (model prog w) A (exec (lawS 10) (EL L fa)) Q E ⟨h, g, d, t, os⟩ := by
  refine for_rng (u := u) hh (by kernel_rfl) (n := ns.length) (by omega) (fun i ls' lsts' ks' lams' kys' => ls = ls' ∧ ks = ks' ∧ lams = lams' ∧ kys = kys' ∧ ∃ vd vb, lsts' = (Dd, vd) :: (Bk, vb) :: rest ∧ NatsAre vd (dues ns i) ∧ NatsAre vb (backs ns i)) W ⟨rfl, rfl, rfl, rfl, [], [], rfl, .nil, .nil⟩ (fun Q' z => W.F.ld (.inl (by kernel_rfl!)) hm (z _)) ?_ ?_
  · rintro i _ _ _ _ _ h t It o v hi ⟨rfl, rfl, rfl, rfl, vd, vb, rfl, Id, Ib⟩ W
    have F := W.F
    have hN' : lkS "numbers" (("k", .int i v) :: ls) = some (.ref N) := lkS_cons hN (by decide +kernel)
    obtain ⟨ui, hui⟩ := ints_get I (List.getElem?_eq_getElem hi)
    refine wpAny_execs_cons (wpAny_Assign_Name (wpAny_BinOp (Subscript_ ?_)) (by kernel_rfl))
    refine W.F.ld (.inr (.inl (by kernel_rfl!))) hN' ?_
    walk_at "m var"
    refine sub_list (W.lst _ (.tail _ (.tail _ hvs))) hui (by omega) ?_
    walk_at "m int"
    refine floordiv_int (by decide) ?_
    dsimp only
    rw [half_get hi]
    refine W.store (.inr (by kernel_rfl)) fun h1 t1 W1 _ => ?_
    clear F W
    have lk : ∀ {x : Str} {y : Value} {uh : Tok}, lkS x ls = some y → (x == "k") = false → (x == "half") = false → lkS x (("half", .int (halfOf ns i) uh) :: ("k", .int i v) :: ls) = some y := fun e e1 e2 => lkS_cons (lkS_cons e e1) e2
    have dl := dues_length ns i
    have bl := backs_length ns i
    refine wpAny_execs_cons (ins_due (i := i) (v := v) (uh := t + 1) W1 hh (lk hN (by decide +kernel) (by decide +kernel)) (by kernel_rfl) (lk hD (by decide +kernel) (by decide +kernel)) (by kernel_rfl) (.tail _ hvs) I hn Id (fun j hj => Nat.lt_trans (dues_lt ns i j hj) hi) (by omega) hD0 fun h2 t2 W2 => ?_)
    refine wpAny_execs_cons (ins_back (i := i) (v := v) (uh := t + 1) (W2.perm (List.Perm.swap _ _ _)) hh (lk hN (by decide +kernel) (by decide +kernel)) (by kernel_rfl) (lk hB (by decide +kernel) (by decide +kernel)) (by kernel_rfl) (.tail _ hvs) I hn Ib (fun j hj => Nat.lt_trans (backs_lt ns i j hj) hi) (by omega) hB0 fun h3 t3 W3 => ?_)
    refine wpAny_execs_nil ⟨rfl, ls, _, ks, lams, kys, h3, t3, rfl, ⟨rfl, rfl, rfl, rfl, _, _, rfl, nats_ins Id _ i v, nats_ins Ib _ i v⟩, ?_⟩
    refine ((W3.perm (List.Perm.swap _ _ _)).unname ?_).unname hk0
    show List.lookup _ _ = none
    rw [List.lookup_cons, show (("half" : Str) == "k") = false by decide +kernel]
    exact hh0
  · rintro _ _ _ _ _ h' t' ⟨rfl, rfl, rfl, rfl, vd, vb, rfl, Id, Ib⟩ W'
    exact q vd vb h' t' Id Ib W'
end

-- after M40
theorem nodup_le : ∀ (l l' : List Nat), l.Nodup → (∀ x ∈ l, x ∈ l') → l.length ≤ l'.length
  | [], _, _, _ => Nat.zero_le _
  | x :: l, l', hn, hs => by
    rw [List.nodup_cons] at hn
    have hx := hs x (.head _)
    have := nodup_le l (l'.erase x) hn.2 fun y hy => by
      have hne : y ≠ x := fun z => hn.1 (z ▸ hy)
      exact (List.mem_erase_of_ne hne).mpr (hs y (.tail _ hy))
    rw [List.length_erase_of_mem hx] at this
    have hpos : 0 < l'.length := List.length_pos_of_mem hx
    rw [List.length_cons]
    omega
theorem nodup_all {l : List Nat} {n : Nat} (hn : l.Nodup) (hlt : ∀ x ∈ l, x < n) (hlen : l.length = n) : l.Perm (List.range n) := by
  rw [List.perm_ext_iff_of_nodup hn List.nodup_range]
  intro a
  refine ⟨fun h => List.mem_range.mpr (hlt a h), fun h => ?_⟩
  rw [List.mem_range] at h
  refine Decidable.byContradiction fun hna => ?_
  have := nodup_le l ((List.range n).erase a) hn fun y hy => by
    have hne : y ≠ a := fun z => hna (z ▸ hy)
    exact (List.mem_erase_of_ne hne).mpr (List.mem_range.mpr (hlt y hy))
  rw [List.length_erase_of_mem (List.mem_range.mpr h), List.length_range] at this
  omega
/-- each laid in behind those that are no greater -/
def lay (f : Nat → Int) : Nat → List Nat
  | 0 => []
  | i + 1 => insAt (lay f i) ((lay f i).countP fun j => decide (f j ≤ f i)) i
theorem dues_lay (ns : List Int) : ∀ i, dues ns i = lay (halfOf ns) i
  | 0 => rfl
  | i + 1 => by unfold dues lay; rw [dues_lay ns i]
theorem backs_lay (ns : List Int) : ∀ i, backs ns i = lay (fun j => - halfOf ns j) i
  | 0 => rfl
  | i + 1 => by
    unfold backs lay
    rw [backs_lay ns i]
    congr 2
    funext j
    apply decide_eq_decide.mpr
    omega
theorem lay_lt (f : Nat → Int) : ∀ i, ∀ j ∈ lay f i, j < i
  | 0, _, h => by cases h
  | i + 1, j, h => by
    rcases insAt_mem h with rfl | h
    · exact Nat.lt_succ_self _
    · exact Nat.lt_succ_of_lt (lay_lt f i j h)
theorem lay_length (f : Nat → Int) : ∀ i, (lay f i).length = i
  | 0 => rfl
  | i + 1 => by unfold lay; rw [insAt_length, lay_length]
theorem cut_take {f : Nat → Int} {v : Int} : ∀ {l : List Nat}, l.Pairwise (Lex f) → ∀ x ∈ l.take (l.countP fun j => decide (f j ≤ v)), f x ≤ v
  | [], _, x, h => by simp at h
  | y :: l, hp, x, h => by
    rw [List.pairwise_cons] at hp
    rw [List.countP_cons] at h
    by_cases hy : f y ≤ v
    · rw [if_pos (decide_eq_true hy), List.take_succ_cons] at h
      rcases List.mem_cons.mp h with rfl | h
      · exact hy
      · exact cut_take hp.2 x h
    · have hz : (l.countP fun j => decide (f j ≤ v)) = 0 := by
        rw [List.countP_eq_zero]
        intro z hz
        have := (hp.1 z hz).le
        simp
        omega
      rw [hz, if_neg (by simpa using hy)] at h
      simp at h
theorem cut_drop {f : Nat → Int} {v : Int} : ∀ {l : List Nat}, l.Pairwise (Lex f) → ∀ x ∈ l.drop (l.countP fun j => decide (f j ≤ v)), v < f x
  | [], _, x, h => by simp at h
  | y :: l, hp, x, h => by
    rw [List.pairwise_cons] at hp
    rw [List.countP_cons] at h
    by_cases hy : f y ≤ v
    · rw [if_pos (decide_eq_true hy), List.drop_succ_cons] at h
      exact cut_drop hp.2 x h
    · have hz : (l.countP fun j => decide (f j ≤ v)) = 0 := by
        rw [List.countP_eq_zero]
        intro z hz
        have := (hp.1 z hz).le
        simp
        omega
      rw [hz, if_neg (by simpa using hy)] at h
      rcases List.mem_cons.mp h with rfl | h
      · omega
      · have := (hp.1 x h).le
        omega
theorem lay_pw (f : Nat → Int) : ∀ i, (lay f i).Pairwise (Lex f)
  | 0 => .nil
  | i + 1 => by
    have ih := lay_pw f i
    unfold lay insAt
    rw [List.pairwise_append]
    refine ⟨ih.sublist (List.take_sublist _ _), ?_, ?_⟩
    · rw [List.pairwise_cons]
      exact ⟨fun y hy => .inl (cut_drop ih y hy), ih.sublist (List.drop_sublist _ _)⟩
    · intro x hx y hy
      have h1 := cut_take ih x hx
      have h2 := lay_lt f i x (List.mem_of_mem_take hx)
      have hxi : Lex f x i := by unfold Lex; omega
      rcases List.mem_cons.mp hy with rfl | hy
      · exact hxi
      · exact hxi.trans (.inl (cut_drop ih y hy))
theorem pw_nodup {f : Nat → Int} {l : List Nat} (h : l.Pairwise (Lex f)) : l.Nodup := by
  refine List.Pairwise.imp (R := Lex f) (S := fun a b => a ≠ b) ?_ h
  intro a b z e
  subst e
  exact z.irrefl
theorem lex_neg {b : Bool} {f : Nat → Int} {i j : Nat} (h : Ordr b f i j) : Lex (if b then fun x => - f x else f) i j := by
  cases b with
  | false => exact h
  | true =>
    unfold Ordr at h
    simp only [if_true] at h ⊢
    unfold Lex
    dsimp only
    omega
theorem out_is {b : Bool} {f : Nat → Int} {n : Nat} {vs out : List Value} (O : OutOf b f n vs out) : out = (lay (if b then fun x => - f x else f) n).map fun j => vs.getD j .none := by
  obtain ⟨q, q1, q2, q3, rfl⟩ := O
  have e : (List.range n).map q = lay (if b then fun x => - f x else f) n := by
    have pw : ((List.range n).map q).Pairwise (Lex (if b then fun x => - f x else f)) := by
      rw [List.pairwise_map]
      rw [List.pairwise_iff_getElem]
      intro i j hi hj hij
      rw [List.length_range] at hi hj
      rw [List.getElem_range, List.getElem_range]
      exact lex_neg (q3 i j hij hj)
    refine List.Perm.eq_of_pairwise (le := Lex (if b then fun x => - f x else f)) (fun a c _ _ h1 h2 => ((h1.trans h2).irrefl).elim) pw (lay_pw _ n) ?_
    refine (nodup_all (pw_nodup pw) (fun x hx => ?_) (by simp)).trans (nodup_all (pw_nodup (lay_pw _ n)) (fun x hx => lay_lt _ n x hx) (lay_length _ n)).symm
    obtain ⟨y, hy, rfl⟩ := List.mem_map.mp hx
    exact q1 y (List.mem_range.mp hy)
  rw [← e, List.map_map]
  rfl

-- after M41 M42
theorem pick_at {d : List Nat} {rw : List Addr} {out vd : List Value} {i : Nat} (hd : ∀ j ∈ d, j < rw.length) (ho : out = d.map fun j => (rowV rw).getD j .none) (I : NatsAre vd d) (hi : i < d.length) :
    ∃ j t, vd[i]? = some (.int ((j : Nat) : Int) t) ∧ out[i]? = some (.ref (rw.getD j 0)) ∧ (rowV rw)[j]? = some (.ref (rw.getD j 0)) ∧ j < rw.length := by
  obtain ⟨t, h⟩ := ints_get I (i := i) (n := ((d[i] : Nat) : Int)) (by simp [hi])
  have hj := hd d[i] (List.getElem_mem hi)
  refine ⟨d[i], t, h, ?_, ?_, hj⟩
  · rw [ho, List.getElem?_map, List.getElem?_eq_getElem hi]
    exact congrArg some (rowV_get hj)
  · simp [rowV, List.getElem?_eq_getElem hj, List.getD_eq_getElem?_getD]
section
variable {prog : Program} {w : World} {A : Around} {E : Value → Shared → Prop} {h0 h h' : Heap} {g : Array GenState} {d : Drawn} {t : Nat} {os : OsState} {L fa : Addr} {ls ls' : List (Str × Value)} {lsts : List (Addr × List Value)} {ks : List (KA × Addr × Value)} {lams : List (Addr × Expr × List (Str × Addr))} {kys : List (Addr × Addr × Value)} {hds : List (Addr × Obj)} {X : Addr → Prop}
/-- told = sorted(row, key=rising) -/
theorem st11 {k : KA} {c f R T N : Addr} {its : List Value} {rw : List Addr} {ns : List Int} {Q : Flow → Shared → Prop} (W : Law h0 L fa h ls ((T, its) :: lsts) ks lams kys hds) (G : Thg lsts N R rw ns)
    (hN : lkS "numbers" ls = some (.ref N)) (hT : lkS "notes" ls = some (.ref T)) (hR : lkS "row" ls = some (.ref R)) (hr : lkS "rising" ls = some (.ref k.C)) (hk : (k, c, .ref f) ∈ ks) (hl : (f, lamOf (lawS 6), clN L) ∈ lams) (hi : its.length ≤ 20000) (hT0 : h0.objs.size ≤ T)
    (hu : A.units + 12 < cLine) (hd : A.depth + 3 < recursionLimit)
    (q : ∀ D h' t' out its', Law h0 L fa h' (("told", .ref D) :: ls) ((T, its') :: (D, out) :: lsts) ks lams kys hds → its'.length ≤ its.length + 6000 → out = (dues ns rw.length).map (fun j => (rowV rw).getD j .none) → Q .next ⟨h', g, d, t', os⟩) :
    wpAny (model prog w) A (exec (lawS 11) (EL L fa)) Q E ⟨h, g, d, t, os⟩ := by
  have S := W.S
  refine wpAny_Assign_Name (wpAny_Call_ofName ?_) (by kernel_rfl)
  walk_at "m glob"
  refine callWith_kw ?_
  refine args_cons (W.F.ld (.inr (.inl (by kernel_rfl!))) hR (args_nil ?_))
  refine kws_cons (W.F.ld (.inl (by kernel_rfl!)) hr (kws_nil ?_))
  refine W.sorted (kw := [("key", .ref k.C)]) (b := false) G hN hT hk hl hi hT0 hu hd (ksk_s1 _ _) (fun _ => ksk_l1 _ _) (fun _ => ksk_t1 _ _) fun D h1 t1 out its' W1 hle hO => ?_
  refine W1.store (.inr (by kernel_rfl)) fun h2 t2 W2 _ => q D h2 t2 out its' W2 hle ?_
  rw [out_is hO, dues_lay]
  rfl
/-- turned = sorted(row, key=rising, reverse=True) -/
theorem st12 {k : KA} {c f R T N : Addr} {its : List Value} {rw : List Addr} {ns : List Int} {Q : Flow → Shared → Prop} (W : Law h0 L fa h ls ((T, its) :: lsts) ks lams kys hds) (G : Thg lsts N R rw ns)
    (hN : lkS "numbers" ls = some (.ref N)) (hT : lkS "notes" ls = some (.ref T)) (hR : lkS "row" ls = some (.ref R)) (hr : lkS "rising" ls = some (.ref k.C)) (hk : (k, c, .ref f) ∈ ks) (hl : (f, lamOf (lawS 6), clN L) ∈ lams) (hi : its.length ≤ 20000) (hT0 : h0.objs.size ≤ T)
    (hu : A.units + 12 < cLine) (hd : A.depth + 3 < recursionLimit)
    (q : ∀ D h' t' out its', Law h0 L fa h' (("turned", .ref D) :: ls) ((T, its') :: (D, out) :: lsts) ks lams kys hds → its'.length ≤ its.length + 6000 → out = (backs ns rw.length).map (fun j => (rowV rw).getD j .none) → Q .next ⟨h', g, d, t', os⟩) :
    wpAny (model prog w) A (exec (lawS 12) (EL L fa)) Q E ⟨h, g, d, t, os⟩ := by
  have S := W.S
  refine wpAny_Assign_Name (wpAny_Call_ofName ?_) (by kernel_rfl)
  walk_at "m glob"
  refine callWith_kw ?_
  refine args_cons (W.F.ld (.inr (.inl (by kernel_rfl!))) hR (args_nil ?_))
  refine kws_cons (W.F.ld (.inl (by kernel_rfl!)) hr (kws_cons (wpAny_Constant_bool (kws_nil ?_))))
  refine W.sorted (kw := [("key", .ref k.C), ("reverse", .bool true)]) (b := true) G hN hT hk hl hi hT0 hu hd (ksk_s2 _ _ _) (fun _ => ksk_l2 _ _ _) (fun _ => ksk_t2 _ _ _) fun D h1 t1 out its' W1 hle hO => ?_
  refine W1.store (.inl (by kernel_rfl)) fun h2 t2 W2 _ => q D h2 t2 out its' W2 hle ?_
  rw [out_is hO, backs_lay]
  rfl
/-- the orders told stand beside those due -/
theorem st13 {R To Tu Dd Bk : Addr} {rw : List Addr} {ns : List Int} {o1 o2 vd vb : List Value} {u : Tok} {Q : Flow → Shared → Prop} (W : Law h0 L fa h ls lsts ks lams kys hds) (hh : A.handled = none) (hm : lkS "many" ls = some (.int rw.length u)) (hn : rw.length ≤ 63)
    (l1 : lkS "told" ls = some (.ref To)) (l2 : lkS "turned" ls = some (.ref Tu)) (l3 : lkS "row" ls = some (.ref R)) (l4 : lkS "due" ls = some (.ref Dd)) (l5 : lkS "back" ls = some (.ref Bk)) (hk0 : lkS "k" ls = none)
    (m1 : (To, o1) ∈ lsts) (m2 : (Tu, o2) ∈ lsts) (m3 : (R, rowV rw) ∈ lsts) (m4 : (Dd, vd) ∈ lsts) (m5 : (Bk, vb) ∈ lsts)
    (e1 : o1 = (dues ns rw.length).map (fun j => (rowV rw).getD j .none)) (e2 : o2 = (backs ns rw.length).map (fun j => (rowV rw).getD j .none)) (I1 : NatsAre vd (dues ns rw.length)) (I2 : NatsAre vb (backs ns rw.length))
    (q : ∀ h' t', Law h0 L fa h' ls lsts ks lams kys hds → Q .next ⟨h', g, d, t', os⟩) :
    wpAny (model prog w) A (exec (lawS 13) (EL L fa)) Q E ⟨h, g, d, t, os⟩ := by
  refine for_rng (u := u) hh (by kernel_rfl) (n := rw.length) (by omega) (fun i ls' lsts' ks' lams' kys' => ls = ls' ∧ ks = ks' ∧ lams = lams' ∧ kys = kys' ∧ lsts = lsts') W ⟨rfl, rfl, rfl, rfl, rfl⟩ (fun Q' z => W.F.ld (.inl (by kernel_rfl!)) hm (z _)) ?_ ?_
  · rintro i _ _ _ _ _ h t It o v hi ⟨rfl, rfl, rfl, rfl, rfl⟩ W
    have F := W.F
    have lk : ∀ {x : Str} {y : Value}, lkS x ls = some y → (x == "k") = false → lkS x (("k", .int i v) :: ls) = some y := fun e e1 => lkS_cons e e1
    obtain ⟨j, tj, a1, a2, a3, hj⟩ := pick_at (i := i) (fun j hj => dues_lt ns _ j hj) e1 I1 (by rw [dues_length]; exact hi)
    obtain ⟨j', tj', b1, b2, b3, hj'⟩ := pick_at (i := i) (fun j hj => backs_lt ns _ j hj) e2 I2 (by rw [backs_length]; exact hi)
    refine wpAny_execs_cons (wpAny_If (isTrue_or (wpAny_isTrue_Compare1 (Subscript_ ?_))))
    refine W.F.ld (.inr (.inl (by kernel_rfl!))) (lk l1 (by decide +kernel)) ?_
    walk_at "m var"
    refine sub_list (W.lst _ m1) a2 (by omega) ?_
    refine Subscript_ ?_
    refine W.F.ld (.inr (.inl (by kernel_rfl!))) (lk l3 (by decide +kernel)) ?_
    refine Subscript_ ?_
    refine W.F.ld (.inr (.inl (by kernel_rfl!))) (lk l4 (by decide +kernel)) ?_
    walk_at "m var"
    refine sub_list (W.lst _ m4) a1 (by omega) ?_
    refine sub_list (W.lst _ m3) a3 (by omega) ?_
    refine wpAny_isNot_ref_self (wpAny_truthy_bool ?_)
    rw [if_neg (by decide)]
    refine isTrue_or (wpAny_isTrue_Compare1 (Subscript_ ?_))
    refine W.F.ld (.inl (by kernel_rfl!)) (lk l2 (by decide +kernel)) ?_
    walk_at "m var"
    refine sub_list (W.lst _ m2) b2 (by omega) ?_
    refine Subscript_ ?_
    refine W.F.ld (.inr (.inl (by kernel_rfl!))) (lk l3 (by decide +kernel)) ?_
    refine Subscript_ ?_
    refine W.F.ld (.inl (by kernel_rfl!)) (lk l5 (by decide +kernel)) ?_
    walk_at "m var"
    refine sub_list (W.lst _ m5) b1 (by omega) ?_
    refine sub_list (W.lst _ m3) b3 (by omega) ?_
    refine wpAny_isNot_ref_self (wpAny_truthy_bool ?_)
    rw [if_neg (by decide)]
    refine isTrue_or_nil ?_
    rw [if_neg (by decide)]
    refine wpAny_execs_nil (wpAny_execs_nil ⟨rfl, ls, lsts, ks, lams, kys, h, _, rfl, ⟨rfl, rfl, rfl, rfl, rfl⟩, W.unname hk0⟩)
  · rintro _ _ _ _ _ h' t' ⟨rfl, rfl, rfl, rfl, rfl⟩ W'
    exact q h' t' W'
end

-- after M43
section
variable {prog : Program} {w : World} {A : Around} {E : Value → Shared → Prop} {h : Heap} {g : Array GenState} {d : Drawn} {t : Nat} {os : OsState} {k k' : KA} {c c' : Addr} {f f' v1 v2 : Value} {x y : Addr}
theorem key_type {M : Model} {C : Addr} {v : Value} (X : KeyAt h x C v) : Looks M h (typeOf (.ref x)) (.ref C) := by obtain ⟨dx, J⟩ := X.inst; exact J.type
theorem sub_no {M : Model} (K : KOk h k c f) {D : Addr} (hne : k.C ≠ D) : Looks M h (isSubtype (.ref k.C) (.ref D)) false := by
  obtain ⟨sl, hC, _⟩ := K.cls
  unfold isSubtype mroOf
  refine Looks.andThen (a := (kcd k).mro) ?_ (Looks.of_pure ?_)
  · exact Looks.andThen (a := kcd k) (Looks.andThen (a := ⟨.type "type", none, .cls (kcd k), sl⟩) (Looks.ld hC) .now) .now
  · have h1 : (Value.ref k.C == Value.ref D) = false := by simp [hne]
    have h2 : (Value.ref D == Value.ref k.C) = false := by simp [Ne.symm hne]
    simp [kcd, hne, Ne.symm hne]
theorem rich_pre {op : CmpOp} {Q : Value → Shared → Prop} (hu : A.units < cLine) (K' : KOk h k' c' f') (X : KeyAt h x k.C v1) (Y : KeyAt h y k'.C v2)
    (one : wpAny (model prog w) A (tryCompare (.ref x) (cmpInfo op).2.1 (.ref y)) (fun r s' => ∃ v, r = some v ∧ Q v s') E ⟨h, g, d, t, os⟩) : wpAny (model prog w) A (richCompare op (.ref x) (.ref y)) Q E ⟨h, g, d, t, os⟩ := by
  have tx := key_type (M := model prog w) X
  have ty := key_type (M := model prog w) Y
  unfold richCompare
  simp only [oneThing_ref]
  refine wpAny_holding (wpAny_bind (wpAny_cRoomFor hu ?_))
  refine wpAny_bind (tx.here (wpAny_bind (ty.here ?_)))
  by_cases e : k'.C = k.C
  · rw [if_neg (by simp [e])]
    refine wpAny_bind (wpAny_pure ?_)
    simp only [Bool.false_eq_true, if_false]
    refine wpAny_bind (wpAny_mono one (fun r s' z => ?_) fun _ _ e => e)
    obtain ⟨v, rfl, hq⟩ := z
    exact wpAny_pure hq
  · rw [if_pos (by simp; exact fun z => e z.symm)]
    refine wpAny_bind ((sub_no K' e).here ?_)
    simp only [Bool.false_eq_true, if_false]
    refine wpAny_bind (wpAny_mono one (fun r s' z => ?_) fun _ _ e => e)
    obtain ⟨v, rfl, hq⟩ := z
    exact wpAny_pure hq
theorem try_own {m : Addr} {name : Str} {Q : Option Value → Shared → Prop} (K : KOk h k c f) (S : Sta h) (X : KeyAt h x k.C v1) (hm : ∀ F, KLk F k → findIn F (.ref k.C) name = some (some (.ref m)) ∧ isFn F (.ref m) = true)
    (q : wpAny (model prog w) A (call (.ref m) [.ref x, .ref y]) (fun r s' => ∃ b, r = .bool b ∧ Q (some (.bool b)) s') E ⟨h, g, d, t, os⟩) : wpAny (model prog w) A (tryCompare (.ref x) name (.ref y)) Q E ⟨h, g, d, t, os⟩ := by
  obtain ⟨F, I, L⟩ := K.look S
  obtain ⟨dx, J⟩ := X.inst
  unfold tryCompare
  refine wpAny_bind (ifBound_K (s := ⟨h, g, d, t, os⟩) I J (hm F L).1 (hm F L).2 (wpAny_mono q (fun v s' hv => ?_) fun _ _ e => e))
  obtain ⟨b, rfl, hv⟩ := hv
  exact wpAny_pure hv
theorem try_ne {Q : Option Value → Shared → Prop} (hu : A.units + 2 < cLine) (K : KOk h k c f) (S : Sta h) (X : KeyAt h x k.C v1)
    (q : wpAny (model prog w) A.in1 (call (.ref k.fe) [.ref x, .ref y]) (fun r s' => ∃ b, r = .bool b ∧ Q (some (.bool (!b))) s') E ⟨h, g, d, t, os⟩) : wpAny (model prog w) A (tryCompare (.ref x) "__ne__" (.ref y)) Q E ⟨h, g, d, t, os⟩ := by
  obtain ⟨F, I, L⟩ := K.look S
  obtain ⟨dx, J⟩ := X.inst
  obtain ⟨sl, hC, _⟩ := K.cls
  unfold tryCompare
  refine wpAny_bind ?_
  simp only [callSpecialIfBound?, bindSpecialIfBound?]
  refine wpAny_holding (wpAny_bind (wpAny_bind (wpAny_bind (J.type.here ((looks_findIn I L.ne).here ?_)))))
  refine wpAny_bind (wpAny_askSetting (wpAny_ite ?_))
  have hb : bindSpecial (.builtin "object.__ne__") (.ref x) = pure (.builtin "object.__ne__", [.ref x]) := PySem.F.cmp_object.ne.bind (.ref x)
  rw [hb]
  have fin : wpAny (model prog w) A (call (.builtin "object.__ne__") ([.ref x] ++ [.ref y]) >>= fun v => pure (some v)) (fun r s' => wpAny (model prog w) A (match r with | some .notImplemented | none => pure none | some v => pure (some v)) Q E s') E ⟨h, g, d, t, os⟩ := by
    refine wpAny_bind (wpAny_call (codeAny_call_builtin (by decide +kernel) PySem.F.cmpEntry_ne ?_))
    have chk : Looks (model prog w) h (checkBuiltinCall "object.__ne__" ⟨[.ref x, .ref y], []⟩) () := by
      intro A' Q' E' s' ks hq
      obtain ⟨h', g', d', t', os'⟩ := s'
      have L1 := (J.type (M := model prog w)).keeps ks
      have L2 := (sub_obj (prog := prog) (w := w) (cd := kcd k) (C := k.C) hC rfl).keeps ks
      have ha : argsOk "object.__ne__" ⟨[.ref x, .ref y], []⟩ := PySem.F.cmpArgs_ne _ _
      simp only [checkBuiltinCall, PySem.F.cmpKind_ne, PySem.F.cmpSplit_ne]
      unfold isInstance
      refine wpAny_bind (wpAny_bind (L1.at (L2.at ?_)))
      cases hsig : Manifest.signature? "object.__ne__" with
      | none => exact wpAny_pure hq
      | some sig =>
        simp only [argsOk, hsig] at ha
        have h2 : Bind.checkArgs "object.__ne__" sig ⟨[.ref x, .ref y], []⟩ = pure () := ha
        show wpAny _ _ (Bind.checkArgs "object.__ne__" sig ⟨[.ref x, .ref y], []⟩) _ _ _
        rw [h2]; exact wpAny_pure hq
    refine chk.here ?_
    unfold Builtin.«object.__ne__»
    refine wpAny_bind (m := slotArgs _ _ _) (wpAny_pure ?_)
    dsimp only
    refine wpAny_bind (wpAny_cRoomFor (by show A.units + 1 < _; omega) ?_)
    refine wpAny_bind (ifBound_K (s := ⟨h, g, d, t, os⟩) I J L.eq (by unfold isFn; rw [L.fe]; rfl) (wpAny_mono q (fun v s' hv => ?_) fun _ _ e => e))
    obtain ⟨b, rfl, hv⟩ := hv
    refine wpAny_bind (wpAny_truthy_bool (wpAny_pure ?_))
    exact wpAny_pure (wpAny_pure hv)
  split
  · exact wpAny_bind (wpAny_pure (wpAny_pure fin))
  · exact wpAny_tryCatch (wpAny_bind (wpAny_pure (wpAny_pure fin)))
end

-- after M44
/-- what an ask tells of how two things stand -/
def opB : CmpOp → Int → Bool
  | .Lt, s => decide (s < 0)
  | .LtE, s => decide (s ≤ 0)
  | .Eq, s => s == 0
  | .NotEq, s => !(s == 0)
  | .GtE, s => decide (s ≥ 0)
  | .Gt, s => decide (s > 0)
  | _, _ => false
def askOp : Nat → CmpOp
  | 0 => .Lt
  | 1 => .LtE
  | 2 => .Eq
  | 3 => .NotEq
  | 4 => .GtE
  | _ => .Gt
theorem sign_dec {r q : Int} (h : SameSign r q) : decide (r < 0) = decide (q < 0) ∧ decide (r > 0) = decide (q > 0) ∧ (r == 0) = (q == 0) ∧ decide (r ≤ 0) = decide (q ≤ 0) ∧ decide (r ≥ 0) = decide (q ≥ 0) := by
  unfold SameSign at h
  refine ⟨?_, ?_, ?_, ?_, ?_⟩
  · apply decide_eq_decide.mpr; omega
  · apply decide_eq_decide.mpr; omega
  · by_cases e : q = 0
    · have : r = 0 := by omega
      rw [e, this]
    · have : r ≠ 0 := by omega
      rw [beq_eq_false_iff_ne.mpr e, beq_eq_false_iff_ne.mpr this]
  · apply decide_eq_decide.mpr; omega
  · apply decide_eq_decide.mpr; omega
/-- how a comparison answers for two things -/
def CmpSp (prog : Program) (w : World) (g : Array GenState) (d : Drawn) (os : OsState) (h : Heap) (f v1 v2 : Value) (T : Addr) (its : List Value) (mark : Int) (a b : Addr) (st : Int) : Prop :=
  ∀ (A : Around) (E : Value → Shared → Prop) (h' : Heap) (t' : Nat) (Q : Value → Shared → Prop), A.depth + 1 < recursionLimit → Ext Nil h h' →
    (∀ r u h'' t'' tp um, Ext (· = T) h' h'' → LstAt h'' T (its ++ [.ref tp]) → h''.get? tp = some (oTup [.int mark um, .ref a, .ref b]) → h'.objs.size ≤ tp → SameSign r st → Q (.int r u) ⟨h'', g, d, t'', os⟩) →
    wpAny (model prog w) A (call f [v1, v2]) Q E ⟨h', g, d, t', os⟩
section
variable {prog : Program} {w : World} {A : Around} {E : Value → Shared → Prop} {h : Heap} {g : Array GenState} {d : Drawn} {t : Nat} {os : OsState} {k k' : KA} {c c' : Addr} {f' v1 v2 : Value} {x y fr T a b : Addr} {e : Expr} {clo : List (Str × Addr)} {its : List Value} {mark st : Int}
theorem CmpSp.keep {f : Value} {h' : Heap} (sp : CmpSp prog w g d os h f v1 v2 T its mark a b st) (x : Ext Nil h h') : CmpSp prog w g d os h' f v1 v2 T its mark a b st :=
  fun A E h'' t' Q hd x' q => sp A E h'' t' Q hd (x.then x' fun _ _ z => z) q
theorem cmp_ask {op : CmpOp} {Q : Value → Shared → Prop} (hop : op = .Lt ∨ op = .LtE ∨ op = .Eq ∨ op = .NotEq ∨ op = .GtE ∨ op = .Gt) (hu : A.units + 4 < cLine) (hd : A.depth + 2 < recursionLimit)
    (K : KOk h k c (.ref fr)) (K' : KOk h k' c' f') (S : Sta h) (X : KeyAt h x k.C v1) (Y : KeyAt h y k'.C v2) (h1 : handedIn v1 = true) (h2 : handedIn v2 = true) (L : LamAt h fr e clo) (sp : CmpSp prog w g d os h (.ref fr) v1 v2 T its mark a b st)
    (q : ∀ h' t' tp um, Ext (· = T) h h' → LstAt h' T (its ++ [.ref tp]) → h'.get? tp = some (oTup [.int mark um, .ref a, .ref b]) → h.objs.size ≤ tp → Q (.bool (opB op st)) ⟨h', g, d, t', os⟩) :
    wpAny (model prog w) A (compareOp op (.ref x) (.ref y)) Q E ⟨h, g, d, t, os⟩ := by
  rcases hop with rfl | rfl | rfl | rfl | rfl | rfl
  · refine cmp_ofLt (rich_pre (by omega) K' X Y (try_own K S X (fun F Lk => ⟨Lk.lt, by unfold isFn; rw [Lk.fl]; rfl⟩) (lt_call K K' S X Y h1 h2 (by omega) (keeper_lam L) fun env h3 t3 _ _ _ x3 => ?_)))
    refine sp _ _ h3 t3 _ (by show A.depth + 1 + 1 < _; omega) x3 fun r u h4 t4 tp um x4 l4 e4 hle hs => ⟨r, u, rfl, fun t5 => ⟨_, rfl, _, rfl, ?_⟩⟩
    rw [(sign_dec hs).1]
    exact q h4 t5 tp um (x3.t0.then x4 fun _ _ z => z) l4 e4 (Nat.le_trans x3.1 hle)
  · refine cmp_ofLtE (rich_pre (by omega) K' X Y (try_own K S X (fun F Lk => ⟨Lk.le, by unfold isFn; rw [Lk.fle]; rfl⟩) (le_call K K' S X Y h1 h2 (by omega) (keeper_lam L) fun env h3 t3 _ _ _ x3 => ?_)))
    refine sp _ _ h3 t3 _ (by show A.depth + 1 + 1 < _; omega) x3 fun r u h4 t4 tp um x4 l4 e4 hle hs => ⟨r, u, rfl, fun t5 => ⟨_, rfl, _, rfl, ?_⟩⟩
    rw [(sign_dec hs).2.2.2.1]
    exact q h4 t5 tp um (x3.t0.then x4 fun _ _ z => z) l4 e4 (Nat.le_trans x3.1 hle)
  · refine cmp_ofEq (rich_pre (by omega) K' X Y (try_own K S X (fun F Lk => ⟨Lk.eq, by unfold isFn; rw [Lk.fe]; rfl⟩) (eq_call K K' S X Y h1 h2 (by omega) (keeper_lam L) fun env h3 t3 _ _ _ x3 => ?_)))
    refine sp _ _ h3 t3 _ (by show A.depth + 1 + 1 < _; omega) x3 fun r u h4 t4 tp um x4 l4 e4 hle hs => ⟨r, u, rfl, fun t5 => ⟨_, rfl, _, rfl, ?_⟩⟩
    rw [(sign_dec hs).2.2.1]
    exact q h4 t5 tp um (x3.t0.then x4 fun _ _ z => z) l4 e4 (Nat.le_trans x3.1 hle)
  · refine cmp_ofNotEq (rich_pre (by omega) K' X Y (try_ne (by omega) K S X (eq_call K K' S X Y h1 h2 (by show A.depth < _; omega) (keeper_lam L) fun env h3 t3 _ _ _ x3 => ?_)))
    refine sp _ _ h3 t3 _ (by show A.depth + 1 + 1 < _; omega) x3 fun r u h4 t4 tp um x4 l4 e4 hle hs => ⟨r, u, rfl, fun t5 => ⟨_, rfl, _, rfl, ?_⟩⟩
    rw [(sign_dec hs).2.2.1]
    exact q h4 t5 tp um (x3.t0.then x4 fun _ _ z => z) l4 e4 (Nat.le_trans x3.1 hle)
  · refine cmp_ofGtE (rich_pre (by omega) K' X Y (try_own K S X (fun F Lk => ⟨Lk.ge, by unfold isFn; rw [Lk.fge]; rfl⟩) (ge_call K K' S X Y h1 h2 (by omega) (keeper_lam L) fun env h3 t3 _ _ _ x3 => ?_)))
    refine sp _ _ h3 t3 _ (by show A.depth + 1 + 1 < _; omega) x3 fun r u h4 t4 tp um x4 l4 e4 hle hs => ⟨r, u, rfl, fun t5 => ⟨_, rfl, _, rfl, ?_⟩⟩
    rw [(sign_dec hs).2.2.2.2]
    exact q h4 t5 tp um (x3.t0.then x4 fun _ _ z => z) l4 e4 (Nat.le_trans x3.1 hle)
  · refine cmp_ofGt (rich_pre (by omega) K' X Y (try_own K S X (fun F Lk => ⟨Lk.gt, by unfold isFn; rw [Lk.fg]; rfl⟩) (gt_call K K' S X Y h1 h2 (by omega) (keeper_lam L) fun env h3 t3 _ _ _ x3 => ?_)))
    refine sp _ _ h3 t3 _ (by show A.depth + 1 + 1 < _; omega) x3 fun r u h4 t4 tp um x4 l4 e4 hle hs => ⟨r, u, rfl, fun t5 => ⟨_, rfl, _, rfl, ?_⟩⟩
    rw [(sign_dec hs).2.1]
    exact q h4 t5 tp um (x3.t0.then x4 fun _ _ z => z) l4 e4 (Nat.le_trans x3.1 hle)
/-- a call of one of the asks -/
theorem ask_call {i : Nat} {fk : Addr} {Q : Value → Shared → Prop} (hi : i < 6) (M : LamAt h fk (askE i) []) (hu : A.units + 8 < cLine) (hd : A.depth + 3 < recursionLimit)
    (K : KOk h k c (.ref fr)) (K' : KOk h k' c' f') (S : Sta h) (X : KeyAt h x k.C v1) (Y : KeyAt h y k'.C v2) (h1 : handedIn v1 = true) (h2 : handedIn v2 = true) (L : LamAt h fr e clo) (sp : CmpSp prog w g d os h (.ref fr) v1 v2 T its mark a b st)
    (q : ∀ h' t' tp um, Ext (· = T) h h' → LstAt h' T (its ++ [.ref tp]) → h'.get? tp = some (oTup [.int mark um, .ref a, .ref b]) → h.objs.size ≤ tp → Q (.bool (opB (askOp i) st)) ⟨h', g, d, t', os⟩) :
    wpAny (model prog w) A (call (.ref fk) [.ref x, .ref y]) Q E ⟨h, g, d, t, os⟩ := by
  obtain ⟨pm, code, ct, hf, hcode⟩ := M
  have hi' : i = 0 ∨ i = 1 ∨ i = 2 ∨ i = 3 ∨ i = 4 ∨ i = 5 := by omega
  rcases hi' with rfl | rfl | rfl | rfl | rfl | rfl
  · refine wpAny_call (call_expr (fd := fdLam (askE 0) [] pm code ct) (body := lamBody (askE 0)) (fr := []) (binds := [("a", .ref x), ("b", .ref y)]) (by omega) hf rfl S.nolimit hcode.rec' (by kernel_rfl) (by kernel_rfl) ⟨nofun, nofun, nofun⟩ (bk_of (by kernel_rfl)) ?_ (by kernel_rfl) (by kernel_rfl) (by kernel_rfl))
    intro env h2' t2 he F2 x2 _ hlt
    have F2 : Frm h2' env [("b", .ref y), ("a", .ref x)] := F2
    subst he
    refine wpAny_Compare1 ?_
    walk_at "m var"
    walk_at "m var"
    refine cmp_ask (by simp) (by show A.units + 3 + 4 < _; omega) (by show A.depth + 1 + 2 < _; omega) (K.keep x2) (K'.keep x2) (S.keep x2) (X.ext x2 softX_nil) (Y.ext x2 softX_nil) h1 h2 (L.ext x2 softX_nil) (sp.keep x2) fun h3 t3 tp um x3 l3 e3 hle => ?_
    exact q h3 t3 tp um (x2.t0.then x3 fun _ _ z => z) l3 e3 (Nat.le_trans x2.1 hle)
  · refine wpAny_call (call_expr (fd := fdLam (askE 1) [] pm code ct) (body := lamBody (askE 1)) (fr := []) (binds := [("a", .ref x), ("b", .ref y)]) (by omega) hf rfl S.nolimit hcode.rec' (by kernel_rfl) (by kernel_rfl) ⟨nofun, nofun, nofun⟩ (bk_of (by kernel_rfl)) ?_ (by kernel_rfl) (by kernel_rfl) (by kernel_rfl))
    intro env h2' t2 he F2 x2 _ hlt
    have F2 : Frm h2' env [("b", .ref y), ("a", .ref x)] := F2
    subst he
    refine wpAny_Compare1 ?_
    walk_at "m var"
    walk_at "m var"
    refine cmp_ask (by simp) (by show A.units + 3 + 4 < _; omega) (by show A.depth + 1 + 2 < _; omega) (K.keep x2) (K'.keep x2) (S.keep x2) (X.ext x2 softX_nil) (Y.ext x2 softX_nil) h1 h2 (L.ext x2 softX_nil) (sp.keep x2) fun h3 t3 tp um x3 l3 e3 hle => ?_
    exact q h3 t3 tp um (x2.t0.then x3 fun _ _ z => z) l3 e3 (Nat.le_trans x2.1 hle)
  · refine wpAny_call (call_expr (fd := fdLam (askE 2) [] pm code ct) (body := lamBody (askE 2)) (fr := []) (binds := [("a", .ref x), ("b", .ref y)]) (by omega) hf rfl S.nolimit hcode.rec' (by kernel_rfl) (by kernel_rfl) ⟨nofun, nofun, nofun⟩ (bk_of (by kernel_rfl)) ?_ (by kernel_rfl) (by kernel_rfl) (by kernel_rfl))
    intro env h2' t2 he F2 x2 _ hlt
    have F2 : Frm h2' env [("b", .ref y), ("a", .ref x)] := F2
    subst he
    refine wpAny_Compare1 ?_
    walk_at "m var"
    walk_at "m var"
    refine cmp_ask (by simp) (by show A.units + 3 + 4 < _; omega) (by show A.depth + 1 + 2 < _; omega) (K.keep x2) (K'.keep x2) (S.keep x2) (X.ext x2 softX_nil) (Y.ext x2 softX_nil) h1 h2 (L.ext x2 softX_nil) (sp.keep x2) fun h3 t3 tp um x3 l3 e3 hle => ?_
    exact q h3 t3 tp um (x2.t0.then x3 fun _ _ z => z) l3 e3 (Nat.le_trans x2.1 hle)
  · refine wpAny_call (call_expr (fd := fdLam (askE 3) [] pm code ct) (body := lamBody (askE 3)) (fr := []) (binds := [("a", .ref x), ("b", .ref y)]) (by omega) hf rfl S.nolimit hcode.rec' (by kernel_rfl) (by kernel_rfl) ⟨nofun, nofun, nofun⟩ (bk_of (by kernel_rfl)) ?_ (by kernel_rfl) (by kernel_rfl) (by kernel_rfl))
    intro env h2' t2 he F2 x2 _ hlt
    have F2 : Frm h2' env [("b", .ref y), ("a", .ref x)] := F2
    subst he
    refine wpAny_Compare1 ?_
    walk_at "m var"
    walk_at "m var"
    refine cmp_ask (by simp) (by show A.units + 3 + 4 < _; omega) (by show A.depth + 1 + 2 < _; omega) (K.keep x2) (K'.keep x2) (S.keep x2) (X.ext x2 softX_nil) (Y.ext x2 softX_nil) h1 h2 (L.ext x2 softX_nil) (sp.keep x2) fun h3 t3 tp um x3 l3 e3 hle => ?_
    exact q h3 t3 tp um (x2.t0.then x3 fun _ _ z => z) l3 e3 (Nat.le_trans x2.1 hle)
  · refine wpAny_call (call_expr (fd := fdLam (askE 4) [] pm code ct) (body := lamBody (askE 4)) (fr := []) (binds := [("a", .ref x), ("b", .ref y)]) (by omega) hf rfl S.nolimit hcode.rec' (by kernel_rfl) (by kernel_rfl) ⟨nofun, nofun, nofun⟩ (bk_of (by kernel_rfl)) ?_ (by kernel_rfl) (by kernel_rfl) (by kernel_rfl))
    intro env h2' t2 he F2 x2 _ hlt
    have F2 : Frm h2' env [("b", .ref y), ("a", .ref x)] := F2
    subst he
    refine wpAny_Compare1 ?_
    walk_at "m var"
    walk_at "m var"
    refine cmp_ask (by simp) (by show A.units + 3 + 4 < _; omega) (by show A.depth + 1 + 2 < _; omega) (K.keep x2) (K'.keep x2) (S.keep x2) (X.ext x2 softX_nil) (Y.ext x2 softX_nil) h1 h2 (L.ext x2 softX_nil) (sp.keep x2) fun h3 t3 tp um x3 l3 e3 hle => ?_
    exact q h3 t3 tp um (x2.t0.then x3 fun _ _ z => z) l3 e3 (Nat.le_trans x2.1 hle)
  · refine wpAny_call (call_expr (fd := fdLam (askE 5) [] pm code ct) (body := lamBody (askE 5)) (fr := []) (binds := [("a", .ref x), ("b", .ref y)]) (by omega) hf rfl S.nolimit hcode.rec' (by kernel_rfl) (by kernel_rfl) ⟨nofun, nofun, nofun⟩ (bk_of (by kernel_rfl)) ?_ (by kernel_rfl) (by kernel_rfl) (by kernel_rfl))
    intro env h2' t2 he F2 x2 _ hlt
    have F2 : Frm h2' env [("b", .ref y), ("a", .ref x)] := F2
    subst he
    refine wpAny_Compare1 ?_
    walk_at "m var"
    walk_at "m var"
    refine cmp_ask (by simp) (by show A.units + 3 + 4 < _; omega) (by show A.depth + 1 + 2 < _; omega) (K.keep x2) (K'.keep x2) (S.keep x2) (X.ext x2 softX_nil) (Y.ext x2 softX_nil) h1 h2 (L.ext x2 softX_nil) (sp.keep x2) fun h3 t3 tp um x3 l3 e3 hle => ?_
    exact q h3 t3 tp um (x2.t0.then x3 fun _ _ z => z) l3 e3 (Nat.le_trans x2.1 hle)
end

-- after M45
section
variable {prog : Program} {w : World} {A : Around} {E : Value → Shared → Prop} {h0 h h' : Heap} {g : Array GenState} {d : Drawn} {t : Nat} {os : OsState} {L fa : Addr} {ls ls' : List (Str × Value)} {lsts : List (Addr × List Value)} {ks : List (KA × Addr × Value)} {lams : List (Addr × Expr × List (Str × Addr))} {kys : List (Addr × Addr × Value)} {hds : List (Addr × Obj)} {X : Addr → Prop}
/-- a key of a thing of the row -/
theorem key_ev {cls : Str} {k : KA} {c R : Addr} {f : Value} {rw : List Addr} {j : Nat} {ji : Int} {p1 p2 p3 p4 p5 : Pos} {Q : Value → Shared → Prop} (W : Law h0 L fa h ls lsts ks lams kys hds) (hR : lkS "row" ls = some (.ref R)) (mR : (R, rowV rw) ∈ lsts) (hc : lkS cls ls = some (.ref k.C)) (hkd : (EL L fa).kindOf cls = some .local) (hdb : (cls == ("__debug__" : Str)) = false)
    (mk : (k, c, f) ∈ ks) (hj : j < rw.length) (hl : rw.length ≤ 100) (hji : ji = j) (hd : A.depth + 1 < recursionLimit) (q : ∀ x h' t', Law h0 L fa h' ls lsts ks lams ((x, k.C, .ref (rw.getD j 0)) :: kys) hds → Q (.ref x) ⟨h', g, d, t', os⟩) :
    wpAny (model prog w) A (eval (.Call (.Name cls p1) [.Subscript (.Name "row" p2) (.Constant (.int ji) 0 p3) p4] [] p5) (EL L fa)) Q E ⟨h, g, d, t, os⟩ := by
  refine call_by ?_
  refine W.F.ld (.inl hkd) hc ?_ hdb
  refine args_cons (Subscript_ ?_)
  refine W.F.ld (.inr (.inl (by kernel_rfl!))) hR ?_
  walk_at "m int"
  subst hji
  refine sub_list (W.lst _ mR) (v := .ref (rw.getD j 0)) (by simp [rowV, List.getElem?_eq_getElem hj, List.getD_eq_getElem?_getD]) (by omega) ?_
  refine args_nil ?_
  obtain ⟨sl, eC, _⟩ := (W.kok _ mk).cls
  refine keeper_cls eC rfl rfl fun _ => ?_
  exact W.mkey mk hd fun x h1 t1 W1 _ => q x h1 t1 W1
theorem st14 {k1 k2 : KA} {c1 c2 R : Addr} {f1 f2 : Value} {rw : List Addr} {Q : Flow → Shared → Prop} (W : Law h0 L fa h ls lsts ks lams kys hds) (hR : lkS "row" ls = some (.ref R)) (mR : (R, rowV rw) ∈ lsts) (h3 : 3 ≤ rw.length) (hl : rw.length ≤ 100)
    (l1 : lkS "rising" ls = some (.ref k1.C)) (l2 : lkS "falling" ls = some (.ref k2.C)) (m1 : (k1, c1, f1) ∈ ks) (m2 : (k2, c2, f2) ∈ ks) (hd : A.depth + 1 < recursionLimit)
    (q : ∀ Ky x0 x1 x2 x3 x4 x5 h' t', Law h0 L fa h' (("keys", .ref Ky) :: ls) ((Ky, [.ref x0, .ref x1, .ref x2, .ref x3, .ref x4, .ref x5]) :: lsts) ks lams ((x5, k2.C, .ref (rw.getD 2 0)) :: (x4, k1.C, .ref (rw.getD 2 0)) :: (x3, k2.C, .ref (rw.getD 1 0)) :: (x2, k1.C, .ref (rw.getD 1 0)) :: (x1, k2.C, .ref (rw.getD 0 0)) :: (x0, k1.C, .ref (rw.getD 0 0)) :: kys) hds → Q .next ⟨h', g, d, t', os⟩) :
    wpAny (model prog w) A (exec (lawS 14) (EL L fa)) Q E ⟨h, g, d, t, os⟩ := by
  refine wpAny_Assign_Name (wpAny_List ?_) (by kernel_rfl)
  refine args_cons (key_ev W hR mR l1 (by kernel_rfl) (by decide +kernel) m1 (j := 0) (by omega) hl rfl hd fun x0 ha ta W => ?_)
  refine args_cons (key_ev W hR mR l2 (by kernel_rfl) (by decide +kernel) m2 (j := 0) (by omega) hl rfl hd fun x1 hb tb W => ?_)
  refine args_cons (key_ev W hR mR l1 (by kernel_rfl) (by decide +kernel) m1 (j := 1) (by omega) hl rfl hd fun x2 hc tc W => ?_)
  refine args_cons (key_ev W hR mR l2 (by kernel_rfl) (by decide +kernel) m2 (j := 1) (by omega) hl rfl hd fun x3 hd' td W => ?_)
  refine args_cons (key_ev W hR mR l1 (by kernel_rfl) (by decide +kernel) m1 (j := 2) (by omega) hl rfl hd fun x4 he te W => ?_)
  refine args_cons (key_ev W hR mR l2 (by kernel_rfl) (by decide +kernel) m2 (j := 2) (by omega) hl rfl hd fun x5 hf tf W => ?_)
  refine args_nil ⟨Nat.le_of_ble_eq_true rfl, ?_⟩
  dsimp only
  exact (W.alloc [.ref x0, .ref x1, .ref x2, .ref x3, .ref x4, .ref x5]).store (.inl (by kernel_rfl)) fun h2 t2 W2 _ => q _ x0 x1 x2 x3 x4 x5 h2 t2 W2
theorem st15 {Q : Flow → Shared → Prop} (W : Law h0 L fa h ls lsts ks lams kys hds)
    (q : ∀ As f0 f1 f2 h' t', Law h0 L fa h' (("asks", .ref As) :: ls) ((As, [.ref f0, .ref f1, .ref f2]) :: lsts) ks ((f2, askE 2, []) :: (f1, askE 1, []) :: (f0, askE 0, []) :: lams) kys hds → Q .next ⟨h', g, d, t', os⟩) :
    wpAny (model prog w) A (exec (lawS 15) (EL L fa)) Q E ⟨h, g, d, t, os⟩ := by
  refine wpAny_Assign_Name (wpAny_List ?_) (by kernel_rfl)
  refine args_cons (W.lambda (e := askE 0) (clo := []) (by kernel_rfl) (by simp [lSites, lamsE]) (by kernel_rfl) (by kernel_rfl) fun f0 h1 t1 W => ?_)
  refine args_cons (W.lambda (e := askE 1) (clo := []) (by kernel_rfl) (by simp [lSites, lamsE]) (by kernel_rfl) (by kernel_rfl) fun f1 h2 t2 W => ?_)
  refine args_cons (W.lambda (e := askE 2) (clo := []) (by kernel_rfl) (by simp [lSites, lamsE]) (by kernel_rfl) (by kernel_rfl) fun f2 h3 t3 W => ?_)
  refine args_nil ⟨Nat.le_of_ble_eq_true rfl, ?_⟩
  dsimp only
  exact (W.alloc [.ref f0, .ref f1, .ref f2]).store (.inl (by kernel_rfl)) fun h4 t4 W2 _ => q _ f0 f1 f2 h4 t4 W2
theorem st16 {As f0 f1 f2 : Addr} {Q : Flow → Shared → Prop} (W : Law h0 L fa h ls lsts ks lams kys hds) (hA : lkS "asks" ls = some (.ref As)) (mA : (As, [.ref f0, .ref f1, .ref f2]) ∈ lsts)
    (q : ∀ Bs f3 f4 f5 h' t', Law h0 L fa h' (("asks", .ref Bs) :: ls) ((Bs, [.ref f0, .ref f1, .ref f2, .ref f3, .ref f4, .ref f5]) :: lsts) ks ((f5, askE 5, []) :: (f4, askE 4, []) :: (f3, askE 3, []) :: lams) kys hds → Q .next ⟨h', g, d, t', os⟩) :
    wpAny (model prog w) A (exec (lawS 16) (EL L fa)) Q E ⟨h, g, d, t, os⟩ := by
  refine wpAny_Assign_Name (wpAny_BinOp ?_) (by kernel_rfl)
  refine W.F.ld (.inl (by kernel_rfl!)) hA ?_
  refine wpAny_List ?_
  refine args_cons (W.lambda (e := askE 3) (clo := []) (by kernel_rfl) (by simp [lSites, lamsE]) (by kernel_rfl) (by kernel_rfl) fun f3 h1 t1 W => ?_)
  refine args_cons (W.lambda (e := askE 4) (clo := []) (by kernel_rfl) (by simp [lSites, lamsE]) (by kernel_rfl) (by kernel_rfl) fun f4 h2 t2 W => ?_)
  refine args_cons (W.lambda (e := askE 5) (clo := []) (by kernel_rfl) (by simp [lSites, lamsE]) (by kernel_rfl) (by kernel_rfl) fun f5 h3 t3 W => ?_)
  refine args_nil ⟨Nat.le_of_ble_eq_true rfl, ?_⟩
  dsimp only
  have W1 := W.alloc [.ref f3, .ref f4, .ref f5]
  obtain ⟨n1, e1⟩ := W1.lst _ (.tail _ mA)
  obtain ⟨n2, e2⟩ := W1.lst _ (.head _)
  refine P.add_list (s := ⟨_, g, d, _, os⟩) e1 e2 ?_ (by simp [sizeLine_eq])
  have W2 := W1.alloc [.ref f0, .ref f1, .ref f2, .ref f3, .ref f4, .ref f5]
  refine W2.store (.inl (by kernel_rfl)) fun h5 t5 W3 _ => q _ f3 f4 f5 h5 t5 (W3.lists ?_)
  exact List.Sublist.cons_cons _ (List.sublist_cons_self _ _)
end

-- after M46
section
variable {prog : Program} {w : World} {A : Around} {E : Value → Shared → Prop} {h : Heap} {g : Array GenState} {d : Drawn} {t : Nat} {os : OsState}
theorem tup_end {it l : Addr} {i : Nat} {items : Array Value} {Q : Option Value → Shared → Prop} (hh : A.handled = none) (hit : IsTupIter h it l i) (hl : IsTup h l items) (hx : items[i]? = none) (q : ∀ h', Ext (· = it) h h' → Q none ⟨h', g, d, t, os⟩) :
    wpAny (model prog w) A (pyNext (.ref it)) Q E ⟨h, g, d, t, os⟩ := by
  obtain ⟨o, ho, hc, hd⟩ := id hit
  obtain ⟨ol, hol, _, nl, hdl⟩ := hl
  have hT : Shared.TypeIs ⟨h, g, d, t, os⟩ (.ref it) "tuple_iterator" := ⟨_, ho, hc⟩
  unfold pyNext
  refine wpAny_bind (wpAny_attempt (wpAny_callSpecial?_slot (name := Str.ofString "__next__") hT slot_tupleiter_next (wpAny_call_entry slot_tupleiter_next hT entry_tupleiter_next ?_ (args_tupleiter_next _))))
  unfold Builtin.«tuple_iterator.__next__»
  refine wpAny_bind (m := slotArgs _ _ _) (wpAny_pure ?_)
  dsimp only
  refine wpAny_bind (wpAny_field ho hd (x := .ref l) rfl (wa_neg (by simp) (wpAny_bind (wpAny_field ho hd (x := .int i 0) rfl (wpAny_bind (wpAny_seqItems hol hdl ?_))))))
  simp only [Int.toNat_natCast, hx]
  refine wpAny_bind (wpAny_rule (wpAny_bind (wpAny_setField ho hd (by simp) ?_)))
  have x1 : Ext (· = it) h (h.update it (Obj.mapFields fun x => x.setIfInBounds 0 Value.none)) := Ext.refl.same (Heap.SameBut.update ..) fun _ => rfl
  dsimp only
  generalize h.update it (Obj.mapFields fun x => x.setIfInBounds 0 Value.none) = h1 at x1 ⊢
  refine stop_iter hh fun h' a o e hc x => ?_
  exact wpAny_bind (wpAny_isInstance (T := "StopIteration") (b := true) ⟨o, e, hc⟩ isSubtype_stop (wpAny_pure (q _ (x1.then x fun _ _ z => z.elim))))
theorem unpack_tup {tp : Addr} {its : List Value} {Q : List Value → Shared → Prop} (hh : A.handled = none) (ht : h.get? tp = some (oTup its)) (q : ∀ h', Ext Nil h h' → Q its ⟨h', g, d, t, os⟩) : wpAny (model prog w) A (unpackItems (.ref tp) its.length none) Q E ⟨h, g, d, t, os⟩ := by
  have T : IsTup h tp its.toArray := ⟨_, ht, rfl, 0, rfl⟩
  have hlt : tp ≠ h.objs.size := Nat.ne_of_lt (Heap.lt_size ht)
  have hsz : its.toArray.size = its.length := List.size_toArray ..
  unfold unpackItems notIterableAtAll
  refine wpAny_bind (wpAny_bind (wpAny_specialOf T.typeIs slot_tuple_iter.lookup (wpAny_pure ?_)))
  simp only [Bool.false_eq_true, if_false]
  refine wpAny_bind (wpAny_holding (iter_tuple (s := ⟨h, g, d, t, os⟩) T ?_))
  refine wpAny_bind (wpAny_holding (draw_tuple (s := ⟨_, g, d, t, os⟩) hlt its.length 0 _ ⟨_, Heap.get?_push_size _ rfl, rfl, rfl⟩ (T.push _) (by omega) fun h1 hit1 hs1 => ?_))
  have hall : List.take its.length (List.drop 0 its.toArray.toList) = its := by simp
  rw [hall, if_neg (by omega)]
  have x1 : Ext Nil h h1 := ((Ext.refl (X := Nil)).push _).same hs1 fun z => absurd z (Nat.lt_irrefl _)
  have T1 : IsTup h1 tp its.toArray := ⟨_, x1.nil _ _ ht, rfl, 0, rfl⟩
  refine wpAny_bind (wpAny_holding (tup_end hh hit1 T1 (by simp) fun h2 x2 => ?_))
  simp only [Option.isSome_none, Bool.false_eq_true, if_false]
  exact wpAny_pure (q h2 (x1.then x2 fun b hb z => absurd hb (by rw [z]; exact Nat.lt_irrefl _)))
end

-- after M47
/-- what the asks of the keys need -/
structure Six (lsts : List (Addr × List Value)) (ks : List (KA × Addr × Value)) (lams : List (Addr × Expr × List (Str × Addr))) (kys : List (Addr × Addr × Value)) (L Ky Bs N R : Addr) (rw : List Addr) (ns : List Int) (k1 k2 : KA) (c1 c2 f1 f2 : Addr) (xs fs : Nat → Addr) : Prop where
  thg : Thg lsts N R rw ns
  three : 3 ≤ rw.length
  ky : ∃ kl, (Ky, kl) ∈ lsts ∧ ∀ p, p < 6 → kl[p]? = some (.ref (xs p))
  bs : ∃ bl, (Bs, bl) ∈ lsts ∧ ∀ i, i < 6 → bl[i]? = some (.ref (fs i))
  m1 : (k1, c1, .ref f1) ∈ ks
  m2 : (k2, c2, .ref f2) ∈ ks
  l1 : (f1, lamOf (lawS 6), clN L) ∈ lams
  l2 : (f2, lamOf (lawS 7), clN L) ∈ lams
  as : ∀ i, i < 6 → (fs i, askE i, []) ∈ lams
  key : ∀ p, p < 6 → (xs p, (if p % 2 = 0 then k1 else k2).C, .ref (rw.getD (p / 2) 0)) ∈ kys
/-- how two keys stand -/
def sgn (ns : List Int) (p q : Nat) : Int := if p % 2 = 0 then standOf ns (p / 2) (q / 2) else - standOf ns (p / 2) (q / 2)
section
variable {prog : Program} {w : World} {A : Around} {E : Value → Shared → Prop} {h0 h h' : Heap} {g : Array GenState} {d : Drawn} {t : Nat} {os : OsState} {L fa : Addr} {ls ls' : List (Str × Value)} {lsts : List (Addr × List Value)} {ks : List (KA × Addr × Value)} {lams : List (Addr × Expr × List (Str × Addr))} {kys : List (Addr × Addr × Value)} {hds : List (Addr × Obj)} {X : Addr → Prop}
  {Ky Bs N R T : Addr} {rw : List Addr} {ns : List Int} {k1 k2 : KA} {c1 c2 f1 f2 : Addr} {xs fs : Nat → Addr} {its : List Value} {p q : Nat}
theorem Law.sp0 (W : Law h0 L fa h ls ((T, its) :: lsts) ks lams kys hds) (G : Six lsts ks lams kys L Ky Bs N R rw ns k1 k2 c1 c2 f1 f2 xs fs) (hN : lkS "numbers" ls = some (.ref N)) (hT : lkS "notes" ls = some (.ref T)) (hi : its.length ≤ 900000) {i j : Nat} (h1 : i < rw.length) (h2 : j < rw.length) :
    CmpSp prog w g d os h (.ref f1) (.ref (rw.getD i 0)) (.ref (rw.getD j 0)) T its 0 (rw.getD i 0) (rw.getD j 0) (standOf ns i j) := by
  intro A E h' t' Q hd x q
  have a := (W.askd G.thg hN hT (by kernel_rfl) (by decide)).ext x id (fun _ _ => id) id id
  obtain ⟨vs, hNl, I⟩ := a.nums
  obtain ⟨ui, ti, hai⟩ := a.row i h1
  obtain ⟨uj, tj, haj⟩ := a.row j h2
  exact rising_call (W.S.keep x) hd ((W.lam _ G.l1).ext x softX_nil) a.eN a.eT a.ne hNl I (x.lst (W.lst _ (.head _)) id) (by dsimp only; omega) hai haj (by rw [← a.len]; exact h1) (by rw [← a.len]; exact h2) a.hi (by have := a.le; omega) a.NT (a.rT i h1) (a.rT j h2) q
theorem Law.sp1 (W : Law h0 L fa h ls ((T, its) :: lsts) ks lams kys hds) (G : Six lsts ks lams kys L Ky Bs N R rw ns k1 k2 c1 c2 f1 f2 xs fs) (hN : lkS "numbers" ls = some (.ref N)) (hT : lkS "notes" ls = some (.ref T)) (hi : its.length ≤ 900000) {i j : Nat} (h1 : i < rw.length) (h2 : j < rw.length) :
    CmpSp prog w g d os h (.ref f2) (.ref (rw.getD i 0)) (.ref (rw.getD j 0)) T its 1 (rw.getD i 0) (rw.getD j 0) (- standOf ns i j) := by
  intro A E h' t' Q hd x q
  have a := (W.askd G.thg hN hT (by kernel_rfl) (by decide)).ext x id (fun _ _ => id) id id
  obtain ⟨vs, hNl, I⟩ := a.nums
  obtain ⟨ui, ti, hai⟩ := a.row i h1
  obtain ⟨uj, tj, haj⟩ := a.row j h2
  exact falling_call (W.S.keep x) hd ((W.lam _ G.l2).ext x softX_nil) a.eN a.eT a.ne hNl I (x.lst (W.lst _ (.head _)) id) (by dsimp only; omega) hai haj (by rw [← a.len]; exact h1) (by rw [← a.len]; exact h2) a.hi (by have := a.le; omega) a.NT (a.rT i h1) (a.rT j h2) q
/-- an ask of two keys -/
theorem Law.ask {i : Nat} {Q : Value → Shared → Prop} (W : Law h0 L fa h ls ((T, its) :: lsts) ks lams kys hds) (G : Six lsts ks lams kys L Ky Bs N R rw ns k1 k2 c1 c2 f1 f2 xs fs) (hN : lkS "numbers" ls = some (.ref N)) (hT : lkS "notes" ls = some (.ref T)) (hi : its.length ≤ 900000) (hT0 : h0.objs.size ≤ T) (h6 : i < 6) (hp : p < 6) (hq : q < 6)
    (hu : A.units + 8 < cLine) (hd : A.depth + 3 < recursionLimit)
    (qq : ∀ h' t' tp um, Law h0 L fa h' ls ((T, its ++ [.ref tp]) :: lsts) ks lams kys hds → h'.get? tp = some (oTup [.int ((p % 2 : Nat) : Int) um, .ref (rw.getD (p / 2) 0), .ref (rw.getD (q / 2) 0)]) → Q (.bool (opB (askOp i) (sgn ns p q))) ⟨h', g, d, t', os⟩) :
    wpAny (model prog w) A (call (.ref (fs i)) [.ref (xs p), .ref (xs q)]) Q E ⟨h, g, d, t, os⟩ := by
  have h3 := G.three
  have hp2 : p / 2 < rw.length := by omega
  have hq2 : q / 2 < rw.length := by omega
  have X := W.key _ (G.key p hp)
  have Y := W.key _ (G.key q hq)
  have K1 := W.kok _ G.m1
  have K2 := W.kok _ G.m2
  obtain ⟨kq, cq, fq, KQ, hYQ⟩ : ∃ (kq : KA) (cq : Addr) (fq : Value), KOk h kq cq fq ∧ KeyAt h (xs q) kq.C (.ref (rw.getD (q / 2) 0)) := by
    by_cases e : q % 2 = 0
    · rw [if_pos e] at Y; exact ⟨k1, c1, _, K1, Y⟩
    · rw [if_neg e] at Y; exact ⟨k2, c2, _, K2, Y⟩
  by_cases e : p % 2 = 0
  · rw [if_pos e] at X
    refine ask_call h6 (W.lam _ (G.as i h6)) hu hd K1 KQ W.S X hYQ rfl rfl (W.lam _ G.l1) (W.sp0 G hN hT hi hp2 hq2) fun h1 t1 tp um x1 l1 e1 _ => ?_
    have := qq h1 t1 tp um (W.upd l1 x1 hT0) (by rw [e]; exact e1)
    unfold sgn at this
    rw [if_pos e] at this
    exact this
  · rw [if_neg e] at X
    have e1' : p % 2 = 1 := by omega
    refine ask_call h6 (W.lam _ (G.as i h6)) hu hd K2 KQ W.S X hYQ rfl rfl (W.lam _ G.l2) (W.sp1 G hN hT hi hp2 hq2) fun h1 t1 tp um x1 l1 e1 _ => ?_
    have := qq h1 t1 tp um (W.upd l1 x1 hT0) (by rw [e1']; exact e1)
    unfold sgn at this
    rw [if_neg e] at this
    exact this
end

-- after M48
def qFor : Stmt := (forBody (lawS 17)).getD 0 (.Pass ⟨0, 0, 0, 0⟩)
def kFor : Stmt := (forBody qFor).getD 3 (.Pass ⟨0, 0, 0, 0⟩)
theorem fdiv2 (p : Nat) : ((p : Nat) : Int).fdiv 2 = ((p / 2 : Nat) : Int) := by
  rw [Int.fdiv_eq_ediv_of_nonneg _ (by decide)]
  omega
theorem fmod2 (p : Nat) : ((p : Nat) : Int).fmod 2 = ((p % 2 : Nat) : Int) := by
  rw [Int.fmod_eq_emod_of_nonneg _ (by decide)]
  omega
section
variable {prog : Program} {w : World} {A : Around} {E : Value → Shared → Prop} {h0 h h' : Heap} {g : Array GenState} {d : Drawn} {t : Nat} {os : OsState} {L fa : Addr} {ls ls' : List (Str × Value)} {lsts : List (Addr × List Value)} {ks : List (KA × Addr × Value)} {lams : List (Addr × Expr × List (Str × Addr))} {kys : List (Addr × Addr × Value)} {hds : List (Addr × Obj)} {X : Addr → Prop}
  {Ky Bs N R T Wi : Addr} {rw : List Addr} {ns : List Int} {k1 k2 : KA} {c1 c2 f1 f2 : Addr} {xs fs : Nat → Addr} {its wl : List Value} {p q : Nat}
theorem row_at {i : Nat} (hi : i < rw.length) : (rowV rw)[i]? = some (.ref (rw.getD i 0)) := by simp [rowV, List.getElem?_eq_getElem hi, List.getD_eq_getElem?_getD]
theorem keeper_lam' {M : Model} {s : Shared} {f : Addr} {e : Expr} {clo : List (Str × Addr)} {Q : Keeper → Shared → Prop} (L : LamAt s.heap f e clo) (q : ∀ k, Q k s) : wpAny M A (keeperOf (.ref f)) Q E s := by
  obtain ⟨pm, code, ct, hf, _⟩ := L
  exact keeper_fn hf rfl q
theorem kbody {i : Nat} {v up uq : Tok} {Q : Flow → Shared → Prop} (W : Law h0 L fa h ls ((T, its) :: lsts) ks lams kys hds) (G : Six lsts ks lams kys L Ky Bs N R rw ns k1 k2 c1 c2 f1 f2 xs fs) (hh : A.handled = none)
    (hN : lkS "numbers" ls = some (.ref N)) (hT : lkS "notes" ls = some (.ref T)) (hR : lkS "row" ls = some (.ref R)) (hK : lkS "keys" ls = some (.ref Ky)) (hB : lkS "asks" ls = some (.ref Bs)) (hW : lkS "wished" ls = some (.ref Wi)) (lp : lkS "p" ls = some (.int p up)) (lq' : lkS "q" ls = some (.int q uq)) (lk : lkS "k" ls = some (.int i v))
    (mW : (Wi, wl) ∈ lsts) (hw : ∀ i, i < 6 → wl[i]? = some (.bool (opB (askOp i) (sgn ns p q)))) (hi : its.length ≤ 90000) (hT0 : h0.objs.size ≤ T) (h6 : i < 6) (hp : p < 6) (hq : q < 6) (hu : A.units + 8 < cLine) (hd : A.depth + 3 < recursionLimit)
    (qq : ∀ v1 v2 v3 v4 tp h' t', Law h0 L fa h' (("b", v1) :: ("a", v2) :: ("mark", v3) :: ("seen", v4) :: ls) ((T, its ++ [.ref tp]) :: lsts) ks lams kys hds → Q .next ⟨h', g, d, t', os⟩) :
    wpAny (model prog w) A (execs (forBody kFor) (EL L fa)) Q E ⟨h, g, d, t, os⟩ := by
  have S := W.S
  have h3 := G.three
  have hp2 : p / 2 < rw.length := by omega
  have hq2 : q / 2 < rw.length := by omega
  obtain ⟨kl, mK, hkl⟩ := G.ky
  obtain ⟨bl, mB, hbl⟩ := G.bs
  refine wpAny_execs_cons (wpAny_Assign_Name (call_by ?_) (by kernel_rfl))
  walk_at "m glob"
  refine args_cons (W.F.ld (.inr (.inl (by kernel_rfl!))) hT (args_nil (keeper_builtin fun _ => ?_)))
  refine len_lst (W.lst _ (.head _)) (by dsimp only; omega) fun u1 t1 => ?_
  dsimp only
  refine W.store (.inl (by kernel_rfl)) fun h1 t2 W1 _ => ?_
  have l1 : ∀ {x : Str} {y : Value}, lkS x ls = some y → (x == "seen") = false → lkS x (("seen", .int its.length u1) :: ls) = some y := fun e e1 => lkS_cons e e1
  clear W S
  have S := W1.S
  refine wpAny_execs_cons (wpAny_If (isTrue_or (wpAny_isTrue_Compare1 (call_by (Subscript_ ?_)))))
  refine W1.F.ld (.inl (by kernel_rfl!)) (l1 hB (by decide +kernel)) (W1.F.ld (.inl (by kernel_rfl!)) (l1 lk (by decide +kernel)) ?_)
  refine sub_list (W1.lst _ (.tail _ mB)) (hbl i h6) (by omega) ?_
  refine args_cons (Subscript_ ?_)
  refine W1.F.ld (.inl (by kernel_rfl!)) (l1 hK (by decide +kernel)) (W1.F.ld (.inl (by kernel_rfl!)) (l1 lp (by decide +kernel)) ?_)
  refine sub_list (W1.lst _ (.tail _ mK)) (hkl p hp) (by omega) ?_
  refine args_cons (Subscript_ ?_)
  refine W1.F.ld (.inl (by kernel_rfl!)) (l1 hK (by decide +kernel)) (W1.F.ld (.inl (by kernel_rfl!)) (l1 lq' (by decide +kernel)) ?_)
  refine sub_list (W1.lst _ (.tail _ mK)) (hkl q hq) (by omega) ?_
  refine args_nil (keeper_lam' (W1.lam _ (G.as i h6)) fun _ => ?_)
  refine W1.ask G (l1 hN (by decide +kernel)) (l1 hT (by decide +kernel)) (by omega) hT0 h6 hp hq hu hd fun h2 t3 tp um W2 etp => ?_
  clear W1 S
  have S := W2.S
  refine Subscript_ ?_
  refine W2.F.ld (.inl (by kernel_rfl!)) (l1 hW (by decide +kernel)) (W2.F.ld (.inl (by kernel_rfl!)) (l1 lk (by decide +kernel)) ?_)
  refine sub_list (W2.lst _ (.tail _ mW)) (hw i h6) (by omega) ?_
  refine wpAny_isNot_self rfl (wpAny_truthy_bool ?_)
  rw [if_neg (by decide)]
  refine isTrue_or (wpAny_isTrue_Compare1 (call_by ?_))
  walk_at "m glob"
  refine args_cons (W2.F.ld (.inr (.inl (by kernel_rfl!))) (l1 hT (by decide +kernel)) (args_nil (keeper_builtin fun _ => ?_)))
  refine len_lst (W2.lst _ (.head _)) (by simp; omega) fun u4 t4 => ?_
  refine wpAny_BinOp (W2.F.ld (.inl (by kernel_rfl!)) lk_hit ?_)
  walk_at "m int"
  refine add_int ?_
  dsimp only
  refine ne_int (wpAny_truthy_bool ?_)
  have hne : (((its ++ [Value.ref tp]).length : Int) != (its.length : Int) + 1) = false := by simp
  rw [hne, if_neg (by decide)]
  refine isTrue_or_nil ?_
  rw [if_neg (by decide)]
  refine wpAny_execs_nil (wpAny_execs_cons (Assign_Tuple (Subscript_ ?_) (by kernel_rfl) (by kernel_rfl)))
  refine W2.F.ld (.inr (.inl (by kernel_rfl!))) (l1 hT (by decide +kernel)) (W2.F.ld (.inl (by kernel_rfl!)) lk_hit ?_)
  refine sub_list (W2.lst _ (.head _)) (v := .ref tp) (by simp) (by omega) ?_
  rw [assign_Tuple]
  refine wpAny_bind (wpAny_standAt ?_)
  unfold unpack
  refine wpAny_bind (wpAny_holding (unpack_tup (its := [.int ((p % 2 : Nat) : Int) um, .ref (rw.getD (p / 2) 0), .ref (rw.getD (q / 2) 0)]) hh etp fun h5 x5 => ?_))
  have W5 := W2.keep x5
  clear W2 S
  show wpAny _ _ (do holding _ (assign _ _ _); assignInOrder [_, _] _) _ _ _
  refine wpAny_bind (wpAny_holding (wpAny_assign_Name (W5.store (.inl (by kernel_rfl)) fun h6' t6 W6 _ => ?_)))
  show wpAny _ _ (do holding _ (assign _ _ _); assignInOrder [_] _) _ _ _
  refine wpAny_bind (wpAny_holding (wpAny_assign_Name (W6.store (.inl (by kernel_rfl)) fun h7 t7 W7 _ => ?_)))
  show wpAny _ _ (do holding _ (assign _ _ _); assignInOrder [] _) _ _ _
  refine wpAny_bind (wpAny_holding (wpAny_assign_Name (W7.store (.inl (by kernel_rfl)) fun h8 t8 W8 _ => ?_)))
  refine wpAny_pure ?_
  clear W5 W6 W7
  have l2 : ∀ {x : Str} {y z1 z2 z3 : Value}, lkS x ls = some y → (x == "seen") = false → (x == "mark") = false → (x == "a") = false → (x == "b") = false → lkS x (("b", z1) :: ("a", z2) :: ("mark", z3) :: ("seen", .int its.length u1) :: ls) = some y := fun e e1 e2 e3 e4 => lkS_cons (lkS_cons (lkS_cons (lkS_cons e e1) e2) e3) e4
  have F := W8.F
  refine wpAny_execs_cons (wpAny_If (isTrue_or (wpAny_isTrue_Compare1 ?_)))
  walk_at "m var"
  refine wpAny_BinOp (W8.F.ld (.inl (by kernel_rfl!)) (l2 lp (by decide +kernel) (by decide +kernel) (by decide +kernel) (by decide +kernel)) ?_)
  walk_at "m int"
  refine mod_int' (by decide) ?_
  dsimp only
  rw [fmod2]
  refine ne_int (wpAny_truthy_bool ?_)
  rw [show (((p % 2 : Nat) : Int) != ((p % 2 : Nat) : Int)) = false by simp, if_neg (by decide)]
  refine isTrue_or (wpAny_isTrue_Compare1 ?_)
  walk_at "m var"
  refine Subscript_ (W8.F.ld (.inr (.inl (by kernel_rfl!))) (l2 hR (by decide +kernel) (by decide +kernel) (by decide +kernel) (by decide +kernel)) (wpAny_BinOp (W8.F.ld (.inl (by kernel_rfl!)) (l2 lp (by decide +kernel) (by decide +kernel) (by decide +kernel) (by decide +kernel)) ?_)))
  walk_at "m int"
  refine floordiv_int (by decide) ?_
  dsimp only
  rw [fdiv2]
  refine sub_list (W8.lst _ (.tail _ G.thg.row)) (row_at hp2) (by omega) ?_
  refine wpAny_isNot_ref_self (wpAny_truthy_bool ?_)
  rw [if_neg (by decide)]
  refine isTrue_or (wpAny_isTrue_Compare1 ?_)
  walk_at "m var"
  refine Subscript_ (W8.F.ld (.inr (.inl (by kernel_rfl!))) (l2 hR (by decide +kernel) (by decide +kernel) (by decide +kernel) (by decide +kernel)) (wpAny_BinOp (W8.F.ld (.inl (by kernel_rfl!)) (l2 lq' (by decide +kernel) (by decide +kernel) (by decide +kernel) (by decide +kernel)) ?_)))
  walk_at "m int"
  refine floordiv_int (by decide) ?_
  dsimp only
  rw [fdiv2]
  refine sub_list (W8.lst _ (.tail _ G.thg.row)) (row_at hq2) (by omega) ?_
  refine wpAny_isNot_ref_self (wpAny_truthy_bool ?_)
  rw [if_neg (by decide)]
  refine isTrue_or_nil ?_
  rw [if_neg (by decide)]
  exact wpAny_execs_nil (wpAny_execs_nil (qq _ _ _ _ tp h8 _ W8))
end

-- after M49
/-- the names of ls bear the same values in ls' -/
def Sup (ls' ls : List (Str × Value)) : Prop := ∀ n u, ls.lookup n = some u → ls'.lookup n = some u
theorem Sup.refl {ls : List (Str × Value)} : Sup ls ls := fun _ _ e => e
theorem Sup.cons {ls ls' : List (Str × Value)} {x : Str} {v : Value} (s : Sup ls' ls) (hx : lkS x ls = none) : Sup ((x, v) :: ls') ls := fun n u e => by
  rw [lookup_cons']
  split
  · rename_i z
    rw [z] at e
    have hx : ls.lookup x = none := hx
    rw [hx] at e; cases e
  · exact s n u e
theorem none_cons {ls : List (Str × Value)} {x y : Str} {v : Value} (h : lkS x ls = none) (hn : (x == y) = false) : lkS x ((y, v) :: ls) = none := by
  show List.lookup x ((y, v) :: ls) = none
  rw [List.lookup_cons, hn]
  exact h
theorem Thg.more {lsts lsts' : List (Addr × List Value)} {N R : Addr} {rw : List Addr} {ns : List Int} (G : Thg lsts N R rw ns) (i : ∀ p ∈ lsts, p ∈ lsts') : Thg lsts' N R rw ns :=
  ⟨let ⟨vs, a, b⟩ := G.nums; ⟨vs, i _ a, b⟩, i _ G.row, fun j hj => let ⟨x, t, a⟩ := G.item j hj; ⟨x, t, i _ a⟩, G.len, G.le, G.two⟩
theorem Six.more {lsts lsts' : List (Addr × List Value)} {ks lams kys} {L Ky Bs N R : Addr} {rw : List Addr} {ns : List Int} {k1 k2 : KA} {c1 c2 f1 f2 : Addr} {xs fs : Nat → Addr} (G : Six lsts ks lams kys L Ky Bs N R rw ns k1 k2 c1 c2 f1 f2 xs fs) (i : ∀ p ∈ lsts, p ∈ lsts') : Six lsts' ks lams kys L Ky Bs N R rw ns k1 k2 c1 c2 f1 f2 xs fs :=
  ⟨G.thg.more i, G.three, let ⟨kl, a, b⟩ := G.ky; ⟨kl, i _ a, b⟩, let ⟨bl, a, b⟩ := G.bs; ⟨bl, i _ a, b⟩, G.m1, G.m2, G.l1, G.l2, G.as, G.key⟩
section
variable {prog : Program} {w : World} {A : Around} {E : Value → Shared → Prop} {h0 h h' : Heap} {g : Array GenState} {d : Drawn} {t : Nat} {os : OsState} {L fa : Addr} {ls ls' : List (Str × Value)} {lsts : List (Addr × List Value)} {ks : List (KA × Addr × Value)} {lams : List (Addr × Expr × List (Str × Addr))} {kys : List (Addr × Addr × Value)} {hds : List (Addr × Obj)} {X : Addr → Prop}
  {Ky Bs N R T Wi : Addr} {rw : List Addr} {ns : List Int} {k1 k2 : KA} {c1 c2 f1 f2 : Addr} {xs fs : Nat → Addr} {its wl : List Value} {p q : Nat}
def qs (i : Nat) : Stmt := (forBody qFor).getD i (.Pass ⟨0, 0, 0, 0⟩)
theorem qs0 {up uq : Tok} {Q : Flow → Shared → Prop} (W : Law h0 L fa h ls lsts ks lams kys hds) (G : Thg lsts N R rw ns) (hN : lkS "numbers" ls = some (.ref N)) (lp : lkS "p" ls = some (.int p up)) (lq' : lkS "q" ls = some (.int q uq)) (hp : p / 2 < ns.length) (hq : q / 2 < ns.length)
    (qq : ∀ u h' t', Law h0 L fa h' (("stand", .int (standOf ns (p / 2) (q / 2)) u) :: ls) lsts ks lams kys hds → Q .next ⟨h', g, d, t', os⟩) : wpAny (model prog w) A (exec (qs 0) (EL L fa)) Q E ⟨h, g, d, t, os⟩ := by
  obtain ⟨vs, mN, I⟩ := G.nums
  have hle := G.le
  obtain ⟨ui, hui⟩ := ints_get I (List.getElem?_eq_getElem hp)
  obtain ⟨uj, huj⟩ := ints_get I (List.getElem?_eq_getElem hq)
  refine wpAny_Assign_Name (wpAny_BinOp (wpAny_BinOp (Subscript_ (W.F.ld (.inr (.inl (by kernel_rfl!))) hN (wpAny_BinOp (W.F.ld (.inl (by kernel_rfl!)) lp ?_)))))) (by kernel_rfl)
  walk_at "m int"
  refine floordiv_int (by decide) ?_
  dsimp only
  rw [fdiv2]
  refine sub_list (W.lst _ mN) hui (by omega) ?_
  walk_at "m int"
  refine floordiv_int (by decide) ?_
  dsimp only
  refine wpAny_BinOp (Subscript_ (W.F.ld (.inr (.inl (by kernel_rfl!))) hN (wpAny_BinOp (W.F.ld (.inl (by kernel_rfl!)) lq' ?_))))
  walk_at "m int"
  refine floordiv_int (by decide) ?_
  dsimp only
  rw [fdiv2]
  refine sub_list (W.lst _ mN) huj (by omega) ?_
  walk_at "m int"
  refine floordiv_int (by decide) ?_
  dsimp only
  refine sub_int ?_
  dsimp only
  rw [half_get hp, half_get hq]
  exact W.store (.inl (by kernel_rfl)) fun h1 t1 W1 _ => qq _ h1 t1 W1
theorem qs1 {up us : Tok} {Q : Flow → Shared → Prop} (W : Law h0 L fa h (("stand", .int (standOf ns (p / 2) (q / 2)) us) :: ls) lsts ks lams kys hds) (lp : lkS "p" ls = some (.int p up))
    (qq : ∀ u h' t', Law h0 L fa h' (("stand", .int (sgn ns p q) u) :: ls) lsts ks lams kys hds → Q .next ⟨h', g, d, t', os⟩) : wpAny (model prog w) A (exec (qs 1) (EL L fa)) Q E ⟨h, g, d, t, os⟩ := by
  have F := W.F
  refine wpAny_If (wpAny_isTrue_Compare1 (wpAny_BinOp (W.F.ld (.inl (by kernel_rfl!)) (lkS_cons lp (by decide +kernel)) ?_)))
  walk_at "m int"
  refine mod_int' (by decide) ?_
  dsimp only
  rw [fmod2]
  walk_at "m int"
  refine eq_int (wpAny_truthy_bool ?_)
  by_cases e : p % 2 = 0
  · rw [if_neg (by rw [e]; decide)]
    refine wpAny_execs_nil (qq us h _ ?_)
    unfold sgn
    rw [if_pos e]
    exact W
  · have e1 : p % 2 = 1 := by omega
    rw [if_pos (by rw [e1]; decide)]
    refine wpAny_execs_cons (wpAny_Assign_Name (wpAny_UnaryOp ?_) (by kernel_rfl))
    walk_at "m var"
    refine neg_int ?_
    dsimp only
    refine W.store (.inl (by kernel_rfl)) fun h1 t1 W1 _ => ?_
    have W2 := W1.names1
    have hs : sgn ns p q = - standOf ns (p / 2) (q / 2) := by unfold sgn; rw [if_neg e]
    rw [← hs] at W2
    exact wpAny_execs_nil (qq _ h1 t1 W2)
theorem qs2 {z : Int} {us : Tok} {Q : Flow → Shared → Prop} (W : Law h0 L fa h (("stand", .int z us) :: ls) lsts ks lams kys hds)
    (qq : ∀ Wi wl h' t', (∀ i, i < 6 → wl[i]? = some (.bool (opB (askOp i) z))) → Law h0 L fa h' (("wished", .ref Wi) :: ("stand", .int z us) :: ls) ((Wi, wl) :: lsts) ks lams kys hds → Q .next ⟨h', g, d, t', os⟩) : wpAny (model prog w) A (exec (qs 2) (EL L fa)) Q E ⟨h, g, d, t, os⟩ := by
  have F := W.F
  refine wpAny_Assign_Name (wpAny_List ?_) (by kernel_rfl)
  refine args_cons (wpAny_Compare1 ?_)
  walk_at "m var"
  walk_at "m int"
  refine lt_int (args_cons (wpAny_Compare1 ?_))
  walk_at "m var"
  walk_at "m int"
  refine le_int (args_cons (wpAny_Compare1 ?_))
  walk_at "m var"
  walk_at "m int"
  refine eq_int (args_cons (wpAny_Compare1 ?_))
  walk_at "m var"
  walk_at "m int"
  refine ne_int (args_cons (wpAny_Compare1 ?_))
  walk_at "m var"
  walk_at "m int"
  refine ge_int (args_cons (wpAny_Compare1 ?_))
  walk_at "m var"
  walk_at "m int"
  refine gt_int (args_nil ⟨Nat.le_of_ble_eq_true rfl, ?_⟩)
  dsimp only
  refine (W.alloc [.bool (decide (z < 0)), .bool (decide (z ≤ 0)), .bool (z == 0), .bool (z != 0), .bool (decide (z ≥ 0)), .bool (decide (z > 0))]).store (.inl (by kernel_rfl)) fun h1 t1 W1 _ => qq _ _ h1 t1 ?_ W1
  intro i hi
  have hi' : i = 0 ∨ i = 1 ∨ i = 2 ∨ i = 3 ∨ i = 4 ∨ i = 5 := by omega
  rcases hi' with rfl | rfl | rfl | rfl | rfl | rfl <;> rfl
end

-- after M50
section
variable {prog : Program} {w : World} {A : Around} {E : Value → Shared → Prop} {h0 h h' : Heap} {g : Array GenState} {d : Drawn} {t : Nat} {os : OsState} {L fa : Addr} {ls ls' : List (Str × Value)} {lsts : List (Addr × List Value)} {ks : List (KA × Addr × Value)} {lams : List (Addr × Expr × List (Str × Addr))} {kys : List (Addr × Addr × Value)} {hds : List (Addr × Obj)} {X : Addr → Prop}
  {Ky Bs N R T Wi : Addr} {rw : List Addr} {ns : List Int} {k1 k2 : KA} {c1 c2 f1 f2 : Addr} {xs fs : Nat → Addr} {its wl : List Value} {p q : Nat}
/-- names that a loop stores and drops -/
structure Free (ls : List (Str × Value)) : Prop where
  b : lkS "b" ls = none
  a : lkS "a" ls = none
  mark : lkS "mark" ls = none
  seen : lkS "seen" ls = none
  k : lkS "k" ls = none
theorem Free.cons {x : Str} {v : Value} (f : Free ls) (h1 : ("b" == x) = false) (h2 : ("a" == x) = false) (h3 : ("mark" == x) = false) (h4 : ("seen" == x) = false) (h5 : ("k" == x) = false) : Free ((x, v) :: ls) :=
  ⟨none_cons f.b h1, none_cons f.a h2, none_cons f.mark h3, none_cons f.seen h4, none_cons f.k h5⟩
/-- the names that the asks read -/
structure Nms (ls : List (Str × Value)) (N T R Ky Bs : Addr) : Prop where
  N : lkS "numbers" ls = some (.ref N)
  T : lkS "notes" ls = some (.ref T)
  R : lkS "row" ls = some (.ref R)
  K : lkS "keys" ls = some (.ref Ky)
  B : lkS "asks" ls = some (.ref Bs)
theorem Nms.cons {x : Str} {v : Value} (f : Nms ls N T R Ky Bs) (h1 : ("numbers" == x) = false) (h2 : ("notes" == x) = false) (h3 : ("row" == x) = false) (h4 : ("keys" == x) = false) (h5 : ("asks" == x) = false) : Nms ((x, v) :: ls) N T R Ky Bs :=
  ⟨lkS_cons f.N h1, lkS_cons f.T h2, lkS_cons f.R h3, lkS_cons f.K h4, lkS_cons f.B h5⟩
theorem kloop {up uq : Tok} {Q : Flow → Shared → Prop} (W : Law h0 L fa h ls ((T, its) :: lsts) ks lams kys hds) (G : Six lsts ks lams kys L Ky Bs N R rw ns k1 k2 c1 c2 f1 f2 xs fs) (hh : A.handled = none)
    (V : Nms ls N T R Ky Bs) (hW : lkS "wished" ls = some (.ref Wi)) (lp : lkS "p" ls = some (.int p up)) (lq' : lkS "q" ls = some (.int q uq)) (fr : Free ls)
    (mW : (Wi, wl) ∈ lsts) (hw : ∀ i, i < 6 → wl[i]? = some (.bool (opB (askOp i) (sgn ns p q)))) (hi : its.length ≤ 80000) (hT0 : h0.objs.size ≤ T) (hp : p < 6) (hq : q < 6) (hu : A.units + 8 < cLine) (hd : A.depth + 3 < recursionLimit)
    (qq : ∀ its' h' t', its'.length = its.length + 6 → Law h0 L fa h' ls ((T, its') :: lsts) ks lams kys hds → Q .next ⟨h', g, d, t', os⟩) :
    wpAny (model prog w) A (exec kFor (EL L fa)) Q E ⟨h, g, d, t, os⟩ := by
  refine for_rng (u := t) hh (by kernel_rfl) (n := 6) (by omega) (fun i ls' lsts' ks' lams' kys' => ls = ls' ∧ ks = ks' ∧ lams = lams' ∧ kys = kys' ∧ ∃ its', lsts' = (T, its') :: lsts ∧ its'.length = its.length + i) W ⟨rfl, rfl, rfl, rfl, its, rfl, rfl⟩ (fun Q' z => wpAny_Constant_int (z _)) ?_ ?_
  · rintro i _ _ _ _ _ h t It o v h6 ⟨rfl, rfl, rfl, rfl, its', rfl, hl⟩ W
    have V' := V.cons (x := "k") (v := .int i v) (by decide +kernel) (by decide +kernel) (by decide +kernel) (by decide +kernel) (by decide +kernel)
    refine kbody (i := i) (v := v) W G hh V'.N V'.T V'.R V'.K V'.B (lkS_cons hW (by decide +kernel)) (lkS_cons lp (by decide +kernel)) (lkS_cons lq' (by decide +kernel)) lk_hit mW hw (by omega) hT0 h6 hp hq hu hd fun v1 v2 v3 v4 tp h' t' W' => ?_
    refine ⟨rfl, ls, _, ks, lams, kys, h', t', rfl, ⟨rfl, rfl, rfl, rfl, _, rfl, by simp; omega⟩, W'.names ?_⟩
    exact ((((Sup.refl.cons fr.k).cons fr.seen).cons fr.mark).cons fr.a).cons fr.b
  · rintro _ _ _ _ _ h' t' ⟨rfl, rfl, rfl, rfl, its', rfl, hl⟩ W'
    exact qq its' h' t' hl W'
theorem qbody {up uq : Tok} {Q : Flow → Shared → Prop} (W : Law h0 L fa h ls ((T, its) :: lsts) ks lams kys hds) (G : Six lsts ks lams kys L Ky Bs N R rw ns k1 k2 c1 c2 f1 f2 xs fs) (hh : A.handled = none)
    (V : Nms ls N T R Ky Bs) (lp : lkS "p" ls = some (.int p up)) (lq' : lkS "q" ls = some (.int q uq)) (fr : Free ls) (f1' : lkS "stand" ls = none) (f2' : lkS "wished" ls = none)
    (hi : its.length ≤ 80000) (hT0 : h0.objs.size ≤ T) (hp : p < 6) (hq : q < 6) (hu : A.units + 8 < cLine) (hd : A.depth + 3 < recursionLimit)
    (qq : ∀ its' h' t', its'.length = its.length + 6 → Law h0 L fa h' ls ((T, its') :: lsts) ks lams kys hds → Q .next ⟨h', g, d, t', os⟩) :
    wpAny (model prog w) A (execs (forBody qFor) (EL L fa)) Q E ⟨h, g, d, t, os⟩ := by
  have h3 := G.three
  have hlen := G.thg.len
  rw [show forBody qFor = [qs 0, qs 1, qs 2, kFor] by kernel_rfl]
  refine wpAny_execs_cons (qs0 W (G.thg.more fun _ z => .tail _ z) V.N lp lq' (by omega) (by omega) fun u1 h1 t1 W1 => ?_)
  refine wpAny_execs_cons (qs1 W1 lp fun u2 h2 t2 W2 => ?_)
  refine wpAny_execs_cons (qs2 W2 fun Wi wl h3' t3 hw W3 => ?_)
  have V3 := (V.cons (x := "stand") (v := .int (sgn ns p q) u2) (by decide +kernel) (by decide +kernel) (by decide +kernel) (by decide +kernel) (by decide +kernel)).cons (x := "wished") (v := .ref Wi) (by decide +kernel) (by decide +kernel) (by decide +kernel) (by decide +kernel) (by decide +kernel)
  have fr3 := (fr.cons (x := "stand") (v := .int (sgn ns p q) u2) (by decide +kernel) (by decide +kernel) (by decide +kernel) (by decide +kernel) (by decide +kernel)).cons (x := "wished") (v := .ref Wi) (by decide +kernel) (by decide +kernel) (by decide +kernel) (by decide +kernel) (by decide +kernel)
  refine wpAny_execs_cons (kloop (W3.perm (List.Perm.swap _ _ _)) (G.more fun _ z => .tail _ z) hh V3 lk_hit (lkS_cons (lkS_cons lp (by decide +kernel)) (by decide +kernel)) (lkS_cons (lkS_cons lq' (by decide +kernel)) (by decide +kernel)) fr3 (.head _) hw hi hT0 hp hq hu hd fun its' h4 t4 hl W4 => ?_)
  refine wpAny_execs_nil (qq its' h4 t4 hl ((W4.names ?_).lists ?_))
  · exact (Sup.refl.cons f1').cons f2'
  · exact List.Sublist.cons_cons _ (List.sublist_cons_self _ _)
theorem qloop {up : Tok} {Q : Flow → Shared → Prop} (W : Law h0 L fa h ls ((T, its) :: lsts) ks lams kys hds) (G : Six lsts ks lams kys L Ky Bs N R rw ns k1 k2 c1 c2 f1 f2 xs fs) (hh : A.handled = none)
    (V : Nms ls N T R Ky Bs) (lp : lkS "p" ls = some (.int p up)) (fr : Free ls) (f1' : lkS "stand" ls = none) (f2' : lkS "wished" ls = none) (f3' : lkS "q" ls = none)
    (hi : its.length ≤ 70000) (hT0 : h0.objs.size ≤ T) (hp : p < 6) (hu : A.units + 8 < cLine) (hd : A.depth + 3 < recursionLimit)
    (qq : ∀ its' h' t', its'.length = its.length + 36 → Law h0 L fa h' ls ((T, its') :: lsts) ks lams kys hds → Q .next ⟨h', g, d, t', os⟩) :
    wpAny (model prog w) A (exec qFor (EL L fa)) Q E ⟨h, g, d, t, os⟩ := by
  refine for_rng (u := t) hh (by kernel_rfl) (n := 6) (by omega) (fun i ls' lsts' ks' lams' kys' => ls = ls' ∧ ks = ks' ∧ lams = lams' ∧ kys = kys' ∧ ∃ its', lsts' = (T, its') :: lsts ∧ its'.length = its.length + 6 * i) W ⟨rfl, rfl, rfl, rfl, its, rfl, rfl⟩ (fun Q' z => wpAny_Constant_int (z _)) ?_ ?_
  · rintro i _ _ _ _ _ h t It o v h6 ⟨rfl, rfl, rfl, rfl, its', rfl, hl⟩ W
    have V' := V.cons (x := "q") (v := .int i v) (by decide +kernel) (by decide +kernel) (by decide +kernel) (by decide +kernel) (by decide +kernel)
    have fr' := fr.cons (x := "q") (v := .int i v) (by decide +kernel) (by decide +kernel) (by decide +kernel) (by decide +kernel) (by decide +kernel)
    refine qbody (q := i) (uq := v) W G hh V' (lkS_cons lp (by decide +kernel)) lk_hit fr' (none_cons f1' (by decide +kernel)) (none_cons f2' (by decide +kernel)) (by omega) hT0 hp h6 hu hd fun its2 h' t' hl2 W' => ?_
    exact ⟨rfl, ls, _, ks, lams, kys, h', t', rfl, ⟨rfl, rfl, rfl, rfl, _, rfl, by omega⟩, W'.unname f3'⟩
  · rintro _ _ _ _ _ h' t' ⟨rfl, rfl, rfl, rfl, its', rfl, hl⟩ W'
    exact qq its' h' t' hl W'
theorem st17 {Q : Flow → Shared → Prop} (W : Law h0 L fa h ls ((T, its) :: lsts) ks lams kys hds) (G : Six lsts ks lams kys L Ky Bs N R rw ns k1 k2 c1 c2 f1 f2 xs fs) (hh : A.handled = none)
    (V : Nms ls N T R Ky Bs) (fr : Free ls) (f1' : lkS "stand" ls = none) (f2' : lkS "wished" ls = none) (f3' : lkS "q" ls = none) (f4' : lkS "p" ls = none)
    (hi : its.length ≤ 60000) (hT0 : h0.objs.size ≤ T) (hu : A.units + 8 < cLine) (hd : A.depth + 3 < recursionLimit)
    (qq : ∀ its' h' t', Law h0 L fa h' ls ((T, its') :: lsts) ks lams kys hds → Q .next ⟨h', g, d, t', os⟩) :
    wpAny (model prog w) A (exec (lawS 17) (EL L fa)) Q E ⟨h, g, d, t, os⟩ := by
  refine for_rng (u := t) hh (by kernel_rfl) (n := 6) (by omega) (fun i ls' lsts' ks' lams' kys' => ls = ls' ∧ ks = ks' ∧ lams = lams' ∧ kys = kys' ∧ ∃ its', lsts' = (T, its') :: lsts ∧ its'.length = its.length + 36 * i) W ⟨rfl, rfl, rfl, rfl, its, rfl, rfl⟩ (fun Q' z => wpAny_Constant_int (z _)) ?_ ?_
  · rintro i _ _ _ _ _ h t It o v h6 ⟨rfl, rfl, rfl, rfl, its', rfl, hl⟩ W
    have V' := V.cons (x := "p") (v := .int i v) (by decide +kernel) (by decide +kernel) (by decide +kernel) (by decide +kernel) (by decide +kernel)
    have fr' := fr.cons (x := "p") (v := .int i v) (by decide +kernel) (by decide +kernel) (by decide +kernel) (by decide +kernel) (by decide +kernel)
    refine wpAny_execs_cons (qloop (p := i) (up := v) W G hh V' lk_hit fr' (none_cons f1' (by decide +kernel)) (none_cons f2' (by decide +kernel)) (none_cons f3' (by decide +kernel)) (by omega) hT0 h6 hu hd fun its2 h' t' hl2 W' => ?_)
    exact wpAny_execs_nil ⟨rfl, ls, _, ks, lams, kys, h', t', rfl, ⟨rfl, rfl, rfl, rfl, _, rfl, by omega⟩, W'.unname f4'⟩
  · rintro _ _ _ _ _ h' t' ⟨rfl, rfl, rfl, rfl, its', rfl, hl⟩ W'
    exact qq its' h' t' W'
end

-- after M51 M30
section
variable {prog : Program} {w : World} {A : Around} {E : Value → Shared → Prop} {h0 h h' : Heap} {g : Array GenState} {d : Drawn} {t : Nat} {os : OsState} {L fa : Addr} {ls ls' : List (Str × Value)} {lsts : List (Addr × List Value)} {ks : List (KA × Addr × Value)} {lams : List (Addr × Expr × List (Str × Addr))} {kys : List (Addr × Addr × Value)} {hds : List (Addr × Obj)} {X : Addr → Prop}
/-- the sum of a list of ints -/
theorem sum_lst {l : Addr} {vs : List Value} {ns : List Int} {Q : Value → Shared → Prop} (hh : A.handled = none) (hl : LstAt h l vs) (I : IntsAre vs ns) (hlast : ∃ o, h.get? (h.objs.size - 1) = some o) (q : ∀ h' t' u, Ext Nil h h' → Q (.int ns.sum u) ⟨h', g, d, t', os⟩) :
    wpAny (model prog w) A (call (.builtin "sum") [.ref l]) Q E ⟨h, g, d, t, os⟩ := by
  have hall := I.allInts
  obtain ⟨xs, e⟩ := hall.items
  have hl' := hl.isList
  rw [e] at hl'
  refine sum_intListG (s := ⟨h, g, d, t, os⟩) hh hl' fun h1 t1 u hk => ?_
  have hsz : h.objs.size ≤ h1.objs.size := by
    obtain ⟨o, ho⟩ := hlast
    exact Nat.le_of_pred_lt (Heap.lt_size (hk _ _ ho))
  have hs : preSum (numAt xs) xs.size = ns.sum := by
    rw [preSum_eq, List.take_of_length_le (by simp), ← nums_intItems, ← e, show vs.toArray.toList = vs from rfl, I.numsOf]
  rw [hs]
  exact q h1 t1 u (.of hk hsz)
/-- limit = sum(script) % (3 * many) -/
theorem st19 {s1 : Addr} {vs1 : List Value} {sc : List Int} {n : Nat} {u : Tok} {Q : Flow → Shared → Prop} (W : Law h0 L fa h ls lsts ks lams kys hds) (hh : A.handled = none) (hs : lkS "script" ls = some (.ref s1)) (m : (s1, vs1) ∈ lsts) (I : IntsAre vs1 sc) (hm : lkS "many" ls = some (.int n u)) (h1 : 1 ≤ n) (hlast : ∃ o, h.get? (h.objs.size - 1) = some o)
    (q : ∀ (lim : Nat) v h' t', lim < 3 * n → Law h0 L fa h' (("limit", .int lim v) :: ls) lsts ks lams kys hds → Q .next ⟨h', g, d, t', os⟩) : wpAny (model prog w) A (exec (lawS 19) (EL L fa)) Q E ⟨h, g, d, t, os⟩ := by
  have S := W.S
  refine wpAny_Assign_Name (wpAny_BinOp (call_by ?_)) (by kernel_rfl)
  walk_at "m glob"
  refine args_cons (W.F.ld (.inl (by kernel_rfl!)) hs (args_nil (keeper_builtin fun _ => ?_)))
  refine sum_lst hh (W.lst _ m) I hlast fun h2 t2 u2 x2 => ?_
  have W2 := W.keep x2
  refine wpAny_BinOp ?_
  walk_at "m int"
  refine W2.F.ld (.inl (by kernel_rfl!)) hm ?_
  refine mul_int ?_
  dsimp only
  refine mod_int' (by omega) ?_
  dsimp only
  have hpos : (0 : Int) < 3 * (n : Int) := by omega
  have h1 := Int.fmod_nonneg_of_pos sc.sum hpos
  have h2' := Int.fmod_lt_of_pos sc.sum hpos
  obtain ⟨lim, hlim⟩ : ∃ lim : Nat, sc.sum.fmod (3 * (n : Int)) = lim := ⟨_, (Int.toNat_of_nonneg h1).symm⟩
  rw [hlim] at h2' ⊢
  exact W2.store (.inr (by kernel_rfl)) fun h3 t3 W3 _ => q lim _ h3 t3 (by omega) W3
/-- a change of one list and of the frame's own object -/
theorem Law.upd2 {a : Addr} {its its' : List Value} (W : Law h0 L fa h ls ((a, its) :: lsts) ks lams kys hds) (l : LstAt h' a its') (x : Ext (fun b => b = a ∨ b = L) h h') (F' : Frm h' (EL L fa) ls) (ha : h0.objs.size ≤ a) : Law h0 L fa h' ls ((a, its') :: lsts) ks lams kys hds := by
  have l0 := W.lst (a, its) (.head _)
  have hX : SoftX (fun b => b = a ∨ b = L) h := softX_or (softX_list l0) W.F.softL
  have hne : ∀ p ∈ lsts, p.1 ≠ a := fun p hp z => by
    have := W.nd
    rw [List.map_cons, List.nodup_cons] at this
    exact this.1 (z ▸ List.mem_map.mpr ⟨p, hp, rfl⟩)
  have W1 : Law h0 L fa h ls lsts ks lams kys hds := W.lists (List.sublist_cons_self _ _)
  have h48 : 47 < a := W.ge (a, its) (.head _)
  have nLt : ∀ {ps}, h.get? L = some (tabObj ps) → False := fun {ps} e => by
    obtain ⟨o, e', c⟩ := W.F.fr
    have e' : h.get? L = some o := e'
    rw [e] at e'; cases e'; simp at c
  have W2 : Law h0 L fa h' ls lsts ks lams kys hds := W1.go x hX (fun b z => .inr (.inr (z.elim (fun z => z ▸ h48) fun z => z ▸ W.h48))) (fun b z hb => absurd hb (Nat.not_lt.mpr (z.elim (fun z => z ▸ ha) fun z => z ▸ W.hL))) (W.T.ext x hX fun b z z' => ?_) (W.TL.ext x hX fun z => ?_)
    F' (fun p hp z => z.elim (hne p hp) (W.lst_ne_L (W1.lst p hp))) (fun p hp z => ?_) (fun p hp z => ?_)
  · exact W2.add l hne h48
  · rcases z' with z' | z'
    · exact XT.not_list l0 (z' ▸ z)
    · obtain ⟨⟨ps, e, _⟩, _⟩ := z
      exact nLt (z' ▸ e)
  · rcases z with z | z
    · rw [← z] at h48; exact absurd h48 (by decide)
    · have := W.h48
      rw [← z] at this; exact absurd this (by decide)
  · rcases z with z | z
    · exact cell_ne_lst (W.kok p hp).cell l0 z
    · obtain ⟨m, a, _⟩ := W.F.ns
      exact cell_ne_ns (W.kok p hp).cell a z
  · obtain ⟨e, i⟩ := W.hld p hp
    rcases z with z | z
    · exact i.no_list e (z ▸ l0)
    · obtain ⟨o, e', c⟩ := W.F.fr
      have e' : h.get? L = some o := e'
      rw [← z, e] at e'; cases e'
      obtain ⟨c' | c', _⟩ := i <;> · rw [c] at c'; simp at c'
/-- sorted under the third comparison -/
theorem Law.shaky {k : KA} {c f R T N : Addr} {rw : List Addr} {ns : List Int} {lim : Nat} {tl : Tok} {Q : Value → Shared → Prop} (W : Law h0 L fa h ls ((T, []) :: lsts) ks lams kys hds) (G : Thg lsts N R rw ns)
    (hN : lkS "numbers" ls = some (.ref N)) (hT : lkS "heard" ls = some (.ref T)) (hL : lkS "limit" ls = some (.int lim tl)) (hk : (k, c, .ref f) ∈ ks) (hl : (f, lamOf (lawS 20), clH L) ∈ lams) (hT0 : h0.objs.size ≤ T)
    (hu : A.units + 12 < cLine) (hd : A.depth + 4 < recursionLimit) (hfr : A.frames = some [EL L fa]) (hh : A.handled = none) (hlim : lim ≤ 40000)
    (q : ∀ D h' t' out its', Law h0 L fa h' ls ((T, its') :: (D, out) :: lsts) ks lams kys hds → its'.length ≤ lim → OutOf false (halfOf ns) rw.length (rowV rw) out → Q (.ref D) ⟨h', g, d, t', os⟩)
    (qf : ∀ e h' t', Ext (fun b => b = T ∨ b = L) h h' → Fled h (EL L fa) ls T lim e h' → E e ⟨h', g, d, t', os⟩) :
    wpAny (model prog w) A (call (.builtin "sorted") [.ref R] [("key", .ref k.C)]) Q E ⟨h, g, d, t, os⟩ := by
  have a := W.askd G hN hT (by kernel_rfl) (by decide)
  have hlen : (rowV rw).length = rw.length := List.length_map ..
  have hcl : ∀ n c, (EL L fa).cells.lookup n = some c → c < h.objs.size := fun n c e => by obtain ⟨v, y⟩ := W.cellAt e; exact y.lt
  have hclT : ∀ n c, (EL L fa).cells.lookup n = some c → c ≠ T := fun n c e => by obtain ⟨v, y⟩ := W.cellAt e; exact cell_ne_lst y (W.lst _ (.head _))
  have C := shaky_cmp (prog := prog) (w := w) (A := A.in1.in1) (g := g) (d := d) (os := os) (W.kok _ hk) W.S (W.lam _ hl) a (W.cell (by kernel_rfl) hL) (W.cell_ne (by kernel_rfl) hN (by kernel_rfl) hL (by decide)) (W.cell_ne (by kernel_rfl) hL (by kernel_rfl) hT (by decide)) W.F rfl W.h48 hcl hclT (by show A.units + 1 + 1 + 10 < _; omega) hd hfr hh hlim [] (W.lst _ (.head _))
  refine sorted_by (B := 0) C (by omega) ⟨⟨[], W.lst _ (.head _), Nat.zero_le _⟩, W.F⟩ (by omega) (W.lst _ (.tail _ G.row)) (by rw [hlen, G.len]; exact G.two) (by rw [hlen, G.len]; have := G.le; omega) (ksk_s1 _ _) (fun _ => ksk_l1 _ _) (fun _ => ksk_t1 _ _) ?_ (fun e h1 t1 x1 f1 => qf e h1 t1 x1 f1)
  rintro D h1 t1 out x1 ⟨⟨its', hT', hle⟩, F'⟩ hD hDlo hO
  have W1 := W.upd2 hT' x1 F' hT0
  have W2 := W1.add hD (fun p hp => ?_) (Nat.lt_of_lt_of_le (Nat.lt_trans W.h48 (Nat.lt_of_le_of_lt (Nat.le_add_right _ _) W.top)) hDlo)
  · exact q D h1 t1 out its' (W2.perm (List.Perm.swap _ _ _)) hle (by rw [hlen] at hO; exact hO)
  · rcases List.mem_cons.mp hp with rfl | hp
    · exact Nat.ne_of_lt (Nat.lt_of_lt_of_le (W.lst _ (.head _)).lt hDlo)
    · exact Nat.ne_of_lt (Nat.lt_of_lt_of_le (W.lst p (.tail _ hp)).lt hDlo)
end

-- after M52
theorem Sta.of {h h' : Heap} (S : Sta h) (k : ∀ b o, h.get? b = some o → b ≠ 16 → b ≠ 44 → b ≤ 47 → h'.get? b = some o) (hz : 48 ≤ h'.objs.size) : Sta h' := by
  have cr : ∀ {c q}, h.CodeRec (.ref c) q → c ≠ 16 → c ≠ 44 → c ≤ 47 → h'.CodeRec (.ref c) q := fun {c q} ⟨c', o, vs, t, e, g, r⟩ h1 h2 h3 => by cases e; exact ⟨c, o, vs, t, rfl, k _ _ g h1 h2 h3, r⟩
  have hd : ∀ {c P}, CodeHd h c P → c ≠ 16 → c ≠ 44 → c ≤ 47 → CodeHd h' c P := fun {c P} ⟨o, vs, a1, a2, a3, a4, a5, a6, a7, e, r⟩ h1 h2 h3 => ⟨o, vs, a1, a2, a3, a4, a5, a6, a7, k _ _ e h1 h2 h3, r⟩
  have nn : ∀ {a m}, h.Ns a m → a ≠ 16 → a ≠ 44 → a ≤ 47 → h'.Ns a m := fun {a m} ⟨o, es, ep, e, r⟩ h1 h2 h3 => ⟨o, es, ep, k _ _ e h1 h2 h3, r⟩
  exact
  { st2 := k _ _ S.st2 (by decide) (by decide) (by decide)
    gl := let ⟨m, a, b⟩ := S.gl; ⟨m, nn a (by decide) (by decide) (by decide), b⟩
    bl := let ⟨m, a, b⟩ := S.bl; ⟨m, nn a (by decide) (by decide) (by decide), b⟩
    bm := let ⟨o, e, r⟩ := S.bm; ⟨o, k _ _ e (by decide) (by decide) (by decide), r⟩
    f21 := k _ _ S.f21 (by decide) (by decide) (by decide)
    f28 := k _ _ S.f28 (by decide) (by decide) (by decide)
    f35 := k _ _ S.f35 (by decide) (by decide) (by decide)
    f42 := k _ _ S.f42 (by decide) (by decide) (by decide)
    c20 := cr S.c20 (by decide) (by decide) (by decide)
    c27 := cr S.c27 (by decide) (by decide) (by decide)
    c34 := cr S.c34 (by decide) (by decide) (by decide)
    c41 := cr S.c41 (by decide) (by decide) (by decide)
    hd20 := hd S.hd20 (by decide) (by decide) (by decide)
    hd46 := hd S.hd46 (by decide) (by decide) (by decide)
    sz := hz }
/-- what the law leaves of the heap that it was given -/
def Fin0 (h0 h' : Heap) : Prop := (∀ b o, h0.get? b = some o → b ≠ 16 → b ≠ 44 → h'.get? b = some o) ∧ (∃ ps, h'.get? 16 = some (tabObj ps)) ∧ ∃ ps, h'.get? 44 = some (tabObj ps)
theorem sub_key : isSubtype (.type "KeyError") (.type "KeyError") = pure true := by rw [isSubtype_type]; kernel_rfl
section
variable {prog : Program} {w : World} {A : Around} {E : Value → Shared → Prop} {h0 h h' : Heap} {g : Array GenState} {d : Drawn} {t : Nat} {os : OsState} {L fa : Addr} {ls ls' : List (Str × Value)} {lsts : List (Addr × List Value)} {ks : List (KA × Addr × Value)} {lams : List (Addr × Expr × List (Str × Addr))} {kys : List (Addr × Addr × Value)} {hds : List (Addr × Obj)} {X : Addr → Prop}
theorem Law.fin0 (W : Law h0 L fa h ls lsts ks lams kys hds) : Fin0 h0 h := by
  refine ⟨fun b o e h1 h2 => W.x.get e fun z => z.elim h1 h2, ?_, ?_⟩
  · obtain ⟨_, _, ps, e, _⟩ := W.T
    exact ⟨ps, e⟩
  · obtain ⟨_, ps, e, _⟩ := W.TL
    exact ⟨ps, e⟩
abbrev cTRD (L : Addr) : List (Str × Addr) := [("told", cAt L "told"), ("row", cAt L "row"), ("due", cAt L "due")]
/-- the last return -/
theorem st22 {N R T To Dd : Addr} {rw : List Addr} {ns : List Int} {its out vd : List Value} {lim : Nat} {tl u : Tok} {Q : Flow → Shared → Prop} (W : Law h0 L fa h ls lsts ks lams kys hds) (hh : A.handled = none) (hm : lkS "many" ls = some (.int rw.length u)) (hn : rw.length ≤ 63)
    (hT : lkS "heard" ls = some (.ref T)) (hL : lkS "limit" ls = some (.int lim tl)) (l1 : lkS "told" ls = some (.ref To)) (l3 : lkS "row" ls = some (.ref R)) (l4 : lkS "due" ls = some (.ref Dd))
    (mT : (T, its) ∈ lsts) (m1 : (To, out) ∈ lsts) (m3 : (R, rowV rw) ∈ lsts) (m4 : (Dd, vd) ∈ lsts) (hle : its.length ≤ lim) (hlim : lim ≤ 40000) (e1 : out = (dues ns rw.length).map (fun j => (rowV rw).getD j .none)) (I1 : NatsAre vd (dues ns rw.length)) (hu : A.units < cLine)
    (q : ∀ h' t', Fin0 h0 h' → Q (.ret (.bool true)) ⟨h', g, d, t', os⟩) : wpAny (model prog w) A (exec (lawS 22) (EL L fa)) Q E ⟨h, g, d, t, os⟩ := by
  have S := W.S
  refine wpAny_Return_some (BoolOp_and (wpAny_Compare1 (call_by ?_)))
  walk_at "m glob"
  refine args_cons (W.F.ld (.inr (.inl (by kernel_rfl!))) hT (args_nil (keeper_builtin fun _ => ?_)))
  refine len_lst (W.lst _ mT) (by dsimp only; omega) fun u1 t1 => ?_
  refine W.F.ld (.inr (.inl (by kernel_rfl!))) hL ?_
  refine le_int (wpAny_truthy_bool ?_)
  rw [show decide (((T, its).2.length : Int) ≤ (lim : Int)) = true by simpa using hle, if_pos rfl]
  refine BoolOp_one (wpAny_Compare1 ?_)
  refine comp_run (cl := cTRD L) (by kernel_rfl) (by decide) (by kernel_rfl) (by decide) (by kernel_rfl) (fun _ _ ys _ => ys = []) (fun D i ys h h' X p x hX => p) ?_
  refine call_by ?_
  walk_at "m glob"
  refine args_cons (W.F.ld (.inl (by kernel_rfl!)) hm (args_nil (keeper_type fun _ => ?_)))
  refine range_iter (by omega) fun I h2 t2 x2 hI e2 => ?_
  refine ⟨I, rw.length, _, _, h2, t2, rfl, rfl, wk_range hh hI rw.length, x2, by simpa using e2, by omega, fun D h' x hD => rfl, ?_, ?_⟩
  · rintro D i v ys h5 t5 C m E' hi ⟨tv, rfl⟩ x5 hC hm' hmv hD rfl
    have W5 := W.keep x5
    obtain ⟨j, tj, a1, a2, a3, hj⟩ := pick_at (i := i) (fun j hj => dues_lt ns _ j hj) e1 I1 (by rw [dues_length]; exact hi)
    refine tests_one (wpAny_isTrue_Compare1 (Subscript_ ?_))
    refine cnm_cell (by kernel_rfl) (by kernel_rfl) (by kernel_rfl) (W5.cell (by kernel_rfl) l1) ?_
    refine cnm_local (by kernel_rfl) (by kernel_rfl) hm' hmv ?_
    refine sub_list (W5.lst _ m1) a2 (by omega) ?_
    refine Subscript_ ?_
    refine cnm_cell (by kernel_rfl) (by kernel_rfl) (by kernel_rfl) (W5.cell (by kernel_rfl) l3) ?_
    refine Subscript_ ?_
    refine cnm_cell (by kernel_rfl) (by kernel_rfl) (by kernel_rfl) (W5.cell (by kernel_rfl) l4) ?_
    refine cnm_local (by kernel_rfl) (by kernel_rfl) hm' hmv ?_
    refine sub_list (W5.lst _ m4) a1 (by omega) ?_
    refine sub_list (W5.lst _ m3) a3 (by omega) ?_
    refine wpAny_isNot_ref_self (wpAny_truthy_bool ?_)
    rw [if_neg (by decide)]
    exact ⟨h5, _, rfl, .refl, rfl⟩
  · rintro D h5 t5 ys x5 hD hys rfl
    have W5 := W.keep x5
    refine wpAny_List (args_nil ⟨Nat.le_of_ble_eq_true rfl, ?_⟩)
    dsimp only
    have W6 := W5.alloc []
    obtain ⟨n1, e1⟩ := hys
    have e2 : (h5.push (oList [] 0)).get? h5.objs.size = some (oList [] 0) := Heap.get?_push_size _ rfl
    refine PySem.P.eq_list (s := ⟨_, g, d, _, os⟩) (e := fun _ => true) (Heap.get?_push_of_some _ e1) e2 rfl (fun j h1 _ => absurd h1 (by simp)) hu ?_
    exact q _ _ W6.fin0
end

-- after M53
section
variable {prog : Program} {w : World} {A : Around} {E : Value → Shared → Prop} {h0 h h' : Heap} {g : Array GenState} {d : Drawn} {t : Nat} {os : OsState} {L fa : Addr} {ls ls' : List (Str × Value)} {lsts : List (Addr × List Value)} {ks : List (KA × Addr × Value)} {lams : List (Addr × Expr × List (Str × Addr))} {kys : List (Addr × Addr × Value)} {hds : List (Addr × Obj)} {X : Addr → Prop}
/-- the try -/
theorem st21 {k : KA} {c f R T N : Addr} {rw : List Addr} {ns : List Int} {lim : Nat} {tl : Tok} {Q : Flow → Shared → Prop} (W : Law h0 L fa h ls ((T, []) :: lsts) ks lams kys hds) (G : Thg lsts N R rw ns)
    (hN : lkS "numbers" ls = some (.ref N)) (hT : lkS "heard" ls = some (.ref T)) (hL : lkS "limit" ls = some (.int lim tl)) (hR : lkS "row" ls = some (.ref R)) (hs : lkS "shaky" ls = some (.ref k.C)) (hk : (k, c, .ref f) ∈ ks) (hl : (f, lamOf (lawS 20), clH L) ∈ lams) (hT0 : h0.objs.size ≤ T)
    (hu : A.units + 12 < cLine) (hd : A.depth + 4 < recursionLimit) (hfr : A.frames = some [EL L fa]) (hh : A.handled = none) (hlim : lim ≤ 40000)
    (q : ∀ D h' t' out its', Law h0 L fa h' (("told", .ref D) :: ls) ((T, its') :: (D, out) :: lsts) ks lams kys hds → its'.length ≤ lim → out = (dues ns rw.length).map (fun j => (rowV rw).getD j .none) → Q .next ⟨h', g, d, t', os⟩)
    (qr : ∀ h' t', Fin0 h0 h' → Q (.ret (.bool true)) ⟨h', g, d, t', os⟩) : wpAny (model prog w) A (exec (lawS 21) (EL L fa)) Q E ⟨h, g, d, t, os⟩ := by
  have S := W.S
  refine wpAny_Try_except (wpAny_execs_cons (wpAny_Assign_Name (wpAny_Call_ofName ?_) (by kernel_rfl)))
  walk_at "m glob"
  refine callWith_kw ?_
  refine args_cons (W.F.ld (.inr (.inl (by kernel_rfl!))) hR (args_nil ?_))
  refine kws_cons (W.F.ld (.inl (by kernel_rfl!)) hs (kws_nil ?_))
  refine W.shaky G hN hT hL hk hl hT0 hu hd hfr hh hlim ?_ ?_
  · intro D h1 t1 out its' W1 hle hO
    refine W1.store (.inr (by kernel_rfl)) fun h2 t2 W2 _ => ?_
    refine wpAny_execs_nil ?_
    refine wpAny_execs_nil (q D h2 t2 out its' W2 hle ?_)
    rw [out_is hO, dues_lay]
    rfl
  · rintro e h1 t1 x1 ⟨eA, a0, B, h5, its, rfl, lw, fl, hTB, hlen, F1, hold⟩
    have h48 : 47 < T := W.ge _ (.head _)
    have keep : ∀ {h4 : Heap}, B.StaysIn h4 → ∀ b o, h.get? b = some o → b ≠ T → b ≠ L → h4.get? b = some o := fun st b o e n1 n2 => st b o (hold b o e n1 n2)
    have sta : ∀ {h4 : Heap}, B.StaysIn h4 → Frm h4 (EL L fa) ls → Sta h4 := fun {h4} st F4 => W.S.of (fun b o e h1 h2 h3 => keep st b o e (Nat.ne_of_lt (Nat.lt_of_le_of_lt h3 h48)) (Nat.ne_of_lt (Nat.lt_of_le_of_lt h3 W.h48))) (by
      obtain ⟨m, ⟨o, es, ep, e, _⟩, _⟩ := F4.ns
      exact Nat.lt_of_lt_of_le W.h48 (Nat.le_of_lt (Heap.lt_size e)))
    refine wpAny_looks_onW (s := ⟨h1, g, d, t1, os⟩) hfr rfl fl fun h2 held2 ups2 => ?_
    refine wpAny_landsW held2 fun h3 fl3 ups3 => ?_
    have F3 := (F1.slots ups2).slots ups3
    have S3 := sta fl3.1 F3
    obtain ⟨ob, hob, hobc⟩ := fl3.there
    refine wpAny_handleBy_builtin (X := "KeyError") (T := "KeyError") (b := true) kr_isExc_KeyError kr_notTuple_KeyError sub_key ?_
    clear S
    walk_at "m glob"
    refine ⟨rfl, ⟨ob, hob, hobc⟩, ?_⟩
    simp only [if_true]
    refine lands_againW fl3 fun h4 fl4 ups4 => ?_
    have F4 := F3.slots ups4
    have S4 := sta fl4.1 F4
    clear S3
    have hT4 : LstAt h4 T its := let ⟨n, e⟩ := hTB; ⟨n, fl4.1 _ _ e⟩
    refine wpAny_execs_cons (wpAny_Return_some (wpAny_Compare1 (call_by ?_)))
    walk_at "m glob"
    refine args_cons (F4.ld (.inr (.inl (by kernel_rfl!))) hT (args_nil (keeper_builtin fun _ => ?_)))
    refine len_lst hT4 (by omega) fun u5 t5 => ?_
    refine wpAny_BinOp (F4.ld (.inr (.inl (by kernel_rfl!))) hL ?_)
    walk_at "m int"
    refine add_int ?_
    dsimp only
    refine eq_int ?_
    have hb : ((its.length : Int) == (lim : Int) + 1) = true := by rw [hlen]; simp
    rw [hb]
    refine qr h4 _ ⟨fun b o e n1 n2 => ?_, ?_, ?_⟩
    · have e' := W.x.get e fun z => z.elim n1 n2
      refine keep fl4.1 b o e' (Nat.ne_of_lt (Nat.lt_of_lt_of_le (Heap.lt_size e) hT0)) (Nat.ne_of_lt (Nat.lt_of_lt_of_le (Heap.lt_size e) W.hL))
    · obtain ⟨_, _, ps, e, _⟩ := W.T
      exact ⟨ps, keep fl4.1 _ _ e (Nat.ne_of_lt (Nat.lt_trans (by decide) h48)) (Nat.ne_of_lt (Nat.lt_trans (by decide) W.h48))⟩
    · obtain ⟨_, ps, e, _⟩ := W.TL
      exact ⟨ps, keep fl4.1 _ _ e (Nat.ne_of_lt (Nat.lt_trans (by decide) h48)) (Nat.ne_of_lt (Nat.lt_trans (by decide) W.h48))⟩
end

-- after M54
section
variable {prog : Program} {w : World} {A : Around} {E : Value → Shared → Prop} {h0 h h' : Heap} {g : Array GenState} {d : Drawn} {t : Nat} {os : OsState} {L fa : Addr}
/-- the things, as the row's line leaves them -/
theorem thg_of {lsts : List (Addr × List Value)} {N R : Addr} {vs : List Value} {ns : List Int} {its : List (Addr × List Value)} (hN : (N, vs) ∈ lsts) (I : IntsAre vs ns) (hR : (R, its.map fun p => Value.ref p.1) ∈ lsts) (hi : ∀ p ∈ its, p ∈ lsts)
    (hl : its.length = ns.length) (hp : ∀ (j : Nat) (p : Addr × List Value), its[j]? = some p → ∃ x t, p.2 = [x, Value.int j t]) (h63 : ns.length ≤ 63) (h2 : 2 ≤ ns.length) : Thg lsts N R (its.map Prod.fst) ns where
  nums := ⟨vs, hN, I⟩
  row := by
    have : rowV (its.map Prod.fst) = its.map fun p => Value.ref p.1 := by simp [rowV, Function.comp_def]
    rw [this]; exact hR
  item := fun i hlt => by
    have hlt : i < its.length := by simpa using hlt
    obtain ⟨x, t, e⟩ := hp i its[i] (List.getElem?_eq_getElem hlt)
    refine ⟨x, t, ?_⟩
    have e1 : (its.map Prod.fst).getD i 0 = its[i].1 := by
      rw [List.getD_eq_getElem?_getD, List.getElem?_map, List.getElem?_eq_getElem hlt]; rfl
    rw [e1, ← e]
    exact hi _ (List.getElem_mem hlt)
  len := by simpa using hl
  le := h63
  two := h2
def pick6 (a0 a1 a2 a3 a4 a5 : Addr) (p : Nat) : Addr := match p with | 0 => a0 | 1 => a1 | 2 => a2 | 3 => a3 | 4 => a4 | _ => a5
theorem lt6 {p : Nat} (h : p < 6) : p = 0 ∨ p = 1 ∨ p = 2 ∨ p = 3 ∨ p = 4 ∨ p = 5 := by omega
theorem law_stmts : bodyOf (topS 6) = [lawS 0, lawS 1, lawS 2, lawS 3, lawS 4, lawS 5, lawS 6, lawS 7, lawS 8, lawS 9, lawS 10, lawS 11, lawS 12, lawS 13, lawS 14, lawS 15, lawS 16, lawS 17, lawS 18, lawS 19, lawS 20, lawS 21, lawS 22] := by kernel_rfl
/-- the whole body of the law -/
theorem law_run {a : Addr} {vs : List Value} {ns : List Int} {Q : Flow → Shared → Prop} (W : Law h0 L fa h [("script", .ref a)] [] [] [] [] []) (hs : h.IsList a vs.toArray) (I : IntsAre vs ns) (hn : ns.length ≤ 63)
    (hu : A.units + 12 < cLine) (hd : A.depth + 5 < recursionLimit) (hfr : A.frames = some [EL L fa]) (hh : A.handled = none)
    (q : ∀ h' t', Fin0 h0 h' → Q (.ret (.bool true)) ⟨h', g, d, t', os⟩) : wpAny (model prog w) A (execs (bodyOf (topS 6)) (EL L fa)) Q E ⟨h, g, d, t, os⟩ := by
  rw [law_stmts]
  refine wpAny_execs_cons (st0 W hs I hn fun s1 vs1 h t I W => ?_)
  have h24 : (ns.take 24).length ≤ 24 := List.length_take_le _ _
  generalize ns.take 24 = sc at I h24
  refine wpAny_execs_cons (st1 W I h24 fun N vsN h t IN W => ?_)
  have hl6 : (sc ++ tail6).length = sc.length + 6 := by simp [tail6]
  generalize sc ++ tail6 = nm at IN hl6
  have hlo : 6 ≤ nm.length := by omega
  have hhi : nm.length ≤ 63 := by omega
  refine wpAny_execs_cons (st2 W (by kernel_rfl) (.head _) IN (by omega) fun u h t W => ?_)
  refine wpAny_execs_cons (st3 W hd fun k0 c0 h t W => ?_)
  refine wpAny_execs_cons (st4 W hh hd (n := nm.length) (u := u) (by kernel_rfl) (by omega) (by kernel_rfl) (.head _) fun R its h t hil hip W => ?_)
  refine wpAny_execs_cons (st_empty (x := "notes") W (.inr (by kernel_rfl!)) fun T h t W hT0 _ => ?_)
  refine wpAny_execs_cons (st6 W hd fun k1 c1 f1 h t W => ?_)
  refine wpAny_execs_cons (st7 W hd fun k2 c2 f2 h t W => ?_)
  refine wpAny_execs_cons (st_empty (x := "due") W (.inr (by kernel_rfl!)) fun Dd h t W hD0 _ => ?_)
  refine wpAny_execs_cons (st_empty (x := "back") W (.inl (by kernel_rfl!)) fun Bk h t W hB0 _ => ?_)
  have G : Thg ((R, its.map fun p => Value.ref p.1) :: (its ++ [(N, vsN), (s1, vs1)])) N R (its.map Prod.fst) nm := thg_of (.tail _ (List.mem_append_right _ (.head _))) IN (.head _) (fun p hp => .tail _ (List.mem_append_left _ hp)) hil hip hhi (by omega)
  have ms : (s1, vs1) ∈ ((R, its.map fun p => Value.ref p.1) :: (its ++ [(N, vsN), (s1, vs1)])) := .tail _ (List.mem_append_right _ (.tail _ (.head _)))
  have mN : (N, vsN) ∈ ((R, its.map fun p => Value.ref p.1) :: (its ++ [(N, vsN), (s1, vs1)])) := .tail _ (List.mem_append_right _ (.head _))
  generalize ((R, its.map fun p => Value.ref p.1) :: (its ++ [(N, vsN), (s1, vs1)])) = base at W G ms mN
  have hrl : (its.map Prod.fst).length = nm.length := G.len
  generalize its.map Prod.fst = rw' at G hrl
  clear hil hip
  rw [← hrl] at W
  have hr63 : rw'.length ≤ 63 := by omega
  refine wpAny_execs_cons (st10 (W.perm (.swap _ _ _)) hh (ns := nm) (u := u) (by rw [← hrl]; kernel_rfl) (N := N) (by kernel_rfl) (by kernel_rfl) (by kernel_rfl) (.tail _ mN) IN hhi (by kernel_rfl) (by kernel_rfl) hD0 hB0 fun vd vb h t Id Ib W => ?_)
  rw [← hrl] at Id Ib
  have W := W.perm (lsts' := (T, []) :: (Dd, vd) :: (Bk, vb) :: base) ((List.Perm.swap _ _ _).trans (.cons _ (.swap _ _ _)))
  refine wpAny_execs_cons (st11 (N := N) (R := R) (k := k1) (c := c1) (f := f1) W (G.more fun p hp => .tail _ (.tail _ hp)) (by kernel_rfl) (by kernel_rfl) (by kernel_rfl) (by kernel_rfl) (.tail _ (.head _)) (.tail _ (.head _)) (Nat.zero_le _) hT0 hu (by omega) fun D1 h t o1 n1 W hn1 e1 => ?_)
  have hn1 : n1.length ≤ 6000 := by simpa using hn1
  refine wpAny_execs_cons (st12 (N := N) (R := R) (k := k1) (c := c1) (f := f1) W (G.more fun p hp => .tail _ (.tail _ (.tail _ hp))) (by kernel_rfl) (by kernel_rfl) (by kernel_rfl) (by kernel_rfl) (.tail _ (.head _)) (.tail _ (.head _)) (by omega) hT0 hu (by omega) fun D2 h t o2 n2 W hn2 e2 => ?_)
  refine wpAny_execs_cons (st13 (R := R) (To := D1) (Tu := D2) (Dd := Dd) (Bk := Bk) (rw := rw') (ns := nm) (u := u) W hh (by kernel_rfl) hr63 (by kernel_rfl) (by kernel_rfl) (by kernel_rfl) (by kernel_rfl) (by kernel_rfl) (by kernel_rfl) (.tail _ (.tail _ (.head _))) (.tail _ (.head _)) (.tail _ (.tail _ (.tail _ (.tail _ (.tail _ G.row))))) (.tail _ (.tail _ (.tail _ (.head _)))) (.tail _ (.tail _ (.tail _ (.tail _ (.head _))))) e1 e2 Id Ib fun h t W => ?_)
  refine wpAny_execs_cons (st14 (R := R) (k1 := k1) (k2 := k2) (rw := rw') W (by kernel_rfl) (.tail _ (.tail _ (.tail _ (.tail _ (.tail _ G.row))))) (by omega) (by omega) (by kernel_rfl) (by kernel_rfl) (.tail _ (.head _)) (.head _) (by omega) fun Ky x0 x1 x2 x3 x4 x5 h t W => ?_)
  refine wpAny_execs_cons (st15 W fun As g0 g1 g2 h t W => ?_)
  refine wpAny_execs_cons (st16 (As := As) (f0 := g0) (f1 := g1) (f2 := g2) W (by kernel_rfl) (.head _) fun Bs g3 g4 g5 h t W => ?_)
  have W := W.perm (lsts' := (T, n2) :: (Bs, [.ref g0, .ref g1, .ref g2, .ref g3, .ref g4, .ref g5]) :: (As, [.ref g0, .ref g1, .ref g2]) :: (Ky, [.ref x0, .ref x1, .ref x2, .ref x3, .ref x4, .ref x5]) :: (D2, o2) :: (D1, o1) :: (Dd, vd) :: (Bk, vb) :: base)
    ((List.Perm.swap _ _ _).trans (.cons _ ((List.Perm.swap _ _ _).trans (.cons _ (.swap _ _ _)))))
  have G6 := G.more (lsts' := (Bs, [.ref g0, .ref g1, .ref g2, .ref g3, .ref g4, .ref g5]) :: (As, [.ref g0, .ref g1, .ref g2]) :: (Ky, [.ref x0, .ref x1, .ref x2, .ref x3, .ref x4, .ref x5]) :: (D2, o2) :: (D1, o1) :: (Dd, vd) :: (Bk, vb) :: base) fun p hp => .tail _ (.tail _ (.tail _ (.tail _ (.tail _ (.tail _ (.tail _ hp))))))
  refine wpAny_execs_cons (st17 (N := N) (R := R) (Ky := Ky) (Bs := Bs) (rw := rw') (ns := nm) (k1 := k1) (k2 := k2) (c1 := c1) (c2 := c2) (f1 := f1) (f2 := f2) (xs := pick6 x0 x1 x2 x3 x4 x5) (fs := pick6 g0 g1 g2 g3 g4 g5) W
    ⟨G6, by omega, ⟨_, .tail _ (.tail _ (.head _)), fun p hp => ?_⟩, ⟨_, .head _, fun p hp => ?_⟩, .tail _ (.head _), .head _, .tail _ (.tail _ (.tail _ (.tail _ (.tail _ (.tail _ (.tail _ (.head _))))))), .tail _ (.tail _ (.tail _ (.tail _ (.tail _ (.tail _ (.head _)))))), fun p hp => ?_, fun p hp => ?_⟩ hh
    ⟨by kernel_rfl, by kernel_rfl, by kernel_rfl, by kernel_rfl, by kernel_rfl⟩ ⟨by kernel_rfl, by kernel_rfl, by kernel_rfl, by kernel_rfl, by kernel_rfl⟩ (by kernel_rfl) (by kernel_rfl) (by kernel_rfl) (by kernel_rfl) (by omega) hT0 (by omega) (by omega) fun n3 h t W => ?_)
  · rcases lt6 hp with rfl | rfl | rfl | rfl | rfl | rfl <;> rfl
  · rcases lt6 hp with rfl | rfl | rfl | rfl | rfl | rfl <;> rfl
  · rcases lt6 hp with rfl | rfl | rfl | rfl | rfl | rfl <;> simp [pick6]
  · rcases lt6 hp with rfl | rfl | rfl | rfl | rfl | rfl <;> simp [pick6]
  refine wpAny_execs_cons (st_empty (x := "heard") W (.inr (by kernel_rfl!)) fun H h t W hH0 hsz => ?_)
  refine wpAny_execs_cons (st19 (s1 := s1) (vs1 := vs1) (n := rw'.length) (u := u) W hh (by kernel_rfl) (.tail _ (.tail _ (.tail _ (.tail _ (.tail _ (.tail _ (.tail _ (.tail _ (.tail _ ms))))))))) I (by kernel_rfl) (by omega) ?_ fun lim v h t hlim W => ?_)
  · obtain ⟨n, e⟩ := W.lst _ (.head _)
    rw [hsz]
    exact ⟨_, e⟩
  refine wpAny_execs_cons (st20 W hd fun k3 c3 f3 h t W => ?_)
  have G7 := G6.more (lsts' := (T, n3) :: _) fun p hp => .tail _ hp
  refine wpAny_execs_cons (st21 (N := N) (R := R) (k := k3) (c := c3) (f := f3) (lim := lim) (tl := v) W G7 (by kernel_rfl) (by kernel_rfl) (by kernel_rfl) (by kernel_rfl) (by kernel_rfl) (.head _) (.head _) hH0 hu (by omega) hfr hh (by omega) (fun D3 h t o3 n4 W hn4 e3 => ?_) q)
  refine wpAny_execs_cons (st22 (N := N) (R := R) (T := H) (To := D3) (Dd := Dd) (rw := rw') (ns := nm) (lim := lim) (tl := v) (u := u) W hh (by kernel_rfl) hr63 (by kernel_rfl) (by kernel_rfl) (by kernel_rfl) (by kernel_rfl) (by kernel_rfl) (.head _) (.tail _ (.head _)) (.tail _ (.tail _ G7.row)) (by simp) hn4 (by omega) e3 Id (by omega) q)
end

-- after J2
set_option maxHeartbeats 8000000
open_top hd for PySem.Challenge.rw_dz0034_01
set_option maxHeartbeats 200000

-- after J2 M55a
theorem bm_in {P : Params} {h : Heap} {loose : List Str} {mean : ExcName → Option Value} {mg mb : Str → Option Value} (X : (hd.heap_39 P).In h) (T : Top hd.view_39 loose mean mg mb h) : ∃ o, h.get? 4 = some o ∧ o.cls = .type "module" ∧ o.dict = some builtinsNs ∧ o.data = .plain := by
  obtain ⟨bm, ob, e, _, r⟩ := T.bmain
  have e1 := mg_of (n := "__builtins__") X T.g (v := .ref 4) (by kernel_rfl)
  rw [e1] at e
  cases e
  exact ⟨ob, r⟩
/-- the text's top -/
theorem sta_in {P : Params} {h : Heap} {loose : List Str} {mean : ExcName → Option Value} {mg mb : Str → Option Value} (X : (hd.heap_39 P).In h) (T : Top hd.view_39 loose mean mg mb h) (C : TabsAt [(20, 16), (46, 44)] h) : Sta h where
  st2 := X 2 _ (by kernel_rfl)
  gl := ⟨mg, T.g, fun p hp => by
    simp only [gvals, List.mem_cons, List.not_mem_nil, or_false] at hp
    rcases hp with rfl | rfl | rfl | rfl | rfl | rfl <;> exact mg_of X T.g (by kernel_rfl), fun p hp => by
    simp only [bvals, List.mem_cons, List.not_mem_nil, or_false] at hp
    rcases hp with rfl | rfl | rfl | rfl | rfl | rfl | rfl <;> exact ns_none_of X T.g (by kernel_rfl)⟩
  bl := ⟨mb, T.b, fun p hp => by
    simp only [bvals, List.mem_cons, List.not_mem_nil, or_false] at hp
    rcases hp with rfl | rfl | rfl | rfl | rfl | rfl | rfl <;> exact (T.builtins _ (by decide +kernel)).trans (by decide +kernel), (T.builtins _ (by decide +kernel)).trans (by decide +kernel)⟩
  bm := bm_in X T
  f21 := X 21 _ (by kernel_rfl)
  f28 := X 28 _ (by kernel_rfl)
  f35 := X 35 _ (by kernel_rfl)
  f42 := X 42 _ (by kernel_rfl)
  c20 := codeRec_of X (by kernel_rfl)
  c27 := codeRec_of X (by kernel_rfl)
  c34 := codeRec_of X (by kernel_rfl)
  c41 := codeRec_of X (by kernel_rfl)
  hd20 := (C _ (.head _)).1
  hd46 := (C _ (.tail _ (.head _))).1
  sz := Heap.lt_size (X 47 (oFn fdLaw) (by kernel_rfl))
section
variable {prog : Program} {w : World} {g : Array GenState} {d : Drawn} {t : Nat} {os : OsState} {R : Result → Shared → Prop} {h : Heap} {fa a : Addr}
theorem el_last {L : Addr} : (EL L fa).kindOf "numbers" = some .cell ∧ (EL L fa).cells.lookup ("numbers" : Str) = some (L + 9) := ⟨by kernel_rfl, by kernel_rfl⟩
/-- the call of the law -/
theorem law_call {vs : List Value} {ns : List Int} (S : Sta h) (e16 : h.get? 16 = some (tabObj #[])) (e44 : h.get? 44 = some (tabObj #[])) (hf : h.get? fa = some (oFn fdLaw)) (hcd : h.CodeRec (.ref 46) "law") (hs : h.IsList a vs.toArray) (I : IntsAre vs ns) (hn : ns.length ≤ 63)
    (q : ∀ h' t', Fin0 h h' → R (.ok (.ret (.bool true))) ⟨h', g, d, t', os⟩) : codeAny (model prog w) callerA (.call (.ref fa) ⟨[.ref a], []⟩) R ⟨h, g, d, t, os⟩ := by
  refine call_stmts (fd := fdLaw) (body := bodyOf (topS 6)) (fr := []) (binds := [("script", .ref a)]) (by decide) hf rfl S.nolimit hcd (by kernel_rfl) (by kernel_rfl) ⟨nofun, nofun, nofun⟩ (bk_of (by kernel_rfl)) ?_ (by kernel_rfl) (by kernel_rfl) (by kernel_rfl)
  intro env h1 t1 he F x1 hcl hlt
  subst he
  have F : Frm h1 (EL h.objs.size fa) [("script", .ref a)] := F
  have S1 := S.keep x1
  have top : h.objs.size + 9 < h1.objs.size := by
    obtain ⟨c, e, v, o, e', _⟩ := F.own "numbers" el_last.1
    rw [el_last.2] at e
    cases e
    exact Heap.lt_size e'
  have W : Law h h.objs.size fa h1 [("script", .ref a)] [] [] [] [] [] :=
    { S := S1
      T := ⟨x1.1, S1.hd20, #[], x1.get e16 id, trivial, fun cv e => nomatch e⟩
      TL := ⟨S1.hd46, #[], x1.get e44 id, trivial, fun s hs cv e => nomatch e⟩
      F := F
      x := x1.mono fun b _ z => z.elim
      lst := fun _ z => nomatch z
      nd := List.nodup_nil
      ge := fun _ z => nomatch z
      kok := fun _ z => nomatch z
      kc := fun _ z => nomatch z
      lam := fun _ z => nomatch z
      key := fun _ z => nomatch z
      hL := Nat.le_refl _
      h48 := S.sz
      top := top
      hld := fun _ z => nomatch z }
  refine law_run W (let ⟨o, e, r⟩ := hs; ⟨o, x1.get e id, r⟩) I hn ?_ ?_ rfl rfl q
  · exact Nat.lt_of_lt_of_le (Nat.lt_succ_self _) (Nat.le_of_ble_eq_true rfl)
  · exact Nat.lt_of_lt_of_le (Nat.lt_succ_self _) (Nat.le_of_ble_eq_true rfl)
end
/-- what is left answers the claim -/
theorem good_of {cl : Str → Option Addr} {mean : ExcName → Option Value} {args : List WData} {s₁ : Shared} {h' : Heap} {t' : Nat} (hg : s₁.gens = #[]) (f : Fin0 s₁.heap h') :
    GoodW PySem.Challenge.rw_dz0034_01.row.claim cl mean args { heap := ghostOf s₁.heap [(20, 16), (46, 44)], gens := s₁.gens, drawn := s₁.drawn, toks := s₁.toks, os := s₁.os } (.ok (.ret (.bool true))) ⟨h', s₁.gens, s₁.drawn, t', s₁.os⟩ ∧ GrownAll [(20, 16), (46, 44)] h' := by
  refine ⟨⟨.inl ⟨.bool true, .bool true, [], rfl, fun _ => rfl, ?_, ?_, fun _ => ⟨List.nodup_nil, fun _ z => nomatch z⟩⟩, fun b o e => ?_, rfl, hg⟩, f.2.1, f.2.2, trivial⟩
  · exact .bool true
  · kernel_rfl
  · have hb : b ∉ [16, 44] := fun z => by
      have e' : (hideAll s₁.heap [16, 44]).get? b = some o := e
      rw [hideAll_none _ z] at e'; cases e'
    exact f.1 b o (of_hideAll _ e) (fun z => hb (z ▸ .head _)) fun z => hb (z ▸ .tail _ (.head _))

-- after M56
set_option maxHeartbeats 8000000 in
theorem top_holds : PySem.Challenge.rw_dz0034_01.Holds := hd (by
  k_fill
  intro w s₀ s₁ mg mb G Y fa o pm cd doc dV kV ho hd hcd hD hmg hg args vals as hpre hlay hrd hwl hlo
  have KX := km_in_of Y
  km_tabs Y
  have X := (Ground.X G).1
  have V := (Ground.X G).2
  refine Ground.open G ?_
  intro T B D TE TW
  try (refine guard_noD D (by decide +kernel) ?_; clear D)
  km_lay T hmg ho hd cd
  wrow_args hpre hlay hrd hwl hlo
  all_goals (
    first | refine callC_kw (enter_call ?_) | refine enter_call ?_
    w_top on
    kn_posts)
  have hfa : fa = 47 := by
    have e1 := mg_of (n := "law") KX T.g (v := .ref 47) (by kernel_rfl)
    have e2 : mg "law" = some (.ref fa) := hmg
    rw [e1] at e2
    cases e2; rfl
  subst hfa
  obtain ⟨hp, g, d, t, os⟩ := s₁
  refine law_call (sta_in KX T hT9) (hT8 16 (by simp)) (hT8 44 (by simp)) (KX 47 _ (by kernel_rfl)) hcd (by assumption) (by assumption) (by omega) fun h' t' f => ?_
  exact good_of hg f)

end Mine

theorem PySem.Challenge.cw_dz0034_01_holds : PySem.Challenge.rw_dz0034_01.Holds :=
  Mine.top_holds
