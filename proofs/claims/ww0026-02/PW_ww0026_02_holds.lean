import PyProof.Rows.All
import KE.KUnpack
import KE.KCallOwn
import KE.KLam
import KE.KDictList
import KE.KDictSum
import KE.KEqSeq
import KE.KSortTup
import KE.KStar
import Wide.FinOn
import OpenK.AllK
import Wide.All
import Lean
import PySem.Challenge.RW_ww0026_02
set_option Elab.async false
section
open PySem PySem.W PyProof.Rows
set_option Elab.async false
set_option maxRecDepth 100000
set_option maxHeartbeats 0
namespace Csp
open_top hd02 for PySem.Challenge.rw_ww0026_02
end Csp
end
section
open PySem PySem.W PySem.Calls PyProof.Rows
set_option Elab.async false
set_option maxRecDepth 100000
set_option maxHeartbeats 400000
namespace Csp

/-! ## ledger kinds -/
inductive Kd (K : Type) where
  | lst (xs : List Value)
  | tup (xs : List Value)
  | dct (kvs : List (K × Value))
  | dom (dx : Addr) (xs : List Value)
  | cell (v : Option Value)
  | raw (o : Obj)
  | att (l : List (Str × Value))
  | obs (p : Obj → Prop)

inductive Atts (P : Params) : List DictEntry → List (Str × Value) → Prop
  | nil : Atts P [] []
  | cons {x t v es l} : Atts P es l → Atts P (⟨PyData.keyHash P x, .str x t, v⟩ :: es) ((x, v) :: l)

abbrev cDomain : Addr := 303
abbrev lstO (xs : List Value) (n : Nat) : Obj := { cls := .type "list", data := .seq xs.toArray n }
abbrev tupO (xs : List Value) : Obj := { cls := .type "tuple", data := .seq xs.toArray }
abbrev domO (dx : Addr) (xs : List Value) (n : Nat) : Obj := ⟨.ref cDomain, some dx, .seq xs.toArray n, #[]⟩

section
variable {prog : Program} {w : World} {K : Type} [DecidableEq K] (knd : KeyKind prog w K)

def Kd.holds : Kd K → Obj → Prop
  | .lst xs, o => ∃ n, o = lstO xs n
  | .tup xs, o => o = tupO xs
  | .dct kvs, o => o.ExactDict ∧ ∃ es ep, o.data = .dict es ep ∧ KeysOf knd es ∧ Pairs knd es.toList kvs ∧ (kvs.map (·.1)).Nodup
  | .dom dx xs, o => ∃ n, o = domO dx xs n
  | .cell v, o => o.data = .cell v
  | .raw o', o => o = o'
  | .att l, o => ∃ es n, o = dictOf es n ∧ Atts w.params es l
  | .obs p, o => p o

def Has (h : Heap) (a : Addr) (k : Kd K) : Prop := ∃ o, h.get? a = some o ∧ k.holds knd o
abbrev Led (K : Type) := List (Addr × Kd K)
abbrev Vars := List (Str × Value)

structure Side where
  gens : Array GenState
  drawn : Drawn
  os : OsState

structure St (g : Heap) (R : Side) (L : Addr) (vs : Vars) (l : Led K) (s : Shared) : Prop where
  F : ∃ m, Fr g L s.heap m ∧ ∀ p ∈ vs, m p.1 = some p.2
  N : ∀ p ∈ l, Has knd s.heap p.1 p.2 ∧ p.1 ≠ L ∧ g.get? p.1 = none ∧ sysModules < p.1
  nd : (l.map (·.1)).Nodup
  gens : s.gens = R.gens
  drawn : s.drawn = R.drawn
  os : s.os = R.os
  low : sysModules < L

inductive Up {K : Type} (a : Addr) (k k' : Kd K) : Led K → Led K → Prop
  | head {l} : Up a k k' ((a, k) :: l) ((a, k') :: l)
  | tail {p l l'} : Up a k k' l l' → Up a k k' (p :: l) (p :: l')
theorem Up.split {K : Type} {a : Addr} {k k' : Kd K} : ∀ {l l' : Led K}, Up a k k' l l' → ∃ pre post, l = pre ++ (a, k) :: post ∧ l' = pre ++ (a, k') :: post
  | _, _, .head => ⟨[], _, rfl, rfl⟩
  | _, _, .tail (p := p) u => let ⟨pre, post, e, e'⟩ := u.split; ⟨p :: pre, post, by rw [e]; rfl, by rw [e']; rfl⟩
theorem Up.mem {K : Type} {a : Addr} {k k' : Kd K} {l l' : Led K} (u : Up a k k' l l') : (a, k) ∈ l := by
  obtain ⟨pre, post, rfl, _⟩ := u.split; simp
theorem Up.left {K : Type} {a : Addr} {k k' : Kd K} {l l' : Led K} (u : Up a k k' l l') : ∀ t, Up a k k' (t ++ l) (t ++ l')
  | [] => u
  | _ :: t => .tail (u.left t)
theorem Up.right {K : Type} {a : Addr} {k k' : Kd K} {l l' : Led K} (u : Up a k k' l l') (t : Led K) : Up a k k' (l ++ t) (l' ++ t) := by
  induction u with
  | head => exact .head
  | tail _ ih => exact .tail ih

inductive Rm (x : Str) : Vars → Vars → Prop
  | nil : Rm x [] []
  | hit {v l l'} : Rm x l l' → Rm x ((x, v) :: l) l'
  | miss {y v l l'} : y ≠ x → Rm x l l' → Rm x ((y, v) :: l) ((y, v) :: l')
theorem Rm.mem {x : Str} : ∀ {l l' : Vars}, Rm x l l' → ∀ p ∈ l', p ∈ l ∧ p.1 ≠ x
  | _, _, .hit r, p, h => ⟨.tail _ (r.mem p h).1, (r.mem p h).2⟩
  | _, _, .miss n r, p, h => by
    rcases List.mem_cons.mp h with rfl | h
    · exact ⟨.head _, n⟩
    · exact ⟨.tail _ (r.mem p h).1, (r.mem p h).2⟩

variable {knd}
theorem Has.keep {h h' : Heap} {a : Addr} {k : Kd K} (x : Has knd h a k) (e : ∀ o, h.get? a = some o → h'.get? a = some o) : Has knd h' a k := let ⟨o, ho, q⟩ := x; ⟨o, e o ho, q⟩
theorem Has.same {h h' : Heap} {a b : Addr} {k : Kd K} (x : Has knd h a k) (hs : Heap.SameBut b h h') (n : a ≠ b) : Has knd h' a k := x.keep fun _ e => (hs.2 a n).trans e
theorem Has.lt {h : Heap} {a : Addr} {k : Kd K} (x : Has knd h a k) : a < h.objs.size := let ⟨_, ho, _⟩ := x; Heap.lt_size ho
theorem Has.plain {h : Heap} {a : Addr} {xs : List Value} (x : Has knd h a (.lst xs)) : h.PlainList a xs.toArray := let ⟨_, ho, n, e⟩ := x; ⟨n, by rw [ho, e]⟩
theorem Has.list {h : Heap} {a : Addr} {xs : List Value} (x : Has knd h a (.lst xs)) : h.IsList a xs.toArray := x.plain.isList
theorem Has.tupI {h : Heap} {a : Addr} {xs : List Value} (x : Has knd h a (.tup xs)) : IsTup h a xs.toArray := let ⟨_, ho, e⟩ := x; ⟨_, e ▸ ho, rfl, 0, rfl⟩
theorem Has.dict {h : Heap} {a : Addr} {kvs : List (K × Value)} (x : Has knd h a (.dct kvs)) : h.DictOf knd a kvs :=
  let ⟨o, ho, e, es, ep, r⟩ := x; ⟨o, es, ep, ho, e, r⟩
theorem Has.ofDict {h : Heap} {a : Addr} {kvs : List (K × Value)} (x : h.DictOf knd a kvs) : Has knd h a (.dct kvs) :=
  let ⟨o, es, ep, ho, e, r⟩ := x; ⟨o, ho, e, es, ep, r⟩
theorem Has.ofPlain {h : Heap} {a : Addr} {xs : List Value} (x : h.PlainList a xs.toArray) : Has knd h a (.lst xs) := let ⟨n, ho⟩ := x; ⟨_, ho, n, rfl⟩
theorem Atts.get {P : Params} {x : Str} {v : Value} : ∀ {es : List DictEntry} {l : List (Str × Value)}, Atts P es l → l.lookup x = some v → getL x es = some (some v)
  | _, _, .cons (x := y) (v := u) (l := l) a, h => by
    rw [List.lookup_cons] at h
    unfold getL
    by_cases q : x = y
    · subst q
      simp only [beq_self_eq_true] at h
      cases h
      simp [List.find?_cons, Value.isStr]
    · rw [beq_eq_false_iff_ne.mpr q] at h
      have ih := a.get h
      unfold getL at ih
      have q' : (Value.str y ‹_›).isStr x = false := by simp [Value.isStr]; exact fun e => q e.symm
      rw [List.find?_cons, q']
      split at ih
      · rename_i e he; rw [he]; exact ih
      · split at ih <;> cases ih
theorem Atts.any {P : Params} : ∀ {es : List DictEntry} {l : List (Str × Value)}, Atts P es l → es.any (·.refKey) = false
  | _, _, .nil => rfl
  | _, _, .cons a => by rw [List.any_cons, a.any]; rfl
theorem Atts.none {P : Params} {x : Str} : ∀ {es : List DictEntry} {l : List (Str × Value)}, Atts P es l → l.lookup x = Option.none → getL x es = some Option.none := by
  intro es l a h
  have key : ∀ {es : List DictEntry} {l : List (Str × Value)}, Atts P es l → l.lookup x = Option.none → es.find? (·.key.isStr x) = Option.none := by
    intro es l a
    induction a with
    | nil => intro _; rfl
    | @cons y t v es l a ih =>
      intro h
      rw [List.lookup_cons] at h
      by_cases q : x = y
      · subst q; simp at h
      · rw [beq_eq_false_iff_ne.mpr q] at h
        have q' : (Value.str y t).isStr x = false := by simp [Value.isStr]; exact fun e => q e.symm
        rw [List.find?_cons, q']; exact ih h
  unfold getL
  rw [key a h, a.any]; rfl
theorem Has.rawE {h : Heap} {a : Addr} {o : Obj} (x : Has knd h a (.raw o)) : h.get? a = some o := let ⟨_, ho, e⟩ := x; e ▸ ho

section
variable {g : Heap} {R : Side} {L : Addr} {vs vs' : Vars} {l l' : Led K} {s : Shared}

theorem St.has (H : St knd g R L vs l s) {a : Addr} {k : Kd K} (hm : (a, k) ∈ l) : Has knd s.heap a k := (H.N _ hm).1
theorem St.notMod (H : St knd g R L vs l s) {a : Addr} {k : Kd K} (hm : (a, k) ∈ l) : (a == sysModules) = false := beq_eq_false_iff_ne.mpr (Nat.ne_of_gt (H.N _ hm).2.2.2)
theorem St.base (H : St knd g R L vs l s) {a : Addr} {k : Kd K} (hb : Has knd g a k) : Has knd s.heap a k :=
  let ⟨_, F, _⟩ := H.F; hb.keep fun o e => F.keep a o e
theorem St.tok (H : St knd g R L vs l s) (t : Nat) : St knd g R L vs l { s with toks := t } := ⟨H.F, H.N, H.nd, H.gens, H.drawn, H.os, H.low⟩
theorem St.heap (H : St knd g R L vs l s) {h' : Heap} {t : Nat} (hF : ∃ m, Fr g L h' m ∧ ∀ p ∈ vs', m p.1 = some p.2)
    (hN : ∀ p ∈ l', Has knd h' p.1 p.2 ∧ p.1 ≠ L ∧ g.get? p.1 = none ∧ sysModules < p.1) (hn : (l'.map (·.1)).Nodup) : St knd g R L vs' l' { s with heap := h', toks := t } :=
  ⟨hF, hN, hn, H.gens, H.drawn, H.os, H.low⟩
theorem Fr.grow {g h h' : Heap} {L : Addr} {m : Str → Option Value} (F : Fr g L h m) (hk : ∀ b o, h.get? b = some o → h'.get? b = some o) : Fr g L h' m :=
  ⟨F.ns.keeps hk, fun b o e => hk b o (F.keep b o e), F.above⟩
theorem St.grow (H : St knd g R L vs l s) {h' : Heap} {t : Nat} (hk : ∀ b o, s.heap.get? b = some o → h'.get? b = some o) : St knd g R L vs l { s with heap := h', toks := t } :=
  H.heap (let ⟨m, F, k⟩ := H.F; ⟨m, Fr.grow F hk, k⟩) (fun p hp => ⟨(H.N p hp).1.keep fun o e => hk _ o e, (H.N p hp).2⟩) H.nd
/-- a new object -/
theorem St.new (H : St knd g R L vs l s) {h' : Heap} {t : Nat} {a : Addr} {k : Kd K} (hk : ∀ b o, s.heap.get? b = some o → h'.get? b = some o) (ha : s.heap.objs.size ≤ a) (hh : Has knd h' a k) : St knd g R L vs ((a, k) :: l) { s with heap := h', toks := t } := by
  obtain ⟨m, F, kn⟩ := H.F
  refine H.heap ⟨m, Fr.grow F hk, kn⟩ (fun p hp => ?_) ?_
  · rcases List.mem_cons.mp hp with rfl | hp
    · refine ⟨hh, ?_, ?_, Nat.lt_trans H.low (Nat.lt_of_lt_of_le F.ns.lt ha)⟩
      · exact fun e : a = L => Nat.lt_irrefl _ (Nat.lt_of_lt_of_le F.ns.lt (e ▸ ha))
      cases q : g.get? a with
      | none => rfl
      | some o => exact absurd (Nat.lt_of_lt_of_le (Heap.lt_size (F.keep _ _ q)) ha) (Nat.lt_irrefl _)
    · exact ⟨(H.N p hp).1.keep fun o e => hk _ o e, (H.N p hp).2⟩
  · rw [List.map_cons, List.nodup_cons]
    refine ⟨fun hm => ?_, H.nd⟩
    obtain ⟨p, hp, e⟩ := List.mem_map.mp hm
    have e' : p.1 = a := e
    exact Nat.lt_irrefl _ (Nat.lt_of_lt_of_le (H.N p hp).1.lt (e' ▸ ha))
theorem St.push (H : St knd g R L vs l s) {o : Obj} {t : Nat} {k : Kd K} (hf : o.isFreed = false) (hk : k.holds knd o) : St knd g R L vs ((s.heap.objs.size, k) :: l) { s with heap := s.heap.push o, toks := t } :=
  H.new (fun _ _ e => Heap.get?_push_of_some _ e) (Nat.le_refl _) ⟨o, Heap.get?_push_size _ hf, hk⟩
/-- a change at one address of the ledger -/
theorem St.put (H : St knd g R L vs l s) {h' : Heap} {t : Nat} {a : Addr} {k k' : Kd K} (U : Up a k k' l l') (hs : Heap.SameBut a s.heap h') (hh : Has knd h' a k') : St knd g R L vs l' { s with heap := h', toks := t } := by
  have hm := H.N _ U.mem
  obtain ⟨m, F, kn⟩ := H.F
  have hnd := H.nd
  obtain ⟨pre, post, rfl, rfl⟩ := U.split
  refine H.heap ⟨m, ⟨F.ns.sameBut hs (Ne.symm hm.2.1), fun b o e => (hs.2 b fun q => ?_).trans (F.keep b o e), F.above⟩, kn⟩ (fun p hp => ?_) ?_
  · subst q; have := hm.2.2.1; dsimp only at this; rw [this] at e; cases e
  · rw [List.map_append, List.map_cons, List.nodup_append, List.nodup_cons] at hnd
    obtain ⟨_, ⟨h2, _⟩, h3⟩ := hnd
    rcases List.mem_append.mp hp with hp | hp
    · have hne : p.1 ≠ a := h3 p.1 (List.mem_map_of_mem hp) a (by simp)
      have z := H.N p (List.mem_append.mpr (.inl hp))
      exact ⟨z.1.same hs hne, z.2⟩
    · rcases List.mem_cons.mp hp with rfl | hp
      · exact ⟨hh, hm.2⟩
      · have hne : p.1 ≠ a := fun q => h2 (List.mem_map.mpr ⟨p, hp, q⟩)
        have z := H.N p (List.mem_append.mpr (.inr (.tail _ hp)))
        exact ⟨z.1.same hs hne, z.2⟩
  · simpa using hnd
/-- a local is stored -/
theorem St.stored (H : St knd g R L vs l s) {x : Str} {v : Value} (Rx : Rm x vs vs') {h' : Heap} {m : Str → Option Value} {t : Nat} (F : Fr g L s.heap m) (kn : ∀ p ∈ vs, m p.1 = some p.2)
    (hn : h'.Ns L (fun y => if y = x then some v else m y)) (hs : Heap.SameBut L s.heap h') : St knd g R L ((x, v) :: vs') l { s with heap := h', toks := t } :=
  H.heap ⟨_, F.set hn hs, fun p hp => by
    rcases List.mem_cons.mp hp with rfl | hp
    · simp
    · have z := Rx.mem p hp
      show (if p.1 = x then some v else m p.1) = some p.2
      rw [if_neg z.2]; exact kn p z.1⟩ (fun p hp => ⟨(H.N p hp).1.same hs (H.N p hp).2.1, (H.N p hp).2⟩) H.nd
theorem St.sub (H : St knd g R L vs l s) (hv : ∀ p ∈ vs', p ∈ vs) (hl : l'.Sublist l) : St knd g R L vs' l' s :=
  ⟨let ⟨m, F, k⟩ := H.F; ⟨m, F, fun p hp => k p (hv p hp)⟩, fun p hp => H.N p (hl.mem hp), (hl.map _).nodup H.nd, H.gens, H.drawn, H.os, H.low⟩
theorem St.perm (H : St knd g R L vs l s) (hl : l'.Perm l) : St knd g R L vs l' s :=
  ⟨H.F, fun p hp => H.N p (hl.mem_iff.mp hp), (hl.map _).nodup_iff.mpr H.nd, H.gens, H.drawn, H.os, H.low⟩
end
end
/-- a sum over a list says what a permutation keeps; the sum is any function with these three laws, so that nothing unfolds it -/
theorem perm_of_S {α : Type} {x y : List α} (h : ∀ (S : List α → Nat) (f : α → Nat), S [] = 0 → (∀ a l, S (a :: l) = f a + S l) → (∀ u v, S (u ++ v) = S u + S v) → S x = S y) : x.Perm y := by
  classical
  refine List.perm_iff_count.mpr fun a => ?_
  refine h (fun l => l.count a) (fun b => if (b == a) = true then 1 else 0) rfl (fun b l => ?_) fun u v => List.count_append
  rw [List.count_cons, Nat.add_comm]
end Csp
end
section
open PySem PySem.W PySem.Calls PyProof.Rows
set_option Elab.async false
set_option maxRecDepth 100000
set_option maxHeartbeats 400000
namespace Csp
noncomputable abbrev KK : Params → Frag := hd02.heap_39
abbrev PW : Program := PySem.Challenge.pw_ww0026_02

structure Room (A : Around) (n : Nat) : Prop where
  handled : A.handled = none
  depth : A.depth + 2 * n < recursionLimit
  units : A.units + 20 * n < cLine
theorem Room.in1 {A : Around} {n : Nat} (h : Room A (n + 1)) : Room A.in1 n := ⟨h.1, by have := h.2; show A.depth + _ < _; omega, by have := h.3; show A.units + 1 + _ < _; omega⟩
theorem Room.deeper {A : Around} {n : Nat} (h : Room A (n + 1)) (env : Env) : Room (A.deeper env) n := ⟨h.1, by have := h.2; show A.depth + 1 + _ < _; omega, by have := h.3; show A.units + 3 + _ < _; omega⟩
theorem Room.less {A : Around} {n m : Nat} (h : Room A n) (k : m ≤ n) : Room A m := ⟨h.1, by have := h.2; omega, by have := h.3; omega⟩
theorem Room.d {A : Around} {n : Nat} (h : Room A n) : A.depth < recursionLimit := by have := h.2; omega
theorem Room.u {A : Around} {n : Nat} (h : Room A n) : A.units < cLine := by have := h.3; omega
theorem Room.mark {A : Around} {n : Nat} (h : Room A n) : Room (A.mark none) n := ⟨by show (none : Option Value).or A.handled = none; rw [h.1]; rfl, h.2, h.3⟩

/-- what the base heap knows -/
structure Bs (w : World) (g : Heap) : Prop where
  X : (KK w.params).In g
  T : ∃ p loose mg mb, TopRead p loose mg mb g
theorem Bs.keeps {w : World} {g h : Heap} (B : Bs w g) (k : ∀ b o, g.get? b = some o → h.get? b = some o) : Bs w h :=
  ⟨fun b o e => k b o (B.X b o e), let ⟨p, lo, mg, mb, T⟩ := B.T; ⟨p, lo, mg, mb, T.keeps k⟩⟩
theorem Bs.nolimit {w : World} {g : Heap} (B : Bs w g) : g.NoLimit := let ⟨_, _, _, _, T⟩ := B.T; T.nolimit

section
variable {prog : Program} {w : World} {K : Type} [DecidableEq K] {knd : KeyKind prog w K} {A : Around} {E : Value → Shared → Prop} {s : Shared}

structure Eff (knd : KeyKind prog w K) (s : Shared) (as : List Addr) (l' : Led K) (s' : Shared) : Prop where
  keep : ∀ b o, s.heap.get? b = some o → b ∉ as → s'.heap.get? b = some o
  has : ∀ p ∈ l', Has knd s'.heap p.1 p.2
  new : ∀ p ∈ l', p.1 ∈ as ∨ s.heap.get? p.1 = none
  low : ∀ p ∈ l', sysModules < p.1
  nd : (l'.map (·.1)).Nodup
  gens : s'.gens = s.gens
  drawn : s'.drawn = s.drawn
  os : s'.os = s.os

/-- the callee's St, read at its end -/
theorem St.toEff {g : Heap} {L : Addr} {vs : Vars} {l' tmp : Led K} {s' : Shared} {as : List Addr} (H : St knd g ⟨s.gens, s.drawn, s.os⟩ L vs tmp s') (hl : l'.Sublist tmp)
    (hk : ∀ b o, s.heap.get? b = some o → b ∉ as → g.get? b = some o) : Eff knd s as l' s' := by
  obtain ⟨m, F, _⟩ := H.F
  refine ⟨fun b o e n => F.keep b o (hk b o e n), fun p hp => (H.N p (hl.mem hp)).1, fun p hp => ?_, fun p hp => (H.N p (hl.mem hp)).2.2.2, (hl.map _).nodup H.nd, H.gens, H.drawn, H.os⟩
  by_cases hm : p.1 ∈ as
  · exact .inl hm
  · refine .inr ?_
    cases q : s.heap.get? p.1 with
    | none => rfl
    | some o => have := (H.N p (hl.mem hp)).2.2.1; rw [hk _ _ q hm] at this; cases this

/-- the effect of a call, at the caller -/
theorem St.eff {g : Heap} {R : Side} {L : Addr} {vs : Vars} {lc l rest l' : Led K} {s' : Shared} (H : St knd g R L vs lc s) (hp : lc.Perm (l ++ rest)) (e : Eff knd s (l.map (·.1)) l' s') :
    St knd g R L vs (l' ++ rest) s' := by
  have H := H.perm hp.symm
  obtain ⟨m, F, kn⟩ := H.F
  have hL : L ∉ l.map (·.1) := fun q => by
    obtain ⟨p, hp, e⟩ := List.mem_map.mp q
    exact (H.N p (List.mem_append.mpr (.inl hp))).2.1 e
  have hg : ∀ b o, g.get? b = some o → b ∉ l.map (·.1) := fun b o e q => by
    obtain ⟨p, hp, rfl⟩ := List.mem_map.mp q
    have := (H.N p (List.mem_append.mpr (.inl hp))).2.2.1
    rw [this] at e; cases e
  have hnd := H.nd
  rw [List.map_append, List.nodup_append] at hnd
  have hrest : ∀ p ∈ rest, p.1 ∉ l.map (·.1) := fun p hp q => hnd.2.2 _ q _ (List.mem_map_of_mem hp) rfl
  refine ⟨⟨m, ⟨?_, fun b o q => e.keep b o (F.keep b o q) (hg b o q), F.above⟩, kn⟩, fun p hp => ?_, ?_, e.gens.trans H.gens, e.drawn.trans H.drawn, e.os.trans H.os, H.low⟩
  · obtain ⟨oL, es, ep, hLo, r⟩ := F.ns
    exact ⟨oL, es, ep, e.keep L oL hLo hL, r⟩
  · rcases List.mem_append.mp hp with hp | hp
    · refine ⟨e.has p hp, ?_⟩
      rcases e.new p hp with q | q
      · obtain ⟨p', hp', e'⟩ := List.mem_map.mp q
        have := (H.N p' (List.mem_append.mpr (.inl hp'))).2
        rw [e'] at this; exact this
      · refine ⟨fun e' => ?_, ?_, e.low p hp⟩
        · obtain ⟨oL, es, ep, hLo, r⟩ := F.ns
          rw [e', hLo] at q; cases q
        · cases q' : g.get? p.1 with
          | none => rfl
          | some o => rw [F.keep _ _ q'] at q; cases q
    · have z := H.N p (List.mem_append.mpr (.inr hp))
      exact ⟨z.1.keep fun o q => e.keep _ o q (hrest p hp), z.2⟩
  · rw [List.map_append, List.nodup_append]
    refine ⟨e.nd, hnd.2.1, fun a ha b hb => ?_⟩
    rintro rfl
    obtain ⟨p, hp, rfl⟩ := List.mem_map.mp ha
    rcases e.new p hp with q | q
    · exact hnd.2.2 _ q _ hb rfl
    · obtain ⟨p', hp', e'⟩ := List.mem_map.mp hb
      obtain ⟨o, ho, _⟩ := (H.N p' (List.mem_append.mpr (.inr hp'))).1
      rw [e', q] at ho; cases ho

theorem lookup_nodup {α : Type} : ∀ {l : List (Str × α)} {x : Str} {v : α}, (l.map (·.1)).Nodup → (x, v) ∈ l → l.lookup x = some v
  | (y, u) :: r, x, v, hn, hm => by
    rw [List.map_cons, List.nodup_cons] at hn
    rcases List.mem_cons.mp hm with e | hm
    · cases e; simp
    · have : x ≠ y := fun e => hn.1 (e ▸ List.mem_map.mpr ⟨(x, v), hm, rfl⟩)
      rw [List.lookup_cons, beq_eq_false_iff_ne.mpr this]
      exact lookup_nodup hn.2 hm
theorem zip_fst_sub {α β : Type} : ∀ (l : List α) (r : List β), ((l.zip r).map (·.1)).Sublist l
  | [], _ => by simp
  | _ :: _, [] => by simp
  | a :: l, b :: r => by rw [List.zip_cons_cons, List.map_cons]; exact (zip_fst_sub l r).cons_cons a
theorem lookup_zip {names : List Str} {vals : List Value} (hn : names.Nodup) : ∀ p ∈ names.zip vals, (names.zip vals).reverse.lookup p.1 = some p.2 := by
  intro p hp
  have nd : ((names.zip vals).map (·.1)).Nodup := (zip_fst_sub names vals).nodup hn
  refine lookup_nodup ?_ (List.mem_reverse.mpr hp)
  rw [List.map_reverse]
  exact (List.reverse_perm _).nodup_iff.mpr nd
/-- what a call finds: the base, the ledger that it may change -/
structure At (knd : KeyKind prog w K) (g₀ : Heap) (s : Shared) (l : Led K) : Prop where
  B : Bs w g₀
  k : ∀ b o, g₀.get? b = some o → s.heap.get? b = some o
  nd : (l.map (·.1)).Nodup
  l : ∀ p ∈ l, Has knd s.heap p.1 p.2 ∧ g₀.get? p.1 = none ∧ sysModules < p.1
theorem St.at {g : Heap} {R : Side} {L : Addr} {vs : Vars} {lc l rest : Led K} (H : St knd g R L vs lc s) (B : Bs w g) (hp : lc.Perm (l ++ rest)) : At knd g s l := by
  have H := H.perm hp.symm
  obtain ⟨m, F, _⟩ := H.F
  refine ⟨B, F.keep, ?_, fun p hp => ⟨(H.N p (List.mem_append.mpr (.inl hp))).1, (H.N p (List.mem_append.mpr (.inl hp))).2.2⟩⟩
  have := H.nd
  rw [List.map_append] at this
  exact (List.nodup_append.mp this).1
theorem At.has {g₀ : Heap} {l : Led K} (X : At knd g₀ s l) {a : Addr} {k : Kd K} (h : Has knd g₀ a k) : Has knd s.heap a k := h.keep fun o e => X.k _ o e
theorem At.lh {g₀ : Heap} {l : Led K} (X : At knd g₀ s l) {a : Addr} {k : Kd K} (h : (a, k) ∈ l) : Has knd s.heap a k := (X.l _ h).1

/-- the ends, as words of their own -/
def Nx (M : Model) (A : Around) (rest : List Stmt) (env : Env) (Q : Flow → Shared → Prop) (E : Value → Shared → Prop) (f : Flow) (s : Shared) : Prop := match f with
  | .next => wpAny M A (execs rest env) Q E s
  | f => Q f s
def FnQ (R : Result → Shared → Prop) (f : Flow) (s : Shared) : Prop := R (.ok (.ret (match f with | .ret v => v | _ => .none))) s
def RetQ (Q : Value → Shared → Prop) (E : Value → Shared → Prop) (r : Result) (s : Shared) : Prop := match r with
  | .ok (.ret v) => Q v s
  | .ok _ => False
  | .error e => E e s
theorem xs_cons {M : Model} {st : Stmt} {rest : List Stmt} {env : Env} {Q : Flow → Shared → Prop} (h : wpAny M A (exec st env) (Nx M A rest env Q E) E s) : wpAny M A (execs (st :: rest) env) Q E s :=
  wpAny_execs_cons (wpAny_mono h (fun f s' h' => by cases f <;> exact h') fun _ _ e => e)
theorem nx {M : Model} {rest : List Stmt} {env : Env} {Q : Flow → Shared → Prop} (h : wpAny M A (execs rest env) Q E s) : Nx M A rest env Q E .next s := h
theorem nx_ret {M : Model} {rest : List Stmt} {env : Env} {Q : Flow → Shared → Prop} {v : Value} (h : Q (.ret v) s) : Nx M A rest env Q E (.ret v) s := h
theorem nx_brk {M : Model} {rest : List Stmt} {env : Env} {Q : Flow → Shared → Prop} (h : Q .brk s) : Nx M A rest env Q E .brk s := h
theorem nx_cont {M : Model} {rest : List Stmt} {env : Env} {Q : Flow → Shared → Prop} (h : Q .cont s) : Nx M A rest env Q E .cont s := h
theorem fn_next {R : Result → Shared → Prop} (h : R (.ok (.ret .none)) s) : FnQ R .next s := h
theorem fn_ret {R : Result → Shared → Prop} {v : Value} (h : R (.ok (.ret v)) s) : FnQ R (.ret v) s := h
theorem retq {Q : Value → Shared → Prop} {v : Value} (h : Q v s) : RetQ Q E (.ok (.ret v)) s := h
theorem callRet {M : Model} {f : Value} {pos : List Value} {kw : List (Str × Value)} {Q : Value → Shared → Prop} (h : codeAny M A (.call f ⟨pos, kw⟩) (RetQ Q E) s) : wpAny M A (call f pos kw) Q E s := wpAny_call h

/-- the side of a shared state -/
abbrev sideOf (s : Shared) : Side := ⟨s.gens, s.drawn, s.os⟩
/-- a def without cells is entered -/
theorem enter {n : Nat} {R : Result → Shared → Prop} {name qual : Str} {params : Arguments} {body : List Stmt} {scope : Scope} {cl : List (Str × Addr)} {dV kV doc pm cdv ct : Value} {an : Option Addr} {fo : Obj} {f : Addr} {args : Args}
    {names : List Str} {vals : List Value} {g₀ : Heap} {l : Led K} (X : At knd g₀ s l)
    (hr : Room A n) (ho : s.heap.get? f = some fo) (hd : fo.data = .func (fnX name qual params body scope cl dV kV doc pm an cdv ct)) (hcd : s.heap.CodeRec cdv qual)
    (hbind : BindsTo s (fnX name qual params body scope cl dV kV doc pm an cdv ct) args (names.zip vals)) (hnames : names.Nodup) (hloc : ∀ x ∈ names, scope.names.lookup x = some .local)
    (h : ∀ g L s₁, (∀ b o, s.heap.get? b = some o → b ∉ l.map (·.1) → g.get? b = some o) → (∀ b o, g₀.get? b = some o → g.get? b = some o) → Bs w g → St knd g (sideOf s) L (names.zip vals) l s₁ →
      wpAny (model prog w) (A.deeper (envX qual scope L f cdv cl)) (execs body (envX qual scope L f cdv cl)) (FnQ R) (fun _ _ => False) s₁)
    (hcell : ∀ x ∈ scope.names, x.2 ≠ .cell) (hco : scope.isCoroutine = false := by rfl) (hgen : scope.isGenerator = false := by rfl) (hk : scope.kind = .function := by rfl) :
    codeAny (model prog w) A (.call (.ref f) args) R s := by
  refine codeAny_call_def (fd := fnX name qual params body scope cl dV kV doc pm an cdv ct) (body := body) (binds := names.zip vals) hr.d ho hd (X.B.nolimit.keeps X.k) hcd rfl hbind hcell
    (fun x hx => hloc _ (List.of_mem_zip hx).1) (fun h₁ hns hk₁ => ?_) hco hgen hk
  have hg : ∀ b o, s.heap.get? b = some o → b ∉ l.map (·.1) → (hideAll s.heap (l.map (·.1))).get? b = some o := fun b o e n => hideAll_get _ e n
  have hg₀ : ∀ b o, g₀.get? b = some o → (hideAll s.heap (l.map (·.1))).get? b = some o := fun b o e => hg b o (X.k b o e) fun q => by
    obtain ⟨p, hp, rfl⟩ := List.mem_map.mp q
    rw [(X.l p hp).2.1] at e; cases e
  refine wpAny_mono (h (hideAll s.heap (l.map (·.1))) s.heap.objs.size { s with heap := h₁, toks := s.toks + (names.zip vals).length } hg hg₀ (X.B.keeps hg₀) ⟨⟨_, ⟨hns, fun b o e => hk₁ b o (of_hideAll _ e), Nat.le_of_eq (hideAll_size _ _)⟩, lookup_zip hnames⟩,
    fun p hp => ⟨(X.l p hp).1.keep fun o e => hk₁ _ o e, Nat.ne_of_lt (X.l p hp).1.lt, hideAll_none _ (List.mem_map_of_mem hp), (X.l p hp).2.2⟩, X.nd, rfl, rfl, rfl, modules_low (X.B.nolimit.keeps X.k)⟩) (fun _ _ y => y) fun _ _ y => y.elim
end
end Csp
end
section
open PySem PySem.W PySem.Calls PyProof.Rows
set_option Elab.async false
set_option maxRecDepth 100000
set_option maxHeartbeats 400000
namespace Csp

theorem K_dom_ga (P : Params) : findIn (KK P) (.ref 303) "__getattribute__" = some (some (.builtin "list.__getattribute__")) := by kernel_rfl
theorem K_dom_gattr (P : Params) : findIn (KK P) (.ref 303) "__getattr__" = some none := by kernel_rfl
theorem K_dom_mro (P : Params) : mroIn (KK P) 303 (.type "list") = some true := by kernel_rfl
theorem K_dom_dict (P : Params) : hasDictIn (KK P) 303 = true := by kernel_rfl
theorem canon_list : Manifest.canonical "list.__getattribute__" = "object.__getattribute__" := by decide +kernel

section
variable {prog : Program} {w : World} {K : Type} [DecidableEq K] {knd : KeyKind prog w K} {A : Around} {E : Value → Shared → Prop} {s : Shared} {d dx : Addr} {xs : List Value} {at_ : List (Str × Value)}

/-- a Domain with its attributes -/
structure DomAt (knd : KeyKind prog w K) (h : Heap) (d dx : Addr) (xs : List Value) (l : List (Str × Value)) : Prop where
  d : Has knd h d (.dom dx xs)
  x : Has knd h dx (.att l)
theorem DomAt.inst {h : Heap} (D : DomAt knd h d dx xs at_) : ∃ n es m, InstAt h d (domO dx xs n) 303 (some (dictOf es m)) ∧ Atts w.params es at_ := by
  obtain ⟨⟨o, ho, n, rfl⟩, ⟨o', ho', es, m, rfl, a⟩⟩ := D
  exact ⟨n, es, m, ⟨ho, rfl, rfl, ho'⟩, a⟩

theorem dom_type {h : Heap} {M : Model} (D : Has knd h d (.dom dx xs)) : Looks M h (typeOf (.ref d)) (.ref 303) := by
  obtain ⟨o, ho, n, rfl⟩ := D
  exact (Looks.ld ho).andThen .now
theorem dom_sub {h : Heap} {M : Model} (X : (KK w.params).In h) : Looks M h (isSubtype (.ref 303) (.type "list")) true := looks_mroIn X (K_dom_mro _)

/-- the check of a list's method on a Domain -/
theorem dom_check {id n : String} {rest : List Value} {Q : Unit → Shared → Prop} (X : (KK w.params).In s.heap) (D : Has knd s.heap d (.dom dx xs)) (hs : splitId id = some ("list", n))
    (hk : builtinKind id = some .slot ∨ builtinKind id = some .method) (ha : argsOk id ⟨.ref d :: rest, []⟩) (h : Q () s) : wpAny (model prog w) A (checkBuiltinCall id ⟨.ref d :: rest, []⟩) Q E s := by
  have L : Looks (model prog w) s.heap (isInstance (.ref d) (.type "list")) true := (dom_type D).andThen (dom_sub X)
  rcases hk with e | e <;>
  · simp only [checkBuiltinCall, e, hs]
    refine wpAny_bind (L.here ?_)
    simp only [Bool.not_true, Bool.false_eq_true, if_false]
    cases hsig : Manifest.signature? id with
    | none => exact wpAny_pure h
    | some sig =>
      simp only [argsOk, hsig] at ha
      have h2 : Bind.checkArgs id sig ⟨.ref d :: rest, []⟩ = pure () := ha
      show wpAny _ A (Bind.checkArgs id sig ⟨.ref d :: rest, []⟩) Q E s
      rw [h2]; exact wpAny_pure h

theorem dom_call {id n : String} {b : Builtin} {rest : List Value} {Q : Value → Shared → Prop} (X : (KK w.params).In s.heap) (D : Has knd s.heap d (.dom dx xs)) (hs : splitId id = some ("list", n))
    (hk : builtinKind id = some .slot ∨ builtinKind id = some .method) (hp : plainId id = true) (hb : entryFor table id = some b) (ha : argsOk id ⟨.ref d :: rest, []⟩)
    (hc : wpAny (model prog w) A.in1 (b ⟨.ref d :: rest, []⟩) (fun fin s' => match fin with | .done (.ret v) => Q v s' | .done _ => False | .again c => c.quiet = true ∧ codeAny (model prog w) A c (fun r s' => match r with | .ok (.ret v) => Q v s' | .ok _ => False | .error e => E e s') s') E s) :
    wpAny (model prog w) A (call (.builtin id) (.ref d :: rest)) Q E s := by
  refine wpAny_call (codeAny_call_builtin hp hb (dom_check X D hs hk ha (wpAny_mono hc (fun fin s' h' => ?_) fun _ _ h' => h')))
  cases fin with
  | again c => exact h'
  | done f => cases f <;> first | exact h' | exact h'.elim

theorem dom_get {name : Str} {v : Value} {expr : Bool} {Q : Value → Shared → Prop} (X : (KK w.params).In s.heap) (D : DomAt knd s.heap d dx xs at_) (hv : at_.lookup name = some v) (hf : findIn (KK w.params) (.ref 303) name = some none) (hh : handedIn v = true)
    (h : Q v { s with toks := s.toks + 1 }) : wpAny (model prog w) A (getAttr (.ref d) name expr) Q E s := by
  obtain ⟨n, es, m, I, a⟩ := D.inst
  obtain ⟨hp, g, dr, t, os⟩ := s
  have L0 := I.type (M := model prog w)
  have L1 := looks_findIn (M := model prog w) X (K_dom_ga _)
  have L2 := looks_findIn (M := model prog w) X (K_dom_gattr _)
  have L3 := looks_find (M := model prog w) X I (findObj_own (K_dom_dict _) hf rfl (a.get hv))
  unfold getAttr getAttrBy
  refine wpAny_bind (wpAny_mkText (wpAny_holding (wpAny_bind (L0.at (wpAny_bind (L1.at ?_))))))
  show wpAny _ _ (getAttrByItsOwn _ _ _ _ _ _) _ _ _
  unfold getAttrByItsOwn hookBefore
  refine wpAny_bind (L2.at ?_)
  refine wpAny_bind (wpAny_attempt (wpAny_holding ?_))
  unfold callGetattribute
  rw [if_neg (by cases expr <;> decide)]
  unfold boundAndCalled
  rw [F.slot_list_getattribute.bind]
  refine wpAny_bind (wpAny_pure ?_)
  refine dom_call (knd := knd) X D.d (n := "__getattribute__") (by decide +kernel) (.inl (by decide +kernel)) (by decide +kernel) F.entry_list_ga (F.args_list_getattribute_2 _ _) ?_
  unfold Builtin.«object.__getattribute__»
  refine wpAny_bind (wpAny_pure ?_)
  refine wpAny_bind (wpAny_pure (a := name) ?_)
  refine wpAny_bind (L0.at ?_)
  refine wpAny_bind (L3.at ?_)
  refine wpAny_pure ?_
  show wpAny _ _ (handedOut v) _ _ _
  rw [handedOut_of hh]; exact wpAny_pure h

/-- a method of a Domain, by its class's def or the list's own -/
theorem dom_meth {name : Str} {f : Value} {ft : String} {pl : Sem Bool} {Q : Value × List Value → Shared → Prop} (X : (KK w.params).In s.heap) (D : DomAt knd s.heap d dx xs at_) (hn : at_.lookup name = none)
    (hf : findIn (KK w.params) (.ref 303) name = some (some f)) (ht : typeIn (KK w.params) f = some (.type ft)) (hft : ft = "function" ∨ ft = "method_descriptor") (h : Q (f, [.ref d]) s) : wpAny (model prog w) A (getMethod (.ref d) name pl) Q E s := by
  obtain ⟨n, es, m, I, a⟩ := D.inst
  unfold getMethod specialOf
  refine wpAny_bind (wpAny_bind (I.type.here ((looks_findIn X (K_dom_ga _)).here ?_)))
  dsimp only
  rw [canon_list, if_neg (by decide)]
  refine wpAny_bind (wpAny_bind (I.type.here ((looks_findIn X (K_dom_gattr _)).here ?_)))
  refine wpAny_bind (wpAny_bind (I.type.here ((looks_findIn X hf).here (wpAny_bind ((looks_typeIn X ht).here ?_)))))
  rw [if_neg (by rcases hft with rfl | rfl <;> decide +kernel)]
  refine wpAny_bind (wpAny_loadPart I.at_ ?_)
  have hd := I.dict
  dsimp only at hd ⊢
  refine wpAny_bind (wpAny_bind (wpAny_loadPart hd ?_))
  rw [nsLook_of (show lookIn name (dictOf es m) = some none by rw [lookIn_dict]; exact a.none hn)]
  exact wpAny_pure (wpAny_bind (wpAny_rule (wpAny_pure h)))

theorem dom_special {name : Str} {id : String} {args : List Value} {Q : Option Value → Shared → Prop} (X : (KK w.params).In s.heap) (D : Has knd s.heap d (.dom dx xs)) (hf : findIn (KK w.params) (.ref 303) name = some (some (.builtin id)))
    (hb : ∀ v, bindSpecial (.builtin id) v = pure (.builtin id, [v])) (h : wpAny (model prog w) A (call (.builtin id) (.ref d :: args)) (fun v => Q (some v)) E s) : wpAny (model prog w) A (callSpecial? (.ref d) name args) Q E s := by
  unfold callSpecial? specialOf
  refine wpAny_bind (wpAny_bind ((dom_type D).here ((looks_findIn X hf).here (wpAny_holding ?_))))
  rw [hb]
  exact wpAny_bind (wpAny_pure (wpAny_bind (wpAny_mono h (fun _ _ z => wpAny_pure z) fun _ _ z => z)))

theorem dom_lenB {Q : Value → Shared → Prop} (X : (KK w.params).In s.heap) (D : Has knd s.heap d (.dom dx xs)) (h : Q (.int xs.length s.toks) { s with toks := s.toks + 1 }) : wpAny (model prog w) A (call (.builtin "list.__len__") [.ref d]) Q E s := by
  refine dom_call (knd := knd) X D (n := "__len__") (by decide +kernel) (.inl (by decide +kernel)) (by decide +kernel) F.entry_list_len (F.args_list_len_1 _) ?_
  obtain ⟨o, ho, n, rfl⟩ := D
  unfold Builtin.«list.__len__»
  refine wpAny_bind (wpAny_pure ?_)
  refine wpAny_bind (m := seqSize d) (wpAny_bind (wpAny_loadPart ho ?_)) 
  refine wpAny_pure ?_
  refine wpAny_bind (wpAny_mkInt (wpAny_pure ?_))
  simpa using h
theorem dom_len {Q : Value → Shared → Prop} (X : (KK w.params).In s.heap) (D : Has knd s.heap d (.dom dx xs)) (hz : xs.length < 1000) (h : ∀ t, Q (.int xs.length t) { s with toks := s.toks + 2 }) : wpAny (model prog w) A (call (.builtin "len") [.ref d]) Q E s := by
  refine Calls.call_function_entry kind_len plain_len entry_len (args_len1 _) ?_
  unfold Builtin.«len»
  refine wpAny_bind (m := oneArg "len" _) (wpAny_pure ?_)
  refine wpAny_bind (m := callSpecial? (.ref d) (Str.ofString "__len__")) (dom_special X D (by kernel_rfl) F.slot_list_len.bind (dom_lenB X D ?_))
  refine wpAny_bind (wpAny_holding (wpAny_pure ?_))
  refine wpAny_bind (wpAny_letGo ?_)
  show wpAny _ _ (if (xs.length : Int) < 0 then _ else _) _ _ _
  rw [if_neg (by omega)]
  show wpAny _ _ (if (xs.length : Int) ≥ 2 ^ 63 then _ else _) _ _ _
  rw [if_neg (by omega)]
  exact wpAny_bind (wpAny_mkInt (wpAny_pure ⟨_, rfl, h _⟩))

theorem dom_update {d : Addr} {f : List Value → List Value} {fa : Array Value → Array Value} (hfa : ∀ l : List Value, fa l.toArray = (f l).toArray) {Q : Unit → Shared → Prop} (D : Has knd s.heap d (.dom dx xs))
    (h : ∀ h', Heap.SameBut d s.heap h' → Has knd h' d (.dom dx (f xs)) → Q () { s with heap := h' }) (b0 : xs.length ≤ 100000) (b1 : (f xs).length ≤ 100000) : wpAny (model prog w) A (Builtin.List.listUpdate (.ref d) fa) Q E s := by
  obtain ⟨o, ho, n, rfl⟩ := D
  have e : ∃ m, Obj.mapSeq fa (domO dx xs n) = domO dx (f xs) m := by
    refine ⟨if (fa xs.toArray).size == xs.toArray.size then n else n + 1, ?_⟩
    show (⟨_, _, .seq (fa xs.toArray) _, _⟩ : Obj) = _
    rw [hfa]
  obtain ⟨m, e⟩ := e
  unfold Builtin.List.listUpdate
  refine wpAny_updateSeq ho rfl (h _ (Heap.SameBut.update ..) ⟨_, ?_, m, rfl⟩) (by rw [List.size_toArray, sizeLine_eq]; omega) (by rw [hfa, List.size_toArray, sizeLine_eq]; omega)
  rw [Heap.get?_update_self _ ho (by rw [e]; rfl), e]

theorem dom_items {Q : Array Value → Shared → Prop} (D : Has knd s.heap d (.dom dx xs)) (h : Q xs.toArray s) : wpAny (model prog w) A (Builtin.List.listItems (.ref d)) Q E s := by
  obtain ⟨o, ho, n, rfl⟩ := D
  unfold Builtin.List.listItems
  exact wpAny_bind (wpAny_seqItems ho rfl (wpAny_pure h))
theorem lst_items {a : Addr} {Q : Array Value → Shared → Prop} (D : Has knd s.heap a (.lst xs)) (h : Q xs.toArray s) : wpAny (model prog w) A (Builtin.List.listItems (.ref a)) Q E s := by
  obtain ⟨o, ho, n, rfl⟩ := D
  unfold Builtin.List.listItems
  exact wpAny_bind (wpAny_seqItems ho rfl (wpAny_pure h))

/-- d.extend(l), l a plain list -/
theorem dom_extend {a : Addr} {ys : List Value} {Q : Value → Shared → Prop} (X : (KK w.params).In s.heap) (D : Has knd s.heap d (.dom dx xs)) (Y : Has knd s.heap a (.lst ys)) (hz : xs.length + ys.length < 100000)
    (h : ∀ h', Heap.SameBut d s.heap h' → Has knd h' d (.dom dx (xs ++ ys)) → Q .none { s with heap := h' }) : wpAny (model prog w) A (call (.builtin "list.extend") [.ref d, .ref a]) Q E s := by
  refine dom_call (knd := knd) X D (n := "extend") (by decide +kernel) (.inr (by decide +kernel)) (by decide +kernel) F.entry_list_extend (F.args_list_extend_2 _ _) ?_
  unfold Builtin.«list.extend» Builtin.List.listExtendWith
  refine wpAny_bind (wpAny_pure ?_)
  refine wpAny_bind (m := typeOf (.ref a)) ?_
  obtain ⟨oa, hoa, na, rfl⟩ := id Y
  refine wpAny_bind (wpAny_load hoa (wpAny_pure ?_))
  dsimp only
  rw [if_pos (by simp)]
  refine wpAny_bind (lst_items Y (wpAny_bind (dom_items D ?_)))
  rw [if_neg (by simp [Builtin.List.listTooLong, sizeLine_eq]; intro _; omega)]
  refine wpAny_bind (dom_update (f := fun l => l ++ ys) (fun l => by simp) D (fun h' hs hd => ?_) (by omega) (by rw [List.length_append]; omega))
  exact wpAny_pure (h h' hs hd)

theorem entry_remove_loop : entryFor table "list.remove.loop" = some Builtin.«list.remove.loop» := entryFor_of_fast (by kernel_rfl)
theorem eraseIdx_mid {α : Type} (pre : List α) (v : α) (post : List α) : (pre ++ v :: post).eraseIdx pre.length = pre ++ post := by
  induction pre with
  | nil => rfl
  | cons x pre ih => simpa using ih
theorem dom_remove_loop {pre post : List Value} {k : Int} {t : Tok} {R : Result → Shared → Prop} (hp : ∀ v ∈ pre, ∃ j u, v = .int j u ∧ j ≠ k) (hz : (pre ++ .int k t :: post).length ≤ 1000)
    (D : Has knd s.heap d (.dom dx (pre ++ .int k t :: post)))
    (h : ∀ h', Heap.SameBut d s.heap h' → Has knd h' d (.dom dx (pre ++ post)) → R (.ok (.ret .none)) { s with heap := h' }) :
    ∀ n i, n + i = pre.length → codeAny (model prog w) A (.builtin "list.remove.loop" ⟨[.ref d, .int k t, .int (i : Nat) 0], []⟩) R s := by
  intro n
  induction n with
  | zero =>
    intro i hi
    refine codeAny_builtin entry_remove_loop ?_
    unfold Builtin.«list.remove.loop»
    dsimp only
    refine wpAny_bind (dom_items D ?_)
    have e : (pre ++ Value.int k t :: post).toArray[(i : Int).toNat]? = some (.int k t) := by simp; rw [show i = pre.length by omega]; simp
    rw [e]
    dsimp only
    refine wpAny_bind (wpAny_eqBool_int ?_)
    rw [show (k == k) = true by simp, if_pos rfl]
    refine wpAny_bind (dom_update (f := fun l => l.eraseIdx i) (fun l => by rw [List.eraseIdxIfInBounds_toArray, Int.toNat_natCast]) D (fun h' hs hd => ?_) (by omega) ?_)
    · rw [show i = pre.length by omega] at hd
      rw [eraseIdx_mid] at hd
      exact wpAny_pure (h h' hs hd)
    · have := List.length_eraseIdx_le (pre ++ Value.int k t :: post) i; omega
  | succ n ih =>
    intro i hi
    refine codeAny_builtin entry_remove_loop ?_
    unfold Builtin.«list.remove.loop»
    dsimp only
    refine wpAny_bind (dom_items D ?_)
    have hlt : i < pre.length := by omega
    obtain ⟨j, u, e1, hj⟩ := hp pre[i] (List.getElem_mem hlt)
    have e : (pre ++ Value.int k t :: post).toArray[(i : Int).toNat]? = some (.int j u) := by
      simp only [Int.toNat_natCast, List.getElem?_toArray]
      rw [List.getElem?_append_left hlt, List.getElem?_eq_getElem hlt, e1]
    rw [e]
    dsimp only
    refine wpAny_bind (wpAny_eqBool_int ?_)
    rw [show (j == k) = false by simp [hj], if_neg (by decide)]
    exact wpAny_pure ⟨Code.quiet_builtin _ (by decide +kernel), ih (i + 1) (by omega)⟩
theorem dom_remove {pre post : List Value} {k : Int} {t : Tok} {Q : Value → Shared → Prop} (X : (KK w.params).In s.heap) (hp : ∀ v ∈ pre, ∃ j u, v = .int j u ∧ j ≠ k) (hz : (pre ++ .int k t :: post).length ≤ 1000)
    (D : Has knd s.heap d (.dom dx (pre ++ .int k t :: post)))
    (h : ∀ h', Heap.SameBut d s.heap h' → Has knd h' d (.dom dx (pre ++ post)) → Q .none { s with heap := h' }) : wpAny (model prog w) A (call (.builtin "list.remove") [.ref d, .int k t]) Q E s := by
  refine dom_call (knd := knd) X D (n := "remove") (by decide +kernel) (.inr (by decide +kernel)) (by decide +kernel) F.entry_list_remove (F.args_list_remove_2 _ _) ?_
  unfold Builtin.«list.remove»
  refine wpAny_bind (wpAny_pure ?_)
  exact wpAny_pure ⟨Code.quiet_builtin _ (by decide +kernel), dom_remove_loop (knd := knd) hp hz D (fun h' hs hd => h h' hs hd) pre.length 0 rfl⟩

end
end Csp
end
section
open PySem PySem.W PySem.Calls PyProof.Rows
set_option Elab.async false
set_option maxRecDepth 100000
set_option maxHeartbeats 400000
namespace Csp
section
variable {prog : Program} {w : World} {K : Type} [DecidableEq K] {knd : KeyKind prog w K} {A : Around} {E : Value → Shared → Prop} {s : Shared} {d dx : Addr} {xs : List Value} {at_ : List (Str × Value)}

theorem dom_len_body {Q : Value → Shared → Prop} (X : (KK w.params).In s.heap) (D : Has knd s.heap d (.dom dx xs)) (hz : xs.length < 1000) (h : ∀ t, Q (.int xs.length t) { s with toks := s.toks + 2 }) : wpAny (model prog w) A (Builtin.«len» ⟨[.ref d], []⟩) (fun fin s' => ∃ v, fin = .done (.ret v) ∧ Q v s') E s := by
  unfold Builtin.«len»
  refine wpAny_bind (m := oneArg "len" _) (wpAny_pure ?_)
  refine wpAny_bind (m := callSpecial? (.ref d) (Str.ofString "__len__")) (dom_special X D (by kernel_rfl) F.slot_list_len.bind (dom_lenB X D ?_))
  refine wpAny_bind (wpAny_holding (wpAny_pure ?_))
  refine wpAny_bind (wpAny_letGo ?_)
  show wpAny _ _ (if (xs.length : Int) < 0 then _ else _) _ _ _
  rw [if_neg (by omega)]
  show wpAny _ _ (if (xs.length : Int) ≥ 2 ^ 63 then _ else _) _ _ _
  rw [if_neg (by omega)]
  exact wpAny_bind (wpAny_mkInt (wpAny_pure ⟨_, rfl, h _⟩))

theorem dom_truthy {Q : Bool → Shared → Prop} (X : (KK w.params).In s.heap) (D : Has knd s.heap d (.dom dx xs)) (hz : xs.length < 1000) (h : Q (!xs.isEmpty) { s with toks := s.toks + 2 }) : wpAny (model prog w) A (truthy (.ref d)) Q E s := by
  have lb := looks_findIn (M := model prog w) X (show findIn (KK w.params) (.ref 303) "__bool__" = some none by kernel_rfl)
  have ll := looks_findIn (M := model prog w) X (show findIn (KK w.params) (.ref 303) "__len__" = some (some (.builtin "list.__len__")) by kernel_rfl)
  unfold truthy
  dsimp only
  refine wpAny_bind (wpAny_bind (wpAny_bind ((dom_type D).here (lb.here (wpAny_pure ?_)))))
  dsimp only
  refine wpAny_bind (wpAny_bind ((dom_type D).here (ll.here ?_)))
  rw [if_neg (by simp)]
  refine wpAny_bind (wpAny_runValue (codeAny_builtin entry_len ?_))
  rw [Around.under_plainId plain_len _]
  refine wpAny_mono (dom_len_body (Q := fun v s' => ∃ t, v = .int xs.length t ∧ s' = { s with toks := s.toks + 2 }) X D hz fun t => ⟨t, rfl, rfl⟩) (fun fin s' h' => ?_) fun _ _ e => e
  obtain ⟨v, rfl, t, rfl, rfl⟩ := h'
  refine wpAny_pure ?_
  have e : (((xs.length : Nat) : Int) != 0) = !xs.isEmpty := by cases xs <;> simp <;> omega
  rw [e]; exact h

/-- d[:] -/
theorem dom_seqKey {k : Value} {name : Str} {Q : Value → Shared → Prop} (X : (KK w.params).In s.heap) (D : Has knd s.heap d (.dom dx xs)) (h : Q k s) : wpAny (model prog w) A (sequenceKey (.ref d) k name) Q E s := by
  have lm := looks_mroIn (M := model prog w) X (show mroIn (KK w.params) 303 (.type "collections.deque") = some false by kernel_rfl)
  unfold sequenceKey
  refine wpAny_bind ((dom_type D).here ?_)
  have e : (seqItemTypes.anyM fun n => isSubtype (.ref 303) (.type n)) = (isSubtype (.ref 303) (.type "collections.deque") >>= fun b => if b then pure true else pure false) := by
    unfold seqItemTypes; rw [List.anyM_cons]; rfl
  dsimp only
  rw [e]
  refine wpAny_bind (wpAny_bind (lm.here ?_))
  exact wpAny_pure (wpAny_pure h)
theorem dom_getSlice {sl : Addr} {vl vu vs : Value} {lo hi st : Option Int} {Q : Value → Shared → Prop} (X : (KK w.params).In s.heap) (D : Has knd s.heap d (.dom dx xs))
    (hs : s.heap.IsSliceOf sl vl vu vs) (pl : IsPart vl lo) (pu : IsPart vu hi) (ps : IsPart vs st) (h0 : st ≠ some 0) (hz : xs.length < 1000)
    (h : Q (.ref s.heap.objs.size) { s with heap := s.heap.push { cls := .type "list", data := .seq (slicePick xs.toArray lo hi st) } }) : wpAny (model prog w) A (getItem (.ref d) (.ref sl)) Q E s := by
  obtain ⟨os, hos, hcs, hds⟩ := id hs
  have hTs : s.TypeIs (.ref sl) "slice" := ⟨os, hos, hcs⟩
  unfold getItem
  refine wpAny_holding (wpAny_bind (dom_seqKey X D ?_))
  refine wpAny_bind (dom_special X D (by kernel_rfl) F.slot_list_getitem.bind ?_)
  refine dom_call (knd := knd) X D (n := "__getitem__") (by decide +kernel) (.inr (by decide +kernel)) (by decide +kernel) F.entry_list_getitem (F.args_list_getitem_2 _ _) ?_
  unfold Builtin.«list.__getitem__»
  refine wpAny_bind (wpAny_pure ?_)
  refine wpAny_bind ?_
  · unfold Builtin.List.listSubscript?
    refine wpAny_bind (wpAny_specialOf hTs slice_no_index ?_)
    simp only [Option.isNone_none, if_true]
    refine wpAny_pure ?_
    dsimp only
    refine wpAny_bind (wpAny_typeOf hTs ?_)
    rw [if_neg (by decide)]
    rw [listSliceParts_eq]
    have hstep : ¬ ((rawPart st == rawInt 0) = true) := by
      cases st with
      | none => exact Bool.false_ne_true
      | some c =>
        intro hh
        have : c = 0 := by simpa [rawPart, rawInt] using hh
        exact h0 (by rw [this])
    refine wpAny_bind (wpAny_bind (wpAny_field hos hds (x := vs) rfl (wpAny_bind (wpAny_listPart ps ?_))))
    rw [if_neg hstep]
    refine wpAny_bind (wpAny_field hos hds (x := vl) rfl (wpAny_bind (wpAny_listPart pl ?_)))
    refine wpAny_bind (wpAny_field hos hds (x := vu) rfl (wpAny_bind (wpAny_listPart pu (wpAny_pure ?_))))
    refine wpAny_bind (dom_items D ?_)
    refine wpAny_bind (wpAny_of_eq (sliceIndices_raw lo hi st xs.toArray.size h0) ?_)
    exact wpAny_bind (wpAny_newObj_type (wpAny_pure (wpAny_pure h)) (Nat.le_trans (slicePick_size_le xs.toArray lo hi st) (by rw [List.size_toArray, sizeLine_eq]; omega)))

theorem dom_notPy {Q : Bool → Shared → Prop} (X : (KK w.params).In s.heap) (D : Has knd s.heap d (.dom dx xs)) (h : Q false s) : wpAny (model prog w) A (getitemInPython (.ref d)) Q E s := by
  have ll := looks_findIn (M := model prog w) X (show findIn (KK w.params) (.ref 303) "__getitem__" = some (some (.builtin "list.__getitem__")) by kernel_rfl)
  unfold getitemInPython specialOf
  exact wpAny_bind (wpAny_bind ((dom_type D).here (ll.here (wpAny_pure h))))

theorem dom_iter {Q : Value → Shared → Prop} (X : (KK w.params).In s.heap) (D : Has knd s.heap d (.dom dx xs))
    (hQ : Q (.ref s.heap.objs.size) { s with heap := s.heap.push { cls := .type "list_iterator", data := .fields #[.ref d, .int 0 0] } }) : wpAny (model prog w) A (pyIter (.ref d)) Q E s := by
  have ll := looks_findIn (M := model prog w) X (show findIn (KK w.params) (.ref 303) "__iter__" = some (some (.builtin "list.__iter__")) by kernel_rfl)
  have fin : wpAny (model prog w) A (call (.builtin "list.__iter__") [.ref d]) (fun it s' => it = .ref s.heap.objs.size ∧ s' = { s with heap := s.heap.push { cls := .type "list_iterator", data := .fields #[.ref d, .int 0 0] } }) E s := by
    refine dom_call (knd := knd) X D (n := "__iter__") (by decide +kernel) (.inl (by decide +kernel)) (by decide +kernel) F.entry_list_iter (F.args_list_iter_1 _) ?_
    unfold Builtin.«list.__iter__»
    refine wpAny_bind (wpAny_pure ?_)
    exact wpAny_bind (wpAny_newObj_type (wpAny_pure ⟨rfl, rfl⟩))
  unfold pyIter
  refine wpAny_bind (wpAny_bind ((dom_type D).here (ll.here ?_)))
  dsimp only
  refine wpAny_bind ?_
  simp only [callSpecialIfBoundUnlessNone?, bindSpecialIfBound?, specialOf]
  refine wpAny_holding (wpAny_bind (wpAny_bind (wpAny_bind ((dom_type D).here (ll.here ?_)))))
  dsimp only
  simp only [F.slot_list_iter.bind]
  refine wpAny_bind (wpAny_askSetting (wpAny_ite ?_))
  have fin2 : wpAny (model prog w) A (call (.builtin "list.__iter__") [.ref d] >>= fun v => pure (some v)) (fun a s' => wpAny (model prog w) A
        (match a with
        | some it => specialOf it "__next__" >>= fun __do_lift => match __do_lift with
            | none => do rule "iter.non-iterator"; raiseError "TypeError" s!"iter() returned non-iterator of type '{← typeNameOf it}'"
            | some _ => pure it
        | none => bindSpecialIfBound? (.ref d) "__getitem__" >>= fun __do_lift => match __do_lift with
            | none => do rule "iter.not-iterable"; raiseError "TypeError" s!"'{← typeNameOf (.ref d)}' object is not iterable"
            | some _ => do rule "iter.getitem-fallback"; newFields "iterator" [.ref d, ← mkInt 0]) Q E s') E s := by
    refine wpAny_bind (wpAny_mono fin (fun it s' h' => ?_) fun _ _ e => e)
    obtain ⟨rfl, rfl⟩ := h'
    refine wpAny_pure ?_
    dsimp only
    exact wpAny_bind (wpAny_specialOf (T := "list_iterator") ⟨_, Heap.get?_push_size _ rfl, rfl⟩ slot_listiter_next.lookup (wpAny_pure hQ))
  split
  · exact wpAny_bind (wpAny_pure (wpAny_pure fin2))
  · exact wpAny_tryCatch (wpAny_bind (wpAny_pure (wpAny_pure fin2)))

/-- the iterator of a list, or of a list's kind -/
structure SeqAt (h : Heap) (l : Addr) (items : List Value) : Prop where
  e : ∃ o n, h.get? l = some o ∧ o.data = .seq items.toArray n
theorem SeqAt.dom {h : Heap} (D : Has knd h d (.dom dx xs)) : SeqAt h d xs := by obtain ⟨o, ho, n, rfl⟩ := D; exact ⟨_, n, ho, rfl⟩
theorem SeqAt.lst {h : Heap} {a : Addr} (D : Has knd h a (.lst xs)) : SeqAt h a xs := by obtain ⟨o, ho, n, rfl⟩ := D; exact ⟨_, n, ho, rfl⟩
theorem SeqAt.tup {h : Heap} {a : Addr} (D : Has knd h a (.tup xs)) : SeqAt h a xs := by obtain ⟨o, ho, rfl⟩ := D; exact ⟨_, _, ho, rfl⟩
end
end Csp
end
section
open PySem PySem.W PySem.Calls PyProof.Rows
set_option Elab.async false
set_option maxRecDepth 100000
set_option maxHeartbeats 400000
namespace Csp

structure Kt (cs : Scope) (tbl : List (Str × NameKind)) : Prop where
  kind : cs.kind = .function
  names : ∀ p ∈ tbl, cs.names.lookup p.1 = some p.2 ∧ (p.1 == ("__debug__" : Str)) = false

section
variable {prog : Program} {w : World} {K : Type} [DecidableEq K] {knd : KeyKind prog w K} {A : Around} {E : Value → Shared → Prop} {s : Shared} {M : Model}
  {g : Heap} {R : Side} {L : Addr} {vs vs' : Vars} {l l' : Led K} {cn : Str} {cs : Scope} {a : Addr} {ccd : Value} {cl : List (Str × Addr)} {tbl : List (Str × NameKind)} {x : Str} {pos : Pos} {v : Value}

theorem eL {Q : Value → Shared → Prop} (H : St knd g R L vs l s) (kt : Kt cs tbl) (hx : (x, NameKind.local) ∈ tbl) (hv : (x, v) ∈ vs) (h : Q v s) : wpAny M A (eval (.Name x pos) (envX cn cs L a ccd cl)) Q E s := by
  obtain ⟨m, F, k⟩ := H.F
  exact nameX_L F (k _ hv) h kt.kind (kt.names _ hx).1 (kt.names _ hx).2
theorem eC {c : Addr} {Q : Value → Shared → Prop} (H : St knd g R L vs l s) (kt : Kt cs tbl) (hx : (x, NameKind.cell) ∈ tbl) (hc : cl.lookup x = some c) (hv : (c, Kd.cell (some v)) ∈ l) (h : Q v s) : wpAny M A (eval (.Name x pos) (envX cn cs L a ccd cl)) Q E s := by
  obtain ⟨o, ho, hd⟩ := H.has hv
  exact wpAny_Name (wpAny_loadName_cell kt.kind (kt.names _ hx).1 hc ⟨o, ho, hd⟩ h) (kt.names _ hx).2
theorem eF {c : Addr} {Q : Value → Shared → Prop} (H : Has knd s.heap c (.cell (some v))) (kt : Kt cs tbl) (hx : (x, NameKind.free) ∈ tbl) (hc : cl.lookup x = some c) (hn : (x == ("__classdict__" : Str)) = false) (h : Q v s) : wpAny M A (eval (.Name x pos) (envX cn cs L a ccd cl)) Q E s := by
  obtain ⟨o, ho, hd⟩ := H
  exact wpAny_Name (wpAny_loadName_free kt.kind (kt.names _ hx).1 hc ⟨o, ho, hd⟩ h hn) (kt.names _ hx).2
theorem eG {Q : Value → Shared → Prop} (H : St knd g R L vs l s) (B : Bs w g) (kt : Kt cs tbl) (hx : (x, NameKind.globalImplicit) ∈ tbl) (e : nsIn (KK w.params) mainGlobals x = some (some v)) (h : Q v s) : wpAny M A (eval (.Name x pos) (envX cn cs L a ccd cl)) Q E s := by
  obtain ⟨m, F, k⟩ := H.F
  obtain ⟨p, lo, mg, mb, T⟩ := B.T
  exact nameX_K F B.X T e h kt.kind (kt.names _ hx).1 (kt.names _ hx).2
theorem eB {Q : Value → Shared → Prop} (H : St knd g R L vs l s) (B : Bs w g) (kt : Kt cs tbl) (hx : (x, NameKind.globalImplicit) ∈ tbl) (e : nsIn (KK w.params) mainGlobals x = some none) (hv : bootBuiltins x = some v) (hn : x ≠ "__name__") (h : Q v s) : wpAny M A (eval (.Name x pos) (envX cn cs L a ccd cl)) Q E s := by
  obtain ⟨m, F, k⟩ := H.F
  obtain ⟨p, lo, mg, mb, T⟩ := B.T
  exact nameX_B F B.X T e hv hn h kt.kind (kt.names _ hx).1 (kt.names _ hx).2

theorem eInt {env : Env} {i : Int} {k : Nat} {Q : Value → Shared → Prop} (H : St knd g R L vs l s) (h : ∀ t s', St knd g R L vs l s' → Q (.int i t) s') : wpAny M A (eval (.Constant (.int i) k pos) env) Q E s :=
  wpAny_Constant_int (h _ _ (H.tok _))
theorem eStr {env : Env} {i : Str} {k : Nat} {Q : Value → Shared → Prop} (H : St knd g R L vs l s) (h : ∀ t s', St knd g R L vs l s' → Q (.str i t) s') : wpAny M A (eval (.Constant (.str i) k pos) env) Q E s :=
  Constant_str (h _ _ (H.tok _))
theorem eBool {env : Env} {b : Bool} {k : Nat} {Q : Value → Shared → Prop} (h : Q (.bool b) s) : wpAny M A (eval (.Constant (.bool b) k pos) env) Q E s := fun _ _ _ => h
theorem eNone {env : Env} {k : Nat} {Q : Value → Shared → Prop} (h : Q .none s) : wpAny M A (eval (.Constant .none k pos) env) Q E s := fun _ _ _ => h

theorem sL {Q : Unit → Shared → Prop} (H : St knd g R L vs l s) (kt : Kt cs tbl) (hx : (x, NameKind.local) ∈ tbl) (r : Rm x vs vs') (h : ∀ s', St knd g R L ((x, v) :: vs') l s' → Q () s') : wpAny M A (storeName (envX cn cs L a ccd cl) x v) Q E s := by
  obtain ⟨m, F, k⟩ := H.F
  exact wpAny_storeName_local (env := envX cn cs L a ccd cl) (kt.names _ hx).1 F.ns (fun h' hn hs => h _ (H.stored r F k hn hs)) (by show (cs.kind == .class || (cs.kind == .module && L != mainGlobals)) = false; rw [kt.kind]; rfl)
theorem sC {c : Addr} {v₀ : Option Value} {Q : Unit → Shared → Prop} (H : St knd g R L vs l s) (kt : Kt cs tbl) (hx : (x, NameKind.cell) ∈ tbl) (hc : cl.lookup x = some c) (U : Up c (Kd.cell v₀) (.cell (some v)) l l') (h : ∀ s', St knd g R L vs l' s' → Q () s') : wpAny M A (storeName (envX cn cs L a ccd cl) x v) Q E s := by
  obtain ⟨o, ho, hd⟩ := H.has U.mem
  refine wpAny_storeName_cell kt.kind (kt.names _ hx).1 hc ⟨o, ho, hd⟩ fun h' hv hs => h _ (H.put U hs ?_)
  obtain ⟨o', ho', hd'⟩ := hv
  exact ⟨o', ho', hd'⟩

theorem callW {k : Keeper} {f : Value} {first : List Value} {args : List (Bool × Sem Value)} {kws : List (Option Str × Sem Value)} {Q : Value → Shared → Prop} (hp : (args.any (·.1) || kws.any (·.1.isNone)) = false)
    (h : wpAny M A (evalArgs f true args kws) (fun a s₁ => Looks M s₁.heap (keeperOf f) k ∧ wpAny M A (call f (first ++ a.pos) a.kw) Q E s₁) E s) : wpAny M A (callWith pos f first args kws) Q E s := by
  unfold callWith
  refine wpAny_bind (wpAny_holding (wpAny_mono h (fun a s₁ h₁ => wpAny_bind (wpAny_standAt ?_)) fun _ _ x => x))
  simp only [hp]
  refine wpAny_bind (h₁.1.here ?_)
  have tail : ∀ {t : Sem Value}, wpAny M A t Q E s₁ → wpAny M A (t >>= fun r => holding [r] point >>= fun _ => pure r) Q E s₁ :=
    fun ht => wpAny_bind (wpAny_mono ht (fun r s₂ hr => wpAny_bind (wpAny_holding (wpAny_point (wpAny_pure hr)))) fun _ _ x => x)
  have marked (mk : Value) : wpAny M A (callMarked mk f (first ++ a.pos) a.kw) Q E s₁ := by unfold callMarked; exact Calls.wpAny_keep h₁.2
  have oper (ops : List Value) : wpAny M A (operate ops (call f (first ++ a.pos) a.kw)) Q E s₁ := wpAny_operating h₁.2
  cases k <;> dsimp only <;> first | exact tail h₁.2 | exact tail (oper _) | (split <;> first | exact tail h₁.2 | exact tail (marked _))

theorem keep_bi {h : Heap} {i : String} : Looks M h (keeperOf (.builtin i)) .machine := Looks.of_pure rfl
theorem keep_ty {h : Heap} {i : String} : Looks M h (keeperOf (.type i)) .machine := Looks.of_pure rfl
theorem keep_fn {h : Heap} {f : Addr} {o : Obj} {fd : FuncData} (ho : h.get? f = some o) (hd : o.data = .func fd) : Looks M h (keeperOf (.ref f)) .frame := by
  refine (Looks.ld (part := none) ho).andThen ?_
  rw [hd]; exact .now
theorem keep_inst {h : Heap} {f : Addr} {o : Obj} (ho : h.get? f = some o) (hd : o.data = .plain) : Looks M h (keeperOf (.ref f)) .caller := by
  refine (Looks.ld (part := none) ho).andThen ?_
  rw [hd]; exact .now

/-- a call of what needs no look -/
theorem callBi {env : Env} {f : Value} {first : List Value} {e : Expr} {rest : List Expr} {Q : Value → Shared → Prop} (hf : ∃ i, f = .builtin i ∨ f = .type i)
    (h : wpAny M A (spliced (backTo pos (starEach (e :: rest) env))) (fun ws s₁ => wpAny M A (call f (first ++ ws)) Q E s₁) E s)
    (he : starEach (e :: rest) env = (false, eval e env) :: starEach rest env) (hp : (backTo pos (starEach rest env)).any (·.1) = false) : wpAny M A (callWith pos f first (backTo pos (starEach (e :: rest) env)) []) Q E s := by
  obtain ⟨i, hf⟩ := hf
  rw [he] at h ⊢
  refine callW (k := .machine) (by show ((false || (backTo pos (starEach rest env)).any (·.1)) || false) = false; rw [hp]; rfl) (evalArgs_plain (wpAny_mono h (fun ws s' h' => ⟨?_, h'⟩) fun _ _ z => z))
  rcases hf with rfl | rfl
  · exact keep_bi
  · exact keep_ty
theorem callBi0 {env : Env} {f : Value} {first : List Value} {Q : Value → Shared → Prop} (hf : ∃ i, f = .builtin i ∨ f = .type i)
    (h : wpAny M A (call f (first ++ [])) Q E s) : wpAny M A (callWith pos f first (backTo pos (starEach [] env)) []) Q E s := by
  obtain ⟨i, hf⟩ := hf
  refine callW (k := .machine) rfl (evalArgs_nil3 ⟨?_, h⟩)
  rcases hf with rfl | rfl
  · exact keep_bi
  · exact keep_ty
/-- a call of a def -/
theorem callFn {env : Env} {f : Addr} {first : List Value} {e : Expr} {rest : List Expr} {Q : Value → Shared → Prop} {o : Obj} {fd : FuncData} (hd : o.data = .func fd)
    (h : wpAny M A (spliced (backTo pos (starEach (e :: rest) env))) (fun ws s₁ => s₁.heap.get? f = some o ∧ wpAny M A (call (.ref f) (first ++ ws)) Q E s₁) E s)
    (he : starEach (e :: rest) env = (false, eval e env) :: starEach rest env) (hp : (backTo pos (starEach rest env)).any (·.1) = false) : wpAny M A (callWith pos (.ref f) first (backTo pos (starEach (e :: rest) env)) []) Q E s := by
  rw [he] at h ⊢
  exact callW (k := .frame) (by show ((false || (backTo pos (starEach rest env)).any (·.1)) || false) = false; rw [hp]; rfl) (evalArgs_plain (wpAny_mono h (fun ws s' h' => ⟨keep_fn h'.1 hd, h'.2⟩) fun _ _ z => z))
theorem callFn0 {env : Env} {f : Addr} {first : List Value} {Q : Value → Shared → Prop} {o : Obj} {fd : FuncData} (ho : s.heap.get? f = some o) (hd : o.data = .func fd)
    (h : wpAny M A (call (.ref f) (first ++ [])) Q E s) : wpAny M A (callWith pos (.ref f) first (backTo pos (starEach [] env)) []) Q E s :=
  callW (k := .frame) rfl (evalArgs_nil3 ⟨keep_fn ho hd, h⟩)

theorem mLst {name : Str} {id : String} {pl : Sem Bool} {xs : List Value} {Q : Value × List Value → Shared → Prop} (S : Has knd s.heap a (.lst xs)) (slot : Slot "list" name id) (hty : typeOf (.builtin id) = pure (.type "method_descriptor"))
    (h : Q (.builtin id, [.ref a]) s) : wpAny M A (getMethod (.ref a) name pl) Q E s := by
  obtain ⟨n, ho⟩ := S.plain
  exact getMethod_builtin ⟨_, ho, rfl⟩ PySem.F.plainAttrs_list slot hty (fun b e => by cases e; exact ⟨_, ho, rfl⟩) h
theorem uAppend {xs : List Value} {Q : Value → Shared → Prop} (H : St knd g R L vs l s) (U : Up a (.lst xs) (.lst (xs ++ [v])) l l') (hz : xs.length < 100000) (h : ∀ s', St knd g R L vs l' s' → Q .none s') : wpAny (model prog w) A (call (.builtin "list.append") [.ref a, v]) Q E s :=
  wpAny_list_append_plain (H.has U.mem).plain (fun h' hp hs => h _ (H.put U hs (Has.ofPlain (by simpa using hp)))) (by rw [List.size_toArray, sizeLine_eq]; omega)
theorem eDomAttr {d dx : Addr} {xs : List Value} {al : List (Str × Value)} {name : Str} {expr : Bool} {Q : Value → Shared → Prop} (H : St knd g R L vs l s) (B : Bs w g) (hd : Has knd s.heap d (.dom dx xs)) (hx : Has knd s.heap dx (.att al)) (hv : al.lookup name = some v) (hf : findIn (KK w.params) (.ref 303) name = some none) (hh : handedIn v = true)
    (h : ∀ s', St knd g R L vs l s' → Q v s') : wpAny (model prog w) A (getAttr (.ref d) name expr) Q E s := by
  obtain ⟨m, F, _⟩ := H.F
  exact dom_get (B.X.keeps F.keep) ⟨hd, hx⟩ hv hf hh (h _ (H.tok _))
theorem cDomLen {d dx : Addr} {xs : List Value} {Q : Value → Shared → Prop} (H : St knd g R L vs l s) (B : Bs w g) (hd : Has knd s.heap d (.dom dx xs)) (hz : xs.length < 1000)
    (h : ∀ t s', St knd g R L vs l s' → Q (.int xs.length t) s') : wpAny (model prog w) A (call (.builtin "len") [.ref d]) Q E s := by
  obtain ⟨m, F, _⟩ := H.F
  exact dom_len (B.X.keeps F.keep) hd hz fun t => h t _ (H.tok _)

/-- facts of the text's names -/
def IsB (x : Str) (v : Value) : Prop := (∀ P, nsIn (KK P) mainGlobals x = some none) ∧ bootBuiltins x = some v ∧ x ≠ "__name__"
def IsG (x : Str) (v : Value) : Prop := ∀ P, nsIn (KK P) mainGlobals x = some (some v)
theorem eB' {Q : Value → Shared → Prop} (H : St knd g R L vs l s) (B : Bs w g) (kt : Kt cs tbl) (hx : (x, NameKind.globalImplicit) ∈ tbl) (e : IsB x v) (h : Q v s) : wpAny M A (eval (.Name x pos) (envX cn cs L a ccd cl)) Q E s :=
  eB H B kt hx (e.1 _) e.2.1 e.2.2 h
theorem eG' {Q : Value → Shared → Prop} (H : St knd g R L vs l s) (B : Bs w g) (kt : Kt cs tbl) (hx : (x, NameKind.globalImplicit) ∈ tbl) (e : IsG x v) (h : Q v s) : wpAny M A (eval (.Name x pos) (envX cn cs L a ccd cl)) Q E s :=
  eG H B kt hx (e _) h

theorem mkC {f : Value} {first : List Value} {args : List (Bool × Sem Value)} {kws : List (Option Str × Sem Value)} {Q : Value → Shared → Prop} (h : wpAny M A (callWith pos f first args kws) Q E s) : wpAny M A (callWith pos (f, first).1 (f, first).2 args kws) Q E s := h
theorem callBi1 {env : Env} {i : String} {r : Value} {e : Expr} {rest : List Expr} {Q : Value → Shared → Prop}
    (h : wpAny M A (spliced (backTo pos (starEach (e :: rest) env))) (fun ws s₁ => wpAny M A (call (.builtin i) (r :: ws)) Q E s₁) E s)
    (he : starEach (e :: rest) env = (false, eval e env) :: starEach rest env := by rfl) (hp : (backTo pos (starEach rest env)).any (·.1) = false := by rfl) : wpAny M A (callWith pos (.builtin i) [r] (backTo pos (starEach (e :: rest) env)) []) Q E s := callBi ⟨i, .inl rfl⟩ h he hp
theorem callBi2 {env : Env} {i : String} {e : Expr} {rest : List Expr} {Q : Value → Shared → Prop}
    (h : wpAny M A (spliced (backTo pos (starEach (e :: rest) env))) (fun ws s₁ => wpAny M A (call (.builtin i) ws) Q E s₁) E s)
    (he : starEach (e :: rest) env = (false, eval e env) :: starEach rest env := by rfl) (hp : (backTo pos (starEach rest env)).any (·.1) = false := by rfl) : wpAny M A (callWith pos (.builtin i) [] (backTo pos (starEach (e :: rest) env)) []) Q E s := callBi ⟨i, .inl rfl⟩ h he hp
theorem callTy2 {env : Env} {i : String} {e : Expr} {rest : List Expr} {Q : Value → Shared → Prop}
    (h : wpAny M A (spliced (backTo pos (starEach (e :: rest) env))) (fun ws s₁ => wpAny M A (call (.type i) ws) Q E s₁) E s)
    (he : starEach (e :: rest) env = (false, eval e env) :: starEach rest env := by rfl) (hp : (backTo pos (starEach rest env)).any (·.1) = false := by rfl) : wpAny M A (callWith pos (.type i) [] (backTo pos (starEach (e :: rest) env)) []) Q E s := callBi ⟨i, .inr rfl⟩ h he hp
theorem callBi10 {env : Env} {i : String} {r : Value} {Q : Value → Shared → Prop} (h : wpAny M A (call (.builtin i) [r]) Q E s) : wpAny M A (callWith pos (.builtin i) [r] (backTo pos (starEach [] env)) []) Q E s := callBi0 ⟨i, .inl rfl⟩ h
/-- a def of the text, called -/
theorem callK1 {env : Env} {f : Addr} {r : Value} {o : Obj} {fd : FuncData} {e : Expr} {rest : List Expr} {Q : Value → Shared → Prop} (hf : (KK w.params).lookup f = some o) (hd : o.data = .func fd)
    (h : wpAny M A (spliced (backTo pos (starEach (e :: rest) env))) (fun ws s₁ => (KK w.params).In s₁.heap ∧ wpAny M A (call (.ref f) (r :: ws)) Q E s₁) E s)
    (he : starEach (e :: rest) env = (false, eval e env) :: starEach rest env := by rfl) (hp : (backTo pos (starEach rest env)).any (·.1) = false := by rfl) : wpAny M A (callWith pos (.ref f) [r] (backTo pos (starEach (e :: rest) env)) []) Q E s :=
  callFn hd (wpAny_mono h (fun ws s' h' => ⟨h'.1 _ _ hf, h'.2⟩) fun _ _ z => z) he hp
theorem callK10 {env : Env} {f : Addr} {r : Value} {o : Obj} {fd : FuncData} {Q : Value → Shared → Prop} (hf : (KK w.params).lookup f = some o) (hd : o.data = .func fd) (X : (KK w.params).In s.heap)
    (h : wpAny M A (call (.ref f) [r]) Q E s) : wpAny M A (callWith pos (.ref f) [r] (backTo pos (starEach [] env)) []) Q E s := callFn0 (X _ _ hf) hd h
theorem St.X (H : St knd g R L vs l s) (B : Bs w g) : (KK w.params).In s.heap := let ⟨_, F, _⟩ := H.F; B.X.keeps F.keep
end
end Csp
end
section
open PySem PySem.W PySem.Calls PyProof.Rows
set_option Elab.async false
set_option maxRecDepth 100000
set_option maxHeartbeats 400000
namespace Csp
section
variable {prog : Program} {w : World} {K : Type} [DecidableEq K] {knd : KeyKind prog w K} {A : Around} {E : Value → Shared → Prop} {s : Shared} {M : Model}
  {g : Heap} {R : Side} {L : Addr} {vs vs' : Vars} {l l' : Led K} {cn : Str} {cs : Scope} {a : Addr} {ccd : Value} {cl : List (Str × Addr)} {tbl : List (Str × NameKind)} {x : Str} {pos : Pos} {v : Value} {xs : List Value}

theorem lst_update {f : List Value → List Value} {fa : Array Value → Array Value} (hfa : fa xs.toArray = (f xs).toArray) {Q : Unit → Shared → Prop} (D : Has knd s.heap a (.lst xs))
    (h : ∀ h', Heap.SameBut a s.heap h' → Has knd h' a (.lst (f xs)) → Q () { s with heap := h' }) (b0 : xs.length ≤ 100000) (b1 : (f xs).length ≤ 100000) : wpAny (model prog w) A (Builtin.List.listUpdate (.ref a) fa) Q E s := by
  obtain ⟨o, ho, n, rfl⟩ := D
  have e : ∃ m, Obj.mapSeq fa (lstO xs n) = lstO (f xs) m := by
    refine ⟨if (fa xs.toArray).size == xs.toArray.size then n else n + 1, ?_⟩
    show (⟨_, _, .seq (fa xs.toArray) _, _⟩ : Obj) = _
    rw [hfa]
  obtain ⟨m, e⟩ := e
  unfold Builtin.List.listUpdate
  refine wpAny_updateSeq ho rfl (h _ (Heap.SameBut.update ..) ⟨_, ?_, m, rfl⟩) (by rw [List.size_toArray, sizeLine_eq]; omega) (by rw [hfa, List.size_toArray, sizeLine_eq]; omega)
  rw [Heap.get?_update_self _ ho (by rw [e]; rfl), e]

theorem lst_type (D : Has knd s.heap a (.lst xs)) : s.TypeIs (.ref a) "list" := D.list.typeIs

/-- a.pop() -/
theorem uPop {Q : Value → Shared → Prop} (H : St knd g R L vs l s) (U : Up a (.lst (xs ++ [v])) (.lst xs) l l') (hz : xs.length < 90000) (h : ∀ s', St knd g R L vs l' s' → Q v s') : wpAny (model prog w) A (call (.builtin "list.pop") [.ref a]) Q E s := by
  have D := H.has U.mem
  refine wpAny_call_entry F.slot_list_pop (lst_type D) F.entry_list_pop ?_ (F.args_list_pop_1 _)
  unfold Builtin.«list.pop»
  refine wpAny_bind (wpAny_pure ?_)
  dsimp only
  refine wpAny_bind (wpAny_pure ?_)
  rw [if_neg (by decide)]
  refine wpAny_bind (lst_items D ?_)
  rw [if_neg (by simp)]
  have e : ((seqIndex? (-1) (xs ++ [v]).toArray.size).bind fun k => (xs ++ [v]).toArray[k]?.map (k, ·)) = some (xs.length, v) := by
    have : seqIndex? (-1) (xs ++ [v]).toArray.size = some xs.length := by
      simp only [List.size_toArray, List.length_append, List.length_cons, List.length_nil, seqIndex?]
      simp only [show ((-1 : Int) < 0) by decide, if_true]
      have e1 : ((-1 : Int) + ((xs.length + (0 + 1) : Nat) : Int)) = (xs.length : Int) := by omega
      rw [e1]
      simp
      omega
    rw [this, Option.bind_some]
    simp
  rw [e]
  dsimp only
  refine wpAny_bind (lst_update (f := fun _ => xs) (by rw [List.eraseIdxIfInBounds_toArray]; simp [List.eraseIdx_append_of_length_le]) D (fun h' hs hd => ?_) (by simp; omega) (by omega))
  exact wpAny_pure ⟨_, rfl, h _ (H.put U hs hd)⟩

/-- the slice statement's parts -/
theorem del_parts {n d : Nat} (h0 : 1 ≤ d) (hd : d ≤ n) : sliceBounds (some (-(d : Int))) none none n = (((n - d : Nat) : Int), (n : Int), 1) := by
  simp only [sliceBounds, Option.getD_none, show (1 : Int) > 0 by decide, if_true]
  rw [if_pos (by omega)]
  congr 1
  omega
theorem all_parts (n : Nat) : sliceBounds none none none n = (((0 : Nat) : Int), (n : Int), 1) := by simp [sliceBounds]
theorem pick_last (l₀ : List Value) {d : Nat} (h0 : 1 ≤ d) (hd : d ≤ l₀.length) : slicePick l₀.toArray (some (-(d : Int))) none none = (l₀.drop (l₀.length - d)).toArray := by
  have e := slicePick_from' l₀.toArray (l₀.length - d)
  unfold slicePick at e ⊢
  rw [List.size_toArray, del_parts h0 hd]
  rw [List.size_toArray] at e
  have e2 : sliceBounds (some ((l₀.length - d : Nat) : Int)) none none l₀.length = (((l₀.length - d : Nat) : Int), (l₀.length : Int), 1) := by
    simp only [sliceBounds, Option.getD_none, show (1 : Int) > 0 by decide, if_true]
    rw [if_neg (by omega)]
    congr 1
    omega
  rw [e2] at e
  exact e
theorem zip_keep {l₀ : List Value} (n k : Nat) (p : Nat → Bool) (hp : ∀ i, p i = decide (n ≤ i ∧ i < k + l₀.length)) :
    ((l₀.zipIdx k).filterMap fun q => if p q.2 = true then none else some q.1) = l₀.take (n - k) := by
  induction l₀ generalizing k with
  | nil => simp
  | cons y l₀ ih =>
    rw [List.zipIdx_cons, List.filterMap_cons]
    dsimp only
    rw [hp k]
    by_cases hk : n ≤ k
    · rw [show n - k = 0 by omega]
      simp only [hk, true_and, List.length_cons]
      rw [decide_eq_true (by omega), if_pos rfl]
      dsimp only
      rw [ih (k + 1) (fun i => by rw [hp i, List.length_cons, show k + (l₀.length + 1) = k + 1 + l₀.length by omega]), show n - (k + 1) = 0 by omega, List.take_zero, List.take_zero]
    · rw [decide_eq_false (by omega), if_neg (by decide)]
      dsimp only
      rw [ih (k + 1) (fun i => by rw [hp i, List.length_cons, show k + (l₀.length + 1) = k + 1 + l₀.length by omega]), show n - k = (n - (k + 1)) + 1 by omega, List.take_succ_cons]

theorem uDelSlice {sl : Addr} {vl vu : Value} {lo hi : Option Int} {m : Nat} {Q : Unit → Shared → Prop} (H : St knd g R L vs l s) (U : Up a (.lst xs) (.lst (xs.take m)) l l')
    (hs : s.heap.IsSliceOf sl vl vu .none) (pl : IsPart vl lo) (pu : IsPart vu hi) (hb : sliceBounds lo hi none xs.length = ((m : Int), (xs.length : Int), 1)) (hz : xs.length < 90000)
    (h : ∀ s', St knd g R L vs l' s' → Q () s') : wpAny (model prog w) A (delItem (.ref a) (.ref sl)) Q E s := by
  have D := H.has U.mem
  obtain ⟨os, hos, hcs, hds⟩ := id hs
  have hTs : s.TypeIs (.ref sl) "slice" := ⟨os, hos, hcs⟩
  refine wpAny_delItem_slot (lst_type D) (by decide) F.slot_list_delitem (wpAny_call_entry F.slot_list_delitem (lst_type D) F.entry_list_delitem ?_ (F.args_list_delitem_2 _ _))
  unfold Builtin.«list.__delitem__»
  refine wpAny_bind (wpAny_pure ?_)
  dsimp only
  refine wpAny_bind ?_
  unfold Builtin.List.listSubscript?
  refine wpAny_bind (wpAny_specialOf hTs slice_no_index ?_)
  simp only [Option.isNone_none, if_true]
  refine wpAny_pure ?_
  dsimp only
  refine wpAny_bind (wpAny_typeOf hTs ?_)
  rw [if_neg (by decide)]
  rw [listSliceParts_eq]
  refine wpAny_bind (wpAny_bind (wpAny_field hos hds (x := .none) rfl (wpAny_bind (wpAny_listPart .none ?_))))
  rw [if_neg (by decide)]
  refine wpAny_bind (wpAny_field hos hds (x := vl) rfl (wpAny_bind (wpAny_listPart pl ?_)))
  refine wpAny_bind (wpAny_field hos hds (x := vu) rfl (wpAny_bind (wpAny_listPart pu (wpAny_pure ?_))))
  refine wpAny_bind (lst_items D ?_)
  refine wpAny_bind (wpAny_of_eq (sliceIndices_raw lo hi none xs.toArray.size (by simp)) ?_)
  rw [List.size_toArray, hb]
  dsimp only
  refine wpAny_bind (wpAny_rule ?_)
  refine wpAny_bind (lst_update (f := fun l => l.take m) ?_ D (fun h' hs hd => ?_) (by omega) (by simp; omega))
  · show (((xs.toArray.toList.zipIdx).filterMap fun q => if (if (1 : Int) > 0 then decide ((m : Int) ≤ (q.2 : Int)) && decide ((q.2 : Int) < (xs.length : Int)) && (((q.2 : Int) - (m : Int)) % 1 == 0) else decide ((xs.length : Int) < (q.2 : Int)) && decide ((q.2 : Int) ≤ (m : Int)) && (((m : Int) - (q.2 : Int)) % (-1) == 0)) = true then none else some q.1)).toArray = _
    congr 1
    have e := zip_keep (l₀ := xs) m 0 (fun i => if (1 : Int) > 0 then decide ((m : Int) ≤ (i : Int)) && decide ((i : Int) < (xs.length : Int)) && (((i : Int) - (m : Int)) % 1 == 0) else decide ((xs.length : Int) < (i : Int)) && decide ((i : Int) ≤ (m : Int)) && (((m : Int) - (i : Int)) % (-1) == 0)) (fun i => by
      rw [if_pos (by decide)]
      simp [Int.emod_one])
    rw [Nat.sub_zero] at e
    exact e
  · refine wpAny_bind (wpAny_letGo ?_)
    exact wpAny_pure ⟨_, rfl, h _ (H.put U hs hd)⟩
end
end Csp
end
section
open PySem PySem.W PySem.Calls PyProof.Rows
set_option Elab.async false
set_option maxRecDepth 100000
set_option maxHeartbeats 400000
set_option linter.unusedVariables false
namespace Csp
section
variable {prog : Program} {w : World} {K : Type} [DecidableEq K] {knd : KeyKind prog w K} {A : Around} {E : Value → Shared → Prop} {s : Shared} {M : Model}
  {g : Heap} {R : Side} {L : Addr} {vs vs' : Vars} {l l' : Led K} {env : Env} {a : Addr} {pos : Pos} {v : Value} {xs : List Value}

abbrev sliceO (u v : Value) : Obj := { cls := .type "slice", data := .fields #[u, v, .none] }
/-- lo:hi -/
theorem eSlice {vs₀ : Vars} {l₀ : Led K} {lower upper : Option Expr} {p : Pos} {Q : Value → Shared → Prop} (H₀ : St knd g R L vs₀ l₀ s)
    (h : wpAny M A (evalPart lower env) (fun u s₁ => wpAny M A (evalPart upper env) (fun v s₂ => ∃ vs l, St knd g R L vs l s₂ ∧ ∀ sl s', St knd g R L vs ((sl, .raw (sliceO u v)) :: l) s' → Q (.ref sl) s') E s₁) E s) : wpAny M A (eval (.Slice lower upper none p) env) Q E s :=
  wpAny_Slice (wpAny_mono h (fun u s₁ h₁ => wpAny_mono h₁ (fun v s₂ h₂ => evalPart_none_step (by
    obtain ⟨vs, l, H, h⟩ := h₂
    exact h _ _ (H.push rfl rfl))) fun _ _ e => e) fun _ _ e => e)
theorem eSliceEnd {P : Vars → Led K → Prop} (H : St knd g R L vs l s) (h : P vs l) : ∃ vs l, St knd g R L vs l s ∧ P vs l := ⟨vs, l, H, h⟩
theorem sliceOf {u v : Value} (S : Has knd s.heap a (.raw (sliceO u v))) : s.heap.IsSliceOf a u v .none := ⟨_, S.rawE, rfl, rfl⟩
theorem tailAny {value slice : Expr} {o i : Value} {Q : Value → Shared → Prop} (h : wpAny (model prog w) A (subscriptTail (.Name "x" default) slice o i) Q E s) : wpAny (model prog w) A (subscriptTail value slice o i) Q E s :=
  kba_turn (fun _ => rfl) h

/-- x[lo:hi] of a plain list -/
theorem tSlice {value : Expr} {lo' hi' : Option Expr} {p : Pos} {sl : Addr} {u v : Value} {lo hi : Option Int} {Q : Value → Shared → Prop} (H : St knd g R L vs l s) (D : Has knd s.heap a (.lst xs)) (S : Has knd s.heap sl (.raw (sliceO u v)))
    (pl : IsPart u lo) (pu : IsPart v hi) (hz : xs.length < 100000)
    (h : ∀ b s', St knd g R L vs ((b, .lst (slicePick xs.toArray lo hi none).toList) :: l) s' → Q (.ref b) s') : wpAny (model prog w) A (subscriptTail value (.Slice lo' hi' none p) (.ref a) (.ref sl)) Q E s := by
  refine tailAny (subscriptTail_ops D.list.typeIs list_getitem_lookup (wpAny_getItem_list_slice D.list (sliceOf S) pl pu .none (by simp) ?_ (by rw [List.size_toArray, sizeLine_eq]; omega)) rfl (fun _ => rfl))
  exact h _ _ (H.push rfl ⟨0, by simp⟩)
theorem tSliceAll {value : Expr} {lo' hi' : Option Expr} {p : Pos} {sl : Addr} {Q : Value → Shared → Prop} (H : St knd g R L vs l s) (D : Has knd s.heap a (.lst xs)) (S : Has knd s.heap sl (.raw (sliceO .none .none)))
    (hz : xs.length < 100000) (h : ∀ b s', St knd g R L vs ((b, .lst xs) :: l) s' → Q (.ref b) s') : wpAny (model prog w) A (subscriptTail value (.Slice lo' hi' none p) (.ref a) (.ref sl)) Q E s :=
  tSlice H D S .none .none hz fun b s' H' => h b s' (by rw [slicePick_all] at H'; exact H')
theorem tSliceLast {value : Expr} {lo' hi' : Option Expr} {p : Pos} {sl : Addr} {k : Nat} {i : Int} {t : Tok} {Q : Value → Shared → Prop} (H : St knd g R L vs l s) (D : Has knd s.heap a (.lst xs)) (S : Has knd s.heap sl (.raw (sliceO (.int i t) .none)))
    (hi : i = -(k : Int)) (h0 : 1 ≤ k) (hk : k ≤ xs.length) (hz : xs.length < 100000) (h : ∀ b s', St knd g R L vs ((b, .lst (xs.drop (xs.length - k))) :: l) s' → Q (.ref b) s') : wpAny (model prog w) A (subscriptTail value (.Slice lo' hi' none p) (.ref a) (.ref sl)) Q E s :=
  tSlice H D S (.int i t) .none hz fun b s' H' => h b s' (by rw [hi, pick_last xs h0 hk] at H'; exact H')
/-- x[:] of a Domain -/
theorem tSliceD {value : Expr} {lo' hi' : Option Expr} {p : Pos} {sl d dx : Addr} {Q : Value → Shared → Prop} (H : St knd g R L vs l s) (B : Bs w g) (D : Has knd s.heap d (.dom dx xs)) (S : Has knd s.heap sl (.raw (sliceO .none .none)))
    (hz : xs.length < 1000) (h : ∀ b s', St knd g R L vs ((b, .lst xs) :: l) s' → Q (.ref b) s') : wpAny (model prog w) A (subscriptTail value (.Slice lo' hi' none p) (.ref d) (.ref sl)) Q E s := by
  unfold subscriptTail
  refine wpAny_bind (dom_notPy (H.X B) D ?_)
  refine wpAny_bind (wpAny_operating ?_)
  refine dom_getSlice (H.X B) D (sliceOf S) .none .none .none (by simp) hz ?_
  refine wpAny_bind (wpAny_letTemporaryGo (wpAny_pure (h _ _ (H.push rfl ⟨0, ?_⟩))))
  rw [slicePick_all]
theorem uDelLast {sl : Addr} {k : Nat} {i : Int} {t : Tok} {Q : Unit → Shared → Prop} (H : St knd g R L vs l s) (U : Up a (.lst xs) (.lst (xs.take (xs.length - k))) l l') (S : Has knd s.heap sl (.raw (sliceO (.int i t) .none)))
    (hi : i = -(k : Int)) (h0 : 1 ≤ k) (hk : k ≤ xs.length) (hz : xs.length < 90000) (h : ∀ s', St knd g R L vs l' s' → Q () s') : wpAny (model prog w) A (delItem (.ref a) (.ref sl)) Q E s :=
  uDelSlice H U (sliceOf S) (.int i t) .none (by rw [hi]; exact del_parts h0 hk) hz h
theorem uDelAll {sl : Addr} {Q : Unit → Shared → Prop} (H : St knd g R L vs l s) (U : Up a (.lst xs) (.lst []) l l') (S : Has knd s.heap sl (.raw (sliceO .none .none)))
    (hz : xs.length < 90000) (h : ∀ s', St knd g R L vs l' s' → Q () s') : wpAny (model prog w) A (delItem (.ref a) (.ref sl)) Q E s :=
  uDelSlice (m := 0) H (by rw [List.take_zero]; exact U) (sliceOf S) .none .none (all_parts _) hz h
theorem ifT {P Q : Prop} {b : Bool} (e : b = true) (h : P) : if b = true then P else Q := by rw [if_pos e]; exact h
theorem ifF {P Q : Prop} {b : Bool} (e : b = false) (h : Q) : if b = true then P else Q := by rw [if_neg (by rw [e]; decide)]; exact h

theorem iSub {i j : Int} {t u : Tok} {Q : Value → Shared → Prop} (H : St knd g R L vs l s) (h : ∀ t s', St knd g R L vs l s' → Q (.int (i - j) t) s') : wpAny (model prog w) A (binaryOp .Sub (.int i t) (.int j u)) Q E s := PySem.P.sub_int (h _ _ (H.tok _))
theorem iNeg {i : Int} {t : Tok} {Q : Value → Shared → Prop} (H : St knd g R L vs l s) (h : ∀ t s', St knd g R L vs l s' → Q (.int (-i) t) s') : wpAny (model prog w) A (unaryOp .USub (.int i t)) Q E s := PySem.P.neg_int (h _ _ (H.tok _))
theorem iTruth {i : Int} {t : Tok} {Q : Bool → Shared → Prop} (h : Q (i != 0) s) : wpAny (model prog w) A (truthy (.int i t)) Q E s := PySem.P.truthy_int h
/-- the branches of an if, apart -/
theorem xIf {test : Expr} {body orelse : List Stmt} {p : Pos} {Q : Flow → Shared → Prop} (h : wpAny M A (isTrue test env (eval test env)) (fun b s' => if b = true then wpAny M A (execs body env) Q E s' else wpAny M A (execs orelse env) Q E s') E s) : wpAny M A (exec (.If test body orelse p) env) Q E s := wpAny_If h
theorem xDel {o i : Expr} {p q : Pos} {Q : Flow → Shared → Prop} (h : wpAny M A (eval o env) (fun ov s₁ => wpAny M A (eval i env) (fun iv s₂ => wpAny M A (delItem ov iv) (fun _ s₃ => Q .next s₃) E s₂) E s₁) E s) : wpAny M A (exec (.Delete [.Subscript o i p] q) env) Q E s := by
  refine wpAny_Delete (wpAny_deleteEach_cons ?_)
  rw [arm_delete_Subscript]
  exact wpAny_bind (wpAny_mono h (fun ov s₁ h₁ => wpAny_bind (wpAny_holding (wpAny_mono h₁ (fun iv s₂ h₂ => wpAny_bind (wpAny_standAt (wpAny_bind (wpAny_holding (wpAny_mono h₂ (fun _ s₃ h₃ => wpAny_release (wpAny_deleteEach_nil h₃)) fun _ _ e => e))))) fun _ _ e => e))) fun _ _ e => e)

theorem mLstH {name : Str} {id : String} {pl : Sem Bool} {Q : Value × List Value → Shared → Prop} (H : St knd g R L vs l s) (S : Has knd s.heap a (.lst xs)) (slot : Slot "list" name id) (hty : typeOf (.builtin id) = pure (.type "method_descriptor"))
    (h : Q (.builtin id, [.ref a]) s) : wpAny M A (getMethod (.ref a) name pl) Q E s := mLst S slot hty h
theorem mDomBi {d dx : Addr} {al : List (Str × Value)} {name : Str} {f : Value} {ft : String} {pl : Sem Bool} {Q : Value × List Value → Shared → Prop} (H : St knd g R L vs l s) (B : Bs w g) (D : Has knd s.heap d (.dom dx xs)) (X : Has knd s.heap dx (.att al)) (hn : al.lookup name = none)
    (hf : findIn (KK w.params) (.ref 303) name = some (some f)) (ht : typeIn (KK w.params) f = some (.type ft)) (hft : ft = "function" ∨ ft = "method_descriptor") (h : Q (f, [.ref d]) s) : wpAny (model prog w) A (getMethod (.ref d) name pl) Q E s :=
  dom_meth (H.X B) ⟨D, X⟩ hn hf ht hft h
theorem uDomExtend {d dx b : Addr} {ys : List Value} {Q : Value → Shared → Prop} (H : St knd g R L vs l s) (B : Bs w g) (U : Up d (.dom dx xs) (.dom dx (xs ++ ys)) l l') (Y : Has knd s.heap b (.lst ys)) (hz : xs.length + ys.length < 100000)
    (h : ∀ s', St knd g R L vs l' s' → Q .none s') : wpAny (model prog w) A (call (.builtin "list.extend") [.ref d, .ref b]) Q E s :=
  dom_extend (H.X B) (H.has U.mem) Y hz fun h' hs hd => h _ (H.put U hs hd)
theorem uDomRemove {d dx : Addr} {pre post : List Value} {k : Int} {t : Tok} {Q : Value → Shared → Prop} (H : St knd g R L vs l s) (B : Bs w g) (hp : ∀ v ∈ pre, ∃ j u, v = .int j u ∧ j ≠ k) (hz : (pre ++ .int k t :: post).length ≤ 1000)
    (U : Up d (.dom dx (pre ++ .int k t :: post)) (.dom dx (pre ++ post)) l l') (h : ∀ s', St knd g R L vs l' s' → Q .none s') : wpAny (model prog w) A (call (.builtin "list.remove") [.ref d, .int k t]) Q E s :=
  dom_remove (H.X B) hp hz (H.has U.mem) fun h' hs hd => h _ (H.put U hs hd)
end
end Csp
end
section
open PySem PySem.W PySem.Calls PyProof.Rows
set_option Elab.async false
set_option maxRecDepth 100000
set_option maxHeartbeats 400000
set_option linter.unusedVariables false
set_option linter.unusedSectionVars false
namespace Csp
local macro_rules | `(tactic| walk_at "mem") => `(tactic| first | (with_reducible assumption) | ((repeat (first | (with_reducible exact List.mem_cons_self) | (with_reducible refine' List.mem_cons_of_mem _ ?_) | (with_reducible assumption) | (with_reducible exact List.mem_append_left _ (by assumption)) | (with_reducible exact List.mem_append_left _ (DL_mem (by assumption))) | (with_reducible refine' List.mem_append_right _ ?_) | (with_reducible exact DL_mem (by assumption)))); done))
local macro_rules | `(tactic| walk_at "tb") => `(tactic| first | ((repeat (first | (with_reducible exact List.mem_cons_self) | (with_reducible refine' List.mem_cons_of_mem _ ?_))); done) | (with_reducible assumption))
local macro_rules | `(tactic| walk_at "rm") => `(tactic| ((repeat (first | (with_reducible assumption) | (with_reducible exact Rm.nil) | (with_reducible apply Rm.hit) | ((with_reducible apply Rm.miss); (focus decide +kernel)))); done))
local macro_rules | `(tactic| walk_at "up") => `(tactic| ((repeat (first | (with_reducible exact Up.head) | (with_reducible apply Up.tail) | (with_reducible apply Up.left))); done))
local macro_rules | `(tactic| walk_at "sub") => `(tactic| first | ((repeat (first | (with_reducible exact List.Sublist.refl _) | (with_reducible refine' List.Sublist.cons_cons _ ?_) | (with_reducible refine' List.Sublist.cons _ ?_))); done) | walk_at "sub1")
local macro_rules | `(tactic| walk_at "sub1") => `(tactic| first | (with_reducible exact List.Sublist.refl _) | ((with_reducible refine' List.Sublist.cons_cons _ ?_); walk_at "sub1") | ((with_reducible refine' List.Sublist.cons _ ?_); walk_at "sub1"))
local macro_rules | `(tactic| walk_at "vsub") => `(tactic| ((repeat (first | (with_reducible exact VSub.nil) | (focus ((with_reducible refine' VSub.cons ?_ ?_); rotate_right 2; (next => first | ((repeat (first | (with_reducible exact List.mem_cons_self) | (with_reducible refine' List.mem_cons_of_mem _ ?_))); done) | walk_at "mem"))))); done))
local macro_rules | `(tactic| walk_at "end") => `(tactic| ((try dsimp only [oneIt, List.cons_append, List.nil_append]); (with_reducible refine' St.vsub (by assumption) ?hv ?hl); (case hv => walk_at "vsub"); (case hl => walk_at "sub")))
local macro_rules | `(tactic| walk_at "has") => `(tactic| first | (with_reducible assumption) | (focus ((with_reducible refine' St.has (by assumption) ?_); rotate_right 1; (first | ((repeat (first | (with_reducible exact List.mem_cons_self) | (with_reducible refine' List.mem_cons_of_mem _ ?_))); done) | walk_at "mem"); done)) | walk_at "has1")
local macro_rules | `(tactic| walk_at "has1") => `(tactic| first
  | (with_reducible assumption)
  | ((with_reducible refine' St.has (by assumption) ?m); (case m => walk_at "mem"))
  | ((with_reducible refine' St.base (by assumption) ?m); (case m => (with_reducible assumption)))
  | ((with_reducible refine' Has.ofRaw (by assumption) ?m); (case m => ((with_reducible refine' St.has (by assumption) ?m2); (case m2 => walk_at "mem")))))
local macro_rules | `(tactic| walk_at "nmod") => `(tactic| first | (with_reducible assumption) | ((with_reducible refine' St.notMod (by assumption) ?m); (case m => walk_at "mem")))
local macro_rules | `(tactic| walk_at "key") => `(tactic| first | (with_reducible assumption))
local macro_rules | `(tactic| walk_at "nm") => `(tactic| first
  | (focus ((with_reducible refine' eL (by assumption) (by assumption) ?_ ?_ ?_); rotate_right 3; (next => (first | ((repeat (first | (with_reducible exact List.mem_cons_self) | (with_reducible refine' List.mem_cons_of_mem _ ?_))); done) | (with_reducible assumption))); (next => (first | ((repeat (first | (with_reducible exact List.mem_cons_self) | (with_reducible refine' List.mem_cons_of_mem _ ?_))); done) | walk_at "mem"))))
  | (focus ((with_reducible refine' eB' (by assumption) (by assumption) (by assumption) ?_ ?_ ?_); rotate_right 3; (next => (first | ((repeat (first | (with_reducible exact List.mem_cons_self) | (with_reducible refine' List.mem_cons_of_mem _ ?_))); done) | (with_reducible assumption))); (next => (walk_at "isB"))))
  | (focus ((with_reducible refine' eG' (by assumption) (by assumption) (by assumption) ?_ ?_ ?_); rotate_right 3; (next => (first | ((repeat (first | (with_reducible exact List.mem_cons_self) | (with_reducible refine' List.mem_cons_of_mem _ ?_))); done) | (with_reducible assumption))); (next => (walk_at "isG"))))
  | (focus ((with_reducible refine' nL (by assumption) (by assumption) ?_ ?_ ?_); rotate_right 3; (next => (first | ((repeat (first | (with_reducible exact List.mem_cons_self) | (with_reducible refine' List.mem_cons_of_mem _ ?_))); done) | (with_reducible assumption))); (next => (first | ((repeat (first | (with_reducible exact List.mem_cons_self) | (with_reducible refine' List.mem_cons_of_mem _ ?_))); done) | walk_at "mem"))))
  | (focus ((with_reducible refine' nB (by assumption) (by assumption) (by assumption) ?_ ?_ ?_); rotate_right 3; (next => (first | ((repeat (first | (with_reducible exact List.mem_cons_self) | (with_reducible refine' List.mem_cons_of_mem _ ?_))); done) | (with_reducible assumption))); (next => (walk_at "isB"))))
  | (focus ((with_reducible refine' nG (by assumption) (by assumption) (by assumption) ?_ ?_ ?_); rotate_right 3; (next => (first | ((repeat (first | (with_reducible exact List.mem_cons_self) | (with_reducible refine' List.mem_cons_of_mem _ ?_))); done) | (with_reducible assumption))); (next => (walk_at "isG"))))
  | (focus ((with_reducible refine' nC (by assumption) (by assumption) ?_ ?_ ?_ ?_); rotate_right 4; rotate_left 1; (next => (first | ((repeat (first | (with_reducible exact List.mem_cons_self) | (with_reducible refine' List.mem_cons_of_mem _ ?_))); done) | (with_reducible assumption))); rotate_right 1; rotate_left 1; (next => (first | (with_reducible assumption) | rfl)); rotate_right 1; (next => (walk_at "has"))))
  | (focus ((with_reducible refine' nF (by assumption) (by assumption) ?_ ?_ ?_ ?_ ?_); rotate_right 5; rotate_left 1; (next => (first | ((repeat (first | (with_reducible exact List.mem_cons_self) | (with_reducible refine' List.mem_cons_of_mem _ ?_))); done) | (with_reducible assumption))); rotate_right 1; rotate_left 1; (next => rfl); rotate_right 1; rotate_left 1; (next => rfl); rotate_right 1; (next => (walk_at "has"))))
  | (focus ((with_reducible refine' eC (by assumption) (by assumption) ?_ ?_ ?_ ?_); rotate_right 4; (next => (first | ((repeat (first | (with_reducible exact List.mem_cons_self) | (with_reducible refine' List.mem_cons_of_mem _ ?_))); done) | (with_reducible assumption))); (next => rfl); (next => (first | ((repeat (first | (with_reducible exact List.mem_cons_self) | (with_reducible refine' List.mem_cons_of_mem _ ?_))); done) | walk_at "mem")))))
local macro_rules | `(tactic| walk_at "st") => `(tactic| first
  | (focus ((with_reducible refine' sL (by assumption) (by assumption) ?_ ?_ ?_); rotate_right 3; (next => (first | ((repeat (first | (with_reducible exact List.mem_cons_self) | (with_reducible refine' List.mem_cons_of_mem _ ?_))); done) | (with_reducible assumption))); (next => (walk_at "rm")); intro _ _))
  | (focus ((with_reducible refine' nS (by assumption) (by assumption) ?_ ?_ ?_); rotate_right 3; (next => (first | ((repeat (first | (with_reducible exact List.mem_cons_self) | (with_reducible refine' List.mem_cons_of_mem _ ?_))); done) | (with_reducible assumption))); (next => (walk_at "rm")); intro _ _))
  | (focus ((with_reducible refine' sC (by assumption) (by assumption) ?_ ?_ ?_ ?_); rotate_right 4; (next => (first | ((repeat (first | (with_reducible exact List.mem_cons_self) | (with_reducible refine' List.mem_cons_of_mem _ ?_))); done) | (with_reducible assumption))); (next => rfl); (next => (walk_at "up")); intro _ _)))
local macro_rules | `(tactic| walk_at "size") => `(tactic| first | assumption | omega | (simp only [List.length_append, List.length_cons, List.length_nil, List.length_take, List.length_drop]; omega))
local macro_rules | `(tactic| walk_at "op") => `(tactic| fail)
local macro_rules | `(tactic| walk_at "gcall") => `(tactic| first
  | (focus ((with_reducible refine' cDictGet (by assumption) ?_ ?_ ?_ ?_); rotate_right 4; (next => (walk_at "has")); (next => (walk_at "nmod")); (next => (with_reducible assumption)); intro _ _))
  | (focus ((with_reducible refine' cDictCopy (by assumption) ?_ ?_ ?_ ?_); rotate_right 4; (next => (walk_at "has")); (next => (walk_at "nmod")); (next => (walk_at "size")); intro _ _ _))
  | (focus ((with_reducible refine' cDictValues (by assumption) ?_ ?_ ?_); rotate_right 3; (next => (walk_at "has")); (next => (walk_at "nmod")); intro _ _ _))
  | (focus ((with_reducible refine' cListLen (by assumption) ?_ ?_ ?_); rotate_right 3; (next => (walk_at "has")); (next => (walk_at "size")); intro _ _ _))
  | (focus ((with_reducible refine' cDictLen (by assumption) ?_ ?_ ?_ ?_); rotate_right 4; (next => (walk_at "has")); (next => (walk_at "nmod")); (next => (walk_at "size")); intro _ _ _))
  | (focus ((with_reducible refine' cDomLen (by assumption) (by assumption) ?_ ?_ ?_); rotate_right 3; (next => (walk_at "has")); (next => (walk_at "size")); intro _ _ _))
  | (focus ((with_reducible refine' uAppend (by assumption) ?_ ?_ ?_); rotate_right 3; (next => (walk_at "up")); (next => (walk_at "size")); intro _ _))
  | (focus ((with_reducible refine' uPop (by assumption) ?_ ?_ ?_); rotate_right 3; (next => (walk_at "up")); (next => (walk_at "size")); intro _ _))
  | (focus ((with_reducible refine' uDomExtend (by assumption) (by assumption) ?_ ?_ ?_ ?_); rotate_right 4; (next => (walk_at "up")); (next => (walk_at "has")); (next => (walk_at "size")); intro _ _)))
local macro_rules | `(tactic| walk_at "ggetMethod") => `(tactic| first
  | (focus ((with_reducible refine' mDict (by assumption) ?_ F.slot_dict_get F.type_dict_get ?_); rotate_right 2; (next => (walk_at "has"))))
  | (focus ((with_reducible refine' mDict (by assumption) ?_ F.slot_dict_copy F.type_dict_copy ?_); rotate_right 2; (next => (walk_at "has"))))
  | (focus ((with_reducible refine' mDict (by assumption) ?_ F.slot_dict_values F.type_dict_values ?_); rotate_right 2; (next => (walk_at "has"))))
  | (focus ((with_reducible refine' mInst (by assumption) (by assumption) ?_ ?_ ?_ ?_ ?_ ?_ ?_); rotate_right 7; (next => (walk_at "has")); (next => (walk_at "has")); (next => (walk_at "isC")); (next => (walk_at "isC")); (next => (walk_at "isC")); (next => rfl)))
  | (focus ((with_reducible refine' mOwn (by assumption) (by assumption) ?_ ?_ ?_ ?_ ?_ ?_ ?_ ?_); rotate_right 8; (next => (walk_at "has")); (next => (walk_at "has")); (next => (walk_at "isC")); (next => (walk_at "isC")); (next => (walk_at "isC")); (next => rfl); (next => rfl); intro _ _))
  | (focus ((with_reducible refine' mLstH (by assumption) ?_ F.slot_list_append F.type_list_append ?_); rotate_right 2; (next => (walk_at "has"))))
  | (focus ((with_reducible refine' mLstH (by assumption) ?_ F.slot_list_pop F.type_list_pop ?_); rotate_right 2; (next => (walk_at "has"))))
  | (focus ((with_reducible refine' mLstH (by assumption) ?_ F.slot_list_sort F.type_list_sort ?_); rotate_right 2; (next => (walk_at "has"))))
  | (focus ((with_reducible refine' mDomBi (by assumption) (by assumption) ?_ ?_ ?_ ?_ ?_ ?_ ?_); rotate_right 7; (next => (walk_at "has")); (next => (walk_at "has")); (next => rfl); (next => (walk_at "isD")); (next => (walk_at "isD")); (next => (first | exact .inl rfl | exact .inr rfl)))))
local macro_rules | `(tactic| walk_at "ggetAttr") => `(tactic| first
  | (focus ((with_reducible refine' eInstAttr (by assumption) (by assumption) ?_ ?_ ?_ ?_ ?_ ?_ ?_); rotate_right 7; (next => (walk_at "has")); (next => (walk_at "has")); (next => rfl); (next => (walk_at "isC")); (next => (walk_at "isC")); (next => rfl); intro _ _))
  | (focus ((with_reducible refine' eDomAttr (by assumption) (by assumption) ?_ ?_ ?_ ?_ ?_ ?_); rotate_right 6; (next => (walk_at "has")); (next => (walk_at "has")); (next => rfl); (next => (walk_at "isD")); (next => rfl); intro _ _)))
local macro_rules | `(tactic| walk_at "gtruthy") => `(tactic| first
  | (with_reducible refine wpAny_truthy_bool ?_)
  | (with_reducible refine truthy_none ?_)
  | (focus ((with_reducible refine' iDict (by assumption) ?_ ?_ ?_ ?_); rotate_right 4; (next => (walk_at "has")); (next => (walk_at "nmod")); (next => (walk_at "size")); intro _ _))
  | (focus ((with_reducible refine' iDom (by assumption) (by assumption) ?_ ?_ ?_); rotate_right 3; (next => (walk_at "has")); (next => (walk_at "size")); intro _ _))
  | (focus ((with_reducible refine' iList (by assumption) ?_ ?_ ?_); rotate_right 3; (next => (walk_at "has")); (next => (walk_at "size")); intro _ _))
  | (with_reducible refine iTruth ?_))
local macro_rules | `(tactic| walk_at "gcompareOp") => `(tactic| first
  | (focus ((with_reducible refine' dIn (by assumption) ?_ ?_ ?_ ?_); rotate_right 4; rotate_left 2; (next => (with_reducible assumption)); rotate_right 2; (next => (walk_at "has")); (next => (walk_at "nmod")); intro _ _))
  | (focus ((with_reducible refine' dNotIn (by assumption) ?_ ?_ ?_ ?_); rotate_right 4; rotate_left 2; (next => (with_reducible assumption)); rotate_right 2; (next => (walk_at "has")); (next => (walk_at "nmod")); intro _ _))
  | (with_reducible refine wpAny_is_ref_self ?_)
  | (with_reducible refine cmpNe ?_)
  | (with_reducible refine cmpEq ?_))
local macro_rules | `(tactic| walk_at "gsubscriptTail") => `(tactic| first
  | (focus ((with_reducible refine' tDict (by assumption) ?_ ?_ ?_ ?_); rotate_right 4; (next => (walk_at "has")); (next => (with_reducible assumption)); (next => (with_reducible assumption)); intro _ _))
  | (focus ((with_reducible refine' tSliceAll (by assumption) ?_ ?_ ?_ ?_); rotate_right 4; (next => (walk_at "has")); (next => (walk_at "has")); (next => (walk_at "size")); intro _ _ _))
  | (focus ((with_reducible refine' tSliceD (by assumption) (by assumption) ?_ ?_ ?_ ?_); rotate_right 4; (next => (walk_at "has")); (next => (walk_at "has")); (next => (walk_at "size")); intro _ _ _))
  | (focus ((with_reducible refine' tTupLast (by assumption) ?_ ?_ ?_); rotate_right 3; (next => (walk_at "has")); (next => rfl))))
local macro_rules | `(tactic| walk_at "oprest") => `(tactic| first
  | (focus ((with_reducible refine' uDictSet (by assumption) ?_ ?_ ?_ ?_); rotate_right 4; (next => (walk_at "up")); (next => (with_reducible assumption)); (next => (walk_at "size")); intro _ _))
  | (focus ((with_reducible refine' uDictDel (by assumption) ?_ ?_ ?_ ?_ ?_); rotate_right 5; (next => (walk_at "up")); (next => (with_reducible assumption)); (next => (with_reducible assumption)); (next => (walk_at "size")); intro _ _))
  | (focus ((with_reducible refine' uDelAll (by assumption) ?_ ?_ ?_ ?_); rotate_right 4; (next => (walk_at "up")); (next => (walk_at "has")); (next => (walk_at "size")); intro _ _))
  | (focus ((with_reducible refine' iSub (by assumption) ?_); intro _ _ _))
  | (focus ((with_reducible refine' iNeg (by assumption) ?_); intro _ _ _)))
local macro_rules | `(tactic| walk_at "go1") => `(tactic| first
  | ((guard_target = wpAny _ _ (PySem.eval (Expr.Name _ _) _) _ _ _); first
    | (focus ((with_reducible refine' eL (by assumption) (by assumption) ?_ ?_ ?_); rotate_right 3; (next => (first | ((repeat (first | (with_reducible exact List.mem_cons_self) | (with_reducible refine' List.mem_cons_of_mem _ ?_))); done) | (with_reducible assumption))); (next => (first | ((repeat (first | (with_reducible exact List.mem_cons_self) | (with_reducible refine' List.mem_cons_of_mem _ ?_))); done) | walk_at "mem"))))
    | (focus ((with_reducible refine' eB' (by assumption) (by assumption) (by assumption) ?_ ?_ ?_); rotate_right 3; (next => (first | ((repeat (first | (with_reducible exact List.mem_cons_self) | (with_reducible refine' List.mem_cons_of_mem _ ?_))); done) | (with_reducible assumption))); (next => (walk_at "isB"))))
    | (focus ((with_reducible refine' eG' (by assumption) (by assumption) (by assumption) ?_ ?_ ?_); rotate_right 3; (next => (first | ((repeat (first | (with_reducible exact List.mem_cons_self) | (with_reducible refine' List.mem_cons_of_mem _ ?_))); done) | (with_reducible assumption))); (next => (walk_at "isG"))))
    | (focus ((with_reducible refine' nL (by assumption) (by assumption) ?_ ?_ ?_); rotate_right 3; (next => (first | ((repeat (first | (with_reducible exact List.mem_cons_self) | (with_reducible refine' List.mem_cons_of_mem _ ?_))); done) | (with_reducible assumption))); (next => (first | ((repeat (first | (with_reducible exact List.mem_cons_self) | (with_reducible refine' List.mem_cons_of_mem _ ?_))); done) | walk_at "mem"))))
    | (focus ((with_reducible refine' nB (by assumption) (by assumption) (by assumption) ?_ ?_ ?_); rotate_right 3; (next => (first | ((repeat (first | (with_reducible exact List.mem_cons_self) | (with_reducible refine' List.mem_cons_of_mem _ ?_))); done) | (with_reducible assumption))); (next => (walk_at "isB"))))
    | (focus ((with_reducible refine' nG (by assumption) (by assumption) (by assumption) ?_ ?_ ?_); rotate_right 3; (next => (first | ((repeat (first | (with_reducible exact List.mem_cons_self) | (with_reducible refine' List.mem_cons_of_mem _ ?_))); done) | (with_reducible assumption))); (next => (walk_at "isG"))))
    | (focus ((with_reducible refine' nC (by assumption) (by assumption) ?_ ?_ ?_ ?_); rotate_right 4; rotate_left 1; (next => (first | ((repeat (first | (with_reducible exact List.mem_cons_self) | (with_reducible refine' List.mem_cons_of_mem _ ?_))); done) | (with_reducible assumption))); rotate_right 1; rotate_left 1; (next => (first | (with_reducible assumption) | rfl)); rotate_right 1; (next => (walk_at "has"))))
    | (focus ((with_reducible refine' nF (by assumption) (by assumption) ?_ ?_ ?_ ?_ ?_); rotate_right 5; rotate_left 1; (next => (first | ((repeat (first | (with_reducible exact List.mem_cons_self) | (with_reducible refine' List.mem_cons_of_mem _ ?_))); done) | (with_reducible assumption))); rotate_right 1; rotate_left 1; (next => rfl); rotate_right 1; rotate_left 1; (next => rfl); rotate_right 1; (next => (walk_at "has"))))
    | (focus ((with_reducible refine' eC (by assumption) (by assumption) ?_ ?_ ?_ ?_); rotate_right 4; (next => (first | ((repeat (first | (with_reducible exact List.mem_cons_self) | (with_reducible refine' List.mem_cons_of_mem _ ?_))); done) | (with_reducible assumption))); (next => rfl); (next => (first | ((repeat (first | (with_reducible exact List.mem_cons_self) | (with_reducible refine' List.mem_cons_of_mem _ ?_))); done) | walk_at "mem"))))
    | walk_at "op")
  | ((guard_target = wpAny _ _ (PySem.eval _ _) _ _ _); first
    | (with_reducible refine wpAny_BinOp ?_)
    | (with_reducible refine UnaryOp_ ?_)
    | (focus ((with_reducible refine' MethodCall_ ?_ ?_); rotate_right 2; rotate_left 1; (next => rfl); rotate_right 1))
    | (focus ((with_reducible refine' MethodP_ ?_ ?_); rotate_right 2; (next => (with_reducible assumption))))
    | (focus ((with_reducible refine' MethodStar_ ?_ ?_); rotate_right 2; rotate_left 1; (next => rfl); rotate_right 1))
    | (focus ((with_reducible refine Call_ ?_ ?_); rotate_right 2; rotate_left 1; (next => rfl); rotate_right 1))
    | (with_reducible refine Attribute_name ?_)
    | (with_reducible refine Subscript_ ?_)
    | (focus ((with_reducible refine' eInt (by assumption) ?_); intro _ _ _))
    | (focus ((with_reducible refine' eStr (by assumption) ?_); intro _ _ _))
    | (with_reducible refine eBool ?_)
    | (with_reducible refine eNone ?_)
    | (with_reducible refine' eSlice (by assumption) ?_)
    | (focus ((with_reducible refine wpAny_Compare1 ?_ ?_); rotate_right 2; rotate_left 1; (next => (with_unfolding_all rfl)); rotate_right 1))
    | (with_reducible refine List_ ?_)
    | (with_reducible refine Tuple_ ?_)
    | (with_reducible refine BoolOp_one ?_)
    | (with_reducible refine BoolOp_and ?_)
    | (with_reducible refine BoolOp_or ?_)
    | (focus ((with_reducible refine' xComp ?_ ?_ ?_ ?_ ?_); rotate_right 5; rotate_left 1; (next => (intro _; rfl)); rotate_right 1; rotate_left 1; (next => (with_unfolding_all rfl)); rotate_right 1; rotate_left 1; (next => (with_unfolding_all rfl)); rotate_right 1; rotate_left 1; (next => (decide +kernel)); rotate_right 1))
    | (focus ((with_reducible refine' eDictNil (by assumption) ?_); intro _ _ _))
    | walk_at "op")
  | ((guard_target = wpAny _ _ (spliced _) _ _ _); first
    | (focus ((with_reducible refine args_cons ?_ ?_); rotate_right 2; rotate_left 1; (next => rfl); rotate_right 1))
    | (with_reducible refine args_nil ?_)
    | walk_at "op")
  | ((guard_target = wpAny _ _ (callWith _ _ _ _ _) _ _ _); first
    | (focus ((with_reducible refine callBi1 ?_ ?_ ?_); rotate_right 3; rotate_left 1; (next => rfl); rotate_right 1; rotate_left 1; (next => rfl); rotate_right 1))
    | (focus ((with_reducible refine callBi2 ?_ ?_ ?_); rotate_right 3; rotate_left 1; (next => rfl); rotate_right 1; rotate_left 1; (next => rfl); rotate_right 1))
    | (with_reducible refine callBi10 ?_)
    | (focus ((with_reducible refine' callKm1 ?_ ?_ ?_ ?_ ?_); rotate_right 5; (next => (walk_at "isF")); (next => rfl); rotate_left 1; (next => rfl); rotate_right 1; rotate_left 1; (next => rfl); rotate_right 1))
    | (focus ((with_reducible refine' callKf1 ?_ ?_ ?_ ?_ ?_); rotate_right 5; (next => (walk_at "isF")); (next => rfl); rotate_left 1; (next => rfl); rotate_right 1; rotate_left 1; (next => rfl); rotate_right 1))
    | (focus ((with_reducible refine' callKm10 ?_ ?_ (by assumption) (by assumption) ?_); rotate_right 3; (next => (walk_at "isF")); (next => rfl)))
    | (focus ((with_reducible refine callTy2 ?_ ?_ ?_); rotate_right 3; rotate_left 1; (next => rfl); rotate_right 1; rotate_left 1; (next => rfl); rotate_right 1))
    | walk_at "op")
  | ((guard_target = Nx _ _ _ _ _ _ _ _); first
    | (with_reducible refine nx ?_)
    | (with_reducible refine nx_ret ?_)
    | (with_reducible refine nx_brk ?_)
    | (with_reducible refine nx_cont ?_))
  | ((guard_target = wpAny _ _ (storeName _ _ _) _ _ _); first
    | (focus ((with_reducible refine' sL (by assumption) (by assumption) ?_ ?_ ?_); rotate_right 3; (next => (first | ((repeat (first | (with_reducible exact List.mem_cons_self) | (with_reducible refine' List.mem_cons_of_mem _ ?_))); done) | (with_reducible assumption))); (next => (walk_at "rm")); intro _ _))
    | (focus ((with_reducible refine' nS (by assumption) (by assumption) ?_ ?_ ?_); rotate_right 3; (next => (first | ((repeat (first | (with_reducible exact List.mem_cons_self) | (with_reducible refine' List.mem_cons_of_mem _ ?_))); done) | (with_reducible assumption))); (next => (walk_at "rm")); intro _ _))
    | (focus ((with_reducible refine' sC (by assumption) (by assumption) ?_ ?_ ?_ ?_); rotate_right 4; (next => (first | ((repeat (first | (with_reducible exact List.mem_cons_self) | (with_reducible refine' List.mem_cons_of_mem _ ?_))); done) | (with_reducible assumption))); (next => rfl); (next => (walk_at "up")); intro _ _)))
  | ((guard_target = wpAny _ _ (exec _ _) _ _ _); first
    | (focus ((with_reducible refine wpAny_Expr_any ?_ ?_ ?_); rotate_right 3; rotate_left 1; (next => (first | rfl | assumption)); rotate_right 1; rotate_left 1; (next => rfl); rotate_right 1))
    | (focus ((with_reducible refine wpAny_Assign_Name ?_ ?_); rotate_right 2; rotate_left 1; (next => rfl); rotate_right 1))
    | (with_reducible refine wpAny_Return_some ?_)
    | (with_reducible refine xIf ?_)
    | (with_reducible refine xDel ?_)
    | (with_reducible refine wpAny_Break ?_)
    | (with_reducible refine wpAny_Return_none ?_)
    | (focus ((with_reducible refine wpAny_Assign_Subscript ?_ ?_); rotate_right 2; rotate_left 1; (next => rfl); rotate_right 1))
    | (focus ((with_reducible refine plainObj_wpAny_Assign_Attribute ?_ ?_); rotate_right 2; rotate_left 1; (next => rfl); rotate_right 1))
    | (focus ((with_reducible refine xFor ?_ ?_); rotate_right 2; rotate_left 1; (next => (intro _; rfl)); rotate_right 1))
    | (focus ((with_reducible refine' xCompA ?_ ?_ ?_ ?_ ?_ ?_); rotate_right 6; rotate_left 1; (next => rfl); rotate_right 1; rotate_left 1; (next => (intro _; rfl)); rotate_right 1; rotate_left 1; (next => (with_unfolding_all rfl)); rotate_right 1; rotate_left 1; (next => (with_unfolding_all rfl)); rotate_right 1; rotate_left 1; (next => (decide +kernel)); rotate_right 1))
    | walk_at "op")
  | ((guard_target = wpAny _ _ (execs _ _) _ _ _); first
    | (with_reducible refine wpAny_execs_nil ?_)
    | (with_reducible refine xs_cons ?_))
  | ((guard_target = wpAny _ _ (PySem.isTrue _ _ _) _ _ _); first
    | (focus ((with_reducible refine isTrue_plain ?_ ?_); rotate_right 2; rotate_left 1; (next => rfl); rotate_right 1))
    | (with_reducible refine isTrue_not ?_)
    | (focus ((with_reducible refine wpAny_isTrue_Compare1 ?_ ?_); rotate_right 2; rotate_left 1; (next => (with_unfolding_all rfl)); rotate_right 1))
    | (with_reducible refine isTrue_and_nil ?_)
    | (with_reducible refine isTrue_or_nil ?_)
    | (with_reducible refine isTrue_and ?_)
    | (with_reducible refine isTrue_or ?_)
    | walk_at "op")
  | ((guard_target = wpAny _ _ (call (Value.builtin _) _) _ _ _); first | walk_at "op" | walk_at "gcall")
  | ((guard_target = wpAny _ _ (getMethod _ _ _) _ _ _); first | walk_at "op" | walk_at "ggetMethod")
  | ((guard_target = wpAny _ _ (getAttr _ _ _) _ _ _); first | walk_at "op" | walk_at "ggetAttr")
  | ((guard_target = wpAny _ _ (truthy _) _ _ _); first | walk_at "op" | walk_at "gtruthy")
  | ((guard_target = wpAny _ _ (compareOp _ _ _) _ _ _); first | walk_at "op" | walk_at "gcompareOp")
  | ((guard_target = wpAny _ _ (subscriptTail _ _ _ _) _ _ _); first | walk_at "op" | walk_at "gsubscriptTail")
  | (with_reducible refine' inX (by assumption) (by assumption) ?_)
  | (focus ((with_reducible refine' eSliceEnd (by assumption) ?_); intro _ _ _))
  | (with_reducible refine evalPart_none_step ?_)
  | (with_reducible refine evalPart_some_step ?_)
  | (with_reducible refine for_brk ?_)
  | (with_reducible refine for_ret ?_)
  | (with_reducible refine iNot ?_)
  | (with_reducible refine wpAny_tests_nil ?_)
  | (with_reducible refine wpAny_tests_one ?_)
  | (with_reducible refine ifT (Eq.refl true) ?_)
  | (with_reducible refine ifF (Eq.refl false) ?_)
  | (with_reducible refine wpAny_assign_Name ?_)
  | (with_reducible refine assignInOrder_cons ?_)
  | (with_reducible refine assignInOrder_nil ?_)
  | (focus ((with_reducible refine' uTuple (by assumption) ?_ ?_); rotate_right 2; (next => (walk_at "size")); intro _ _ _))
  | (focus ((with_reducible refine' uList (by assumption) ?_ ?_); rotate_right 2; (next => (walk_at "size")); intro _ _ _))
  | walk_at "op"
  | walk_at "oprest")
local macro_rules | `(tactic| walk_at "go") => `(tactic| (repeat (first
  | ((guard_target = wpAny _ _ (PySem.eval (Expr.Name _ _) _) _ _ _); first
    | (focus ((with_reducible refine' eL (by assumption) (by assumption) ?_ ?_ ?_); rotate_right 3; (next => (first | ((repeat (first | (with_reducible exact List.mem_cons_self) | (with_reducible refine' List.mem_cons_of_mem _ ?_))); done) | (with_reducible assumption))); (next => (first | ((repeat (first | (with_reducible exact List.mem_cons_self) | (with_reducible refine' List.mem_cons_of_mem _ ?_))); done) | walk_at "mem"))))
    | (focus ((with_reducible refine' eB' (by assumption) (by assumption) (by assumption) ?_ ?_ ?_); rotate_right 3; (next => (first | ((repeat (first | (with_reducible exact List.mem_cons_self) | (with_reducible refine' List.mem_cons_of_mem _ ?_))); done) | (with_reducible assumption))); (next => (walk_at "isB"))))
    | (focus ((with_reducible refine' eG' (by assumption) (by assumption) (by assumption) ?_ ?_ ?_); rotate_right 3; (next => (first | ((repeat (first | (with_reducible exact List.mem_cons_self) | (with_reducible refine' List.mem_cons_of_mem _ ?_))); done) | (with_reducible assumption))); (next => (walk_at "isG"))))
    | (focus ((with_reducible refine' nL (by assumption) (by assumption) ?_ ?_ ?_); rotate_right 3; (next => (first | ((repeat (first | (with_reducible exact List.mem_cons_self) | (with_reducible refine' List.mem_cons_of_mem _ ?_))); done) | (with_reducible assumption))); (next => (first | ((repeat (first | (with_reducible exact List.mem_cons_self) | (with_reducible refine' List.mem_cons_of_mem _ ?_))); done) | walk_at "mem"))))
    | (focus ((with_reducible refine' nB (by assumption) (by assumption) (by assumption) ?_ ?_ ?_); rotate_right 3; (next => (first | ((repeat (first | (with_reducible exact List.mem_cons_self) | (with_reducible refine' List.mem_cons_of_mem _ ?_))); done) | (with_reducible assumption))); (next => (walk_at "isB"))))
    | (focus ((with_reducible refine' nG (by assumption) (by assumption) (by assumption) ?_ ?_ ?_); rotate_right 3; (next => (first | ((repeat (first | (with_reducible exact List.mem_cons_self) | (with_reducible refine' List.mem_cons_of_mem _ ?_))); done) | (with_reducible assumption))); (next => (walk_at "isG"))))
    | (focus ((with_reducible refine' nC (by assumption) (by assumption) ?_ ?_ ?_ ?_); rotate_right 4; rotate_left 1; (next => (first | ((repeat (first | (with_reducible exact List.mem_cons_self) | (with_reducible refine' List.mem_cons_of_mem _ ?_))); done) | (with_reducible assumption))); rotate_right 1; rotate_left 1; (next => (first | (with_reducible assumption) | rfl)); rotate_right 1; (next => (walk_at "has"))))
    | (focus ((with_reducible refine' nF (by assumption) (by assumption) ?_ ?_ ?_ ?_ ?_); rotate_right 5; rotate_left 1; (next => (first | ((repeat (first | (with_reducible exact List.mem_cons_self) | (with_reducible refine' List.mem_cons_of_mem _ ?_))); done) | (with_reducible assumption))); rotate_right 1; rotate_left 1; (next => rfl); rotate_right 1; rotate_left 1; (next => rfl); rotate_right 1; (next => (walk_at "has"))))
    | (focus ((with_reducible refine' eC (by assumption) (by assumption) ?_ ?_ ?_ ?_); rotate_right 4; (next => (first | ((repeat (first | (with_reducible exact List.mem_cons_self) | (with_reducible refine' List.mem_cons_of_mem _ ?_))); done) | (with_reducible assumption))); (next => rfl); (next => (first | ((repeat (first | (with_reducible exact List.mem_cons_self) | (with_reducible refine' List.mem_cons_of_mem _ ?_))); done) | walk_at "mem"))))
    | walk_at "op")
  | ((guard_target = wpAny _ _ (PySem.eval _ _) _ _ _); first
    | (with_reducible refine wpAny_BinOp ?_)
    | (with_reducible refine UnaryOp_ ?_)
    | (focus ((with_reducible refine' MethodCall_ ?_ ?_); rotate_right 2; rotate_left 1; (next => rfl); rotate_right 1))
    | (focus ((with_reducible refine' MethodP_ ?_ ?_); rotate_right 2; (next => (with_reducible assumption))))
    | (focus ((with_reducible refine' MethodStar_ ?_ ?_); rotate_right 2; rotate_left 1; (next => rfl); rotate_right 1))
    | (focus ((with_reducible refine Call_ ?_ ?_); rotate_right 2; rotate_left 1; (next => rfl); rotate_right 1))
    | (with_reducible refine Attribute_name ?_)
    | (with_reducible refine Subscript_ ?_)
    | (focus ((with_reducible refine' eInt (by assumption) ?_); intro _ _ _))
    | (focus ((with_reducible refine' eStr (by assumption) ?_); intro _ _ _))
    | (with_reducible refine eBool ?_)
    | (with_reducible refine eNone ?_)
    | (with_reducible refine' eSlice (by assumption) ?_)
    | (focus ((with_reducible refine wpAny_Compare1 ?_ ?_); rotate_right 2; rotate_left 1; (next => (with_unfolding_all rfl)); rotate_right 1))
    | (with_reducible refine List_ ?_)
    | (with_reducible refine Tuple_ ?_)
    | (with_reducible refine BoolOp_one ?_)
    | (with_reducible refine BoolOp_and ?_)
    | (with_reducible refine BoolOp_or ?_)
    | (focus ((with_reducible refine' xComp ?_ ?_ ?_ ?_ ?_); rotate_right 5; rotate_left 1; (next => (intro _; rfl)); rotate_right 1; rotate_left 1; (next => (with_unfolding_all rfl)); rotate_right 1; rotate_left 1; (next => (with_unfolding_all rfl)); rotate_right 1; rotate_left 1; (next => (decide +kernel)); rotate_right 1))
    | (focus ((with_reducible refine' eDictNil (by assumption) ?_); intro _ _ _))
    | walk_at "op")
  | ((guard_target = wpAny _ _ (spliced _) _ _ _); first
    | (focus ((with_reducible refine args_cons ?_ ?_); rotate_right 2; rotate_left 1; (next => rfl); rotate_right 1))
    | (with_reducible refine args_nil ?_)
    | walk_at "op")
  | ((guard_target = wpAny _ _ (callWith _ _ _ _ _) _ _ _); first
    | (focus ((with_reducible refine callBi1 ?_ ?_ ?_); rotate_right 3; rotate_left 1; (next => rfl); rotate_right 1; rotate_left 1; (next => rfl); rotate_right 1))
    | (focus ((with_reducible refine callBi2 ?_ ?_ ?_); rotate_right 3; rotate_left 1; (next => rfl); rotate_right 1; rotate_left 1; (next => rfl); rotate_right 1))
    | (with_reducible refine callBi10 ?_)
    | (focus ((with_reducible refine' callKm1 ?_ ?_ ?_ ?_ ?_); rotate_right 5; (next => (walk_at "isF")); (next => rfl); rotate_left 1; (next => rfl); rotate_right 1; rotate_left 1; (next => rfl); rotate_right 1))
    | (focus ((with_reducible refine' callKf1 ?_ ?_ ?_ ?_ ?_); rotate_right 5; (next => (walk_at "isF")); (next => rfl); rotate_left 1; (next => rfl); rotate_right 1; rotate_left 1; (next => rfl); rotate_right 1))
    | (focus ((with_reducible refine' callKm10 ?_ ?_ (by assumption) (by assumption) ?_); rotate_right 3; (next => (walk_at "isF")); (next => rfl)))
    | (focus ((with_reducible refine callTy2 ?_ ?_ ?_); rotate_right 3; rotate_left 1; (next => rfl); rotate_right 1; rotate_left 1; (next => rfl); rotate_right 1))
    | walk_at "op")
  | ((guard_target = Nx _ _ _ _ _ _ _ _); first
    | (with_reducible refine nx ?_)
    | (with_reducible refine nx_ret ?_)
    | (with_reducible refine nx_brk ?_)
    | (with_reducible refine nx_cont ?_))
  | ((guard_target = wpAny _ _ (storeName _ _ _) _ _ _); first
    | (focus ((with_reducible refine' sL (by assumption) (by assumption) ?_ ?_ ?_); rotate_right 3; (next => (first | ((repeat (first | (with_reducible exact List.mem_cons_self) | (with_reducible refine' List.mem_cons_of_mem _ ?_))); done) | (with_reducible assumption))); (next => (walk_at "rm")); intro _ _))
    | (focus ((with_reducible refine' nS (by assumption) (by assumption) ?_ ?_ ?_); rotate_right 3; (next => (first | ((repeat (first | (with_reducible exact List.mem_cons_self) | (with_reducible refine' List.mem_cons_of_mem _ ?_))); done) | (with_reducible assumption))); (next => (walk_at "rm")); intro _ _))
    | (focus ((with_reducible refine' sC (by assumption) (by assumption) ?_ ?_ ?_ ?_); rotate_right 4; (next => (first | ((repeat (first | (with_reducible exact List.mem_cons_self) | (with_reducible refine' List.mem_cons_of_mem _ ?_))); done) | (with_reducible assumption))); (next => rfl); (next => (walk_at "up")); intro _ _)))
  | ((guard_target = wpAny _ _ (exec _ _) _ _ _); first
    | (focus ((with_reducible refine wpAny_Expr_any ?_ ?_ ?_); rotate_right 3; rotate_left 1; (next => (first | rfl | assumption)); rotate_right 1; rotate_left 1; (next => rfl); rotate_right 1))
    | (focus ((with_reducible refine wpAny_Assign_Name ?_ ?_); rotate_right 2; rotate_left 1; (next => rfl); rotate_right 1))
    | (with_reducible refine wpAny_Return_some ?_)
    | (with_reducible refine xIf ?_)
    | (with_reducible refine xDel ?_)
    | (with_reducible refine wpAny_Break ?_)
    | (with_reducible refine wpAny_Return_none ?_)
    | (focus ((with_reducible refine wpAny_Assign_Subscript ?_ ?_); rotate_right 2; rotate_left 1; (next => rfl); rotate_right 1))
    | (focus ((with_reducible refine plainObj_wpAny_Assign_Attribute ?_ ?_); rotate_right 2; rotate_left 1; (next => rfl); rotate_right 1))
    | (focus ((with_reducible refine xFor ?_ ?_); rotate_right 2; rotate_left 1; (next => (intro _; rfl)); rotate_right 1))
    | (focus ((with_reducible refine' xCompA ?_ ?_ ?_ ?_ ?_ ?_); rotate_right 6; rotate_left 1; (next => rfl); rotate_right 1; rotate_left 1; (next => (intro _; rfl)); rotate_right 1; rotate_left 1; (next => (with_unfolding_all rfl)); rotate_right 1; rotate_left 1; (next => (with_unfolding_all rfl)); rotate_right 1; rotate_left 1; (next => (decide +kernel)); rotate_right 1))
    | walk_at "op")
  | ((guard_target = wpAny _ _ (execs _ _) _ _ _); first
    | (with_reducible refine wpAny_execs_nil ?_)
    | (with_reducible refine xs_cons ?_))
  | ((guard_target = wpAny _ _ (PySem.isTrue _ _ _) _ _ _); first
    | (focus ((with_reducible refine isTrue_plain ?_ ?_); rotate_right 2; rotate_left 1; (next => rfl); rotate_right 1))
    | (with_reducible refine isTrue_not ?_)
    | (focus ((with_reducible refine wpAny_isTrue_Compare1 ?_ ?_); rotate_right 2; rotate_left 1; (next => (with_unfolding_all rfl)); rotate_right 1))
    | (with_reducible refine isTrue_and_nil ?_)
    | (with_reducible refine isTrue_or_nil ?_)
    | (with_reducible refine isTrue_and ?_)
    | (with_reducible refine isTrue_or ?_)
    | walk_at "op")
  | ((guard_target = wpAny _ _ (call (Value.builtin _) _) _ _ _); first | walk_at "op" | walk_at "gcall")
  | ((guard_target = wpAny _ _ (getMethod _ _ _) _ _ _); first | walk_at "op" | walk_at "ggetMethod")
  | ((guard_target = wpAny _ _ (getAttr _ _ _) _ _ _); first | walk_at "op" | walk_at "ggetAttr")
  | ((guard_target = wpAny _ _ (truthy _) _ _ _); first | walk_at "op" | walk_at "gtruthy")
  | ((guard_target = wpAny _ _ (compareOp _ _ _) _ _ _); first | walk_at "op" | walk_at "gcompareOp")
  | ((guard_target = wpAny _ _ (subscriptTail _ _ _ _) _ _ _); first | walk_at "op" | walk_at "gsubscriptTail")
  | (with_reducible refine' inX (by assumption) (by assumption) ?_)
  | (focus ((with_reducible refine' eSliceEnd (by assumption) ?_); intro _ _ _))
  | (with_reducible refine evalPart_none_step ?_)
  | (with_reducible refine evalPart_some_step ?_)
  | (with_reducible refine for_brk ?_)
  | (with_reducible refine for_ret ?_)
  | (with_reducible refine iNot ?_)
  | (with_reducible refine wpAny_tests_nil ?_)
  | (with_reducible refine wpAny_tests_one ?_)
  | (with_reducible refine ifT (Eq.refl true) ?_)
  | (with_reducible refine ifF (Eq.refl false) ?_)
  | (with_reducible refine wpAny_assign_Name ?_)
  | (with_reducible refine assignInOrder_cons ?_)
  | (with_reducible refine assignInOrder_nil ?_)
  | (focus ((with_reducible refine' uTuple (by assumption) ?_ ?_); rotate_right 2; (next => (walk_at "size")); intro _ _ _))
  | (focus ((with_reducible refine' uList (by assumption) ?_ ?_); rotate_right 2; (next => (walk_at "size")); intro _ _ _))
  | walk_at "op"
  | walk_at "oprest")))
local macro_rules | `(tactic| walk_at "pc") => `(tactic| exact perm_of_S fun S f h0 hc ha => by (simp only [ha, hc, h0, List.cons_append, List.nil_append, Nat.add_zero, Nat.zero_add]; first | done | ac_rfl | omega))
local macro_rules | `(tactic| walk_at "goS") => `(tactic| (repeat ((fail_if_success (with_reducible refine nx ?_)); (first
  | ((guard_target = wpAny _ _ (PySem.eval (Expr.Name _ _) _) _ _ _); first
    | (focus ((with_reducible refine' eL (by assumption) (by assumption) ?_ ?_ ?_); rotate_right 3; (next => (first | ((repeat (first | (with_reducible exact List.mem_cons_self) | (with_reducible refine' List.mem_cons_of_mem _ ?_))); done) | (with_reducible assumption))); (next => (first | ((repeat (first | (with_reducible exact List.mem_cons_self) | (with_reducible refine' List.mem_cons_of_mem _ ?_))); done) | walk_at "mem"))))
    | (focus ((with_reducible refine' eB' (by assumption) (by assumption) (by assumption) ?_ ?_ ?_); rotate_right 3; (next => (first | ((repeat (first | (with_reducible exact List.mem_cons_self) | (with_reducible refine' List.mem_cons_of_mem _ ?_))); done) | (with_reducible assumption))); (next => (walk_at "isB"))))
    | (focus ((with_reducible refine' eG' (by assumption) (by assumption) (by assumption) ?_ ?_ ?_); rotate_right 3; (next => (first | ((repeat (first | (with_reducible exact List.mem_cons_self) | (with_reducible refine' List.mem_cons_of_mem _ ?_))); done) | (with_reducible assumption))); (next => (walk_at "isG"))))
    | (focus ((with_reducible refine' nL (by assumption) (by assumption) ?_ ?_ ?_); rotate_right 3; (next => (first | ((repeat (first | (with_reducible exact List.mem_cons_self) | (with_reducible refine' List.mem_cons_of_mem _ ?_))); done) | (with_reducible assumption))); (next => (first | ((repeat (first | (with_reducible exact List.mem_cons_self) | (with_reducible refine' List.mem_cons_of_mem _ ?_))); done) | walk_at "mem"))))
    | (focus ((with_reducible refine' nB (by assumption) (by assumption) (by assumption) ?_ ?_ ?_); rotate_right 3; (next => (first | ((repeat (first | (with_reducible exact List.mem_cons_self) | (with_reducible refine' List.mem_cons_of_mem _ ?_))); done) | (with_reducible assumption))); (next => (walk_at "isB"))))
    | (focus ((with_reducible refine' nG (by assumption) (by assumption) (by assumption) ?_ ?_ ?_); rotate_right 3; (next => (first | ((repeat (first | (with_reducible exact List.mem_cons_self) | (with_reducible refine' List.mem_cons_of_mem _ ?_))); done) | (with_reducible assumption))); (next => (walk_at "isG"))))
    | (focus ((with_reducible refine' nC (by assumption) (by assumption) ?_ ?_ ?_ ?_); rotate_right 4; rotate_left 1; (next => (first | ((repeat (first | (with_reducible exact List.mem_cons_self) | (with_reducible refine' List.mem_cons_of_mem _ ?_))); done) | (with_reducible assumption))); rotate_right 1; rotate_left 1; (next => (first | (with_reducible assumption) | rfl)); rotate_right 1; (next => (walk_at "has"))))
    | (focus ((with_reducible refine' nF (by assumption) (by assumption) ?_ ?_ ?_ ?_ ?_); rotate_right 5; rotate_left 1; (next => (first | ((repeat (first | (with_reducible exact List.mem_cons_self) | (with_reducible refine' List.mem_cons_of_mem _ ?_))); done) | (with_reducible assumption))); rotate_right 1; rotate_left 1; (next => rfl); rotate_right 1; rotate_left 1; (next => rfl); rotate_right 1; (next => (walk_at "has"))))
    | (focus ((with_reducible refine' eC (by assumption) (by assumption) ?_ ?_ ?_ ?_); rotate_right 4; (next => (first | ((repeat (first | (with_reducible exact List.mem_cons_self) | (with_reducible refine' List.mem_cons_of_mem _ ?_))); done) | (with_reducible assumption))); (next => rfl); (next => (first | ((repeat (first | (with_reducible exact List.mem_cons_self) | (with_reducible refine' List.mem_cons_of_mem _ ?_))); done) | walk_at "mem"))))
    | walk_at "op")
  | ((guard_target = wpAny _ _ (PySem.eval _ _) _ _ _); first
    | (with_reducible refine wpAny_BinOp ?_)
    | (with_reducible refine UnaryOp_ ?_)
    | (focus ((with_reducible refine' MethodCall_ ?_ ?_); rotate_right 2; rotate_left 1; (next => rfl); rotate_right 1))
    | (focus ((with_reducible refine' MethodP_ ?_ ?_); rotate_right 2; (next => (with_reducible assumption))))
    | (focus ((with_reducible refine' MethodStar_ ?_ ?_); rotate_right 2; rotate_left 1; (next => rfl); rotate_right 1))
    | (focus ((with_reducible refine Call_ ?_ ?_); rotate_right 2; rotate_left 1; (next => rfl); rotate_right 1))
    | (with_reducible refine Attribute_name ?_)
    | (with_reducible refine Subscript_ ?_)
    | (focus ((with_reducible refine' eInt (by assumption) ?_); intro _ _ _))
    | (focus ((with_reducible refine' eStr (by assumption) ?_); intro _ _ _))
    | (with_reducible refine eBool ?_)
    | (with_reducible refine eNone ?_)
    | (with_reducible refine' eSlice (by assumption) ?_)
    | (focus ((with_reducible refine wpAny_Compare1 ?_ ?_); rotate_right 2; rotate_left 1; (next => (with_unfolding_all rfl)); rotate_right 1))
    | (with_reducible refine List_ ?_)
    | (with_reducible refine Tuple_ ?_)
    | (with_reducible refine BoolOp_one ?_)
    | (with_reducible refine BoolOp_and ?_)
    | (with_reducible refine BoolOp_or ?_)
    | (focus ((with_reducible refine' xComp ?_ ?_ ?_ ?_ ?_); rotate_right 5; rotate_left 1; (next => (intro _; rfl)); rotate_right 1; rotate_left 1; (next => (with_unfolding_all rfl)); rotate_right 1; rotate_left 1; (next => (with_unfolding_all rfl)); rotate_right 1; rotate_left 1; (next => (decide +kernel)); rotate_right 1))
    | (focus ((with_reducible refine' eDictNil (by assumption) ?_); intro _ _ _))
    | walk_at "op")
  | ((guard_target = wpAny _ _ (spliced _) _ _ _); first
    | (focus ((with_reducible refine args_cons ?_ ?_); rotate_right 2; rotate_left 1; (next => rfl); rotate_right 1))
    | (with_reducible refine args_nil ?_)
    | walk_at "op")
  | ((guard_target = wpAny _ _ (callWith _ _ _ _ _) _ _ _); first
    | (focus ((with_reducible refine callBi1 ?_ ?_ ?_); rotate_right 3; rotate_left 1; (next => rfl); rotate_right 1; rotate_left 1; (next => rfl); rotate_right 1))
    | (focus ((with_reducible refine callBi2 ?_ ?_ ?_); rotate_right 3; rotate_left 1; (next => rfl); rotate_right 1; rotate_left 1; (next => rfl); rotate_right 1))
    | (with_reducible refine callBi10 ?_)
    | (focus ((with_reducible refine' callKm1 ?_ ?_ ?_ ?_ ?_); rotate_right 5; (next => (walk_at "isF")); (next => rfl); rotate_left 1; (next => rfl); rotate_right 1; rotate_left 1; (next => rfl); rotate_right 1))
    | (focus ((with_reducible refine' callKf1 ?_ ?_ ?_ ?_ ?_); rotate_right 5; (next => (walk_at "isF")); (next => rfl); rotate_left 1; (next => rfl); rotate_right 1; rotate_left 1; (next => rfl); rotate_right 1))
    | (focus ((with_reducible refine' callKm10 ?_ ?_ (by assumption) (by assumption) ?_); rotate_right 3; (next => (walk_at "isF")); (next => rfl)))
    | (focus ((with_reducible refine callTy2 ?_ ?_ ?_); rotate_right 3; rotate_left 1; (next => rfl); rotate_right 1; rotate_left 1; (next => rfl); rotate_right 1))
    | walk_at "op")
  | ((guard_target = Nx _ _ _ _ _ _ _ _); first
    | (with_reducible refine nx ?_)
    | (with_reducible refine nx_ret ?_)
    | (with_reducible refine nx_brk ?_)
    | (with_reducible refine nx_cont ?_))
  | ((guard_target = wpAny _ _ (storeName _ _ _) _ _ _); first
    | (focus ((with_reducible refine' sL (by assumption) (by assumption) ?_ ?_ ?_); rotate_right 3; (next => (first | ((repeat (first | (with_reducible exact List.mem_cons_self) | (with_reducible refine' List.mem_cons_of_mem _ ?_))); done) | (with_reducible assumption))); (next => (walk_at "rm")); intro _ _))
    | (focus ((with_reducible refine' nS (by assumption) (by assumption) ?_ ?_ ?_); rotate_right 3; (next => (first | ((repeat (first | (with_reducible exact List.mem_cons_self) | (with_reducible refine' List.mem_cons_of_mem _ ?_))); done) | (with_reducible assumption))); (next => (walk_at "rm")); intro _ _))
    | (focus ((with_reducible refine' sC (by assumption) (by assumption) ?_ ?_ ?_ ?_); rotate_right 4; (next => (first | ((repeat (first | (with_reducible exact List.mem_cons_self) | (with_reducible refine' List.mem_cons_of_mem _ ?_))); done) | (with_reducible assumption))); (next => rfl); (next => (walk_at "up")); intro _ _)))
  | ((guard_target = wpAny _ _ (exec _ _) _ _ _); first
    | (focus ((with_reducible refine wpAny_Expr_any ?_ ?_ ?_); rotate_right 3; rotate_left 1; (next => (first | rfl | assumption)); rotate_right 1; rotate_left 1; (next => rfl); rotate_right 1))
    | (focus ((with_reducible refine wpAny_Assign_Name ?_ ?_); rotate_right 2; rotate_left 1; (next => rfl); rotate_right 1))
    | (with_reducible refine wpAny_Return_some ?_)
    | (with_reducible refine xIf ?_)
    | (with_reducible refine xDel ?_)
    | (with_reducible refine wpAny_Break ?_)
    | (with_reducible refine wpAny_Return_none ?_)
    | (focus ((with_reducible refine wpAny_Assign_Subscript ?_ ?_); rotate_right 2; rotate_left 1; (next => rfl); rotate_right 1))
    | (focus ((with_reducible refine plainObj_wpAny_Assign_Attribute ?_ ?_); rotate_right 2; rotate_left 1; (next => rfl); rotate_right 1))
    | (focus ((with_reducible refine xFor ?_ ?_); rotate_right 2; rotate_left 1; (next => (intro _; rfl)); rotate_right 1))
    | (focus ((with_reducible refine' xCompA ?_ ?_ ?_ ?_ ?_ ?_); rotate_right 6; rotate_left 1; (next => rfl); rotate_right 1; rotate_left 1; (next => (intro _; rfl)); rotate_right 1; rotate_left 1; (next => (with_unfolding_all rfl)); rotate_right 1; rotate_left 1; (next => (with_unfolding_all rfl)); rotate_right 1; rotate_left 1; (next => (decide +kernel)); rotate_right 1))
    | walk_at "op")
  | ((guard_target = wpAny _ _ (execs _ _) _ _ _); first
    | (with_reducible refine wpAny_execs_nil ?_)
    | (with_reducible refine xs_cons ?_))
  | ((guard_target = wpAny _ _ (PySem.isTrue _ _ _) _ _ _); first
    | (focus ((with_reducible refine isTrue_plain ?_ ?_); rotate_right 2; rotate_left 1; (next => rfl); rotate_right 1))
    | (with_reducible refine isTrue_not ?_)
    | (focus ((with_reducible refine wpAny_isTrue_Compare1 ?_ ?_); rotate_right 2; rotate_left 1; (next => (with_unfolding_all rfl)); rotate_right 1))
    | (with_reducible refine isTrue_and_nil ?_)
    | (with_reducible refine isTrue_or_nil ?_)
    | (with_reducible refine isTrue_and ?_)
    | (with_reducible refine isTrue_or ?_)
    | walk_at "op")
  | ((guard_target = wpAny _ _ (call (Value.builtin _) _) _ _ _); first | walk_at "op" | walk_at "gcall")
  | ((guard_target = wpAny _ _ (getMethod _ _ _) _ _ _); first | walk_at "op" | walk_at "ggetMethod")
  | ((guard_target = wpAny _ _ (getAttr _ _ _) _ _ _); first | walk_at "op" | walk_at "ggetAttr")
  | ((guard_target = wpAny _ _ (truthy _) _ _ _); first | walk_at "op" | walk_at "gtruthy")
  | ((guard_target = wpAny _ _ (compareOp _ _ _) _ _ _); first | walk_at "op" | walk_at "gcompareOp")
  | ((guard_target = wpAny _ _ (subscriptTail _ _ _ _) _ _ _); first | walk_at "op" | walk_at "gsubscriptTail")
  | (with_reducible refine' inX (by assumption) (by assumption) ?_)
  | (focus ((with_reducible refine' eSliceEnd (by assumption) ?_); intro _ _ _))
  | (with_reducible refine evalPart_none_step ?_)
  | (with_reducible refine evalPart_some_step ?_)
  | (with_reducible refine for_brk ?_)
  | (with_reducible refine for_ret ?_)
  | (with_reducible refine iNot ?_)
  | (with_reducible refine wpAny_tests_nil ?_)
  | (with_reducible refine wpAny_tests_one ?_)
  | (with_reducible refine ifT (Eq.refl true) ?_)
  | (with_reducible refine ifF (Eq.refl false) ?_)
  | (with_reducible refine wpAny_assign_Name ?_)
  | (with_reducible refine assignInOrder_cons ?_)
  | (with_reducible refine assignInOrder_nil ?_)
  | (focus ((with_reducible refine' uTuple (by assumption) ?_ ?_); rotate_right 2; (next => (walk_at "size")); intro _ _ _))
  | (focus ((with_reducible refine' uList (by assumption) ?_ ?_); rotate_right 2; (next => (walk_at "size")); intro _ _ _))
  | walk_at "op"
  | walk_at "oprest"))))
section
open PySem PySem.W PySem.Calls PyProof.Rows
set_option Elab.async false
set_option maxRecDepth 100000
set_option maxHeartbeats 400000
set_option linter.unusedVariables false
def clsDef (i j : Nat) : Arguments × List Stmt × Scope := match PW.main.body[i]? with
  | some (.ClassDef _ _ _ b _ _ _ _ _ _ _) => (match b[j]? with | some (.FunctionDef _ a b _ _ _ s _ _ _) => (a, b, s) | _ => default)
  | _ => default
abbrev prm (i j : Nat) : Arguments := (clsDef i j).1
abbrev bdy (i j : Nat) : List Stmt := (clsDef i j).2.1
abbrev scp (i j : Nat) : Scope := (clsDef i j).2.2
abbrev pmC : Value := .str "constraint" 194
/-- a method of the text -/
abbrev methO (name qual : Str) (i j : Nat) (f : Addr) (dV : Value) : Obj := ⟨.type "function", none, .func (fnX name qual (prm i j) (bdy i j) (scp i j) [] dV .none .none pmC none (.ref (f - 1)) .none), #[]⟩

theorem b_len : IsB "len" (.builtin "len") := ⟨fun P => by kernel_rfl, by kernel_rfl, by decide +kernel⟩
theorem dm_states (P : Params) : findIn (KK P) (.ref 303) "_states" = some none := by kernel_rfl
theorem dm_hidden (P : Params) : findIn (KK P) (.ref 303) "_hidden" = some none := by kernel_rfl
theorem dm_extend (P : Params) : findIn (KK P) (.ref 303) "extend" = some (some (.builtin "list.extend")) := by kernel_rfl
theorem dt_extend (P : Params) : typeIn (KK P) (.builtin "list.extend") = some (.type "method_descriptor") := by kernel_rfl
theorem dm_remove (P : Params) : findIn (KK P) (.ref 303) "remove" = some (some (.builtin "list.remove")) := by kernel_rfl
theorem dt_remove (P : Params) : typeIn (KK P) (.builtin "list.remove") = some (.type "method_descriptor") := by kernel_rfl
theorem fn_push (P : Params) : (KK P).lookup 286 = some (methO "pushState" "Domain.pushState" 8 2 286 .none) := by kernel_rfl
theorem cd_push (P : Params) : codeIn (KK P) (.ref 285) "Domain.pushState" = true := by kernel_rfl
theorem fn_pop (P : Params) : (KK P).lookup 293 = some (methO "popState" "Domain.popState" 8 3 293 .none) := by kernel_rfl
theorem cd_pop (P : Params) : codeIn (KK P) (.ref 292) "Domain.popState" = true := by kernel_rfl
theorem fn_hide (P : Params) : (KK P).lookup 300 = some (methO "hideValue" "Domain.hideValue" 8 4 300 .none) := by kernel_rfl
theorem cd_hide (P : Params) : codeIn (KK P) (.ref 299) "Domain.hideValue" = true := by kernel_rfl
abbrev tb_push : List (Str × NameKind) := [("self", .local), ("len", .globalImplicit)]
theorem kt_push : Kt (scp 8 2) tb_push := ⟨by decide +kernel, by decide +kernel⟩
abbrev tb_pop : List (Str × NameKind) := [("self", .local), ("diff", .local), ("len", .globalImplicit)]
theorem kt_pop : Kt (scp 8 3) tb_pop := ⟨by decide +kernel, by decide +kernel⟩
abbrev tb_hide : List (Str × NameKind) := [("self", .local), ("value", .local)]
theorem kt_hide : Kt (scp 8 4) tb_hide := ⟨by decide +kernel, by decide +kernel⟩
local macro_rules | `(tactic| walk_at "isB") => `(tactic| first | (with_reducible exact b_len))
local macro_rules | `(tactic| walk_at "isD") => `(tactic| first | (with_reducible exact dm_states _) | (with_reducible exact dm_hidden _) | (with_reducible exact dm_extend _) | (with_reducible exact dt_extend _) | (with_reducible exact dm_remove _) | (with_reducible exact dt_remove _))
abbrev domAtt (hl sl : Addr) : List (Str × Value) := [("_hidden", .ref hl), ("_states", .ref sl)]

section
variable {prog : Program} {w : World} {K : Type} [DecidableEq K] {knd : KeyKind prog w K} {A : Around} {s : Shared}
theorem push_spec {R : Result → Shared → Prop} {g₀ : Heap} {d dx hl sl : Addr} {xs st : List Value} (hr : Room A 3) (X : At knd g₀ s [(d, .dom dx xs), (sl, .lst st)]) (D : Has knd g₀ dx (.att (domAtt hl sl)))
    (hx : xs.length < 1000) (hs : st.length < 1000)
    (h : ∀ t s', Eff knd s [d, sl] [(d, .dom dx xs), (sl, .lst (st ++ [.int xs.length t]))] s' → R (.ok (.ret .none)) s') : codeAny (model prog w) A (.call (.ref 286) ⟨[.ref d], []⟩) R s := by
  refine enter (knd := knd) (names := ["self"]) (vals := [.ref d]) X hr (X.k _ _ (X.B.X _ _ (fn_push _))) rfl ((codeRec_of X.B.X (cd_push _)).keeps X.k) (BindsTo.of_eq (by kernel_rfl)) (by decide +kernel) (by decide +kernel)
    (fun g L s₁ hg hg' B H => ?_) (by decide +kernel) (by kernel_rfl) (by kernel_rfl) kt_push.kind
  have kt := kt_push
  have Dg := D.keep fun o e => hg' _ o e
  replace H : St knd g (sideOf s) L [("self", .ref d)] [(d, .dom dx xs), (sl, .lst st)] s₁ := H
  refine xs_cons (st := _) (rest := _) ?_
  walk_at "go"
  refine' fn_next (h ?t _ (St.toEff (by assumption) ?sub hg))
  case sub => walk_at "sub"

theorem pop_spec {R : Result → Shared → Prop} {g₀ : Heap} {d dx hl sl : Addr} {xs hs st : List Value} {k : Nat} {t : Tok} (hr : Room A 3)
    (X : At knd g₀ s [(d, .dom dx xs), (hl, .lst hs), (sl, .lst (st ++ [.int ((xs.length + k : Nat) : Int) t]))]) (D : Has knd g₀ dx (.att (domAtt hl sl)))
    (hk : k ≤ hs.length) (hx : xs.length < 500) (hhs : hs.length < 500) (hst : st.length < 1000)
    (h : ∀ s', Eff knd s [d, hl, sl] [(d, .dom dx (xs ++ hs.drop (hs.length - k))), (hl, .lst (hs.take (hs.length - k))), (sl, .lst st)] s' → R (.ok (.ret .none)) s') : codeAny (model prog w) A (.call (.ref 293) ⟨[.ref d], []⟩) R s := by
  refine enter (knd := knd) (names := ["self"]) (vals := [.ref d]) X hr (X.k _ _ (X.B.X _ _ (fn_pop _))) rfl ((codeRec_of X.B.X (cd_pop _)).keeps X.k) (BindsTo.of_eq (by kernel_rfl)) (by decide +kernel) (by decide +kernel)
    (fun g L s₁ hg hg' B H => ?_) (by decide +kernel) (by kernel_rfl) (by kernel_rfl) kt_pop.kind
  have kt := kt_pop
  have Dg := D.keep fun o e => hg' _ o e
  replace H : St knd g (sideOf s) L [("self", .ref d)] [(d, .dom dx xs), (hl, .lst hs), (sl, .lst (st ++ [.int ((xs.length + k : Nat) : Int) t]))] s₁ := H
  refine xs_cons (st := _) (rest := _) ?_
  walk_at "go"
  have e0 : (((xs.length + k : Nat) : Int) - (xs.length : Int)) = (k : Int) := by omega
  by_cases k0 : k = 0
  · subst k0
    refine ifF (by simp) ?_
    walk_at "go"
    refine' fn_next (h _ (St.toEff (by assumption) ?sub hg))
    case sub => simp only [Nat.sub_zero, List.drop_length, List.append_nil, List.take_length]; walk_at "sub"
  · refine ifT (by simp; omega) ?_
    walk_at "go"
    refine' tSliceLast (k := k) (by assumption) ?hd ?hs ?hi (by omega) hk (by omega) ?_
    case hd => walk_at "has"
    case hs => walk_at "has"
    case hi => omega
    intro _ _ _
    walk_at "go"
    refine' uDelLast (k := k) (by assumption) ?U ?hs ?hi (by omega) hk (by omega) ?_
    case U => walk_at "up"
    case hs => walk_at "has"
    case hi => omega
    intro _ _
    walk_at "go"
    refine' fn_next (h _ (St.toEff (by assumption) ?sub hg))
    case sub => walk_at "sub"

theorem hide_spec {R : Result → Shared → Prop} {g₀ : Heap} {d dx hl sl : Addr} {pre post hs : List Value} {k : Int} {t : Tok} (hr : Room A 3)
    (X : At knd g₀ s [(d, .dom dx (pre ++ .int k t :: post)), (hl, .lst hs)]) (D : Has knd g₀ dx (.att (domAtt hl sl)))
    (hp : ∀ v ∈ pre, ∃ j u, v = .int j u ∧ j ≠ k) (hz : (pre ++ .int k t :: post).length ≤ 500) (hhs : hs.length < 500)
    (h : ∀ s', Eff knd s [d, hl] [(d, .dom dx (pre ++ post)), (hl, .lst (hs ++ [.int k t]))] s' → R (.ok (.ret .none)) s') : codeAny (model prog w) A (.call (.ref 300) ⟨[.ref d, .int k t], []⟩) R s := by
  refine enter (knd := knd) (names := ["self", "value"]) (vals := [.ref d, .int k t]) X hr (X.k _ _ (X.B.X _ _ (fn_hide _))) rfl ((codeRec_of X.B.X (cd_hide _)).keeps X.k) (BindsTo.of_eq (by kernel_rfl)) (by decide +kernel) (by decide +kernel)
    (fun g L s₁ hg hg' B H => ?_) (by decide +kernel) (by kernel_rfl) (by kernel_rfl) kt_hide.kind
  have kt := kt_hide
  have Dg := D.keep fun o e => hg' _ o e
  replace H : St knd g (sideOf s) L [("self", .ref d), ("value", .int k t)] [(d, .dom dx (pre ++ .int k t :: post)), (hl, .lst hs)] s₁ := H
  refine xs_cons (st := _) (rest := _) ?_
  walk_at "go"
  refine' uDomRemove (pre := pre) (post := post) (dx := dx) (by assumption) (by assumption) hp ?hz ?U ?_
  case hz => omega
  case U => walk_at "up"
  intro _ _
  walk_at "go"
  refine' fn_next (h _ (St.toEff (by assumption) ?sub hg))
  case sub => walk_at "sub"
end
end
end Csp
end
section
open PySem PySem.W PySem.Calls PyProof.Rows
set_option Elab.async false
set_option maxRecDepth 100000
set_option maxHeartbeats 400000
set_option linter.unusedVariables false
namespace Csp
section
variable {prog : Program} {w : World} {K : Type} [DecidableEq K] {knd : KeyKind prog w K} {A : Around} {E : Value → Shared → Prop} {s : Shared}
  {g : Heap} {R : Side} {L : Addr} {vs vs' : Vars} {l l' : Led K} {a : Addr}

theorem Up.get {k k' : Kd K} : ∀ {l : Led K}, (a, k) ∈ l → ∃ l', Up a k k' l l'
  | p :: l, h => by
    rcases List.mem_cons.mp h with rfl | h
    · exact ⟨_, .head⟩
    · obtain ⟨l', u⟩ := Up.get (l := l) h; exact ⟨_, .tail u⟩
theorem St.recast (H : St knd g R L vs l s) {k k' : Kd K} (U : Up a k k' l l') (h : ∀ o, s.heap.get? a = some o → k.holds knd o → k'.holds knd o) : St knd g R L vs l' s := by
  have hm := H.N _ U.mem
  have hnd := H.nd
  obtain ⟨pre, post, rfl, rfl⟩ := U.split
  refine ⟨H.F, fun p hp => ?_, ?_, H.gens, H.drawn, H.os, H.low⟩
  · rcases List.mem_append.mp hp with hp | hp
    · exact H.N p (List.mem_append.mpr (.inl hp))
    · rcases List.mem_cons.mp hp with rfl | hp
      · obtain ⟨⟨o, ho, hk⟩, r⟩ := hm
        exact ⟨⟨o, ho, h o ho hk⟩, r⟩
      · exact H.N p (List.mem_append.mpr (.inr (.tail _ hp)))
  · simpa using hnd
/-- an entry is held fast, for a loop over it -/
theorem St.fix (H : St knd g R L vs l s) {k : Kd K} (hm : (a, k) ∈ l) : ∃ o, s.heap.get? a = some o ∧ k.holds knd o ∧ ∀ l', Up a k (.raw o) l l' → St knd g R L vs l' s := by
  obtain ⟨o, ho, hk⟩ := H.has hm
  exact ⟨o, ho, hk, fun l' U => H.recast U fun o' ho' _ => by rw [ho] at ho'; exact (Option.some.inj ho').symm⟩
theorem St.unfix (H : St knd g R L vs l s) {k : Kd K} {o : Obj} (hk : k.holds knd o) (U : Up a (.raw o) k l l') : St knd g R L vs l' s :=
  H.recast U fun o' _ e => by rw [show o' = o from e]; exact hk
theorem Has.ofRaw {h : Heap} {k : Kd K} {o : Obj} (hk : k.holds knd o) (x : Has knd h a (.raw o)) : Has knd h a k := ⟨o, x.rawE, hk⟩

/-- an inner frame is left -/
theorem St.leave {lc l₂ : Led K} {C : Addr} {vq : Vars} {s' : Shared} (H : St knd g R L vs lc s) (H₂ : St knd (hideAll s.heap (lc.map (·.1))) (sideOf s) C vq l₂ s') : St knd g R L vs l₂ s' := by
  obtain ⟨m, F, kn⟩ := H.F
  obtain ⟨m₂, F₂, _⟩ := H₂.F
  have hL : L ∉ lc.map (·.1) := fun q => by
    obtain ⟨p, hp, e⟩ := List.mem_map.mp q
    exact (H.N p hp).2.1 e
  have hg : ∀ b o, g.get? b = some o → (hideAll s.heap (lc.map (·.1))).get? b = some o := fun b o e => hideAll_get _ (F.keep b o e) fun q => by
    obtain ⟨p, hp, rfl⟩ := List.mem_map.mp q
    have := (H.N p hp).2.2.1
    rw [this] at e; cases e
  have hLo : ∃ o, s.heap.get? L = some o := let ⟨o, _, _, ho, _⟩ := F.ns; ⟨o, ho⟩
  refine ⟨⟨m, ⟨?_, fun b o e => F₂.keep b o (hg b o e), F.above⟩, kn⟩, fun p hp => ⟨(H₂.N p hp).1, ?_, ?_, (H₂.N p hp).2.2.2⟩, H₂.nd, H₂.gens.trans H.gens, H₂.drawn.trans H.drawn, H₂.os.trans H.os, H.low⟩
  · obtain ⟨o, es, ep, ho, r⟩ := F.ns
    exact ⟨o, es, ep, F₂.keep L o (hideAll_get _ ho hL), r⟩
  · rintro rfl
    obtain ⟨o, ho⟩ := hLo
    have := (H₂.N p hp).2.2.1
    rw [hideAll_get _ ho hL] at this; cases this
  · cases q : g.get? p.1 with
    | none => rfl
    | some o => have := (H₂.N p hp).2.2.1; rw [hg _ _ q] at this; cases this
theorem St.sameBut (H : St knd g R L vs l s) {h' : Heap} {t : Nat} {C : Addr} (hs : Heap.SameBut C s.heap h') (h1 : C ≠ L) (h2 : g.get? C = none) (h3 : ∀ p ∈ l, p.1 ≠ C) : St knd g R L vs l { s with heap := h', toks := t } := by
  obtain ⟨m, F, kn⟩ := H.F
  refine H.heap ⟨m, ⟨F.ns.sameBut hs (Ne.symm h1), fun b o e => (hs.2 b fun q => ?_).trans (F.keep b o e), F.above⟩, kn⟩ (fun p hp => ⟨(H.N p hp).1.same hs (h3 p hp), (H.N p hp).2⟩) H.nd
  subst q; rw [h2] at e; cases e
/-- an entry is dropped, its object changed -/
theorem St.drop (H : St knd g R L vs ((a, k) :: l) s) {h' : Heap} {t : Nat} (hs : Heap.ExtBut a s.heap h') : St knd g R L vs l { s with heap := h', toks := t } := by
  obtain ⟨m, F, kn⟩ := H.F
  have ha := H.N _ (.head _)
  have hnd := H.nd
  rw [List.map_cons, List.nodup_cons] at hnd
  refine H.heap ⟨m, ⟨?_, fun b o e => hs b o (fun q => ?_) (F.keep b o e), F.above⟩, kn⟩ (fun p hp => ⟨(H.N p (.tail _ hp)).1.keep fun o e => hs _ o (fun q => ?_) e, (H.N p (.tail _ hp)).2⟩) hnd.2
  · obtain ⟨o, es, ep, ho, r⟩ := F.ns
    exact ⟨o, es, ep, hs L o (fun q => ha.2.1 q.symm) ho, r⟩
  · subst q; have := ha.2.2.1; dsimp only at this; rw [this] at e; cases e
  · exact hnd.1 (List.mem_map.mpr ⟨p, hp, q⟩)

/-- an iterator -/
structure Iter (prog : Program) (w : World) (knd : KeyKind prog w K) (A : Around) (it : Value) (a : Addr) (o : Obj) (n : Nat) (P : Nat → Value → Led K → Prop) (io : Nat → Led K) : Prop where
  item : ∀ {g R L vs l s i} {target : Expr} {Q : Value → Shared → Prop} {E E' : Value → Shared → Prop}, i < n → St knd g R L vs (io i ++ l) s → s.heap.get? a = some o →
    (∀ v new s', P i v new → St knd g R L vs (new ++ (io (i + 1) ++ l)) s' → Q v s') →
    wpAny (model prog w) A (pyNext it) (fun r s₁ => ∃ v, r = some v ∧ wpAny (model prog w) A (letOwnedTupleGo target it v) (fun _ s₂ => Q v s₂) E' s₁) E s
  done : ∀ {g R L vs l s} {Q : Option Value → Shared → Prop} {E : Value → Shared → Prop}, St knd g R L vs (io n ++ l) s → s.heap.get? a = some o →
    (∀ s', St knd g R L vs l s' → Q none s') → wpAny (model prog w) A (pyNext it) Q E s
  again : ∀ {g R L vs l s i} {Q : Value → Shared → Prop} {E : Value → Shared → Prop}, St knd g R L vs (io i ++ l) s → Q it s → wpAny (model prog w) A (pyIter it) Q E s

abbrev seqIt (cls : String) (a : Addr) (i : Nat) : Kd K := .obs fun o => o.cls = .type cls ∧ o.data = .fields #[.ref a, .int i 0]
abbrev oneIt (I : Addr) (k : Nat → Kd K) : Nat → Led K := fun i => [(I, k i)]
theorem letGo_seq {I : Addr} {target : Expr} {v : Value} {o : Obj} {cls : String} {Q : Unit → Shared → Prop} {M : Model} (ho : s.heap.get? I = some o) (hc : o.cls = .type cls)
    (hn : ["enumerate", "zip", "dict_itemiterator", "dict_reverseitemiterator", "odict_iterator", "itertools.zip_longest", "itertools.pairwise"].contains cls = false) (h : Q () s) : wpAny M A (letOwnedTupleGo target (.ref I) v) Q E s := by
  have go : wpAny M A (do
    let (.ref r, .ref a) := (Value.ref I, v) | return
    let o ← load r
    match o.cls, o.data with
    | .type n, .fields vs =>
        if ["enumerate", "zip", "dict_itemiterator", "dict_reverseitemiterator", "odict_iterator", "itertools.zip_longest", "itertools.pairwise"].contains n && vs[0]? == some (rawInt a) then
          rule "for.unpacks-the-owned-tuple"
          updateField r 0 .none
    | _, _ => pure ()) Q E s := by
    cases v <;> try exact wpAny_pure h
    dsimp only
    refine wpAny_bind (wpAny_load ho ?_)
    rw [hc]
    cases o.data <;> try exact wpAny_pure h
    dsimp only
    rw [hn]
    exact wpAny_pure h
  unfold letOwnedTupleGo
  split
  · exact go
  · exact go
  · exact wpAny_pure h
end
end Csp
end
section
open PySem PySem.W PySem.Calls PyProof.Rows
set_option Elab.async false
set_option maxRecDepth 100000
set_option maxHeartbeats 400000
set_option linter.unusedVariables false
set_option linter.unusedSectionVars false
namespace Csp
section
variable {prog : Program} {w : World} {K : Type} [DecidableEq K] {knd : KeyKind prog w K} {A : Around} {E : Value → Shared → Prop} {s : Shared}
  {g : Heap} {R : Side} {L : Addr} {vs vs' : Vars} {l l' : Led K} {a I : Addr}

theorem next_seq_item {items : List Value} {x : Value} {i n : Nat} {o ol : Obj} {Q : Option Value → Shared → Prop} (ho : s.heap.get? I = some o) (hc : o.cls = .type "list_iterator") (hd : o.data = .fields #[.ref a, .int i 0])
    (hol : s.heap.get? a = some ol) (hdl : ol.data = .seq items.toArray n) (hx : items[i]? = some x)
    (hQ : ∀ h', Has knd h' I (seqIt "list_iterator" a (i + 1)) → Heap.SameBut I s.heap h' → Q (some x) { s with heap := h' }) : wpAny (model prog w) A (pyNext (.ref I)) Q E s := by
  have hit : s.heap.IsListIter I a i := ⟨o, ho, hc, hd⟩
  unfold pyNext
  refine wpAny_bind (wpAny_attempt (wpAny_callSpecial?_slot (name := Str.ofString "__next__") hit.typeIs slot_listiter_next
    (wpAny_call_entry slot_listiter_next hit.typeIs entry_listiter_next ?_ (args_listiter_next _))))
  show wpAny _ _ (field (.ref I) 0 >>= _) _ _ s
  refine wpAny_bind (wpAny_field ho hd (x := .ref a) rfl ?_)
  show wpAny _ _ (if (Value.ref a == Value.none) = true then _ else _) _ _ s
  rw [if_neg (show ¬ ((Value.ref a == Value.none) = true) from Bool.false_ne_true)]
  show wpAny _ _ (field (.ref I) 1 >>= _) _ _ s
  refine wpAny_bind (wpAny_field ho hd (x := .int i 0) rfl ?_)
  show wpAny _ _ (seqItems? (.ref a) >>= _) _ _ s
  refine wpAny_bind (wpAny_seqItems hol hdl ?_)
  simp only [Int.toNat_natCast, List.getElem?_toArray, hx]
  refine wpAny_bind (wpAny_setField ho hd (by simp) (wpAny_pure ⟨x, rfl, wpAny_pure (hQ _ ?_ (Heap.SameBut.update ..))⟩))
  exact ⟨_, Heap.get?_update_self _ ho (Obj.isFreed_of_fields (Obj.data_mapFields hd _)), (Obj.cls_mapFields ..).trans hc, by
    rw [Obj.data_mapFields hd]; simp [rawInt]⟩
theorem next_seq_end {items : List Value} {i n : Nat} {o ol : Obj} {Q : Option Value → Shared → Prop} (hh : A.handled = none) (ho : s.heap.get? I = some o) (hc : o.cls = .type "list_iterator") (hd : o.data = .fields #[.ref a, .int i 0])
    (hol : s.heap.get? a = some ol) (hdl : ol.data = .seq items.toArray n) (hx : items[i]? = none)
    (hQ : ∀ h', Heap.ExtBut I s.heap h' → Q none { s with heap := h' }) : wpAny (model prog w) A (pyNext (.ref I)) Q E s := by
  have hit : s.heap.IsListIter I a i := ⟨o, ho, hc, hd⟩
  unfold pyNext
  refine wpAny_bind (wpAny_attempt (wpAny_callSpecial?_slot (name := Str.ofString "__next__") hit.typeIs slot_listiter_next
    (wpAny_call_entry slot_listiter_next hit.typeIs entry_listiter_next ?_ (args_listiter_next _))))
  show wpAny _ _ (field (.ref I) 0 >>= _) _ _ s
  refine wpAny_bind (wpAny_field ho hd (x := .ref a) rfl ?_)
  show wpAny _ _ (if (Value.ref a == Value.none) = true then _ else _) _ _ s
  rw [if_neg (show ¬ ((Value.ref a == Value.none) = true) from Bool.false_ne_true)]
  show wpAny _ _ (field (.ref I) 1 >>= _) _ _ s
  refine wpAny_bind (wpAny_field ho hd (x := .int i 0) rfl ?_)
  show wpAny _ _ (seqItems? (.ref a) >>= _) _ _ s
  refine wpAny_bind (wpAny_seqItems hol hdl ?_)
  simp only [Int.toNat_natCast, List.getElem?_toArray, hx]
  refine wpAny_bind (wpAny_rule (wpAny_bind (wpAny_setField ho hd (by simp) ?_)))
  show wpAny _ _ (newExc (.type "StopIteration") [] >>= _) _ _ _
  refine wpAny_bind ?_
  simp only [newExc, newTuple]
  refine wpAny_bind (wpAny_newObj_type ?_ (by size_fits))
  refine wpAny_bind (m := firstArgMember _ _) (wpAny_of_eq (a := Value.none) (by first | rfl | (simp only [firstArgMember]; rfl)) ?_)
  refine wpAny_newObj_type ?_ (by size_fits)
  simp only [raiseNew]
  refine wpAny_bind (wpAny_handled ?_)
  rw [show A.in1.handled = none from hh]
  refine wpAny_bind (wpAny_pure (wpAny_throw ?_))
  refine wpAny_bind (wpAny_isInstance (T := "StopIteration") (b := true) ⟨_, Heap.get?_push_size _ rfl, rfl⟩ isSubtype_stop ?_)
  exact wpAny_pure (hQ _ (((Heap.SameBut.update ..).extBut.push _).push _))

theorem iter_seq {items : List Value} {n : Nat} {o : Obj} (hh : A.handled = none) (hd : o.data = .seq items.toArray n) :
    Iter prog w knd A (.ref I) a o items.length (fun i v new => items[i]? = some v ∧ new = []) (oneIt I (seqIt "list_iterator" a)) where
  item := fun {g R L vs l s i target Q E E'} hi H ho h => by
    obtain ⟨oi, hoi, hci, hdi⟩ := H.has (.head _)
    refine next_seq_item (knd := knd) hoi hci hdi ho hd (x := items[i]) (by simp [hi]) fun h' hit hs => ⟨_, rfl, ?_⟩
    obtain ⟨oj, hoj, hcj, hdj⟩ := id hit
    exact letGo_seq hoj hcj (by decide) (h _ [] _ ⟨by simp [hi], rfl⟩ (H.put .head hs hit))
  done := fun {g R L vs l s Q E} H ho h => by
    obtain ⟨oi, hoi, hci, hdi⟩ := H.has (.head _)
    exact next_seq_end hh hoi hci hdi ho hd (by simp) fun h' he => h _ (H.drop he)
  again := fun {g R L vs l s i Q E} H h => by
    obtain ⟨oi, hoi, hci, hdi⟩ := H.has (.head _)
    exact wpAny_pyIter_listiter ⟨oi, hoi, hci, hdi⟩ h
theorem iter_tup {items : List Value} (hh : A.handled = none) :
    Iter prog w knd A (.ref I) a (tupO items) items.length (fun i v new => items[i]? = some v ∧ new = []) (oneIt I (seqIt "tuple_iterator" a)) where
  item := fun {g R L vs l s i target Q E E'} hi H ho h => by
    obtain ⟨oi, hoi, hci, hdi⟩ := H.has (.head _)
    refine wpAny_pyNext_tuple_item (t := a) (i := i) ⟨oi, hoi, hci, hdi⟩ ⟨_, ho, rfl, _, rfl⟩ (x := items[i]) (by simp [hi]) fun h' hit hs => ⟨_, rfl, ?_⟩
    obtain ⟨oj, hoj, hcj, hdj⟩ := id hit
    exact letGo_seq hoj hcj (by decide) (h _ [] _ ⟨by simp [hi], rfl⟩ (H.put .head hs hit))
  done := fun {g R L vs l s Q E} H ho h => by
    obtain ⟨oi, hoi, hci, hdi⟩ := H.has (.head _)
    exact wpAny_pyNext_tuple_end hh (t := a) ⟨oi, hoi, hci, hdi⟩ ⟨_, ho, rfl, _, rfl⟩ (by simp) fun h' he => h _ (H.drop he)
  again := fun {g R L vs l s i Q E} H h => by
    obtain ⟨oi, hoi, hci, hdi⟩ := H.has (.head _)
    exact wpAny_pyIter_tupleiter (t := a) ⟨oi, hoi, hci, hdi⟩ h

/-- a dict with its epoch -/
structure DAt (knd : KeyKind prog w K) (o : Obj) (kvs : List (K × Value)) (ep : Nat) : Prop where
  ex : o.ExactDict
  d : ∃ es, o.data = .dict es ep ∧ KeysOf knd es ∧ Pairs knd es.toList kvs ∧ (kvs.map (·.1)).Nodup
theorem DAt.of {o : Obj} {kvs : List (K × Value)} (h : (Kd.dct kvs).holds knd o) : ∃ ep, DAt knd o kvs ep := let ⟨e, es, ep, r⟩ := h; ⟨ep, e, es, r⟩
theorem DAt.at {h : Heap} {o : Obj} {kvs : List (K × Value)} {ep : Nat} (D : DAt knd o kvs ep) (ho : h.get? a = some o) : h.DictAt knd a kvs ep := let ⟨es, r⟩ := D.d; ⟨o, es, ho, D.ex, r⟩
abbrev keyIt (cls : String) (d : Addr) (n ep : Nat) (i : Nat) : Kd K := .obs fun o => o.cls = .type cls ∧ o.data = .fields #[.ref d, .int i 0, .int n 0, .int ep 0]
theorem iter_keys {kvs : List (K × Value)} {ep : Nat} {o : Obj} (hh : A.handled = none) (D : DAt knd o kvs ep) :
    Iter prog w knd A (.ref I) a o kvs.length (fun i v new => (∃ k x, kvs[i]? = some (k, x) ∧ knd.is k v = true) ∧ new = []) (oneIt I (keyIt "dict_keyiterator" a kvs.length ep)) where
  item := fun {g R L vs l s i target Q E E'} hi H ho h => by
    obtain ⟨oi, hoi, hci, hdi⟩ := H.has (.head _)
    refine wpAny_pyNext_dict_item (d := a) (i := i) ⟨oi, hoi, hci, hdi⟩ (D.at ho) (k := kvs[i].1) (v := kvs[i].2) (by simp [hi]) fun key h' hk hit hs => ⟨_, rfl, ?_⟩
    obtain ⟨oj, hoj, hcj, hdj⟩ := id hit
    exact letGo_seq hoj hcj (by decide) (h _ [] _ ⟨⟨kvs[i].1, kvs[i].2, by simp [hi], hk⟩, rfl⟩ (H.put .head hs hit))
  done := fun {g R L vs l s Q E} H ho h => by
    obtain ⟨oi, hoi, hci, hdi⟩ := H.has (.head _)
    exact wpAny_pyNext_dict_end hh (d := a) (i := kvs.length) ⟨oi, hoi, hci, hdi⟩ (D.at ho) (by simp) fun h' he => h _ (H.drop he)
  again := fun {g R L vs l s i Q E} H h => by
    obtain ⟨oi, hoi, hci, hdi⟩ := H.has (.head _)
    exact wpAny_pyIter_keyiter (d := a) (i := i) ⟨oi, hoi, hci, hdi⟩ h
theorem iter_vals {kvs : List (K × Value)} {ep : Nat} {o : Obj} (hh : A.handled = none) (D : DAt knd o kvs ep) :
    Iter prog w knd A (.ref I) a o kvs.length (fun i v new => (∃ k, kvs[i]? = some (k, v)) ∧ new = []) (oneIt I (keyIt "dict_valueiterator" a kvs.length ep)) where
  item := fun {g R L vs l s i target Q E E'} hi H ho h => by
    obtain ⟨oi, hoi, hci, hdi⟩ := H.has (.head _)
    refine wpAny_pyNext_values_item (d := a) (i := i) ⟨oi, hoi, hci, hdi⟩ (D.at ho) (k := kvs[i].1) (v := kvs[i].2) (by simp [hi]) fun h' hit hs => ⟨_, rfl, ?_⟩
    obtain ⟨oj, hoj, hcj, hdj⟩ := id hit
    exact letGo_seq hoj hcj (by decide) (h _ [] _ ⟨⟨kvs[i].1, by simp [hi]⟩, rfl⟩ (H.put .head hs hit))
  done := fun {g R L vs l s Q E} H ho h => by
    obtain ⟨oi, hoi, hci, hdi⟩ := H.has (.head _)
    exact wpAny_pyNext_values_end hh (d := a) (i := kvs.length) ⟨oi, hoi, hci, hdi⟩ (D.at ho) (by simp) fun h' he => h _ (H.drop he)
  again := fun {g R L vs l s i Q E} H h => by
    obtain ⟨oi, hoi, hci, hdi⟩ := H.has (.head _)
    exact wpAny_pyIter_valiter (d := a) (i := i) ⟨oi, hoi, hci, hdi⟩ h

/-- the start of an iteration -/
theorem start_lst {items : List Value} {o : Obj} {Q : Value → Shared → Prop} (H : St knd g R L vs l s) (hh : A.handled = none) (ho : s.heap.get? a = some o) (hk : (Kd.lst items).holds knd o)
    (h : ∀ I s', Iter prog w knd A (.ref I) a o items.length (fun i v new => items[i]? = some v ∧ new = []) (oneIt I (seqIt "list_iterator" a)) → St knd g R L vs ((I, seqIt "list_iterator" a 0) :: l) s' → Q (.ref I) s') : wpAny (model prog w) A (pyIter (.ref a)) Q E s := by
  obtain ⟨n, rfl⟩ := id hk
  exact wpAny_pyIter_list (Has.list (knd := knd) ⟨_, ho, hk⟩) (h _ _ (iter_seq hh rfl) (H.push rfl ⟨rfl, rfl⟩))
theorem start_dom {items : List Value} {dx : Addr} {o : Obj} {Q : Value → Shared → Prop} (H : St knd g R L vs l s) (B : Bs w g) (hh : A.handled = none) (ho : s.heap.get? a = some o) (hk : (Kd.dom dx items).holds knd o)
    (h : ∀ I s', Iter prog w knd A (.ref I) a o items.length (fun i v new => items[i]? = some v ∧ new = []) (oneIt I (seqIt "list_iterator" a)) → St knd g R L vs ((I, seqIt "list_iterator" a 0) :: l) s' → Q (.ref I) s') : wpAny (model prog w) A (pyIter (.ref a)) Q E s := by
  obtain ⟨n, rfl⟩ := id hk
  exact dom_iter (knd := knd) (H.X B) ⟨_, ho, hk⟩ (h _ _ (iter_seq hh rfl) (H.push rfl ⟨rfl, rfl⟩))
theorem start_tup {items : List Value} {o : Obj} {Q : Value → Shared → Prop} (H : St knd g R L vs l s) (hh : A.handled = none) (ho : s.heap.get? a = some o) (hk : (Kd.tup items).holds knd o)
    (h : ∀ I s', Iter prog w knd A (.ref I) a o items.length (fun i v new => items[i]? = some v ∧ new = []) (oneIt I (seqIt "tuple_iterator" a)) → St knd g R L vs ((I, seqIt "tuple_iterator" a 0) :: l) s' → Q (.ref I) s') : wpAny (model prog w) A (pyIter (.ref a)) Q E s := by
  obtain rfl : o = tupO items := hk
  exact wpAny_pyIter_tuple ⟨_, ho, rfl, _, rfl⟩ (h _ _ (iter_tup hh) (H.push rfl ⟨rfl, rfl⟩))
theorem start_keys {kvs : List (K × Value)} {o : Obj} {Q : Value → Shared → Prop} (H : St knd g R L vs l s) (hh : A.handled = none) (hd : (a == sysModules) = false) (ho : s.heap.get? a = some o) (hk : (Kd.dct kvs).holds knd o)
    (h : ∀ I s' ep, Iter prog w knd A (.ref I) a o kvs.length (fun i v new => (∃ k x, kvs[i]? = some (k, x) ∧ knd.is k v = true) ∧ new = []) (oneIt I (keyIt "dict_keyiterator" a kvs.length ep)) → St knd g R L vs ((I, keyIt "dict_keyiterator" a kvs.length ep 0) :: l) s' → Q (.ref I) s') : wpAny (model prog w) A (pyIter (.ref a)) Q E s := by
  obtain ⟨ep, D⟩ := DAt.of hk
  exact wpAny_pyIter_dict hd (D.at ho) (h _ _ ep (iter_keys hh D) (H.push rfl ⟨rfl, rfl⟩))
abbrev valsV (d : Addr) : Kd K := .obs fun o => o.cls = .type "dict_values" ∧ o.data = .fields #[.ref d]
theorem start_vals {kvs : List (K × Value)} {o : Obj} {v : Addr} {Q : Value → Shared → Prop} (H : St knd g R L vs l s) (hh : A.handled = none) (hv : Has knd s.heap v (valsV a)) (ho : s.heap.get? a = some o) (hk : (Kd.dct kvs).holds knd o)
    (h : ∀ I s' ep, Iter prog w knd A (.ref I) a o kvs.length (fun i v new => (∃ k, kvs[i]? = some (k, v)) ∧ new = []) (oneIt I (keyIt "dict_valueiterator" a kvs.length ep)) → St knd g R L vs ((I, keyIt "dict_valueiterator" a kvs.length ep 0) :: l) s' → Q (.ref I) s') : wpAny (model prog w) A (pyIter (.ref v)) Q E s := by
  obtain ⟨ep, D⟩ := DAt.of hk
  obtain ⟨ov, hov, hcv, hdv⟩ := hv
  exact wpAny_pyIter_values ⟨ov, hov, hcv, hdv⟩ (D.at ho) (h _ _ ep (iter_vals hh D) (H.push rfl ⟨rfl, rfl⟩))
end
end Csp
end
section
open PySem PySem.W PySem.Calls PyProof.Rows
set_option Elab.async false
set_option maxRecDepth 100000
set_option maxHeartbeats 400000
set_option linter.unusedVariables false
set_option linter.unusedSectionVars false
namespace Csp
/-- the end of a loop's body -/
def ForQ (J : Shared → Prop) (Q : Flow → Shared → Prop) (f : Flow) (s : Shared) : Prop := match f with
  | .next | .cont => J s
  | .brk => Q .next s
  | .ret v => Q (.ret v) s
theorem for_next {J : Shared → Prop} {Q : Flow → Shared → Prop} {s : Shared} (h : J s) : ForQ J Q .next s := h
theorem for_cont {J : Shared → Prop} {Q : Flow → Shared → Prop} {s : Shared} (h : J s) : ForQ J Q .cont s := h
theorem for_brk {J : Shared → Prop} {Q : Flow → Shared → Prop} {s : Shared} (h : Q .next s) : ForQ J Q .brk s := h
theorem for_ret {J : Shared → Prop} {Q : Flow → Shared → Prop} {s : Shared} {v : Value} (h : Q (.ret v) s) : ForQ J Q (.ret v) s := h

section
variable {prog : Program} {w : World} {K : Type} [DecidableEq K] {knd : KeyKind prog w K} {A : Around} {E : Value → Shared → Prop} {s : Shared}
  {g : Heap} {R : Side} {L : Addr} {vs vs' : Vars} {l l' : Led K} {a : Addr} {env : Env}

theorem forLoop_st {X : Type} {vs : X → Vars} {l : X → Led K} {J : Nat → X → Prop} {it : Value} {o : Obj} {n : Nat} {P : Nat → Value → Led K → Prop} {io : Nat → Led K} {target : Expr} {body orelse : List Stmt} {RR : Result → Shared → Prop} {Q : Flow → Shared → Prop}
    (W : Iter prog w knd A it a o n P io) (hsrc : ∀ i x s, J i x → St knd g R L (vs x) (io i ++ l x) s → s.heap.get? a = some o) {x₀ : X} (h0 : J 0 x₀) (H : St knd g R L (vs x₀) (io 0 ++ l x₀) s)
    (hQ : ∀ f s, Q f s → RR (.ok f) s)
    (turn : ∀ i x v new s' E', i < n → J i x → P i v new → St knd g R L (vs x) (new ++ (io (i + 1) ++ l x)) s' →
      wpAny (model prog w) A (assign target env v) (fun _ s₂ => wpAny (model prog w) A (execs body env) (ForQ (fun s₃ => ∃ y, J (i + 1) y ∧ St knd g R L (vs y) (io (i + 1) ++ l y) s₃) Q) E' s₂) E' s')
    (done : ∀ x s' E', J n x → St knd g R L (vs x) (l x) s' → wpAny (model prog w) A (execs orelse env) Q E' s') : codeAny (model prog w) A (.forLoop target it body orelse env) RR s := by
  refine codeAny_forLoop_any (fun k s' => ∃ i x, k + i = n ∧ J i x ∧ St knd g R L (vs x) (io i ++ l x) s') ?_ n ⟨0, x₀, rfl, h0, H⟩
  rintro k s' ⟨i, x, hki, hJ, hS⟩
  by_cases hlt : i < n
  · refine wpAny_mono (W.item (target := target) hlt hS (hsrc i x s' hJ hS) (E' := notedBy (model prog w) A env fun e s' => RR (.error e) s') (fun v new s₁ hP hS₁ => turn i x v new s₁ (notedBy (model prog w) A env fun e s' => RR (.error e) s') hlt hJ hP hS₁)) (fun r s₁ h₁ => ?_) fun _ _ e => e
    obtain ⟨v, rfl, h₁⟩ := h₁
    refine wpAny_mono h₁ (fun _ s₂ h₂ => wpAny_mono h₂ (fun _ s₃ h₃ => wpAny_mono h₃ (fun f s₄ h₄ => ?_) fun _ _ e => e) fun _ _ e => e) fun _ _ e => e
    cases f with
    | next => obtain ⟨y, hy, hS'⟩ := h₄; exact ⟨k - 1, by omega, i + 1, y, by omega, hy, hS'⟩
    | cont => obtain ⟨y, hy, hS'⟩ := h₄; exact ⟨k - 1, by omega, i + 1, y, by omega, hy, hS'⟩
    | brk => exact hQ _ _ h₄
    | ret v => exact hQ _ _ h₄
  · obtain rfl : i = n := by omega
    exact W.done hS (hsrc i x s' hJ hS) fun s₁ hS₁ => wpAny_mono (done x s₁ _ hJ hS₁) (fun f s₂ h => hQ f s₂ h) fun _ _ e => e

/-- the loop as a statement, at the iterator -/
theorem for_st {X : Type} (vs : X → Vars) (l : X → Led K) (J : Nat → X → Prop) (x₀ : X) {it : Value} {o : Obj} {n : Nat} {P : Nat → Value → Led K → Prop} {io : Nat → Led K} {target : Expr} {body orelse : List Stmt} {Q : Flow → Shared → Prop}
    (W : Iter prog w knd A it a o n P io) (hsrc : ∀ i x s, J i x → St knd g R L (vs x) (io i ++ l x) s → s.heap.get? a = some o) (h0 : J 0 x₀) (H : St knd g R L (vs x₀) (io 0 ++ l x₀) s)
    (turn : ∀ i x v new s' E', i < n → J i x → P i v new → St knd g R L (vs x) (new ++ (io (i + 1) ++ l x)) s' →
      wpAny (model prog w) A (assign target env v) (fun _ s₂ => wpAny (model prog w) A (execs body env) (ForQ (fun s₃ => ∃ y, J (i + 1) y ∧ St knd g R L (vs y) (io (i + 1) ++ l y) s₃) Q) E' s₂) E' s')
    (done : ∀ x s' E', J n x → St knd g R L (vs x) (l x) s' → wpAny (model prog w) A (execs orelse env) Q E' s') :
    codeAny (model prog w) A (.forLoop target it body orelse env) (fun r s' => match r with | .ok f => Q f s' | .error e => cameBackBy (model prog w) A env E e s') s :=
  forLoop_st W hsrc h0 H (fun _ _ h => h) turn done
theorem xFor {M : Model} {target iter : Expr} {body orelse : List Stmt} {pos : Pos} {Q : Flow → Shared → Prop}
    (h : wpAny M A (eval iter env) (fun x s₁ => wpAny M A (pyIter x) (fun it s₂ =>
      codeAny M A (.forLoop target it body orelse env) (fun r s' => match r with | .ok f => Q f s' | .error e => cameBackBy M A env E e s') s₂) E s₁) E s)
    (hs : ∀ x, foldedSetIterable iter env x = pure x) : wpAny M A (exec (.For target iter body orelse pos) env) Q E s := wpAny_For h hs

/-- the end of a comprehension's turn -/
def CompQ (knd : KeyKind prog w K) (g₂ : Heap) (R : Side) (C : Addr) {X : Type} (led : X → Led K) (J : X → Prop) (s : Shared) : Prop := ∃ y lq vq, J y ∧ (led y).Sublist lq ∧ St knd g₂ R C vq lq s

theorem compLoop_st {X : Type} {ys : X → List Value} {ex : X → Led K} {J : Nat → X → Prop} {it : Value} {o : Obj} {n : Nat} {P : Nat → Value → Led K → Prop} {io : Nat → Led K} {elt target iter : Expr} {ifs : List Expr} {scope : Scope} {pos : Pos} {cenv : Env}
    {C D : Addr} {RR : Result → Shared → Prop} (W : Iter prog w knd A it a o n P io)
    (hsrc : ∀ i x vq s, J i x → St knd g R C vq (ex x ++ (io i ++ (D, Kd.lst (ys x)) :: l)) s → s.heap.get? a = some o) {x₀ : X} {vq₀ : Vars} (h0 : J 0 x₀)
    (H : St knd g R C vq₀ (ex x₀ ++ (io 0 ++ (D, Kd.lst (ys x₀)) :: l)) s) (hfit : ∀ i x, J i x → (ys x).length < 100000)
    (turn : ∀ i x v new s' E', i < n → J i x → P i v new → St knd g R C [] (new ++ (ex x ++ (io (i + 1) ++ (D, Kd.lst (ys x)) :: l))) s' →
      wpAny (model prog w) A (assign target cenv v) (fun _ s₂ =>
        wpAny (model prog w) A (forIn ifs true fun c r => if r = true then do let ok ← isTrue c cenv (eval c cenv); pure (ForInStep.yield ok) else pure (ForInStep.yield r)) (fun ok s₃ =>
          if ok = true then wpAny (model prog w) A (eval elt cenv) (fun v s₄ => CompQ knd g R C (fun y => ex y ++ (io (i + 1) ++ (D, Kd.lst (ys x)) :: l)) (fun y => J (i + 1) y ∧ ys y = ys x ++ [v]) s₄) E' s₃
          else CompQ knd g R C (fun y => ex y ++ (io (i + 1) ++ (D, Kd.lst (ys x)) :: l)) (fun y => J (i + 1) y ∧ ys y = ys x) s₃) E' s₂) E' s')
    (done : ∀ x vq s', J n x → St knd g R C vq (ex x ++ ((D, Kd.lst (ys x)) :: l)) s' → RR (.ok .next) s')
    (hw : ∀ {i x l' vq s} , St knd g R C vq (ex x ++ (io i ++ l')) s → St knd g R C vq (io i ++ (ex x ++ l')) s := by
      intro i x l' vq s h; exact h.perm (by rw [← List.append_assoc, ← List.append_assoc]; exact List.perm_append_comm.append_right _)) :
    codeAny (model prog w) A (.compLoop (.ListComp elt [⟨target, iter, ifs, 0⟩] scope pos) 0 it (.ref D) cenv) RR s := by
  refine codeAny_loop rfl (fun k s' => ∃ i x vq, k + i = n ∧ J i x ∧ St knd g R C vq (ex x ++ (io i ++ (D, Kd.lst (ys x)) :: l)) s') (fun k s' hI => ?_) n ⟨0, x₀, vq₀, rfl, h0, H⟩
  obtain ⟨i, x, vq, hki, hJ, hS⟩ := hI
  show wpAny _ A ((compTurn (.ListComp elt [⟨target, iter, ifs, 0⟩] scope pos) 0 it (.ref D) cenv).onRaise (fun x => do noteFrame x cenv; theTreesLotGoes x)) _ _ s'
  refine wpAny_noted ?_
  rw [compTurn_list]
  refine wpAny_bind (wpAny_standAt (wpAny_bind ?_))
  by_cases hlt : i < n
  · refine wpAny_mono (W.item (target := target) hlt (hw (hS.sub (vs' := []) (by simp) (List.Sublist.refl _))) (hsrc i x vq s' hJ hS) (E' := notedBy (model prog w) A cenv fun e s' => RR (.error e) s')
      (fun v new s₁ hP hS₁ => turn i x v new s₁ (notedBy (model prog w) A cenv fun e s' => RR (.error e) s') hlt hJ hP (hS₁.perm (by
        refine List.Perm.append_left _ ?_
        rw [← List.append_assoc, ← List.append_assoc]; exact List.perm_append_comm.append_right _)))) (fun r s₁ h₁ => ?_) fun _ _ e => e
    obtain ⟨v, rfl, h₁⟩ := h₁
    refine wpAny_bind (wpAny_mono h₁ (fun _ s₂ h₂ => ?_) fun _ _ h' => h')
    refine wpAny_bind (wpAny_mono h₂ (fun _ s₃ h₃ => wpAny_bind (wpAny_mono h₃ (fun ok s₄ h₄ => ?_) fun _ _ h' => h')) fun _ _ h' => h')
    cases ok with
    | false =>
      obtain ⟨y, lq, vq', ⟨hy, e⟩, hsub, hS'⟩ := h₄
      exact wpAny_pure ⟨rfl, k - 1, by omega, i + 1, y, vq', by omega, hy, by rw [e]; exact hS'.sub (fun _ h => h) hsub⟩
    | true =>
      refine wpAny_bind (wpAny_bind (wpAny_mono h₄ (fun u s₅ h₅ => ?_) fun _ _ h' => h'))
      obtain ⟨y, lq, vq', ⟨hy, e⟩, hsub, hS'⟩ := h₅
      refine wpAny_bind (uAppend (l := ex y ++ (io (i + 1) ++ (D, Kd.lst (ys x)) :: l)) (hS'.sub (fun _ h => h) hsub) (Up.left (Up.left .head _) _) (hfit _ _ hJ) (fun s₆ hS₆ => wpAny_pure (wpAny_pure ⟨rfl, k - 1, by omega, i + 1, y, vq', by omega, hy, by rw [e]; exact hS₆⟩)))
  · obtain rfl : i = n := by omega
    refine W.done (hw hS) (hsrc i x vq s' hJ hS) fun s₁ hS₁ => wpAny_pure (done x vq s₁ hJ hS₁)
end
end Csp
end
section
open PySem PySem.W PySem.Calls PyProof.Rows
set_option Elab.async false
set_option maxRecDepth 100000
set_option maxHeartbeats 400000
set_option linter.unusedVariables false
set_option linter.unusedSectionVars false
namespace Csp
section
variable {prog : Program} {w : World} {K : Type} [DecidableEq K] {knd : KeyKind prog w K} {A : Around} {E : Value → Shared → Prop} {s : Shared}
  {g : Heap} {R : Side} {L : Addr} {vs vs' : Vars} {l l' : Led K} {a : Addr} {env : Env}

theorem fr_sub (H : St knd g R L vs l s) : ∀ b o, g.get? b = some o → (hideAll s.heap (l.map (·.1))).get? b = some o := fun b o e => by
  obtain ⟨m, F, _⟩ := H.F
  exact hideAll_get _ (F.keep b o e) fun q => by
    obtain ⟨p, hp, rfl⟩ := List.mem_map.mp q
    have := (H.N p hp).2.2.1
    rw [this] at e; cases e

/-- the comprehension's frame is opened -/
theorem comp_open {scope : Scope} {cl : List (Str × Addr)} {n : Nat} {Q : Value → Env → Shared → Prop} (H : St knd g R L vs l s) (hcell : ∀ y ∈ scope.names, y.2 ≠ .cell) (hkind : scope.kind = .function)
    (h : ∀ C D s', D ≠ C → C ≠ L → g.get? C = none → St knd (hideAll s.heap (l.map (·.1))) (sideOf s) C [] ((D, Kd.lst []) :: l) s' → Q (.ref D) (compEnvC scope cl C env) s') :
    wpAny (model prog w) A (newList []) (fun acc s₃ => wpAny (model prog w) A (newFunctionEnv scope env.globals cl [] env.qual none .none (some env)) (fun cenv s₄ => Q acc { cenv with scope := relabel scope env } s₄) E s₃) E s := by
  refine wpAny_newObj_type (wpAny_newFunctionEnv hcell (by intro y hy; simp at hy) (fun h₁ hns₁ hsb₁ => ?_) hkind)
  dsimp only at hns₁ hsb₁ ⊢
  generalize hH2 : s.heap.push { cls := .type "list", dict := none, data := .seq ([] : List Value).toArray } = H2 at hns₁ hsb₁ ⊢
  have hC : H2.objs.size = s.heap.objs.size + 1 := by rw [← hH2, Heap.size_push]
  have hDC : s.heap.objs.size ≠ H2.objs.size := by omega
  have lt2 : ∀ {b : Nat}, b < s.heap.objs.size → b ≠ H2.objs.size := fun h => by omega
  have lt3 : ∀ {b : Nat}, b < s.heap.objs.size → H2.objs.size ≠ b := fun h => by omega
  have hsb : Heap.ExtBut H2.objs.size H2 h₁ := fun b o n e => hsb₁.extBut b o n (Heap.get?_push_of_some _ e)
  have old : ∀ b o, s.heap.get? b = some o → h₁.get? b = some o := fun b o e => hsb b o (lt2 (Heap.lt_size e)) (hH2 ▸ Heap.get?_push_of_some _ e)
  obtain ⟨m, F, _⟩ := H.F
  have hLo : L < s.heap.objs.size := F.ns.lt
  refine h H2.objs.size s.heap.objs.size _ hDC (lt3 hLo) ?_ ⟨⟨_, ⟨hns₁, fun b o e => old b o (of_hideAll _ e), by rw [hideAll_size, hC]; exact Nat.le_succ _⟩, by simp⟩, fun p hp => ?_, ?_, rfl, rfl, rfl, Nat.lt_trans H.low (by rw [hC]; exact Nat.lt_succ_of_lt hLo)⟩
  · cases q : g.get? H2.objs.size with
    | none => rfl
    | some o => exact absurd rfl (lt2 (Heap.lt_size (F.keep _ _ q)))
  · rcases List.mem_cons.mp hp with rfl | hp
    · refine ⟨⟨_, hsb _ _ hDC (hH2 ▸ Heap.get?_push_size _ rfl), 0, rfl⟩, hDC, ?_, Nat.lt_trans H.low hLo⟩
      cases q : (hideAll s.heap (l.map (·.1))).get? s.heap.objs.size with
      | none => rfl
      | some o => exact absurd (Heap.lt_size (of_hideAll _ q)) (Nat.lt_irrefl _)
    · refine ⟨(H.N p hp).1.keep fun o e => old _ o e, ?_, hideAll_none _ (List.mem_map_of_mem hp), (H.N p hp).2.2.2⟩
      exact lt2 (H.N p hp).1.lt
  · rw [List.map_cons, List.nodup_cons]
    refine ⟨fun q => ?_, H.nd⟩
    obtain ⟨p, hp, e⟩ := List.mem_map.mp q
    have e' : p.1 = s.heap.objs.size := e
    have := (H.N p hp).1.lt
    rw [e'] at this
    exact Nat.lt_irrefl _ this

section
variable {X : Type} (ys : X → List Value) (ex : X → Led K) (J : Nat → X → Prop) (x₀ : X) {it : Value} {o : Obj} {n : Nat} {P : Nat → Value → Led K → Prop} {io : Nat → Led K} {elt target iter : Expr} {ifs : List Expr} {scope : Scope} {pos : Pos} {cl : List (Str × Addr)}

theorem comp_run {Q : Value → Addr → Result → Shared → Prop} (W : Iter prog w knd A it a o n P io) (hcell : ∀ y ∈ scope.names, y.2 ≠ .cell) (hkind : scope.kind = .function) (H : St knd g R L vs (io 0 ++ l) s)
    (hsrc : ∀ i x C D vq g₂ s', J i x → (∀ b o, g.get? b = some o → g₂.get? b = some o) → St knd g₂ (sideOf s) C vq (ex x ++ (io i ++ (D, Kd.lst (ys x)) :: l)) s' → s'.heap.get? a = some o) (h0 : J 0 x₀) (hx₀ : ys x₀ = []) (hex₀ : ex x₀ = []) (hfit : ∀ i x, J i x → (ys x).length < 100000)
    (turn : ∀ i x v new C D g₂ s' E', i < n → J i x → P i v new → (∀ b o, g.get? b = some o → g₂.get? b = some o) → St knd g₂ (sideOf s) C [] (new ++ (ex x ++ (io (i + 1) ++ (D, Kd.lst (ys x)) :: l))) s' →
      wpAny (model prog w) A (assign target (compEnvC scope cl C env) v) (fun _ s₂ =>
        wpAny (model prog w) A (forIn ifs true fun c r => if r = true then do let ok ← isTrue c (compEnvC scope cl C env) (eval c (compEnvC scope cl C env)); pure (ForInStep.yield ok) else pure (ForInStep.yield r)) (fun ok s₃ =>
          if ok = true then wpAny (model prog w) A (eval elt (compEnvC scope cl C env)) (fun v s₄ => CompQ knd g₂ (sideOf s) C (fun y => ex y ++ (io (i + 1) ++ (D, Kd.lst (ys x)) :: l)) (fun y => J (i + 1) y ∧ ys y = ys x ++ [v]) s₄) E' s₃
          else CompQ knd g₂ (sideOf s) C (fun y => ex y ++ (io (i + 1) ++ (D, Kd.lst (ys x)) :: l)) (fun y => J (i + 1) y ∧ ys y = ys x) s₃) E' s₂) E' s')
    (fin : ∀ x C D s', J n x → (∃ m, s'.heap.Ns C m) → C ≠ L → g.get? C = none → (∀ p ∈ ex x ++ ((D, Kd.lst (ys x)) :: l), p.1 ≠ C) → St knd g R L vs (ex x ++ ((D, Kd.lst (ys x)) :: l)) s' → Q (.ref D) C (.ok .next) s') :
    wpAny (model prog w) A (newList []) (fun acc s₃ => wpAny (model prog w) A (newFunctionEnv scope env.globals cl [] env.qual none .none (some env)) (fun cenv s₄ =>
      codeAny (model prog w) A (.compStart (.ListComp elt [⟨target, iter, ifs, 0⟩] scope pos) 0 it acc { cenv with scope := relabel scope env }) (fun r s' => Q acc cenv.locals r s') s₄) E s₃) E s := by
  refine wpAny_mono (comp_open (n := n) (E := E) (env := env) (cl := cl) (Q := fun acc cenv s₄ => codeAny (model prog w) A (.compStart (.ListComp elt [⟨target, iter, ifs, 0⟩] scope pos) 0 it acc cenv) (fun r s' => Q acc cenv.locals r s') s₄) H hcell hkind
    (fun C D s₁ hDC hCL hgC H₁ => ?_)) (fun _ _ h => h) fun _ _ h => h
  have hg : ∀ b o, g.get? b = some o → (hideAll s.heap ((io 0 ++ l).map (·.1))).get? b = some o := fr_sub H
  have H₁' : St knd (hideAll s.heap ((io 0 ++ l).map (·.1))) (sideOf s) C [] (ex x₀ ++ (io 0 ++ (D, Kd.lst (ys x₀)) :: l)) s₁ := H₁.perm (by
    rw [hx₀, hex₀, List.nil_append]; exact List.perm_middle)
  have run : codeAny (model prog w) A (.compLoop (.ListComp elt [⟨target, iter, ifs, 0⟩] scope pos) 0 it (.ref D) (compEnvC scope cl C env)) (fun r s' => Q (.ref D) C r s') s₁ := by
    refine compLoop_st (ys := ys) (ex := ex) (J := J) W (fun i x vq s' hJ hS => hsrc i x C D vq _ s' hJ hg hS) h0 H₁' hfit (fun i x v new s' E' hi hJ hP hS => turn i x v new C D _ s' E' hi hJ hP hg hS) (fun x vq s' hJ hS => ?_)
    obtain ⟨m, F, _⟩ := hS.F
    exact fin x C D s' hJ ⟨m, F.ns⟩ hCL hgC (fun p hp => (hS.N p hp).2.1) (H.leave hS)
  refine codeAny_compStart_list run ?_
  exact W.again (i := 0) (l := (D, Kd.lst (ys x₀)) :: l) (H₁.perm (l' := io 0 ++ (D, Kd.lst (ys x₀)) :: l) (by rw [hx₀]; exact List.perm_middle)) run

/-- a comprehension as an expression -/
theorem comp_expr {Q : Value → Shared → Prop} (W : Iter prog w knd A it a o n P io) (hcell : ∀ y ∈ scope.names, y.2 ≠ .cell) (hkind : scope.kind = .function) (H : St knd g R L vs (io 0 ++ l) s)
    (hsrc : ∀ i x C D vq g₂ s', J i x → (∀ b o, g.get? b = some o → g₂.get? b = some o) → St knd g₂ (sideOf s) C vq (ex x ++ (io i ++ (D, Kd.lst (ys x)) :: l)) s' → s'.heap.get? a = some o) (h0 : J 0 x₀) (hx₀ : ys x₀ = []) (hex₀ : ex x₀ = []) (hfit : ∀ i x, J i x → (ys x).length < 100000)
    (turn : ∀ i x v new C D g₂ s' E', i < n → J i x → P i v new → (∀ b o, g.get? b = some o → g₂.get? b = some o) → St knd g₂ (sideOf s) C [] (new ++ (ex x ++ (io (i + 1) ++ (D, Kd.lst (ys x)) :: l))) s' →
      wpAny (model prog w) A (assign target (compEnvC scope cl C env) v) (fun _ s₂ =>
        wpAny (model prog w) A (forIn ifs true fun c r => if r = true then do let ok ← isTrue c (compEnvC scope cl C env) (eval c (compEnvC scope cl C env)); pure (ForInStep.yield ok) else pure (ForInStep.yield r)) (fun ok s₃ =>
          if ok = true then wpAny (model prog w) A (eval elt (compEnvC scope cl C env)) (fun v s₄ => CompQ knd g₂ (sideOf s) C (fun y => ex y ++ (io (i + 1) ++ (D, Kd.lst (ys x)) :: l)) (fun y => J (i + 1) y ∧ ys y = ys x ++ [v]) s₄) E' s₃
          else CompQ knd g₂ (sideOf s) C (fun y => ex y ++ (io (i + 1) ++ (D, Kd.lst (ys x)) :: l)) (fun y => J (i + 1) y ∧ ys y = ys x) s₃) E' s₂) E' s')
    (fin : ∀ x D s', J n x → St knd g R L vs (ex x ++ ((D, Kd.lst (ys x)) :: l)) s' → Q (.ref D) s') :
    wpAny (model prog w) A (newList []) (fun acc s₃ => wpAny (model prog w) A (newFunctionEnv scope env.globals cl [] env.qual none .none (some env)) (fun cenv s₄ =>
      codeAny (model prog w) A (.compStart (.ListComp elt [⟨target, iter, ifs, 0⟩] scope pos) 0 it acc { cenv with scope := relabel scope env }) (compPost (model prog w) A E none Q acc cenv.locals) s₄) E s₃) E s :=
  comp_run ys ex J x₀ (Q := fun acc C => compPost (model prog w) A E none Q acc C) W hcell hkind H hsrc h0 hx₀ hex₀ hfit turn fun x C D s' hJ hm hCL hgC hp hS => by
    obtain ⟨m, hm⟩ := hm
    exact ⟨m, hm, fun h' hs => fin x D _ hJ (hS.sameBut (t := s'.toks) hs hCL hgC hp)⟩
/-- a comprehension bound to a local -/
theorem comp_bind {Q : Flow → Shared → Prop} {cn : Str} {cs : Scope} {fa : Addr} {ccd : Value} {cl' : List (Str × Addr)} {y : Str} {py : Pos} {vs' : Vars} {tbl : List (Str × NameKind)} (kt : Kt cs tbl) (hy : (y, NameKind.local) ∈ tbl) (hr : Rm y vs vs') (henv : env = envX cn cs L fa ccd cl')
    (W : Iter prog w knd A it a o n P io) (hcell : ∀ y ∈ scope.names, y.2 ≠ .cell) (hkind : scope.kind = .function) (H : St knd g R L vs (io 0 ++ l) s)
    (hsrc : ∀ i x C D vq g₂ s', J i x → (∀ b o, g.get? b = some o → g₂.get? b = some o) → St knd g₂ (sideOf s) C vq (ex x ++ (io i ++ (D, Kd.lst (ys x)) :: l)) s' → s'.heap.get? a = some o) (h0 : J 0 x₀) (hx₀ : ys x₀ = []) (hex₀ : ex x₀ = []) (hfit : ∀ i x, J i x → (ys x).length < 100000)
    (turn : ∀ i x v new C D g₂ s' E', i < n → J i x → P i v new → (∀ b o, g.get? b = some o → g₂.get? b = some o) → St knd g₂ (sideOf s) C [] (new ++ (ex x ++ (io (i + 1) ++ (D, Kd.lst (ys x)) :: l))) s' →
      wpAny (model prog w) A (assign target (compEnvC scope cl C env) v) (fun _ s₂ =>
        wpAny (model prog w) A (forIn ifs true fun c r => if r = true then do let ok ← isTrue c (compEnvC scope cl C env) (eval c (compEnvC scope cl C env)); pure (ForInStep.yield ok) else pure (ForInStep.yield r)) (fun ok s₃ =>
          if ok = true then wpAny (model prog w) A (eval elt (compEnvC scope cl C env)) (fun v s₄ => CompQ knd g₂ (sideOf s) C (fun y => ex y ++ (io (i + 1) ++ (D, Kd.lst (ys x)) :: l)) (fun y => J (i + 1) y ∧ ys y = ys x ++ [v]) s₄) E' s₃
          else CompQ knd g₂ (sideOf s) C (fun y => ex y ++ (io (i + 1) ++ (D, Kd.lst (ys x)) :: l)) (fun y => J (i + 1) y ∧ ys y = ys x) s₃) E' s₂) E' s')
    (fin : ∀ x D s', J n x → St knd g R L ((y, .ref D) :: vs') (ex x ++ ((D, Kd.lst (ys x)) :: l)) s' → Q .next s') :
    wpAny (model prog w) A (newList []) (fun acc s₃ => wpAny (model prog w) A (newFunctionEnv scope env.globals cl [] env.qual none .none (some env)) (fun cenv s₄ =>
      codeAny (model prog w) A (.compStart (.ListComp elt [⟨target, iter, ifs, 0⟩] scope pos) 0 it acc { cenv with scope := relabel scope env }) (compPost (model prog w) A E (some (assign (.Name y py) env)) (fun _ s' => Q .next s') acc cenv.locals) s₄) E s₃) E s :=
  comp_run ys ex J x₀ (Q := fun acc C => compPost (model prog w) A E (some (assign (.Name y py) env)) (fun _ s' => Q .next s') acc C) W hcell hkind H hsrc h0 hx₀ hex₀ hfit turn fun x C D s' hJ hm hCL hgC hp hS => by
    obtain ⟨m, hm⟩ := hm
    show wpAny _ A (assign (.Name y py) env (.ref D)) _ _ _
    refine wpAny_assign_Name ?_
    obtain ⟨mL, F, k⟩ := hS.F
    subst henv
    refine wpAny_storeName_local (env := envX cn cs L fa ccd cl') (kt.names _ hy).1 F.ns (fun h₂ hn₂ hs₂ => ?_) (by show (cs.kind == .class || (cs.kind == .module && L != mainGlobals)) = false; rw [kt.kind]; rfl)
    exact ⟨m, hm.sameBut hs₂ hCL, fun h₃ hs₃ => fin x D _ hJ ((hS.stored hr F k hn₂ hs₂).sameBut hs₃ hCL hgC hp)⟩
end

/-- the two heads -/
theorem xComp {M : Model} {elt target iter : Expr} {ifs : List Expr} {scope : Scope} {pos : Pos} {cl : List (Str × Addr)} {Q : Value → Shared → Prop} 
    (h : wpAny M A (eval iter env) (fun xv s₁ => wpAny M A (pyIter xv) (fun it s₂ => wpAny M A (newList []) (fun acc s₃ => wpAny M A (newFunctionEnv scope env.globals cl [] env.qual none .none (some env)) (fun cenv s₄ =>
      codeAny M A (.compStart (.ListComp elt [⟨target, iter, ifs, 0⟩] scope pos) 0 it acc { cenv with scope := relabel scope env }) (compPost M A E none Q acc cenv.locals) s₄) E s₃) E s₂) E s₁) E s)
    (hs : ∀ x, foldedSetIterable iter env x = pure x) (hclos : closureFor scope env = pure cl) (hkind : scope.kind = .function) (hnames : ∀ y ∈ scope.names, y.2 = .local → scope.names.lookup y.1 = some .local) :
    wpAny M A (eval (.ListComp elt [⟨target, iter, ifs, 0⟩] scope pos) env) Q E s := by
  rw [eval_ListComp]
  exact wpAny_comprehension_free (use := none) rfl hs hclos hkind hnames h
theorem xCompA {M : Model} {elt target iter : Expr} {ifs : List Expr} {scope : Scope} {pos spos py : Pos} {y : Str} {cl : List (Str × Addr)} {Q : Flow → Shared → Prop}
    (h : wpAny M A (eval iter env) (fun xv s₁ => wpAny M A (pyIter xv) (fun it s₂ => wpAny M A (newList []) (fun acc s₃ => wpAny M A (newFunctionEnv scope env.globals cl [] env.qual none .none (some env)) (fun cenv s₄ =>
      codeAny M A (.compStart (.ListComp elt [⟨target, iter, ifs, 0⟩] scope pos) 0 it acc { cenv with scope := relabel scope env }) (compPost M A E (some (assign (.Name y py) env)) (fun _ s' => Q .next s') acc cenv.locals) s₄) E s₃) E s₂) E s₁) E s)
    (hsw : swapsWith (.ListComp elt [⟨target, iter, ifs, 0⟩] scope pos) (some (.Name y py)) spos.line env = pure true)
    (hs : ∀ x, foldedSetIterable iter env x = pure x) (hclos : closureFor scope env = pure cl) (hkind : scope.kind = .function) (hnames : ∀ y ∈ scope.names, y.2 = .local → scope.names.lookup y.1 = some .local) :
    wpAny M A (exec (.Assign [.Name y py] (.ListComp elt [⟨target, iter, ifs, 0⟩] scope pos) spos) env) Q E s := by
  rw [exec_Assign_Name_used _ _ _ _ hsw]
  refine wpAny_bind (wpAny_standAt (wpAny_bind ?_))
  show wpAny _ A (do let _ ← comprehension (.ListComp elt [⟨target, iter, ifs, 0⟩] scope pos) scope env _ (newList []) false (eval iter env) (some (assign (.Name y py) env))) _ _ s
  exact wpAny_bind (wpAny_mono (wpAny_comprehension_free (use := some (assign (.Name y py) env)) (Q := fun _ s' => Q .next s') rfl hs hclos hkind hnames h) (fun _ s' hq => wpAny_pure (wpAny_pure hq)) fun _ _ e => e)
end
end Csp
end
section
open PySem PySem.W PySem.Calls PyProof.Rows
set_option Elab.async false
set_option maxRecDepth 100000
set_option maxHeartbeats 400000
set_option linter.unusedVariables false
set_option linter.unusedSectionVars false
namespace Csp
/-- any environment of a function's kind -/
structure Ev (env : Env) (L : Addr) (cl : List (Str × Addr)) (tbl : List (Str × NameKind)) : Prop where
  locals : env.locals = L
  cells : env.cells = cl
  globals : env.globals = mainGlobals
  builtins : env.builtins = builtinsNs
  kind : env.scope.kind = .function
  names : ∀ p ∈ tbl, env.scope.names.lookup p.1 = some p.2 ∧ (p.1 == ("__debug__" : Str)) = false
theorem Ev.ofKt {cn cs L a ccd cl tbl} (kt : Kt cs tbl) : Ev (envX cn cs L a ccd cl) L cl tbl := ⟨rfl, rfl, rfl, rfl, kt.kind, kt.names⟩
def relS (scope cs : Scope) : Scope := { scope with names := scope.names.map fun (n, k) => if (k == .free && cs.kind == .function && cs.names.lookup n == some .cell) then (n, .cell) else (n, k) }
theorem Ev.comp {env : Env} {L C cl cl' tbl tbl' scope} (V : Ev env L cl tbl) (kt : Kt (relS scope env.scope) tbl') : Ev (compEnvC scope cl' C env) C cl' tbl' :=
  ⟨rfl, rfl, V.globals, V.builtins, kt.kind, kt.names⟩

section
variable {prog : Program} {w : World} {K : Type} [DecidableEq K] {knd : KeyKind prog w K} {A : Around} {E : Value → Shared → Prop} {s : Shared} {M : Model}
  {g : Heap} {R : Side} {L : Addr} {vs vs' : Vars} {l l' : Led K} {env : Env} {a : Addr} {cl : List (Str × Addr)} {tbl : List (Str × NameKind)} {x : Str} {pos : Pos} {v : Value} {kvs : List (K × Value)} {k : K} {key : Value} {d : Addr}

theorem nL {Q : Value → Shared → Prop} (V : Ev env L cl tbl) (H : St knd g R L vs l s) (hx : (x, NameKind.local) ∈ tbl) (hv : (x, v) ∈ vs) (h : Q v s) : wpAny M A (eval (.Name x pos) env) Q E s := by
  obtain ⟨m, F, k⟩ := H.F
  have F' := F.ns
  rw [← V.locals] at F'
  exact wpAny_Name (wpAny_loadName_local V.kind (V.names _ hx).1 F' (k _ hv) h) (V.names _ hx).2
theorem nC {L' : Addr} {Q : Value → Shared → Prop} {c : Addr} (V : Ev env L cl tbl) (H : St knd g R L' vs l s) (hv : Has knd s.heap c (.cell (some v))) (hx : (x, NameKind.cell) ∈ tbl) (hc : cl.lookup x = some c) (h : Q v s) : wpAny M A (eval (.Name x pos) env) Q E s := by
  obtain ⟨o, ho, hd⟩ := hv
  exact wpAny_Name (wpAny_loadName_cell V.kind (V.names _ hx).1 (by rw [V.cells]; exact hc) ⟨o, ho, hd⟩ h) (V.names _ hx).2
theorem nF {L' : Addr} {Q : Value → Shared → Prop} {c : Addr} (V : Ev env L cl tbl) (H : St knd g R L' vs l s) (hv : Has knd s.heap c (.cell (some v))) (hx : (x, NameKind.free) ∈ tbl) (hc : cl.lookup x = some c) (hn : (x == ("__classdict__" : Str)) = false) (h : Q v s) : wpAny M A (eval (.Name x pos) env) Q E s := by
  obtain ⟨o, ho, hd⟩ := hv
  exact wpAny_Name (wpAny_loadName_free V.kind (V.names _ hx).1 (by rw [V.cells]; exact hc) ⟨o, ho, hd⟩ h hn) (V.names _ hx).2
theorem nG {Q : Value → Shared → Prop} (V : Ev env L cl tbl) (H : St knd g R L vs l s) (B : Bs w g) (hx : (x, NameKind.globalImplicit) ∈ tbl) (e : IsG x v) (h : Q v s) : wpAny M A (eval (.Name x pos) env) Q E s := by
  obtain ⟨m, F, k⟩ := H.F
  obtain ⟨p, lo, mg, mb, T⟩ := B.T
  have hg := T.g.keeps F.keep
  rw [← V.globals] at hg
  exact Name_function_global V.kind (V.names _ hx).1 (loadGlobal_global hg (mg_of B.X T.g (e _)) h) (V.names _ hx).2
theorem nB {Q : Value → Shared → Prop} (V : Ev env L cl tbl) (H : St knd g R L vs l s) (B : Bs w g) (hx : (x, NameKind.globalImplicit) ∈ tbl) (e : IsB x v) (h : Q v s) : wpAny M A (eval (.Name x pos) env) Q E s := by
  obtain ⟨m, F, k⟩ := H.F
  obtain ⟨p, lo, mg, mb, T⟩ := B.T
  have hg := T.g.keeps F.keep
  have hb := T.b.keeps F.keep
  rw [← V.globals] at hg
  rw [← V.builtins] at hb
  exact Name_function_global V.kind (V.names _ hx).1 (loadGlobal_builtin hg (mg_none_of B.X T.g (e.1 _)) hb ((T.builtins x e.2.2).trans e.2.1) h) (V.names _ hx).2
theorem nS {Q : Unit → Shared → Prop} (V : Ev env L cl tbl) (H : St knd g R L vs l s) (hx : (x, NameKind.local) ∈ tbl) (r : Rm x vs vs') (h : ∀ s', St knd g R L ((x, v) :: vs') l s' → Q () s') : wpAny M A (storeName env x v) Q E s := by
  obtain ⟨m, F, k⟩ := H.F
  have F' := F.ns
  rw [← V.locals] at F'
  exact wpAny_storeName_local (V.names _ hx).1 F' (fun h' hn hs => h _ (H.stored r F k (by rw [← V.locals]; exact hn) (by rw [← V.locals]; exact hs))) (by rw [V.kind]; rfl)
theorem nSC {Q : Unit → Shared → Prop} {c : Addr} {v₀ : Option Value} (V : Ev env L cl tbl) (H : St knd g R L vs l s) (hx : (x, NameKind.cell) ∈ tbl) (hc : cl.lookup x = some c) (U : Up c (Kd.cell v₀) (.cell (some v)) l l') (h : ∀ s', St knd g R L vs l' s' → Q () s') : wpAny M A (storeName env x v) Q E s := by
  obtain ⟨o, ho, hd⟩ := H.has U.mem
  refine wpAny_storeName_cell V.kind (V.names _ hx).1 (by rw [V.cells]; exact hc) ⟨o, ho, hd⟩ fun h' hv hs => h _ (H.put U hs ?_)
  obtain ⟨o', ho', hd'⟩ := hv
  exact ⟨o', ho', hd'⟩

/-! ## dicts -/
theorem dIn {Q : Value → Shared → Prop} (H : St knd g R L vs l s) (D : Has knd s.heap d (.dct kvs)) (hd : (d == sysModules) = false) (hkey : knd.is k key = true) (h : ∀ s', St knd g R L vs l s' → Q (.bool (valueAt kvs k).isSome) s') : wpAny (model prog w) A (compareOp .In key (.ref d)) Q E s :=
  wpAny_in_of hkey hd D.dict.mapOf (h _ (H.tok _))
theorem dNotIn {Q : Value → Shared → Prop} (H : St knd g R L vs l s) (D : Has knd s.heap d (.dct kvs)) (hd : (d == sysModules) = false) (hkey : knd.is k key = true) (h : ∀ s', St knd g R L vs l s' → Q (.bool (!(valueAt kvs k).isSome)) s') : wpAny (model prog w) A (compareOp .NotIn key (.ref d)) Q E s :=
  wpAny_notIn_of hkey hd D.dict.mapOf (h _ (H.tok _))
theorem tailOf {value slice : Expr} {o i : Value} {T id : String} {Q : Value → Shared → Prop} (hT : s.TypeIs o T) (hl : typeLookup (.type T) "__getitem__" = pure (some (.builtin id))) (h : wpAny (model prog w) A (getItem o i) Q E s) :
    wpAny (model prog w) A (subscriptTail value slice o i) Q E s := by
  refine tailAny ?_
  have : ∃ ops, subscripted slice false o i = operate ops (getItem o i) := by
    unfold subscripted
    split
    · exact ⟨_, rfl⟩
    · simp_all
    · exact ⟨_, rfl⟩
  obtain ⟨ops, hs⟩ := this
  exact subscriptTail_ops hT hl h hs fun _ => rfl
theorem tDict {value slice : Expr} {Q : Value → Shared → Prop} (H : St knd g R L vs l s) (D : Has knd s.heap d (.dct kvs)) (hkey : knd.is k key = true) (hv : valueAt kvs k = some v) (h : ∀ s', St knd g R L vs l s' → Q v s') : wpAny (model prog w) A (subscriptTail value slice (.ref d) key) Q E s :=
  tailOf D.dict.typeIs slot_dict_getitem.lookup (wpAny_getItem_of hkey D.dict.mapOf hv (h _ (H.tok _)))
theorem uDictSet {Q : Unit → Shared → Prop} (H : St knd g R L vs l s) (U : Up d (.dct kvs) (.dct (stored kvs k v)) l l') (hkey : knd.is k key = true) (hz : kvs.length ≤ 1000) (h : ∀ s', St knd g R L vs l' s' → Q () s') : wpAny (model prog w) A (setItem (.ref d) key v) Q E s :=
  wpAny_setItem_pairs hkey (H.has U.mem).dict (fun h' hd hs => h _ (H.put U hs (Has.ofDict hd))) (by rw [sizeLine_eq]; omega)
theorem uDictDel {Q : Unit → Shared → Prop} (H : St knd g R L vs l s) (U : Up d (.dct kvs) (.dct (without kvs k)) l l') (hkey : knd.is k key = true) (hv : (valueAt kvs k).isSome = true) (hz : kvs.length ≤ 1000) (h : ∀ s', St knd g R L vs l' s' → Q () s') : wpAny (model prog w) A (delItem (.ref d) key) Q E s :=
  wpAny_delItem_slot (H.has U.mem).dict.typeIs (by decide) F.slot_dict_delitem (call_meetsIn F.slot_dict_delitem (H.has U.mem).dict.typeIs F.entry_dict_delitem (F.args_dict_delitem_2 _ _) (meets_dict_delitem_pairs knd d hkey) ⟨kvs, (H.has U.mem).dict, by rw [sizeLine_eq]; omega, hv, fun h' hd hs => h _ (H.put U hs (Has.ofDict hd))⟩)
theorem mDict {name : Str} {id : String} {pl : Sem Bool} {Q : Value × List Value → Shared → Prop} (H : St knd g R L vs l s) (D : Has knd s.heap d (.dct kvs)) (slot : Slot "dict" name id) (hty : typeOf (.builtin id) = pure (.type "method_descriptor"))
    (h : Q (.builtin id, [.ref d]) s) : wpAny M A (getMethod (.ref d) name pl) Q E s :=
  getMethod_builtin D.dict.typeIs PySem.F.plainAttrs_dict slot hty D.dict.mapOf.noDict h
theorem cDictGet {Q : Value → Shared → Prop} {dflt : Value} (H : St knd g R L vs l s) (D : Has knd s.heap d (.dct kvs)) (hd : (d == sysModules) = false) (hkey : knd.is k key = true) (h : ∀ s', St knd g R L vs l s' → Q ((valueAt kvs k).getD dflt) s') : wpAny (model prog w) A (call (.builtin "dict.get") [.ref d, key, dflt]) Q E s :=
  call_meetsIn F.slot_dict_get D.dict.typeIs F.entry_dict_get (F.args_dict_get_3 _ _ _) (meets_dict_get_default knd d hkey hd dflt) ⟨_, D.dict.mapOf, h _ (H.tok _)⟩
theorem cDictCopy {Q : Value → Shared → Prop} (H : St knd g R L vs l s) (D : Has knd s.heap d (.dct kvs)) (hd : (d == sysModules) = false) (hz : kvs.length ≤ 1000) (h : ∀ c s', St knd g R L vs ((c, .dct kvs) :: l) s' → Q (.ref c) s') : wpAny (model prog w) A (call (.builtin "dict.copy") [.ref d]) Q E s :=
  call_meetsIn F.slot_dict_copy D.dict.typeIs F.entry_dict_copy (F.args_dict_copy_1 _) (meets_dict_copy knd d hd) ⟨kvs, D.dict, by rw [sizeLine_eq]; omega, fun h' hc _ hk => h _ _ (H.new hk (Nat.le_refl _) (Has.ofDict hc))⟩
theorem cDictValues {Q : Value → Shared → Prop} (H : St knd g R L vs l s) (D : Has knd s.heap d (.dct kvs)) (hd : (d == sysModules) = false) (h : ∀ c s', St knd g R L vs ((c, valsV d) :: l) s' → Q (.ref c) s') : wpAny (model prog w) A (call (.builtin "dict.values") [.ref d]) Q E s :=
  call_meetsIn F.slot_dict_values D.dict.typeIs F.entry_dict_values (F.args_dict_values_1 _) (meets_dict_values knd d hd) ⟨⟨kvs, D.dict⟩, h _ _ (H.push rfl ⟨rfl, rfl⟩)⟩
theorem cDictLen {Q : Value → Shared → Prop} (H : St knd g R L vs l s) (D : Has knd s.heap d (.dct kvs)) (hd : (d == sysModules) = false) (hz : kvs.length ≤ 1000) (h : ∀ t s', St knd g R L vs l s' → Q (.int kvs.length t) s') : wpAny (model prog w) A (call (.builtin "len") [.ref d]) Q E s :=
  call_len_dict hd D.dict (by omega) (h _ _ (H.tok _))
theorem iDict {Q : Bool → Shared → Prop} (H : St knd g R L vs l s) (D : Has knd s.heap d (.dct kvs)) (hd : (d == sysModules) = false) (hz : kvs.length ≤ 1000) (h : ∀ s', St knd g R L vs l s' → Q (!kvs.isEmpty) s') : wpAny (model prog w) A (truthy (.ref d)) Q E s :=
  wpAny_truthy_dict hd D.dict (by omega) (h _ (H.tok _))

/-! ## displays -/
theorem eDictNil {Q : Value → Shared → Prop} (H : St knd g R L vs l s) (h : ∀ c s', St knd g R L vs ((c, .dct []) :: l) s' → Q (.ref c) s') : wpAny M A (eval (.Dict [] [] pos) env) Q E s :=
  wpAny_Dict_empty (h _ _ (H.new (fun _ _ e => Heap.get?_push_of_some _ e) (Nat.le_refl _) (Has.ofDict (Heap.DictOf.new _))))
theorem uTuple {xs : List Value} {Q : Value → Shared → Prop} (H : St knd g R L vs l s) (hz : xs.length ≤ 1000) (h : ∀ c s', St knd g R L vs ((c, .tup xs) :: l) s' → Q (.ref c) s') : wpAny M A (newTuple xs) Q E s :=
  wpAny_newObj_type (h _ _ (H.push rfl rfl)) (by show xs.toArray.size ≤ sizeLine; rw [List.size_toArray, sizeLine_eq]; omega)
theorem uList {xs : List Value} {Q : Value → Shared → Prop} (H : St knd g R L vs l s) (hz : xs.length ≤ 1000) (h : ∀ c s', St knd g R L vs ((c, .lst xs) :: l) s' → Q (.ref c) s') : wpAny M A (newList xs) Q E s :=
  wpAny_newObj_type (h _ _ (H.push rfl ⟨0, rfl⟩)) (by show xs.toArray.size ≤ sizeLine; rw [List.size_toArray, sizeLine_eq]; omega)
/-- a tuple is unpacked -/
theorem aTuple {elts : List Expr} {n : Nat} {items : List Value} {Q : Unit → Shared → Prop} (H : St knd g R L vs l s) (T : Has knd s.heap a (.tup items)) (hh : A.handled = none) (hn : (assignEach elts env).length = items.length) (hstar : (assignEach elts env).findIdx? (·.1) = none)
    (h : ∀ s', St knd g R L vs l s' → wpAny (model prog w) A (assignInOrder ((assignEach elts env).map (·.2)) items) Q E s') : wpAny (model prog w) A (assign (.Tuple elts n pos) env (.ref a)) Q E s := by
  refine assign_Tuple_tuple hh T.tupI (by rw [hn, List.size_toArray]) hstar fun h' he => ?_
  exact h _ ((H.grow fun b o e => he b o (Nat.ne_of_lt (Heap.lt_size e)) e))

/-! ## truth, sameness -/
theorem iList {xs : List Value} {Q : Bool → Shared → Prop} (H : St knd g R L vs l s) (D : Has knd s.heap a (.lst xs)) (hz : xs.length < 100000) (h : ∀ s', St knd g R L vs l s' → Q (!xs.isEmpty) s') : wpAny (model prog w) A (truthy (.ref a)) Q E s := by
  refine wpAny_truthy_list D.list (by rw [List.size_toArray]; omega) ?_
  simpa using h _ (H.tok _)
end
end Csp
end
section
open PySem PySem.W PySem.Calls PyProof.Rows
set_option Elab.async false
set_option maxRecDepth 100000
set_option maxHeartbeats 400000
set_option linter.unusedVariables false
set_option linter.unusedSectionVars false
namespace Csp
section
variable {prog : Program} {w : World} {K : Type} [DecidableEq K] {knd : KeyKind prog w K} {A : Around} {E : Value → Shared → Prop} {s : Shared}

def cellLed (cl : List (Str × Addr)) (cv : List (Option Value)) : Led K := (cl.zip cv).map fun p => (p.1.2, Kd.cell p.2)

theorem cells_map : ∀ {cl : List (Str × Addr)} {cm : Str → Option Value} {cv : List (Option Value)}, cl.map (fun p => cm p.1) = cv → (cellLed cl cv : Led K) = cl.map fun p => (p.2, Kd.cell (cm p.1))
  | [], _, _, h => by subst h; rfl
  | p :: cl, cm, _, h => by
    subst h
    have ih := cells_map (cl := cl) (cm := cm) rfl
    unfold cellLed at ih ⊢
    rw [List.map_cons, List.zip_cons_cons, List.map_cons, List.map_cons, ih]

theorem cells_isSome {x : Str} : ∀ (names : List (Str × NameKind)) (n : Nat) (acc : List (Str × Addr)), names.lookup x = some .cell ∨ (acc.lookup x).isSome = true → ((cellsFrom n names acc).lookup x).isSome = true
  | [], n, acc, h => h.elim (fun e => by simp at e) id
  | (y, k) :: r, n, acc, h => by
    unfold cellsFrom
    split
    · refine cells_isSome r _ _ ?_
      by_cases q : x = y
      · subst q; right; simp
      · have q' : (x == y) = false := beq_eq_false_iff_ne.mpr q
        rw [List.lookup_cons, q'] at h
        rw [List.lookup_cons, q']
        exact h
    · rename_i hk
      refine cells_isSome r _ _ ?_
      by_cases q : x = y
      · subst q
        rw [List.lookup_cons, beq_self_eq_true] at h
        rcases h with h | h
        · cases h; exact absurd rfl hk
        · exact .inr h
      · have q' : (x == y) = false := beq_eq_false_iff_ne.mpr q
        rw [List.lookup_cons, q'] at h
        exact h

/-- a def with cells is entered -/
theorem enterC {n : Nat} {R : Result → Shared → Prop} {name qual : Str} {params : Arguments} {body : List Stmt} {scope : Scope} {dV kV doc pm cdv ct : Value} {an : Option Addr} {fo : Obj} {f : Addr} {args : Args}
    {binds : List (Str × Value)} {vL : Vars} {cnames : List Str} {cv : List (Option Value)} {g₀ : Heap} {l : Led K} (X : At knd g₀ s l)
    (hr : Room A n) (ho : s.heap.get? f = some fo) (hd : fo.data = .func (fnX name qual params body scope [] dV kV doc pm an cdv ct)) (hcd : s.heap.CodeRec cdv qual)
    (hbind : BindsTo s (fnX name qual params body scope [] dV kV doc pm an cdv ct) args binds)
    (hkind' : ∀ x ∈ binds.map (·.1), scope.names.lookup x = some .local ∨ scope.names.lookup x = some .cell)
    (hnd : ((cellsFrom 0 scope.names []).map (·.1)).Nodup) (hcn : (cellsFrom 0 scope.names []).map (·.1) = cnames)
    (hL' : vL.map (fun p => bindL (fun x => scope.names.lookup x) binds (fun _ => none) p.1) = vL.map fun p => some p.2)
    (hC : cnames.map (bindC (fun x => scope.names.lookup x) binds (fun _ => none)) = cv)
    (h : ∀ g L s₁ cl, cl.map (·.1) = cnames → (∀ b o, s.heap.get? b = some o → b ∉ l.map (·.1) → g.get? b = some o) → (∀ b o, g₀.get? b = some o → g.get? b = some o) → Bs w g → St knd g (sideOf s) L vL (cellLed cl cv ++ l) s₁ →
      wpAny (model prog w) (A.deeper (envX qual scope L f cdv cl)) (execs body (envX qual scope L f cdv cl)) (FnQ R) (fun _ _ => False) s₁)
    (hco : scope.isCoroutine = false := by rfl) (hgen : scope.isGenerator = false := by rfl) (hk : scope.kind = .function := by rfl) :
    codeAny (model prog w) A (.call (.ref f) args) R s := by
  have hL := List.map_inj_left.mp hL'
  have hkind : ∀ n, ∀ x ∈ binds, scope.names.lookup x.1 = some .local ∨ (scope.names.lookup x.1 = some .cell ∧ ((cellsFrom n scope.names []).lookup x.1).isSome = true) := fun n x hx =>
    (hkind' x.1 (List.mem_map_of_mem hx)).imp_right fun e => ⟨e, cells_isSome _ _ _ (.inl e)⟩
  refine codeAny_call_function hr.d ho hd hco hgen rfl hcd (hbind _ _ _ _ ?_)
  refine wpAny_newFunctionEnv_cells hk (hkind _) fun env' he s' x => ?_
  subst he
  refine ⟨(X.B.nolimit.keeps X.k).keeps x.toInCall.keep, codeAny_func ?_⟩
  obtain ⟨h₁, tk, rfl, _⟩ := x.done
  have hk₁ := x.toInCall.keep
  have hg : ∀ b o, s.heap.get? b = some o → b ∉ l.map (·.1) → (hideAll s.heap (l.map (·.1))).get? b = some o := fun b o e n => hideAll_get _ e n
  have hg₀ : ∀ b o, g₀.get? b = some o → (hideAll s.heap (l.map (·.1))).get? b = some o := fun b o e => hg b o (X.k b o e) fun q => by
    obtain ⟨p, hp, rfl⟩ := List.mem_map.mp q
    rw [(X.l p hp).2.1] at e; cases e
  have hlow : sysModules < s.heap.objs.size := modules_low (X.B.nolimit.keeps X.k)
  have hnames : (cellsFrom (s.heap.objs.size + 1) scope.names []).map (·.1) = cnames := by rw [← hcn]; exact cellsFrom_names scope.names _ 0 [] [] rfl
  have hfresh : ∀ {b : Addr}, s.heap.objs.size ≤ b → (hideAll s.heap (l.map (·.1))).get? b = none := fun {b} hb => by
    cases q : (hideAll s.heap (l.map (·.1))).get? b with
    | none => rfl
    | some o => exact absurd (Heap.lt_size (of_hideAll _ q)) (Nat.not_lt.mpr hb)
  have hN : ∀ p ∈ (cellLed (cellsFrom (s.heap.objs.size + 1) scope.names []) cv ++ l : Led K), Has knd h₁ p.1 p.2 ∧ p.1 ≠ s.heap.objs.size ∧ (hideAll s.heap (l.map (·.1))).get? p.1 = none ∧ sysModules < p.1 := fun p hp => by
    rcases List.mem_append.mp hp with hp | hp
    · rw [cells_map (cm := bindC (fun x => scope.names.lookup x) binds (fun _ => none)) (by rw [← hC, ← hnames, List.map_map]; rfl)] at hp
      obtain ⟨⟨nm, c⟩, hm, rfl⟩ := List.mem_map.mp hp
      obtain ⟨o, ho', hd'⟩ := x.cell nm c (lookup_of_mem_nodup (hnames ▸ hcn ▸ hnd) hm)
      have hab : s.heap.objs.size < c := x.above nm c hm
      exact ⟨⟨o, ho', hd'⟩, Nat.ne_of_gt hab, hfresh (Nat.le_of_lt hab), Nat.lt_trans hlow hab⟩
    · exact ⟨(X.l p hp).1.keep fun o e => hk₁ _ o e, Nat.ne_of_lt (X.l p hp).1.lt, hideAll_none _ (List.mem_map_of_mem hp), (X.l p hp).2.2⟩
  refine wpAny_mono (h (hideAll s.heap (l.map (·.1))) s.heap.objs.size { s with heap := h₁, toks := tk } (cellsFrom (s.heap.objs.size + 1) scope.names []) hnames hg hg₀ (X.B.keeps hg₀)
    ⟨⟨_, ⟨x.toInCall.ns, fun b o e => hk₁ b o (of_hideAll _ e), Nat.le_of_eq (hideAll_size _ _)⟩, hL⟩, hN, ?_, rfl, rfl, rfl, hlow⟩) (fun _ _ y => y) fun _ _ y => y.elim
  rw [List.map_append, List.nodup_append]
  refine ⟨?_, X.nd, fun a ha b hb => ?_⟩
  · rw [cells_map (cm := bindC (fun x => scope.names.lookup x) binds (fun _ => none)) (by rw [← hC, ← hnames, List.map_map]; rfl), List.map_map]
    exact List.pairwise_map.mpr (x.apart.imp fun h => h)
  · rintro rfl
    rw [cells_map (cm := bindC (fun x => scope.names.lookup x) binds (fun _ => none)) (by rw [← hC, ← hnames, List.map_map]; rfl), List.map_map] at ha
    obtain ⟨⟨nm, c⟩, hm, rfl⟩ := List.mem_map.mp ha
    have hab : s.heap.objs.size < c := x.above nm c hm
    obtain ⟨p, hp, e⟩ := List.mem_map.mp hb
    have := (X.l p hp).1.lt
    rw [show p.1 = c from e] at this
    exact Nat.lt_irrefl _ (Nat.lt_trans hab this)
theorem cl_two {α : Type} {a b : Str} : ∀ {cl : List (Str × α)}, cl.map (·.1) = [a, b] → ∃ c d, cl = [(a, c), (b, d)]
  | [], h => by cases h
  | [_], h => by cases h
  | [p, q], h => by cases h; exact ⟨_, _, rfl⟩
  | _ :: _ :: _ :: _, h => by cases h
theorem cl_one {α : Type} {a : Str} : ∀ {cl : List (Str × α)}, cl.map (·.1) = [a] → ∃ c, cl = [(a, c)]
  | [], h => by cases h
  | [p], h => by cases h; exact ⟨_, rfl⟩
  | _ :: _ :: _, h => by cases h
theorem cl_three {α : Type} {a b c : Str} : ∀ {cl : List (Str × α)}, cl.map (·.1) = [a, b, c] → ∃ x y z, cl = [(a, x), (b, y), (c, z)]
  | [], h => by cases h
  | [_], h => by cases h
  | [_, _], h => by cases h
  | [p, q, r], h => by cases h; exact ⟨_, _, _, rfl⟩
  | _ :: _ :: _ :: _ :: _, h => by cases h
theorem cl_four {α : Type} {a b c d : Str} : ∀ {cl : List (Str × α)}, cl.map (·.1) = [a, b, c, d] → ∃ x y z u, cl = [(a, x), (b, y), (c, z), (d, u)]
  | [], h => by cases h
  | [_], h => by cases h
  | [_, _], h => by cases h
  | [_, _, _], h => by cases h
  | [p, q, r, t], h => by cases h; exact ⟨_, _, _, _, rfl⟩
  | _ :: _ :: _ :: _ :: _ :: _, h => by cases h

/-! ## instances -/
structure InstOf (knd : KeyKind prog w K) (h : Heap) (x dx : Addr) (C : Addr) (al : List (Str × Value)) : Prop where
  x : Has knd h x (.raw (instObj C dx))
  d : Has knd h dx (.att al)
theorem InstOf.inst {h : Heap} {x dx C : Addr} {al : List (Str × Value)} (I : InstOf knd h x dx C al) : ∃ es m, InstAt h x (instObj C dx) C (some (dictOf es m)) ∧ Atts w.params es al := by
  obtain ⟨hx, ⟨o', ho', es, m, rfl, a⟩⟩ := I
  exact ⟨es, m, ⟨hx.rawE, rfl, rfl, ho'⟩, a⟩
def CG (C : Addr) : Prop := (∀ P, findIn (KK P) (.ref C) "__getattribute__" = some (some (.builtin "object.__getattribute__"))) ∧ (∀ P, hasDictIn (KK P) C = true)
def NoCls (C : Addr) (name : Str) : Prop := ∀ P, findIn (KK P) (.ref C) name = some none
theorem eInstAttr {g : Heap} {R' : Side} {L : Addr} {vs : Vars} {l : Led K} {x dx C : Addr} {al : List (Str × Value)} {name : Str} {expr : Bool} {v : Value} {Q : Value → Shared → Prop} (H : St knd g R' L vs l s) (B : Bs w g) (hx : Has knd s.heap x (.raw (instObj C dx))) (hdx : Has knd s.heap dx (.att al)) (hv : al.lookup name = some v)
    (hc : CG C) (hf : NoCls C name) (hh : handedIn v = true) (h : ∀ s', St knd g R' L vs l s' → Q v s') : wpAny (model prog w) A (getAttr (.ref x) name expr) Q E s := by
  obtain ⟨es, m, I, a⟩ := (InstOf.mk hx hdx).inst
  exact get_value (H.X B) I (hc.1 _) (findObj_own (hc.2 _) (hf _) rfl (a.get hv)) hh (h _ (H.tok _))
end
end Csp
end
section
open PySem PySem.W PySem.Calls PyProof.Rows
set_option Elab.async false
set_option maxRecDepth 100000
set_option maxHeartbeats 400000
set_option linter.unusedVariables false
set_option linter.unusedSectionVars false
namespace Csp
section
variable {prog : Program} {w : World} {K : Type} [DecidableEq K] {knd : KeyKind prog w K} {A : Around} {E : Value → Shared → Prop} {s : Shared} {M : Model}
  {g : Heap} {R : Side} {L : Addr} {vs vs' : Vars} {l l' : Led K} {env : Env} {a : Addr} {pos : Pos} {v : Value} {x dx C f : Addr} {al : List (Str × Value)} {name : Str}

def HasFn (C : Addr) (name : Str) (f : Addr) : Prop := (∀ P, findIn (KK P) (.ref C) name = some (some (.ref f))) ∧ (∀ P, typeIn (KK P) (.ref f) = some (.type "function"))
def CGa (C : Addr) : Prop := ∀ P, findIn (KK P) (.ref C) "__getattr__" = some none

/-- obj.method, by the class's def -/
theorem mInst {pl : Sem Bool} {Q : Value × List Value → Shared → Prop} (H : St knd g R L vs l s) (B : Bs w g) (hx : Has knd s.heap x (.raw (instObj C dx))) (hdx : Has knd s.heap dx (.att al)) (hc : CG C) (hga : CGa C) (hf : HasFn C name f) (hn : al.lookup name = none)
    (h : Q (.ref f, [.ref x]) s) : wpAny (model prog w) A (getMethod (.ref x) name pl) Q E s := by
  obtain ⟨es, m, I, at_⟩ := (InstOf.mk hx hdx).inst
  exact method_fn (H.X B) I (hc.1 _) (hga _) (hf.1 _) (hf.2 _) (by show (lookIn name (dictOf es m)).map _ = _; rw [lookIn_dict, at_.none hn]; rfl) h
/-- obj.attr(...), attr the object's own -/
theorem mOwn {pl : Sem Bool} {Q : Value × List Value → Shared → Prop} (H : St knd g R L vs l s) (B : Bs w g) (hx : Has knd s.heap x (.raw (instObj C dx))) (hdx : Has knd s.heap dx (.att al)) (hc : CG C) (hga : CGa C) (hf : NoCls C name) (hv : al.lookup name = some v) (hh : handedIn v = true)
    (h : ∀ s', St knd g R L vs l s' → Q (v, []) s') : wpAny (model prog w) A (getMethod (.ref x) name pl) Q E s := by
  obtain ⟨es, m, I, at_⟩ := (InstOf.mk hx hdx).inst
  exact method_usual (r := none) (H.X B) I (hc.1 _) (hga _) (hf _) rfl (eInstAttr H B hx hdx hv hc hf hh h)

/-- a made object is called -/
theorem call_inst {R : Result → Shared → Prop} {args : List Value} (X : (KK w.params).In s.heap) (hx : Has knd s.heap x (.raw (instObj C dx))) (hdx : Has knd s.heap dx (.att al)) (hf : HasFn C "__call__" f) (hfn : ∀ P, fnIn (KK P) f = true)
    (h : codeAny (model prog w) A (.call (.ref f) ⟨.ref x :: args, []⟩) R s) : codeAny (model prog w) A (.call (.ref x) ⟨args, []⟩) R s := by
  obtain ⟨es, m, I, at_⟩ := (InstOf.mk hx hdx).inst
  exact kco_code X I rfl (hf.1 _) (beq_iff_eq.mpr (hf.2 _)) (hfn _) h
/-- the call of a made object, as an expression -/
theorem callI {env : Env} {e : Expr} {rest : List Expr} {Q : Value → Shared → Prop}
    (h : wpAny M A (spliced (backTo pos (starEach (e :: rest) env))) (fun ws s₁ => s₁.heap.get? x = some (instObj C dx) ∧ wpAny M A (call (.ref x) ws) Q E s₁) E s)
    (he : starEach (e :: rest) env = (false, eval e env) :: starEach rest env) (hp : (backTo pos (starEach rest env)).any (·.1) = false) : wpAny M A (callWith pos (.ref x) [] (backTo pos (starEach (e :: rest) env)) []) Q E s := by
  rw [he] at h ⊢
  exact callW (k := .caller) (by show ((false || (backTo pos (starEach rest env)).any (·.1)) || false) = false; rw [hp]; rfl) (evalArgs_plain (wpAny_mono h (fun ws s' h' => ⟨keep_inst h'.1 rfl, h'.2⟩) fun _ _ z => z))
/-- f(*l), f a function's object -/
theorem callStar {env : Env} {e : Expr} {p : Pos} {fa la : Addr} {fo : Obj} {fd : FuncData} {xs : List Value} {first : List Value} {Q : Value → Shared → Prop}
    (h : wpAny (model prog w) A (eval e env) (fun v s₁ => ∃ vs l, v = .ref la ∧ St knd g R L vs l s₁ ∧ Has knd s₁.heap la (.lst xs) ∧ xs.length < 1000 ∧ s₁.heap.get? fa = some fo ∧ fo.data = .func fd ∧
      ∀ s', St knd g R L vs l s' → wpAny (model prog w) A (call (.ref fa) (first ++ xs)) Q E s') E s)
    (he : starEach [.Starred e p] env = [(true, eval e env)]) :
    wpAny (model prog w) A (callWith pos (.ref fa) first (backTo pos (starEach [.Starred e p] env)) []) Q E s := by
  rw [he]
  refine ks_call (P := fun h => ∃ o fd, h.get? fa = some o ∧ o.data = .func fd) rfl (fun h ⟨o, fd, ho, hd⟩ => ⟨.frame, .inl rfl, keep_fn ho hd⟩) (ks_lone (wpAny_mono h (fun v s₁ h₁ => ?_) fun _ _ z => z))
  obtain ⟨vs, l, rfl, H, hla, hz, hf, hfd, hq⟩ := h₁
  have go : wpAny (model prog w) A (collect (.ref la)) (fun ws s₂ => (∃ o fd, s₂.heap.get? fa = some o ∧ o.data = .func fd) ∧ wpAny (model prog w) A (call (.ref fa) (first ++ ws)) Q E s₂) E s₁ := by
    obtain ⟨o, ho, n, rfl⟩ := hla
    refine wpAny_collect_seq la (.inl rfl) ho rfl rfl (fun h' hk => ?_) (by rw [List.size_toArray, sizeLine_eq]; omega)
    exact ⟨⟨_, _, hk _ _ hf, hfd⟩, hq _ (H.grow (t := s₁.toks) hk)⟩
  unfold StarOf notIterableAtAll
  exact wpAny_bind (wpAny_specialOf hla.list.typeIs PySem.F.slot_list_iter.lookup (wpAny_pure ⟨rfl, go⟩))

theorem MethodStar_ {env : Env} {o : Expr} {name : Str} {apos pos : Pos} {args : List Expr} {Q : Value → Shared → Prop}
    (h : wpAny M A (eval o env) (fun ov s₁ => wpAny M A (getAttr ov name true) (fun f s₂ => wpAny M A (callWith pos f [] (backTo pos (starEach args env)) []) Q E s₂) E s₁) E s)
    (he : eval (.Call (.Attribute o name apos) args [] pos) env = (do
      let ov ← eval o env
      standAt apos.atName
      let (f, first) ← holding [ov] (do let r ← getAttr ov name true; pure (r, ([] : List Value)))
      callWith pos f first (backTo pos (starEach args env)) [])) :
    wpAny M A (eval (.Call (.Attribute o name apos) args [] pos) env) Q E s := by
  rw [he]
  exact wpAny_bind (wpAny_mono h (fun ov s₁ h₁ => wpAny_bind (wpAny_standAt (wpAny_bind (wpAny_holding (wpAny_bind (wpAny_mono h₁ (fun f s₂ h₂ => wpAny_pure h₂) fun _ _ x => x)))))) fun _ _ x => x)
def PlainK (knd : KeyKind prog w K) : Prop := ∀ k v, knd.is k v = true → ∀ b, plainIs v (.ref b) = true
theorem cmpIsNotKey {hp : PlainK knd} {k : K} {b : Addr} {Q : Value → Shared → Prop} (hk : knd.is k v = true) (h : Q (.bool true) s) : wpAny M A (compareOp .IsNot v (.ref b)) Q E s :=
  wpAny_isNot_other (hp k v hk b) (fun e => by subst e; have := knd.byValue _ _ hk; cases this) h
theorem iDom {d dx' : Addr} {xs : List Value} {Q : Bool → Shared → Prop} (H : St knd g R L vs l s) (B : Bs w g) (D : Has knd s.heap d (.dom dx' xs)) (hz : xs.length < 1000) (h : ∀ s', St knd g R L vs l s' → Q (!xs.isEmpty) s') : wpAny (model prog w) A (truthy (.ref d)) Q E s :=
  dom_truthy (H.X B) D hz (h _ (H.tok _))
inductive VSub (vs : Vars) : Vars → Prop
  | nil : VSub vs []
  | cons {p vs'} : p ∈ vs → VSub vs vs' → VSub vs (p :: vs')
theorem VSub.mem : ∀ {vs vs' : Vars}, VSub vs vs' → ∀ p ∈ vs', p ∈ vs
  | _, _, .cons h t, p, hp => by
    rcases List.mem_cons.mp hp with rfl | hp
    · exact h
    · exact t.mem p hp
theorem St.vsub (H : St knd g R L vs l s) (hv : VSub vs vs') (hl : l'.Sublist l) : St knd g R L vs' l' s := H.sub hv.mem hl
theorem iNot {Q : Value → Shared → Prop} (h : wpAny M A (truthy v) (fun b s' => Q (.bool (!b)) s') E s) : wpAny M A (unaryOp .Not v) Q E s := by
  unfold unaryOp
  refine wpAny_holding ?_
  dsimp only
  rw [if_pos (by decide)]
  exact wpAny_bind (wpAny_mono h (fun b s' h' => wpAny_pure h') fun _ _ z => z)
theorem cmpNe {i j : Int} {t u : Tok} {Q : Value → Shared → Prop} (h : Q (.bool (i != j)) s) : wpAny (model prog w) A (compareOp .NotEq (.int i t) (.int j u)) Q E s := PySem.P.ne_int h
theorem cmpEq {i j : Int} {t u : Tok} {Q : Value → Shared → Prop} (h : Q (.bool (i == j)) s) : wpAny (model prog w) A (compareOp .Eq (.int i t) (.int j u)) Q E s := PySem.P.eq_int h
theorem cListLen {xs : List Value} {Q : Value → Shared → Prop} (H : St knd g R L vs l s) (D : Has knd s.heap a (.lst xs)) (hz : xs.length < 100000) (h : ∀ t s', St knd g R L vs l s' → Q (.int xs.length t) s') : wpAny (model prog w) A (call (.builtin "len") [.ref a]) Q E s := by
  refine call_len_list D.list (by rw [List.size_toArray]; omega) ?_
  rw [List.size_toArray]
  exact h _ _ (H.tok _)
/-- a value of a constraint's list is, or is not, the mark -/
theorem cmpIsRef {b : Addr} {Q : Value → Shared → Prop} (hv : v = .ref b ∨ ∃ i t, v = .int i t) (h : Q (.bool (decide (v = .ref b))) s) : wpAny M A (compareOp .Is v (.ref b)) Q E s := by
  rcases hv with rfl | ⟨i, t, rfl⟩
  · rw [decide_eq_true rfl] at h; exact wpAny_is_ref_self h
  · rw [decide_eq_false (by intro e; cases e)] at h; exact wpAny_is_other rfl (by intro e; cases e) h

theorem St.o (H : St knd g R L vs l s) {o : Obj} (e : g.get? a = some o) : s.heap.get? a = some o := let ⟨_, F, _⟩ := H.F; F.keep _ _ e
theorem Ev.compK {cn cs L a ccd cl tbl C cl' tbl' scope} (kt : Kt cs tbl) (kt' : Kt (relS scope cs) tbl') : Ev (compEnvC scope cl' C (envX cn cs L a ccd cl)) C cl' tbl' := (Ev.ofKt kt).comp kt'
theorem withEv {cl : List (Str × Addr)} {tbl : List (Str × NameKind)} {C : Addr} {target : Expr} {Q : Unit → Shared → Prop} (V : Ev env C cl tbl) (h : Ev env C cl tbl → wpAny M A (assign target env v) Q E s) : wpAny M A (assign target env v) Q E s := h V
/-- variables in a list or in a tuple -/
def VarsAt (knd : KeyKind prog w K) (h : Heap) (a : Addr) (vals : List Value) : Prop := Has knd h a (.lst vals) ∨ Has knd h a (.tup vals)
theorem VarsAt.keep {h h' : Heap} {vals : List Value} (x : VarsAt knd h a vals) (e : ∀ o, h.get? a = some o → h'.get? a = some o) : VarsAt knd h' a vals := x.imp (·.keep e) (·.keep e)
theorem VarsAt.obj {h : Heap} {vals : List Value} (x : VarsAt knd h a vals) : ∃ o, h.get? a = some o ∧ ((Kd.lst vals).holds knd o ∨ (Kd.tup vals).holds knd o) := by
  rcases x with ⟨o, ho, hk⟩ | ⟨o, ho, hk⟩
  · exact ⟨o, ho, .inl hk⟩
  · exact ⟨o, ho, .inr hk⟩
theorem start_vars {items : List Value} {o : Obj} {Q : Value → Shared → Prop} (H : St knd g R L vs l s) (hh : A.handled = none) (ho : s.heap.get? a = some o) (hk : (Kd.lst items).holds knd o ∨ (Kd.tup items).holds knd o)
    (h : ∀ I kI s', Iter prog w knd A (.ref I) a o items.length (fun i v new => items[i]? = some v ∧ new = []) (oneIt I kI) → St knd g R L vs ((I, kI 0) :: l) s' → Q (.ref I) s') : wpAny (model prog w) A (pyIter (.ref a)) Q E s := by
  rcases hk with hk | hk
  · exact start_lst H hh ho hk fun I s' W H' => h I _ s' W H'
  · exact start_tup H hh ho hk fun I s' W H' => h I _ s' W H'

theorem fixSrc {Q : Value → Shared → Prop} {k : Kd K} (H : St knd g R L vs l s) (hm : (a, k) ∈ l) (h : ∀ o, s.heap.get? a = some o → k.holds knd o → wpAny M A (pyIter (.ref a)) Q E s) : wpAny M A (pyIter (.ref a)) Q E s := by
  obtain ⟨o, ho, hk⟩ := H.has hm; exact h o ho hk
theorem recastO (H : St knd g R L vs l s) {k : Kd K} {o : Obj} (ho : s.heap.get? a = some o) (U : Up a k (.raw o) l l') : St knd g R L vs l' s := H.recast U fun o' ho' _ => by rw [ho] at ho'; exact (Option.some.inj ho').symm
theorem goLst {items : List Value} {o : Obj} {Q : Value → Shared → Prop} (H : St knd g R L vs l s) (hh : A.handled = none) (ho : s.heap.get? a = some o) (hk : (Kd.lst items).holds knd o) (U : Up a (.lst items) (.raw o) l l')
    (h : ∀ I s', Iter prog w knd A (.ref I) a o items.length (fun i v new => items[i]? = some v ∧ new = []) (oneIt I (seqIt "list_iterator" a)) → St knd g R L vs ((I, seqIt "list_iterator" a 0) :: l') s' → Q (.ref I) s') : wpAny (model prog w) A (pyIter (.ref a)) Q E s :=
  start_lst (recastO H ho U) hh ho hk h
theorem goKeys {kvs : List (K × Value)} {o : Obj} {Q : Value → Shared → Prop} (H : St knd g R L vs l s) (hh : A.handled = none) (hd : (a == sysModules) = false) (ho : s.heap.get? a = some o) (hk : (Kd.dct kvs).holds knd o) (U : Up a (.dct kvs) (.raw o) l l')
    (h : ∀ I s' ep, Iter prog w knd A (.ref I) a o kvs.length (fun i v new => (∃ k x, kvs[i]? = some (k, x) ∧ knd.is k v = true) ∧ new = []) (oneIt I (keyIt "dict_keyiterator" a kvs.length ep)) → St knd g R L vs ((I, keyIt "dict_keyiterator" a kvs.length ep 0) :: l') s' → Q (.ref I) s') : wpAny (model prog w) A (pyIter (.ref a)) Q E s :=
  start_keys (recastO H ho U) hh hd ho hk h
theorem unfixG {α : Type} {t : Sem α} {Q : α → Shared → Prop} {k : Kd K} {o : Obj} (H : St knd g R L vs l s) (hk : k.holds knd o) (U : Up a (.raw o) k l l') (h : St knd g R L vs l' s → wpAny M A t Q E s) : wpAny M A t Q E s := h (H.unfix hk U)
theorem take_map_succ {α β : Type} (f : α → β) (ks : List α) {x : Nat} (h : x < ks.length) : (ks.take (x + 1)).map f = (ks.take x).map f ++ [f ks[x]] := by
  rw [List.take_add_one, List.getElem?_eq_getElem h, List.map_append]; rfl
theorem take_filter_succ {α : Type} (p : α → Bool) (ks : List α) {x : Nat} {v : α} (h : ks[x]? = some v) : (ks.take (x + 1)).filter p = (ks.take x).filter p ++ (if p v = true then [v] else []) := by
  rw [List.take_add_one, h, List.filter_append]
  cases hp : p v <;> simp [hp]
def vInt : Value → Int
  | .int i _ => i
  | _ => 0
theorem ints_of : ∀ {l : List Value}, (∀ v ∈ l, ∃ i t, v = .int i t) → ∃ vs : List (Int × Tok), l = vs.map (fun p => .int p.1 p.2) ∧ vs.map (·.1) = l.map vInt
  | [], _ => ⟨[], rfl, rfl⟩
  | v :: l, h => by
    obtain ⟨i, t, rfl⟩ := h v (.head _)
    obtain ⟨vs, e1, e2⟩ := ints_of (l := l) fun v hv => h v (.tail _ hv)
    exact ⟨(i, t) :: vs, by rw [e1]; rfl, by rw [List.map_cons, e2]; rfl⟩
theorem callKm1 {env : Env} {f : Addr} {r : Value} {o : Obj} {fd : FuncData} {e : Expr} {rest : List Expr} {Q : Value → Shared → Prop} (hf : (KK w.params).lookup f = some o) (hd : o.data = .func fd)
    (h : wpAny (model prog w) A (spliced (backTo pos (starEach (e :: rest) env))) (fun ws s₁ => (KK w.params).In s₁.heap ∧ wpAny (model prog w) A (call (.ref f) (r :: ws)) Q E s₁) E s)
    (he : starEach (e :: rest) env = (false, eval e env) :: starEach rest env) (hp : (backTo pos (starEach rest env)).any (·.1) = false) : wpAny (model prog w) A (callWith pos (.ref f) [r] (backTo pos (starEach (e :: rest) env)) []) Q E s := callK1 hf hd h he hp
theorem callKm10 {env : Env} {f : Addr} {r : Value} {o : Obj} {fd : FuncData} {Q : Value → Shared → Prop} (hf : (KK w.params).lookup f = some o) (hd : o.data = .func fd) (H : St knd g R L vs l s) (B : Bs w g)
    (h : wpAny (model prog w) A (call (.ref f) [r]) Q E s) : wpAny (model prog w) A (callWith pos (.ref f) [r] (backTo pos (starEach [] env)) []) Q E s := callK10 hf hd (H.X B) h
theorem callKf1 {env : Env} {f : Addr} {o : Obj} {fd : FuncData} {e : Expr} {rest : List Expr} {Q : Value → Shared → Prop} (hf : (KK w.params).lookup f = some o) (hd : o.data = .func fd)
    (h : wpAny (model prog w) A (spliced (backTo pos (starEach (e :: rest) env))) (fun ws s₁ => (KK w.params).In s₁.heap ∧ wpAny (model prog w) A (call (.ref f) ws) Q E s₁) E s)
    (he : starEach (e :: rest) env = (false, eval e env) :: starEach rest env) (hp : (backTo pos (starEach rest env)).any (·.1) = false) : wpAny (model prog w) A (callWith pos (.ref f) [] (backTo pos (starEach (e :: rest) env)) []) Q E s :=
  callFn hd (wpAny_mono h (fun ws s' h' => ⟨h'.1 _ _ hf, h'.2⟩) fun _ _ z => z) he hp
theorem inX {P : Prop} (H : St knd g R L vs l s) (B : Bs w g) (h : P) : (KK w.params).In s.heap ∧ P := ⟨H.X B, h⟩
/-- the argument forwardcheck -/
inductive FcIs (knd : KeyKind prog w K) (h : Heap) : Value → Bool → Prop
  | none : FcIs knd h .none false
  | false : FcIs knd h (.bool false) false
  | lst {a xs} : Has knd h a (.lst xs) → xs.length < 100000 → FcIs knd h (.ref a) (!xs.isEmpty)
theorem FcIs.keep {h h' : Heap} {v b} (x : FcIs knd h v b) (e : ∀ a o, h.get? a = some o → h'.get? a = some o) : FcIs knd h' v b := by
  cases x with
  | none => exact .none
  | false => exact .false
  | lst h1 h2 => exact .lst (h1.keep fun o => e _ o) h2
theorem iFc {b : Bool} {Q : Bool → Shared → Prop} (H : St knd g R L vs l s) (F : FcIs knd g v b) (h : ∀ s', St knd g R L vs l s' → Q b s') : wpAny (model prog w) A (truthy v) Q E s := by
  cases F with
  | none => exact truthy_none (h _ H)
  | false => exact wpAny_truthy_bool (h _ H)
  | lst h1 h2 => exact iList H (H.base h1) h2 h
/-- the keys' values -/
def KeyVals (knd : KeyKind prog w K) (vals : List Value) (ks : List K) : Prop := vals.length = ks.length ∧ ∀ (i : Nat) (v : Value) (k : K), vals[i]? = some v → ks[i]? = some k → knd.is k v = true
end
end Csp
end
section
open PySem PySem.W PySem.Calls PyProof.Rows
set_option Elab.async false
set_option maxRecDepth 100000
set_option maxHeartbeats 400000
set_option linter.unusedVariables false
set_option linter.unusedSectionVars false
namespace Csp
local macro_rules | `(tactic| walk_at "mem") => `(tactic| first | (with_reducible assumption) | ((repeat (first | (with_reducible exact List.mem_cons_self) | (with_reducible refine' List.mem_cons_of_mem _ ?_) | (with_reducible assumption) | (with_reducible exact List.mem_append_left _ (by assumption)) | (with_reducible exact List.mem_append_left _ (DL_mem (by assumption))) | (with_reducible refine' List.mem_append_right _ ?_) | (with_reducible exact DL_mem (by assumption)))); done))
local macro_rules | `(tactic| walk_at "tb") => `(tactic| first | ((repeat (first | (with_reducible exact List.mem_cons_self) | (with_reducible refine' List.mem_cons_of_mem _ ?_))); done) | (with_reducible assumption))
local macro_rules | `(tactic| walk_at "rm") => `(tactic| ((repeat (first | (with_reducible assumption) | (with_reducible exact Rm.nil) | (with_reducible apply Rm.hit) | ((with_reducible apply Rm.miss); (focus decide +kernel)))); done))
local macro_rules | `(tactic| walk_at "up") => `(tactic| ((repeat (first | (with_reducible exact Up.head) | (with_reducible apply Up.tail) | (with_reducible apply Up.left))); done))
local macro_rules | `(tactic| walk_at "sub") => `(tactic| first | ((repeat (first | (with_reducible exact List.Sublist.refl _) | (with_reducible refine' List.Sublist.cons_cons _ ?_) | (with_reducible refine' List.Sublist.cons _ ?_))); done) | walk_at "sub1")
local macro_rules | `(tactic| walk_at "sub1") => `(tactic| first | (with_reducible exact List.Sublist.refl _) | ((with_reducible refine' List.Sublist.cons_cons _ ?_); walk_at "sub1") | ((with_reducible refine' List.Sublist.cons _ ?_); walk_at "sub1"))
local macro_rules | `(tactic| walk_at "vsub") => `(tactic| ((repeat (first | (with_reducible exact VSub.nil) | (focus ((with_reducible refine' VSub.cons ?_ ?_); rotate_right 2; (next => first | ((repeat (first | (with_reducible exact List.mem_cons_self) | (with_reducible refine' List.mem_cons_of_mem _ ?_))); done) | walk_at "mem"))))); done))
local macro_rules | `(tactic| walk_at "end") => `(tactic| ((try dsimp only [oneIt, List.cons_append, List.nil_append]); (with_reducible refine' St.vsub (by assumption) ?hv ?hl); (case hv => walk_at "vsub"); (case hl => walk_at "sub")))
local macro_rules | `(tactic| walk_at "has") => `(tactic| first | (with_reducible assumption) | (focus ((with_reducible refine' St.has (by assumption) ?_); rotate_right 1; (first | ((repeat (first | (with_reducible exact List.mem_cons_self) | (with_reducible refine' List.mem_cons_of_mem _ ?_))); done) | walk_at "mem"); done)) | walk_at "has1")
local macro_rules | `(tactic| walk_at "has1") => `(tactic| first
  | (with_reducible assumption)
  | ((with_reducible refine' St.has (by assumption) ?m); (case m => walk_at "mem"))
  | ((with_reducible refine' St.base (by assumption) ?m); (case m => (with_reducible assumption)))
  | ((with_reducible refine' Has.ofRaw (by assumption) ?m); (case m => ((with_reducible refine' St.has (by assumption) ?m2); (case m2 => walk_at "mem")))))
local macro_rules | `(tactic| walk_at "nmod") => `(tactic| first | (with_reducible assumption) | ((with_reducible refine' St.notMod (by assumption) ?m); (case m => walk_at "mem")))
local macro_rules | `(tactic| walk_at "key") => `(tactic| first | (with_reducible assumption))
local macro_rules | `(tactic| walk_at "nm") => `(tactic| first
  | (focus ((with_reducible refine' eL (by assumption) (by assumption) ?_ ?_ ?_); rotate_right 3; (next => (first | ((repeat (first | (with_reducible exact List.mem_cons_self) | (with_reducible refine' List.mem_cons_of_mem _ ?_))); done) | (with_reducible assumption))); (next => (first | ((repeat (first | (with_reducible exact List.mem_cons_self) | (with_reducible refine' List.mem_cons_of_mem _ ?_))); done) | walk_at "mem"))))
  | (focus ((with_reducible refine' eB' (by assumption) (by assumption) (by assumption) ?_ ?_ ?_); rotate_right 3; (next => (first | ((repeat (first | (with_reducible exact List.mem_cons_self) | (with_reducible refine' List.mem_cons_of_mem _ ?_))); done) | (with_reducible assumption))); (next => (walk_at "isB"))))
  | (focus ((with_reducible refine' eG' (by assumption) (by assumption) (by assumption) ?_ ?_ ?_); rotate_right 3; (next => (first | ((repeat (first | (with_reducible exact List.mem_cons_self) | (with_reducible refine' List.mem_cons_of_mem _ ?_))); done) | (with_reducible assumption))); (next => (walk_at "isG"))))
  | (focus ((with_reducible refine' nL (by assumption) (by assumption) ?_ ?_ ?_); rotate_right 3; (next => (first | ((repeat (first | (with_reducible exact List.mem_cons_self) | (with_reducible refine' List.mem_cons_of_mem _ ?_))); done) | (with_reducible assumption))); (next => (first | ((repeat (first | (with_reducible exact List.mem_cons_self) | (with_reducible refine' List.mem_cons_of_mem _ ?_))); done) | walk_at "mem"))))
  | (focus ((with_reducible refine' nB (by assumption) (by assumption) (by assumption) ?_ ?_ ?_); rotate_right 3; (next => (first | ((repeat (first | (with_reducible exact List.mem_cons_self) | (with_reducible refine' List.mem_cons_of_mem _ ?_))); done) | (with_reducible assumption))); (next => (walk_at "isB"))))
  | (focus ((with_reducible refine' nG (by assumption) (by assumption) (by assumption) ?_ ?_ ?_); rotate_right 3; (next => (first | ((repeat (first | (with_reducible exact List.mem_cons_self) | (with_reducible refine' List.mem_cons_of_mem _ ?_))); done) | (with_reducible assumption))); (next => (walk_at "isG"))))
  | (focus ((with_reducible refine' nC (by assumption) (by assumption) ?_ ?_ ?_ ?_); rotate_right 4; rotate_left 1; (next => (first | ((repeat (first | (with_reducible exact List.mem_cons_self) | (with_reducible refine' List.mem_cons_of_mem _ ?_))); done) | (with_reducible assumption))); rotate_right 1; rotate_left 1; (next => (first | (with_reducible assumption) | rfl)); rotate_right 1; (next => (walk_at "has"))))
  | (focus ((with_reducible refine' nF (by assumption) (by assumption) ?_ ?_ ?_ ?_ ?_); rotate_right 5; rotate_left 1; (next => (first | ((repeat (first | (with_reducible exact List.mem_cons_self) | (with_reducible refine' List.mem_cons_of_mem _ ?_))); done) | (with_reducible assumption))); rotate_right 1; rotate_left 1; (next => rfl); rotate_right 1; rotate_left 1; (next => rfl); rotate_right 1; (next => (walk_at "has"))))
  | (focus ((with_reducible refine' eC (by assumption) (by assumption) ?_ ?_ ?_ ?_); rotate_right 4; (next => (first | ((repeat (first | (with_reducible exact List.mem_cons_self) | (with_reducible refine' List.mem_cons_of_mem _ ?_))); done) | (with_reducible assumption))); (next => rfl); (next => (first | ((repeat (first | (with_reducible exact List.mem_cons_self) | (with_reducible refine' List.mem_cons_of_mem _ ?_))); done) | walk_at "mem")))))
local macro_rules | `(tactic| walk_at "st") => `(tactic| first
  | (focus ((with_reducible refine' sL (by assumption) (by assumption) ?_ ?_ ?_); rotate_right 3; (next => (first | ((repeat (first | (with_reducible exact List.mem_cons_self) | (with_reducible refine' List.mem_cons_of_mem _ ?_))); done) | (with_reducible assumption))); (next => (walk_at "rm")); intro _ _))
  | (focus ((with_reducible refine' nS (by assumption) (by assumption) ?_ ?_ ?_); rotate_right 3; (next => (first | ((repeat (first | (with_reducible exact List.mem_cons_self) | (with_reducible refine' List.mem_cons_of_mem _ ?_))); done) | (with_reducible assumption))); (next => (walk_at "rm")); intro _ _))
  | (focus ((with_reducible refine' sC (by assumption) (by assumption) ?_ ?_ ?_ ?_); rotate_right 4; (next => (first | ((repeat (first | (with_reducible exact List.mem_cons_self) | (with_reducible refine' List.mem_cons_of_mem _ ?_))); done) | (with_reducible assumption))); (next => rfl); (next => (walk_at "up")); intro _ _)))
local macro_rules | `(tactic| walk_at "size") => `(tactic| first | assumption | omega | (simp only [List.length_append, List.length_cons, List.length_nil, List.length_take, List.length_drop]; omega))
local macro_rules | `(tactic| walk_at "op") => `(tactic| fail)
local macro_rules | `(tactic| walk_at "gcall") => `(tactic| first
  | (focus ((with_reducible refine' cDictGet (by assumption) ?_ ?_ ?_ ?_); rotate_right 4; (next => (walk_at "has")); (next => (walk_at "nmod")); (next => (with_reducible assumption)); intro _ _))
  | (focus ((with_reducible refine' cDictCopy (by assumption) ?_ ?_ ?_ ?_); rotate_right 4; (next => (walk_at "has")); (next => (walk_at "nmod")); (next => (walk_at "size")); intro _ _ _))
  | (focus ((with_reducible refine' cDictValues (by assumption) ?_ ?_ ?_); rotate_right 3; (next => (walk_at "has")); (next => (walk_at "nmod")); intro _ _ _))
  | (focus ((with_reducible refine' cListLen (by assumption) ?_ ?_ ?_); rotate_right 3; (next => (walk_at "has")); (next => (walk_at "size")); intro _ _ _))
  | (focus ((with_reducible refine' cDictLen (by assumption) ?_ ?_ ?_ ?_); rotate_right 4; (next => (walk_at "has")); (next => (walk_at "nmod")); (next => (walk_at "size")); intro _ _ _))
  | (focus ((with_reducible refine' cDomLen (by assumption) (by assumption) ?_ ?_ ?_); rotate_right 3; (next => (walk_at "has")); (next => (walk_at "size")); intro _ _ _))
  | (focus ((with_reducible refine' uAppend (by assumption) ?_ ?_ ?_); rotate_right 3; (next => (walk_at "up")); (next => (walk_at "size")); intro _ _))
  | (focus ((with_reducible refine' uPop (by assumption) ?_ ?_ ?_); rotate_right 3; (next => (walk_at "up")); (next => (walk_at "size")); intro _ _))
  | (focus ((with_reducible refine' uDomExtend (by assumption) (by assumption) ?_ ?_ ?_ ?_); rotate_right 4; (next => (walk_at "up")); (next => (walk_at "has")); (next => (walk_at "size")); intro _ _)))
local macro_rules | `(tactic| walk_at "ggetMethod") => `(tactic| first
  | (focus ((with_reducible refine' mDict (by assumption) ?_ F.slot_dict_get F.type_dict_get ?_); rotate_right 2; (next => (walk_at "has"))))
  | (focus ((with_reducible refine' mDict (by assumption) ?_ F.slot_dict_copy F.type_dict_copy ?_); rotate_right 2; (next => (walk_at "has"))))
  | (focus ((with_reducible refine' mDict (by assumption) ?_ F.slot_dict_values F.type_dict_values ?_); rotate_right 2; (next => (walk_at "has"))))
  | (focus ((with_reducible refine' mInst (by assumption) (by assumption) ?_ ?_ ?_ ?_ ?_ ?_ ?_); rotate_right 7; (next => (walk_at "has")); (next => (walk_at "has")); (next => (walk_at "isC")); (next => (walk_at "isC")); (next => (walk_at "isC")); (next => rfl)))
  | (focus ((with_reducible refine' mOwn (by assumption) (by assumption) ?_ ?_ ?_ ?_ ?_ ?_ ?_ ?_); rotate_right 8; (next => (walk_at "has")); (next => (walk_at "has")); (next => (walk_at "isC")); (next => (walk_at "isC")); (next => (walk_at "isC")); (next => rfl); (next => rfl); intro _ _))
  | (focus ((with_reducible refine' mLstH (by assumption) ?_ F.slot_list_append F.type_list_append ?_); rotate_right 2; (next => (walk_at "has"))))
  | (focus ((with_reducible refine' mLstH (by assumption) ?_ F.slot_list_pop F.type_list_pop ?_); rotate_right 2; (next => (walk_at "has"))))
  | (focus ((with_reducible refine' mLstH (by assumption) ?_ F.slot_list_sort F.type_list_sort ?_); rotate_right 2; (next => (walk_at "has"))))
  | (focus ((with_reducible refine' mDomBi (by assumption) (by assumption) ?_ ?_ ?_ ?_ ?_ ?_ ?_); rotate_right 7; (next => (walk_at "has")); (next => (walk_at "has")); (next => rfl); (next => (walk_at "isD")); (next => (walk_at "isD")); (next => (first | exact .inl rfl | exact .inr rfl)))))
local macro_rules | `(tactic| walk_at "ggetAttr") => `(tactic| first
  | (focus ((with_reducible refine' eInstAttr (by assumption) (by assumption) ?_ ?_ ?_ ?_ ?_ ?_ ?_); rotate_right 7; (next => (walk_at "has")); (next => (walk_at "has")); (next => rfl); (next => (walk_at "isC")); (next => (walk_at "isC")); (next => rfl); intro _ _))
  | (focus ((with_reducible refine' eDomAttr (by assumption) (by assumption) ?_ ?_ ?_ ?_ ?_ ?_); rotate_right 6; (next => (walk_at "has")); (next => (walk_at "has")); (next => rfl); (next => (walk_at "isD")); (next => rfl); intro _ _)))
local macro_rules | `(tactic| walk_at "gtruthy") => `(tactic| first
  | (with_reducible refine wpAny_truthy_bool ?_)
  | (with_reducible refine truthy_none ?_)
  | (focus ((with_reducible refine' iDict (by assumption) ?_ ?_ ?_ ?_); rotate_right 4; (next => (walk_at "has")); (next => (walk_at "nmod")); (next => (walk_at "size")); intro _ _))
  | (focus ((with_reducible refine' iDom (by assumption) (by assumption) ?_ ?_ ?_); rotate_right 3; (next => (walk_at "has")); (next => (walk_at "size")); intro _ _))
  | (focus ((with_reducible refine' iList (by assumption) ?_ ?_ ?_); rotate_right 3; (next => (walk_at "has")); (next => (walk_at "size")); intro _ _))
  | (with_reducible refine iTruth ?_))
local macro_rules | `(tactic| walk_at "gcompareOp") => `(tactic| first
  | (focus ((with_reducible refine' dIn (by assumption) ?_ ?_ ?_ ?_); rotate_right 4; rotate_left 2; (next => (with_reducible assumption)); rotate_right 2; (next => (walk_at "has")); (next => (walk_at "nmod")); intro _ _))
  | (focus ((with_reducible refine' dNotIn (by assumption) ?_ ?_ ?_ ?_); rotate_right 4; rotate_left 2; (next => (with_reducible assumption)); rotate_right 2; (next => (walk_at "has")); (next => (walk_at "nmod")); intro _ _))
  | (with_reducible refine wpAny_is_ref_self ?_)
  | (with_reducible refine cmpNe ?_)
  | (with_reducible refine cmpEq ?_))
local macro_rules | `(tactic| walk_at "gsubscriptTail") => `(tactic| first
  | (focus ((with_reducible refine' tDict (by assumption) ?_ ?_ ?_ ?_); rotate_right 4; (next => (walk_at "has")); (next => (with_reducible assumption)); (next => (with_reducible assumption)); intro _ _))
  | (focus ((with_reducible refine' tSliceAll (by assumption) ?_ ?_ ?_ ?_); rotate_right 4; (next => (walk_at "has")); (next => (walk_at "has")); (next => (walk_at "size")); intro _ _ _))
  | (focus ((with_reducible refine' tSliceD (by assumption) (by assumption) ?_ ?_ ?_ ?_); rotate_right 4; (next => (walk_at "has")); (next => (walk_at "has")); (next => (walk_at "size")); intro _ _ _))
  | (focus ((with_reducible refine' tTupLast (by assumption) ?_ ?_ ?_); rotate_right 3; (next => (walk_at "has")); (next => rfl))))
local macro_rules | `(tactic| walk_at "oprest") => `(tactic| first
  | (focus ((with_reducible refine' uDictSet (by assumption) ?_ ?_ ?_ ?_); rotate_right 4; (next => (walk_at "up")); (next => (with_reducible assumption)); (next => (walk_at "size")); intro _ _))
  | (focus ((with_reducible refine' uDictDel (by assumption) ?_ ?_ ?_ ?_ ?_); rotate_right 5; (next => (walk_at "up")); (next => (with_reducible assumption)); (next => (with_reducible assumption)); (next => (walk_at "size")); intro _ _))
  | (focus ((with_reducible refine' uDelAll (by assumption) ?_ ?_ ?_ ?_); rotate_right 4; (next => (walk_at "up")); (next => (walk_at "has")); (next => (walk_at "size")); intro _ _))
  | (focus ((with_reducible refine' iSub (by assumption) ?_); intro _ _ _))
  | (focus ((with_reducible refine' iNeg (by assumption) ?_); intro _ _ _)))
local macro_rules | `(tactic| walk_at "go1") => `(tactic| first
  | ((guard_target = wpAny _ _ (PySem.eval (Expr.Name _ _) _) _ _ _); first
    | (focus ((with_reducible refine' eL (by assumption) (by assumption) ?_ ?_ ?_); rotate_right 3; (next => (first | ((repeat (first | (with_reducible exact List.mem_cons_self) | (with_reducible refine' List.mem_cons_of_mem _ ?_))); done) | (with_reducible assumption))); (next => (first | ((repeat (first | (with_reducible exact List.mem_cons_self) | (with_reducible refine' List.mem_cons_of_mem _ ?_))); done) | walk_at "mem"))))
    | (focus ((with_reducible refine' eB' (by assumption) (by assumption) (by assumption) ?_ ?_ ?_); rotate_right 3; (next => (first | ((repeat (first | (with_reducible exact List.mem_cons_self) | (with_reducible refine' List.mem_cons_of_mem _ ?_))); done) | (with_reducible assumption))); (next => (walk_at "isB"))))
    | (focus ((with_reducible refine' eG' (by assumption) (by assumption) (by assumption) ?_ ?_ ?_); rotate_right 3; (next => (first | ((repeat (first | (with_reducible exact List.mem_cons_self) | (with_reducible refine' List.mem_cons_of_mem _ ?_))); done) | (with_reducible assumption))); (next => (walk_at "isG"))))
    | (focus ((with_reducible refine' nL (by assumption) (by assumption) ?_ ?_ ?_); rotate_right 3; (next => (first | ((repeat (first | (with_reducible exact List.mem_cons_self) | (with_reducible refine' List.mem_cons_of_mem _ ?_))); done) | (with_reducible assumption))); (next => (first | ((repeat (first | (with_reducible exact List.mem_cons_self) | (with_reducible refine' List.mem_cons_of_mem _ ?_))); done) | walk_at "mem"))))
    | (focus ((with_reducible refine' nB (by assumption) (by assumption) (by assumption) ?_ ?_ ?_); rotate_right 3; (next => (first | ((repeat (first | (with_reducible exact List.mem_cons_self) | (with_reducible refine' List.mem_cons_of_mem _ ?_))); done) | (with_reducible assumption))); (next => (walk_at "isB"))))
    | (focus ((with_reducible refine' nG (by assumption) (by assumption) (by assumption) ?_ ?_ ?_); rotate_right 3; (next => (first | ((repeat (first | (with_reducible exact List.mem_cons_self) | (with_reducible refine' List.mem_cons_of_mem _ ?_))); done) | (with_reducible assumption))); (next => (walk_at "isG"))))
    | (focus ((with_reducible refine' nC (by assumption) (by assumption) ?_ ?_ ?_ ?_); rotate_right 4; rotate_left 1; (next => (first | ((repeat (first | (with_reducible exact List.mem_cons_self) | (with_reducible refine' List.mem_cons_of_mem _ ?_))); done) | (with_reducible assumption))); rotate_right 1; rotate_left 1; (next => (first | (with_reducible assumption) | rfl)); rotate_right 1; (next => (walk_at "has"))))
    | (focus ((with_reducible refine' nF (by assumption) (by assumption) ?_ ?_ ?_ ?_ ?_); rotate_right 5; rotate_left 1; (next => (first | ((repeat (first | (with_reducible exact List.mem_cons_self) | (with_reducible refine' List.mem_cons_of_mem _ ?_))); done) | (with_reducible assumption))); rotate_right 1; rotate_left 1; (next => rfl); rotate_right 1; rotate_left 1; (next => rfl); rotate_right 1; (next => (walk_at "has"))))
    | (focus ((with_reducible refine' eC (by assumption) (by assumption) ?_ ?_ ?_ ?_); rotate_right 4; (next => (first | ((repeat (first | (with_reducible exact List.mem_cons_self) | (with_reducible refine' List.mem_cons_of_mem _ ?_))); done) | (with_reducible assumption))); (next => rfl); (next => (first | ((repeat (first | (with_reducible exact List.mem_cons_self) | (with_reducible refine' List.mem_cons_of_mem _ ?_))); done) | walk_at "mem"))))
    | walk_at "op")
  | ((guard_target = wpAny _ _ (PySem.eval _ _) _ _ _); first
    | (with_reducible refine wpAny_BinOp ?_)
    | (with_reducible refine UnaryOp_ ?_)
    | (focus ((with_reducible refine' MethodCall_ ?_ ?_); rotate_right 2; rotate_left 1; (next => rfl); rotate_right 1))
    | (focus ((with_reducible refine' MethodP_ ?_ ?_); rotate_right 2; (next => (with_reducible assumption))))
    | (focus ((with_reducible refine' MethodStar_ ?_ ?_); rotate_right 2; rotate_left 1; (next => rfl); rotate_right 1))
    | (focus ((with_reducible refine Call_ ?_ ?_); rotate_right 2; rotate_left 1; (next => rfl); rotate_right 1))
    | (with_reducible refine Attribute_name ?_)
    | (with_reducible refine Subscript_ ?_)
    | (focus ((with_reducible refine' eInt (by assumption) ?_); intro _ _ _))
    | (focus ((with_reducible refine' eStr (by assumption) ?_); intro _ _ _))
    | (with_reducible refine eBool ?_)
    | (with_reducible refine eNone ?_)
    | (with_reducible refine' eSlice (by assumption) ?_)
    | (focus ((with_reducible refine wpAny_Compare1 ?_ ?_); rotate_right 2; rotate_left 1; (next => (with_unfolding_all rfl)); rotate_right 1))
    | (with_reducible refine List_ ?_)
    | (with_reducible refine Tuple_ ?_)
    | (with_reducible refine BoolOp_one ?_)
    | (with_reducible refine BoolOp_and ?_)
    | (with_reducible refine BoolOp_or ?_)
    | (focus ((with_reducible refine' xComp ?_ ?_ ?_ ?_ ?_); rotate_right 5; rotate_left 1; (next => (intro _; rfl)); rotate_right 1; rotate_left 1; (next => (with_unfolding_all rfl)); rotate_right 1; rotate_left 1; (next => (with_unfolding_all rfl)); rotate_right 1; rotate_left 1; (next => (decide +kernel)); rotate_right 1))
    | (focus ((with_reducible refine' eDictNil (by assumption) ?_); intro _ _ _))
    | walk_at "op")
  | ((guard_target = wpAny _ _ (spliced _) _ _ _); first
    | (focus ((with_reducible refine args_cons ?_ ?_); rotate_right 2; rotate_left 1; (next => rfl); rotate_right 1))
    | (with_reducible refine args_nil ?_)
    | walk_at "op")
  | ((guard_target = wpAny _ _ (callWith _ _ _ _ _) _ _ _); first
    | (focus ((with_reducible refine callBi1 ?_ ?_ ?_); rotate_right 3; rotate_left 1; (next => rfl); rotate_right 1; rotate_left 1; (next => rfl); rotate_right 1))
    | (focus ((with_reducible refine callBi2 ?_ ?_ ?_); rotate_right 3; rotate_left 1; (next => rfl); rotate_right 1; rotate_left 1; (next => rfl); rotate_right 1))
    | (with_reducible refine callBi10 ?_)
    | (focus ((with_reducible refine' callKm1 ?_ ?_ ?_ ?_ ?_); rotate_right 5; (next => (walk_at "isF")); (next => rfl); rotate_left 1; (next => rfl); rotate_right 1; rotate_left 1; (next => rfl); rotate_right 1))
    | (focus ((with_reducible refine' callKf1 ?_ ?_ ?_ ?_ ?_); rotate_right 5; (next => (walk_at "isF")); (next => rfl); rotate_left 1; (next => rfl); rotate_right 1; rotate_left 1; (next => rfl); rotate_right 1))
    | (focus ((with_reducible refine' callKm10 ?_ ?_ (by assumption) (by assumption) ?_); rotate_right 3; (next => (walk_at "isF")); (next => rfl)))
    | (focus ((with_reducible refine callTy2 ?_ ?_ ?_); rotate_right 3; rotate_left 1; (next => rfl); rotate_right 1; rotate_left 1; (next => rfl); rotate_right 1))
    | walk_at "op")
  | ((guard_target = Nx _ _ _ _ _ _ _ _); first
    | (with_reducible refine nx ?_)
    | (with_reducible refine nx_ret ?_)
    | (with_reducible refine nx_brk ?_)
    | (with_reducible refine nx_cont ?_))
  | ((guard_target = wpAny _ _ (storeName _ _ _) _ _ _); first
    | (focus ((with_reducible refine' sL (by assumption) (by assumption) ?_ ?_ ?_); rotate_right 3; (next => (first | ((repeat (first | (with_reducible exact List.mem_cons_self) | (with_reducible refine' List.mem_cons_of_mem _ ?_))); done) | (with_reducible assumption))); (next => (walk_at "rm")); intro _ _))
    | (focus ((with_reducible refine' nS (by assumption) (by assumption) ?_ ?_ ?_); rotate_right 3; (next => (first | ((repeat (first | (with_reducible exact List.mem_cons_self) | (with_reducible refine' List.mem_cons_of_mem _ ?_))); done) | (with_reducible assumption))); (next => (walk_at "rm")); intro _ _))
    | (focus ((with_reducible refine' sC (by assumption) (by assumption) ?_ ?_ ?_ ?_); rotate_right 4; (next => (first | ((repeat (first | (with_reducible exact List.mem_cons_self) | (with_reducible refine' List.mem_cons_of_mem _ ?_))); done) | (with_reducible assumption))); (next => rfl); (next => (walk_at "up")); intro _ _)))
  | ((guard_target = wpAny _ _ (exec _ _) _ _ _); first
    | (focus ((with_reducible refine wpAny_Expr_any ?_ ?_ ?_); rotate_right 3; rotate_left 1; (next => (first | rfl | assumption)); rotate_right 1; rotate_left 1; (next => rfl); rotate_right 1))
    | (focus ((with_reducible refine wpAny_Assign_Name ?_ ?_); rotate_right 2; rotate_left 1; (next => rfl); rotate_right 1))
    | (with_reducible refine wpAny_Return_some ?_)
    | (with_reducible refine xIf ?_)
    | (with_reducible refine xDel ?_)
    | (with_reducible refine wpAny_Break ?_)
    | (with_reducible refine wpAny_Return_none ?_)
    | (focus ((with_reducible refine wpAny_Assign_Subscript ?_ ?_); rotate_right 2; rotate_left 1; (next => rfl); rotate_right 1))
    | (focus ((with_reducible refine plainObj_wpAny_Assign_Attribute ?_ ?_); rotate_right 2; rotate_left 1; (next => rfl); rotate_right 1))
    | (focus ((with_reducible refine xFor ?_ ?_); rotate_right 2; rotate_left 1; (next => (intro _; rfl)); rotate_right 1))
    | (focus ((with_reducible refine' xCompA ?_ ?_ ?_ ?_ ?_ ?_); rotate_right 6; rotate_left 1; (next => rfl); rotate_right 1; rotate_left 1; (next => (intro _; rfl)); rotate_right 1; rotate_left 1; (next => (with_unfolding_all rfl)); rotate_right 1; rotate_left 1; (next => (with_unfolding_all rfl)); rotate_right 1; rotate_left 1; (next => (decide +kernel)); rotate_right 1))
    | walk_at "op")
  | ((guard_target = wpAny _ _ (execs _ _) _ _ _); first
    | (with_reducible refine wpAny_execs_nil ?_)
    | (with_reducible refine xs_cons ?_))
  | ((guard_target = wpAny _ _ (PySem.isTrue _ _ _) _ _ _); first
    | (focus ((with_reducible refine isTrue_plain ?_ ?_); rotate_right 2; rotate_left 1; (next => rfl); rotate_right 1))
    | (with_reducible refine isTrue_not ?_)
    | (focus ((with_reducible refine wpAny_isTrue_Compare1 ?_ ?_); rotate_right 2; rotate_left 1; (next => (with_unfolding_all rfl)); rotate_right 1))
    | (with_reducible refine isTrue_and_nil ?_)
    | (with_reducible refine isTrue_or_nil ?_)
    | (with_reducible refine isTrue_and ?_)
    | (with_reducible refine isTrue_or ?_)
    | walk_at "op")
  | ((guard_target = wpAny _ _ (call (Value.builtin _) _) _ _ _); first | walk_at "op" | walk_at "gcall")
  | ((guard_target = wpAny _ _ (getMethod _ _ _) _ _ _); first | walk_at "op" | walk_at "ggetMethod")
  | ((guard_target = wpAny _ _ (getAttr _ _ _) _ _ _); first | walk_at "op" | walk_at "ggetAttr")
  | ((guard_target = wpAny _ _ (truthy _) _ _ _); first | walk_at "op" | walk_at "gtruthy")
  | ((guard_target = wpAny _ _ (compareOp _ _ _) _ _ _); first | walk_at "op" | walk_at "gcompareOp")
  | ((guard_target = wpAny _ _ (subscriptTail _ _ _ _) _ _ _); first | walk_at "op" | walk_at "gsubscriptTail")
  | (with_reducible refine' inX (by assumption) (by assumption) ?_)
  | (focus ((with_reducible refine' eSliceEnd (by assumption) ?_); intro _ _ _))
  | (with_reducible refine evalPart_none_step ?_)
  | (with_reducible refine evalPart_some_step ?_)
  | (with_reducible refine for_brk ?_)
  | (with_reducible refine for_ret ?_)
  | (with_reducible refine iNot ?_)
  | (with_reducible refine wpAny_tests_nil ?_)
  | (with_reducible refine wpAny_tests_one ?_)
  | (with_reducible refine ifT (Eq.refl true) ?_)
  | (with_reducible refine ifF (Eq.refl false) ?_)
  | (with_reducible refine wpAny_assign_Name ?_)
  | (with_reducible refine assignInOrder_cons ?_)
  | (with_reducible refine assignInOrder_nil ?_)
  | (focus ((with_reducible refine' uTuple (by assumption) ?_ ?_); rotate_right 2; (next => (walk_at "size")); intro _ _ _))
  | (focus ((with_reducible refine' uList (by assumption) ?_ ?_); rotate_right 2; (next => (walk_at "size")); intro _ _ _))
  | walk_at "op"
  | walk_at "oprest")
local macro_rules | `(tactic| walk_at "go") => `(tactic| (repeat (first
  | ((guard_target = wpAny _ _ (PySem.eval (Expr.Name _ _) _) _ _ _); first
    | (focus ((with_reducible refine' eL (by assumption) (by assumption) ?_ ?_ ?_); rotate_right 3; (next => (first | ((repeat (first | (with_reducible exact List.mem_cons_self) | (with_reducible refine' List.mem_cons_of_mem _ ?_))); done) | (with_reducible assumption))); (next => (first | ((repeat (first | (with_reducible exact List.mem_cons_self) | (with_reducible refine' List.mem_cons_of_mem _ ?_))); done) | walk_at "mem"))))
    | (focus ((with_reducible refine' eB' (by assumption) (by assumption) (by assumption) ?_ ?_ ?_); rotate_right 3; (next => (first | ((repeat (first | (with_reducible exact List.mem_cons_self) | (with_reducible refine' List.mem_cons_of_mem _ ?_))); done) | (with_reducible assumption))); (next => (walk_at "isB"))))
    | (focus ((with_reducible refine' eG' (by assumption) (by assumption) (by assumption) ?_ ?_ ?_); rotate_right 3; (next => (first | ((repeat (first | (with_reducible exact List.mem_cons_self) | (with_reducible refine' List.mem_cons_of_mem _ ?_))); done) | (with_reducible assumption))); (next => (walk_at "isG"))))
    | (focus ((with_reducible refine' nL (by assumption) (by assumption) ?_ ?_ ?_); rotate_right 3; (next => (first | ((repeat (first | (with_reducible exact List.mem_cons_self) | (with_reducible refine' List.mem_cons_of_mem _ ?_))); done) | (with_reducible assumption))); (next => (first | ((repeat (first | (with_reducible exact List.mem_cons_self) | (with_reducible refine' List.mem_cons_of_mem _ ?_))); done) | walk_at "mem"))))
    | (focus ((with_reducible refine' nB (by assumption) (by assumption) (by assumption) ?_ ?_ ?_); rotate_right 3; (next => (first | ((repeat (first | (with_reducible exact List.mem_cons_self) | (with_reducible refine' List.mem_cons_of_mem _ ?_))); done) | (with_reducible assumption))); (next => (walk_at "isB"))))
    | (focus ((with_reducible refine' nG (by assumption) (by assumption) (by assumption) ?_ ?_ ?_); rotate_right 3; (next => (first | ((repeat (first | (with_reducible exact List.mem_cons_self) | (with_reducible refine' List.mem_cons_of_mem _ ?_))); done) | (with_reducible assumption))); (next => (walk_at "isG"))))
    | (focus ((with_reducible refine' nC (by assumption) (by assumption) ?_ ?_ ?_ ?_); rotate_right 4; rotate_left 1; (next => (first | ((repeat (first | (with_reducible exact List.mem_cons_self) | (with_reducible refine' List.mem_cons_of_mem _ ?_))); done) | (with_reducible assumption))); rotate_right 1; rotate_left 1; (next => (first | (with_reducible assumption) | rfl)); rotate_right 1; (next => (walk_at "has"))))
    | (focus ((with_reducible refine' nF (by assumption) (by assumption) ?_ ?_ ?_ ?_ ?_); rotate_right 5; rotate_left 1; (next => (first | ((repeat (first | (with_reducible exact List.mem_cons_self) | (with_reducible refine' List.mem_cons_of_mem _ ?_))); done) | (with_reducible assumption))); rotate_right 1; rotate_left 1; (next => rfl); rotate_right 1; rotate_left 1; (next => rfl); rotate_right 1; (next => (walk_at "has"))))
    | (focus ((with_reducible refine' eC (by assumption) (by assumption) ?_ ?_ ?_ ?_); rotate_right 4; (next => (first | ((repeat (first | (with_reducible exact List.mem_cons_self) | (with_reducible refine' List.mem_cons_of_mem _ ?_))); done) | (with_reducible assumption))); (next => rfl); (next => (first | ((repeat (first | (with_reducible exact List.mem_cons_self) | (with_reducible refine' List.mem_cons_of_mem _ ?_))); done) | walk_at "mem"))))
    | walk_at "op")
  | ((guard_target = wpAny _ _ (PySem.eval _ _) _ _ _); first
    | (with_reducible refine wpAny_BinOp ?_)
    | (with_reducible refine UnaryOp_ ?_)
    | (focus ((with_reducible refine' MethodCall_ ?_ ?_); rotate_right 2; rotate_left 1; (next => rfl); rotate_right 1))
    | (focus ((with_reducible refine' MethodP_ ?_ ?_); rotate_right 2; (next => (with_reducible assumption))))
    | (focus ((with_reducible refine' MethodStar_ ?_ ?_); rotate_right 2; rotate_left 1; (next => rfl); rotate_right 1))
    | (focus ((with_reducible refine Call_ ?_ ?_); rotate_right 2; rotate_left 1; (next => rfl); rotate_right 1))
    | (with_reducible refine Attribute_name ?_)
    | (with_reducible refine Subscript_ ?_)
    | (focus ((with_reducible refine' eInt (by assumption) ?_); intro _ _ _))
    | (focus ((with_reducible refine' eStr (by assumption) ?_); intro _ _ _))
    | (with_reducible refine eBool ?_)
    | (with_reducible refine eNone ?_)
    | (with_reducible refine' eSlice (by assumption) ?_)
    | (focus ((with_reducible refine wpAny_Compare1 ?_ ?_); rotate_right 2; rotate_left 1; (next => (with_unfolding_all rfl)); rotate_right 1))
    | (with_reducible refine List_ ?_)
    | (with_reducible refine Tuple_ ?_)
    | (with_reducible refine BoolOp_one ?_)
    | (with_reducible refine BoolOp_and ?_)
    | (with_reducible refine BoolOp_or ?_)
    | (focus ((with_reducible refine' xComp ?_ ?_ ?_ ?_ ?_); rotate_right 5; rotate_left 1; (next => (intro _; rfl)); rotate_right 1; rotate_left 1; (next => (with_unfolding_all rfl)); rotate_right 1; rotate_left 1; (next => (with_unfolding_all rfl)); rotate_right 1; rotate_left 1; (next => (decide +kernel)); rotate_right 1))
    | (focus ((with_reducible refine' eDictNil (by assumption) ?_); intro _ _ _))
    | walk_at "op")
  | ((guard_target = wpAny _ _ (spliced _) _ _ _); first
    | (focus ((with_reducible refine args_cons ?_ ?_); rotate_right 2; rotate_left 1; (next => rfl); rotate_right 1))
    | (with_reducible refine args_nil ?_)
    | walk_at "op")
  | ((guard_target = wpAny _ _ (callWith _ _ _ _ _) _ _ _); first
    | (focus ((with_reducible refine callBi1 ?_ ?_ ?_); rotate_right 3; rotate_left 1; (next => rfl); rotate_right 1; rotate_left 1; (next => rfl); rotate_right 1))
    | (focus ((with_reducible refine callBi2 ?_ ?_ ?_); rotate_right 3; rotate_left 1; (next => rfl); rotate_right 1; rotate_left 1; (next => rfl); rotate_right 1))
    | (with_reducible refine callBi10 ?_)
    | (focus ((with_reducible refine' callKm1 ?_ ?_ ?_ ?_ ?_); rotate_right 5; (next => (walk_at "isF")); (next => rfl); rotate_left 1; (next => rfl); rotate_right 1; rotate_left 1; (next => rfl); rotate_right 1))
    | (focus ((with_reducible refine' callKf1 ?_ ?_ ?_ ?_ ?_); rotate_right 5; (next => (walk_at "isF")); (next => rfl); rotate_left 1; (next => rfl); rotate_right 1; rotate_left 1; (next => rfl); rotate_right 1))
    | (focus ((with_reducible refine' callKm10 ?_ ?_ (by assumption) (by assumption) ?_); rotate_right 3; (next => (walk_at "isF")); (next => rfl)))
    | (focus ((with_reducible refine callTy2 ?_ ?_ ?_); rotate_right 3; rotate_left 1; (next => rfl); rotate_right 1; rotate_left 1; (next => rfl); rotate_right 1))
    | walk_at "op")
  | ((guard_target = Nx _ _ _ _ _ _ _ _); first
    | (with_reducible refine nx ?_)
    | (with_reducible refine nx_ret ?_)
    | (with_reducible refine nx_brk ?_)
    | (with_reducible refine nx_cont ?_))
  | ((guard_target = wpAny _ _ (storeName _ _ _) _ _ _); first
    | (focus ((with_reducible refine' sL (by assumption) (by assumption) ?_ ?_ ?_); rotate_right 3; (next => (first | ((repeat (first | (with_reducible exact List.mem_cons_self) | (with_reducible refine' List.mem_cons_of_mem _ ?_))); done) | (with_reducible assumption))); (next => (walk_at "rm")); intro _ _))
    | (focus ((with_reducible refine' nS (by assumption) (by assumption) ?_ ?_ ?_); rotate_right 3; (next => (first | ((repeat (first | (with_reducible exact List.mem_cons_self) | (with_reducible refine' List.mem_cons_of_mem _ ?_))); done) | (with_reducible assumption))); (next => (walk_at "rm")); intro _ _))
    | (focus ((with_reducible refine' sC (by assumption) (by assumption) ?_ ?_ ?_ ?_); rotate_right 4; (next => (first | ((repeat (first | (with_reducible exact List.mem_cons_self) | (with_reducible refine' List.mem_cons_of_mem _ ?_))); done) | (with_reducible assumption))); (next => rfl); (next => (walk_at "up")); intro _ _)))
  | ((guard_target = wpAny _ _ (exec _ _) _ _ _); first
    | (focus ((with_reducible refine wpAny_Expr_any ?_ ?_ ?_); rotate_right 3; rotate_left 1; (next => (first | rfl | assumption)); rotate_right 1; rotate_left 1; (next => rfl); rotate_right 1))
    | (focus ((with_reducible refine wpAny_Assign_Name ?_ ?_); rotate_right 2; rotate_left 1; (next => rfl); rotate_right 1))
    | (with_reducible refine wpAny_Return_some ?_)
    | (with_reducible refine xIf ?_)
    | (with_reducible refine xDel ?_)
    | (with_reducible refine wpAny_Break ?_)
    | (with_reducible refine wpAny_Return_none ?_)
    | (focus ((with_reducible refine wpAny_Assign_Subscript ?_ ?_); rotate_right 2; rotate_left 1; (next => rfl); rotate_right 1))
    | (focus ((with_reducible refine plainObj_wpAny_Assign_Attribute ?_ ?_); rotate_right 2; rotate_left 1; (next => rfl); rotate_right 1))
    | (focus ((with_reducible refine xFor ?_ ?_); rotate_right 2; rotate_left 1; (next => (intro _; rfl)); rotate_right 1))
    | (focus ((with_reducible refine' xCompA ?_ ?_ ?_ ?_ ?_ ?_); rotate_right 6; rotate_left 1; (next => rfl); rotate_right 1; rotate_left 1; (next => (intro _; rfl)); rotate_right 1; rotate_left 1; (next => (with_unfolding_all rfl)); rotate_right 1; rotate_left 1; (next => (with_unfolding_all rfl)); rotate_right 1; rotate_left 1; (next => (decide +kernel)); rotate_right 1))
    | walk_at "op")
  | ((guard_target = wpAny _ _ (execs _ _) _ _ _); first
    | (with_reducible refine wpAny_execs_nil ?_)
    | (with_reducible refine xs_cons ?_))
  | ((guard_target = wpAny _ _ (PySem.isTrue _ _ _) _ _ _); first
    | (focus ((with_reducible refine isTrue_plain ?_ ?_); rotate_right 2; rotate_left 1; (next => rfl); rotate_right 1))
    | (with_reducible refine isTrue_not ?_)
    | (focus ((with_reducible refine wpAny_isTrue_Compare1 ?_ ?_); rotate_right 2; rotate_left 1; (next => (with_unfolding_all rfl)); rotate_right 1))
    | (with_reducible refine isTrue_and_nil ?_)
    | (with_reducible refine isTrue_or_nil ?_)
    | (with_reducible refine isTrue_and ?_)
    | (with_reducible refine isTrue_or ?_)
    | walk_at "op")
  | ((guard_target = wpAny _ _ (call (Value.builtin _) _) _ _ _); first | walk_at "op" | walk_at "gcall")
  | ((guard_target = wpAny _ _ (getMethod _ _ _) _ _ _); first | walk_at "op" | walk_at "ggetMethod")
  | ((guard_target = wpAny _ _ (getAttr _ _ _) _ _ _); first | walk_at "op" | walk_at "ggetAttr")
  | ((guard_target = wpAny _ _ (truthy _) _ _ _); first | walk_at "op" | walk_at "gtruthy")
  | ((guard_target = wpAny _ _ (compareOp _ _ _) _ _ _); first | walk_at "op" | walk_at "gcompareOp")
  | ((guard_target = wpAny _ _ (subscriptTail _ _ _ _) _ _ _); first | walk_at "op" | walk_at "gsubscriptTail")
  | (with_reducible refine' inX (by assumption) (by assumption) ?_)
  | (focus ((with_reducible refine' eSliceEnd (by assumption) ?_); intro _ _ _))
  | (with_reducible refine evalPart_none_step ?_)
  | (with_reducible refine evalPart_some_step ?_)
  | (with_reducible refine for_brk ?_)
  | (with_reducible refine for_ret ?_)
  | (with_reducible refine iNot ?_)
  | (with_reducible refine wpAny_tests_nil ?_)
  | (with_reducible refine wpAny_tests_one ?_)
  | (with_reducible refine ifT (Eq.refl true) ?_)
  | (with_reducible refine ifF (Eq.refl false) ?_)
  | (with_reducible refine wpAny_assign_Name ?_)
  | (with_reducible refine assignInOrder_cons ?_)
  | (with_reducible refine assignInOrder_nil ?_)
  | (focus ((with_reducible refine' uTuple (by assumption) ?_ ?_); rotate_right 2; (next => (walk_at "size")); intro _ _ _))
  | (focus ((with_reducible refine' uList (by assumption) ?_ ?_); rotate_right 2; (next => (walk_at "size")); intro _ _ _))
  | walk_at "op"
  | walk_at "oprest")))
local macro_rules | `(tactic| walk_at "pc") => `(tactic| exact perm_of_S fun S f h0 hc ha => by (simp only [ha, hc, h0, List.cons_append, List.nil_append, Nat.add_zero, Nat.zero_add]; first | done | ac_rfl | omega))
local macro_rules | `(tactic| walk_at "goS") => `(tactic| (repeat ((fail_if_success (with_reducible refine nx ?_)); (first
  | ((guard_target = wpAny _ _ (PySem.eval (Expr.Name _ _) _) _ _ _); first
    | (focus ((with_reducible refine' eL (by assumption) (by assumption) ?_ ?_ ?_); rotate_right 3; (next => (first | ((repeat (first | (with_reducible exact List.mem_cons_self) | (with_reducible refine' List.mem_cons_of_mem _ ?_))); done) | (with_reducible assumption))); (next => (first | ((repeat (first | (with_reducible exact List.mem_cons_self) | (with_reducible refine' List.mem_cons_of_mem _ ?_))); done) | walk_at "mem"))))
    | (focus ((with_reducible refine' eB' (by assumption) (by assumption) (by assumption) ?_ ?_ ?_); rotate_right 3; (next => (first | ((repeat (first | (with_reducible exact List.mem_cons_self) | (with_reducible refine' List.mem_cons_of_mem _ ?_))); done) | (with_reducible assumption))); (next => (walk_at "isB"))))
    | (focus ((with_reducible refine' eG' (by assumption) (by assumption) (by assumption) ?_ ?_ ?_); rotate_right 3; (next => (first | ((repeat (first | (with_reducible exact List.mem_cons_self) | (with_reducible refine' List.mem_cons_of_mem _ ?_))); done) | (with_reducible assumption))); (next => (walk_at "isG"))))
    | (focus ((with_reducible refine' nL (by assumption) (by assumption) ?_ ?_ ?_); rotate_right 3; (next => (first | ((repeat (first | (with_reducible exact List.mem_cons_self) | (with_reducible refine' List.mem_cons_of_mem _ ?_))); done) | (with_reducible assumption))); (next => (first | ((repeat (first | (with_reducible exact List.mem_cons_self) | (with_reducible refine' List.mem_cons_of_mem _ ?_))); done) | walk_at "mem"))))
    | (focus ((with_reducible refine' nB (by assumption) (by assumption) (by assumption) ?_ ?_ ?_); rotate_right 3; (next => (first | ((repeat (first | (with_reducible exact List.mem_cons_self) | (with_reducible refine' List.mem_cons_of_mem _ ?_))); done) | (with_reducible assumption))); (next => (walk_at "isB"))))
    | (focus ((with_reducible refine' nG (by assumption) (by assumption) (by assumption) ?_ ?_ ?_); rotate_right 3; (next => (first | ((repeat (first | (with_reducible exact List.mem_cons_self) | (with_reducible refine' List.mem_cons_of_mem _ ?_))); done) | (with_reducible assumption))); (next => (walk_at "isG"))))
    | (focus ((with_reducible refine' nC (by assumption) (by assumption) ?_ ?_ ?_ ?_); rotate_right 4; rotate_left 1; (next => (first | ((repeat (first | (with_reducible exact List.mem_cons_self) | (with_reducible refine' List.mem_cons_of_mem _ ?_))); done) | (with_reducible assumption))); rotate_right 1; rotate_left 1; (next => (first | (with_reducible assumption) | rfl)); rotate_right 1; (next => (walk_at "has"))))
    | (focus ((with_reducible refine' nF (by assumption) (by assumption) ?_ ?_ ?_ ?_ ?_); rotate_right 5; rotate_left 1; (next => (first | ((repeat (first | (with_reducible exact List.mem_cons_self) | (with_reducible refine' List.mem_cons_of_mem _ ?_))); done) | (with_reducible assumption))); rotate_right 1; rotate_left 1; (next => rfl); rotate_right 1; rotate_left 1; (next => rfl); rotate_right 1; (next => (walk_at "has"))))
    | (focus ((with_reducible refine' eC (by assumption) (by assumption) ?_ ?_ ?_ ?_); rotate_right 4; (next => (first | ((repeat (first | (with_reducible exact List.mem_cons_self) | (with_reducible refine' List.mem_cons_of_mem _ ?_))); done) | (with_reducible assumption))); (next => rfl); (next => (first | ((repeat (first | (with_reducible exact List.mem_cons_self) | (with_reducible refine' List.mem_cons_of_mem _ ?_))); done) | walk_at "mem"))))
    | walk_at "op")
  | ((guard_target = wpAny _ _ (PySem.eval _ _) _ _ _); first
    | (with_reducible refine wpAny_BinOp ?_)
    | (with_reducible refine UnaryOp_ ?_)
    | (focus ((with_reducible refine' MethodCall_ ?_ ?_); rotate_right 2; rotate_left 1; (next => rfl); rotate_right 1))
    | (focus ((with_reducible refine' MethodP_ ?_ ?_); rotate_right 2; (next => (with_reducible assumption))))
    | (focus ((with_reducible refine' MethodStar_ ?_ ?_); rotate_right 2; rotate_left 1; (next => rfl); rotate_right 1))
    | (focus ((with_reducible refine Call_ ?_ ?_); rotate_right 2; rotate_left 1; (next => rfl); rotate_right 1))
    | (with_reducible refine Attribute_name ?_)
    | (with_reducible refine Subscript_ ?_)
    | (focus ((with_reducible refine' eInt (by assumption) ?_); intro _ _ _))
    | (focus ((with_reducible refine' eStr (by assumption) ?_); intro _ _ _))
    | (with_reducible refine eBool ?_)
    | (with_reducible refine eNone ?_)
    | (with_reducible refine' eSlice (by assumption) ?_)
    | (focus ((with_reducible refine wpAny_Compare1 ?_ ?_); rotate_right 2; rotate_left 1; (next => (with_unfolding_all rfl)); rotate_right 1))
    | (with_reducible refine List_ ?_)
    | (with_reducible refine Tuple_ ?_)
    | (with_reducible refine BoolOp_one ?_)
    | (with_reducible refine BoolOp_and ?_)
    | (with_reducible refine BoolOp_or ?_)
    | (focus ((with_reducible refine' xComp ?_ ?_ ?_ ?_ ?_); rotate_right 5; rotate_left 1; (next => (intro _; rfl)); rotate_right 1; rotate_left 1; (next => (with_unfolding_all rfl)); rotate_right 1; rotate_left 1; (next => (with_unfolding_all rfl)); rotate_right 1; rotate_left 1; (next => (decide +kernel)); rotate_right 1))
    | (focus ((with_reducible refine' eDictNil (by assumption) ?_); intro _ _ _))
    | walk_at "op")
  | ((guard_target = wpAny _ _ (spliced _) _ _ _); first
    | (focus ((with_reducible refine args_cons ?_ ?_); rotate_right 2; rotate_left 1; (next => rfl); rotate_right 1))
    | (with_reducible refine args_nil ?_)
    | walk_at "op")
  | ((guard_target = wpAny _ _ (callWith _ _ _ _ _) _ _ _); first
    | (focus ((with_reducible refine callBi1 ?_ ?_ ?_); rotate_right 3; rotate_left 1; (next => rfl); rotate_right 1; rotate_left 1; (next => rfl); rotate_right 1))
    | (focus ((with_reducible refine callBi2 ?_ ?_ ?_); rotate_right 3; rotate_left 1; (next => rfl); rotate_right 1; rotate_left 1; (next => rfl); rotate_right 1))
    | (with_reducible refine callBi10 ?_)
    | (focus ((with_reducible refine' callKm1 ?_ ?_ ?_ ?_ ?_); rotate_right 5; (next => (walk_at "isF")); (next => rfl); rotate_left 1; (next => rfl); rotate_right 1; rotate_left 1; (next => rfl); rotate_right 1))
    | (focus ((with_reducible refine' callKf1 ?_ ?_ ?_ ?_ ?_); rotate_right 5; (next => (walk_at "isF")); (next => rfl); rotate_left 1; (next => rfl); rotate_right 1; rotate_left 1; (next => rfl); rotate_right 1))
    | (focus ((with_reducible refine' callKm10 ?_ ?_ (by assumption) (by assumption) ?_); rotate_right 3; (next => (walk_at "isF")); (next => rfl)))
    | (focus ((with_reducible refine callTy2 ?_ ?_ ?_); rotate_right 3; rotate_left 1; (next => rfl); rotate_right 1; rotate_left 1; (next => rfl); rotate_right 1))
    | walk_at "op")
  | ((guard_target = Nx _ _ _ _ _ _ _ _); first
    | (with_reducible refine nx ?_)
    | (with_reducible refine nx_ret ?_)
    | (with_reducible refine nx_brk ?_)
    | (with_reducible refine nx_cont ?_))
  | ((guard_target = wpAny _ _ (storeName _ _ _) _ _ _); first
    | (focus ((with_reducible refine' sL (by assumption) (by assumption) ?_ ?_ ?_); rotate_right 3; (next => (first | ((repeat (first | (with_reducible exact List.mem_cons_self) | (with_reducible refine' List.mem_cons_of_mem _ ?_))); done) | (with_reducible assumption))); (next => (walk_at "rm")); intro _ _))
    | (focus ((with_reducible refine' nS (by assumption) (by assumption) ?_ ?_ ?_); rotate_right 3; (next => (first | ((repeat (first | (with_reducible exact List.mem_cons_self) | (with_reducible refine' List.mem_cons_of_mem _ ?_))); done) | (with_reducible assumption))); (next => (walk_at "rm")); intro _ _))
    | (focus ((with_reducible refine' sC (by assumption) (by assumption) ?_ ?_ ?_ ?_); rotate_right 4; (next => (first | ((repeat (first | (with_reducible exact List.mem_cons_self) | (with_reducible refine' List.mem_cons_of_mem _ ?_))); done) | (with_reducible assumption))); (next => rfl); (next => (walk_at "up")); intro _ _)))
  | ((guard_target = wpAny _ _ (exec _ _) _ _ _); first
    | (focus ((with_reducible refine wpAny_Expr_any ?_ ?_ ?_); rotate_right 3; rotate_left 1; (next => (first | rfl | assumption)); rotate_right 1; rotate_left 1; (next => rfl); rotate_right 1))
    | (focus ((with_reducible refine wpAny_Assign_Name ?_ ?_); rotate_right 2; rotate_left 1; (next => rfl); rotate_right 1))
    | (with_reducible refine wpAny_Return_some ?_)
    | (with_reducible refine xIf ?_)
    | (with_reducible refine xDel ?_)
    | (with_reducible refine wpAny_Break ?_)
    | (with_reducible refine wpAny_Return_none ?_)
    | (focus ((with_reducible refine wpAny_Assign_Subscript ?_ ?_); rotate_right 2; rotate_left 1; (next => rfl); rotate_right 1))
    | (focus ((with_reducible refine plainObj_wpAny_Assign_Attribute ?_ ?_); rotate_right 2; rotate_left 1; (next => rfl); rotate_right 1))
    | (focus ((with_reducible refine xFor ?_ ?_); rotate_right 2; rotate_left 1; (next => (intro _; rfl)); rotate_right 1))
    | (focus ((with_reducible refine' xCompA ?_ ?_ ?_ ?_ ?_ ?_); rotate_right 6; rotate_left 1; (next => rfl); rotate_right 1; rotate_left 1; (next => (intro _; rfl)); rotate_right 1; rotate_left 1; (next => (with_unfolding_all rfl)); rotate_right 1; rotate_left 1; (next => (with_unfolding_all rfl)); rotate_right 1; rotate_left 1; (next => (decide +kernel)); rotate_right 1))
    | walk_at "op")
  | ((guard_target = wpAny _ _ (execs _ _) _ _ _); first
    | (with_reducible refine wpAny_execs_nil ?_)
    | (with_reducible refine xs_cons ?_))
  | ((guard_target = wpAny _ _ (PySem.isTrue _ _ _) _ _ _); first
    | (focus ((with_reducible refine isTrue_plain ?_ ?_); rotate_right 2; rotate_left 1; (next => rfl); rotate_right 1))
    | (with_reducible refine isTrue_not ?_)
    | (focus ((with_reducible refine wpAny_isTrue_Compare1 ?_ ?_); rotate_right 2; rotate_left 1; (next => (with_unfolding_all rfl)); rotate_right 1))
    | (with_reducible refine isTrue_and_nil ?_)
    | (with_reducible refine isTrue_or_nil ?_)
    | (with_reducible refine isTrue_and ?_)
    | (with_reducible refine isTrue_or ?_)
    | walk_at "op")
  | ((guard_target = wpAny _ _ (call (Value.builtin _) _) _ _ _); first | walk_at "op" | walk_at "gcall")
  | ((guard_target = wpAny _ _ (getMethod _ _ _) _ _ _); first | walk_at "op" | walk_at "ggetMethod")
  | ((guard_target = wpAny _ _ (getAttr _ _ _) _ _ _); first | walk_at "op" | walk_at "ggetAttr")
  | ((guard_target = wpAny _ _ (truthy _) _ _ _); first | walk_at "op" | walk_at "gtruthy")
  | ((guard_target = wpAny _ _ (compareOp _ _ _) _ _ _); first | walk_at "op" | walk_at "gcompareOp")
  | ((guard_target = wpAny _ _ (subscriptTail _ _ _ _) _ _ _); first | walk_at "op" | walk_at "gsubscriptTail")
  | (with_reducible refine' inX (by assumption) (by assumption) ?_)
  | (focus ((with_reducible refine' eSliceEnd (by assumption) ?_); intro _ _ _))
  | (with_reducible refine evalPart_none_step ?_)
  | (with_reducible refine evalPart_some_step ?_)
  | (with_reducible refine for_brk ?_)
  | (with_reducible refine for_ret ?_)
  | (with_reducible refine iNot ?_)
  | (with_reducible refine wpAny_tests_nil ?_)
  | (with_reducible refine wpAny_tests_one ?_)
  | (with_reducible refine ifT (Eq.refl true) ?_)
  | (with_reducible refine ifF (Eq.refl false) ?_)
  | (with_reducible refine wpAny_assign_Name ?_)
  | (with_reducible refine assignInOrder_cons ?_)
  | (with_reducible refine assignInOrder_nil ?_)
  | (focus ((with_reducible refine' uTuple (by assumption) ?_ ?_); rotate_right 2; (next => (walk_at "size")); intro _ _ _))
  | (focus ((with_reducible refine' uList (by assumption) ?_ ?_); rotate_right 2; (next => (walk_at "size")); intro _ _ _))
  | walk_at "op"
  | walk_at "oprest"))))
section
open PySem PySem.W PySem.Calls PyProof.Rows
set_option Elab.async false
set_option maxRecDepth 100000
set_option maxHeartbeats 400000
set_option linter.unusedVariables false
set_option linter.unusedSectionVars false
theorem fn_fcall (P : Params) : (KK P).lookup 372 = some (methO "__call__" "FunctionConstraint.__call__" 10 1 372 (.ref 367)) := by kernel_rfl
theorem cd_fcall (P : Params) : codeIn (KK P) (.ref 371) "FunctionConstraint.__call__" = true := by kernel_rfl
theorem df_fcall (P : Params) : (KK P).lookup 367 = some (tupO [.bool false, .ref 257]) := by kernel_rfl
theorem cg_fc : CG 375 := ⟨fun P => by kernel_rfl, fun P => by kernel_rfl⟩
theorem cga_fc : CGa 375 := fun P => by kernel_rfl
theorem no_func : NoCls 375 "_func" := fun P => by kernel_rfl
theorem no_assigned : NoCls 375 "_assigned" := fun P => by kernel_rfl
theorem hf_fwd : HasFn 375 "forwardCheck" 344 := ⟨fun P => by kernel_rfl, fun P => by kernel_rfl⟩
theorem hf_call : HasFn 375 "__call__" 372 := ⟨fun P => by kernel_rfl, fun P => by kernel_rfl⟩
theorem fi_call (P : Params) : fnIn (KK P) 372 = true := by kernel_rfl
theorem fn_fwd (P : Params) : (KK P).lookup 344 = some (methO "forwardCheck" "Constraint.forwardCheck" 9 3 344 (.ref 337)) := by kernel_rfl
theorem cd_fwd (P : Params) : codeIn (KK P) (.ref 343) "Constraint.forwardCheck" = true := by kernel_rfl
theorem df_fwd (P : Params) : (KK P).lookup 337 = some (tupO [.ref 257]) := by kernel_rfl
abbrev tb_fcall : List (Str × NameKind) := [("self", .local), ("variables", .local), ("domains", .local), ("assignments", .cell), ("forwardcheck", .local), ("_unassigned", .cell), ("parms", .local), ("missing", .local), ("len", .globalImplicit)]
theorem kt_fcall : Kt (scp 10 1) tb_fcall := ⟨by decide +kernel, by decide +kernel⟩

local macro_rules | `(tactic| walk_at "isB") => `(tactic| first | (with_reducible exact b_len))
local macro_rules | `(tactic| walk_at "isG") => `(tactic| fail)
local macro_rules | `(tactic| walk_at "isD") => `(tactic| fail)
local macro_rules | `(tactic| walk_at "isF") => `(tactic| (with_reducible exact fn_fwd _))
local macro_rules | `(tactic| walk_at "isC") => `(tactic| first | (with_reducible exact cg_fc) | (with_reducible exact cga_fc) | (with_reducible exact no_func) | (with_reducible exact no_assigned) | (with_reducible exact hf_fwd))
section
variable {prog : Program} {w : World} {K : Type} [DecidableEq K] {knd : KeyKind prog w K} {A : Around} {s : Shared}
def FnOk (knd : KeyKind prog w K) (h : Heap) (f : Addr) (n : Nat) (P : List Int → Bool) : Prop := (∃ o fd, h.get? f = some o ∧ o.data = .func fd) ∧ ∀ {A s R} (vs : List (Int × Tok)), vs.length = n → Room A 3 → (∀ b o, h.get? b = some o → s.heap.get? b = some o) →
  (∀ s', Eff knd s [] [] s' → R (.ok (.ret (.bool (P (vs.map (·.1)))))) s') → codeAny (model prog w) A (.call (.ref f) ⟨vs.map (fun p => .int p.1 p.2), []⟩) R s
abbrev conAtt (f : Addr) : List (Str × Value) := [("_func", .ref f), ("_assigned", .bool true)]
/-- a constraint of the text -/
structure ConAt (knd : KeyKind prog w K) (h : Heap) (c cx f va : Addr) (vals : List Value) (ks : List K) (P : List Int → Bool) : Prop where
  c : Has knd h c (.raw (instObj 375 cx))
  cx : Has knd h cx (.att (conAtt f))
  v : VarsAt knd h va vals
  k : KeyVals knd vals ks
  f : FnOk knd h f ks.length P
theorem FnOk.keep {h h' : Heap} {f n P} (x : FnOk knd h f n P) (e : ∀ b o, h.get? b = some o → h'.get? b = some o) : FnOk knd h' f n P :=
  let ⟨⟨o, fd, ho, hd⟩, F⟩ := x; ⟨⟨o, fd, e _ _ ho, hd⟩, fun vs hl hr k hR => F vs hl hr (fun b o q => k b o (e b o q)) hR⟩
theorem ConAt.keep {h h' : Heap} {c cx f va vals ks P} (x : ConAt knd h c cx f va vals ks P) (e : ∀ b o, h.get? b = some o → h'.get? b = some o) : ConAt knd h' c cx f va vals ks P :=
  ⟨x.c.keep fun o => e _ o, x.cx.keep fun o => e _ o, x.v.keep fun o => e _ o, x.k, x.f.keep e⟩
def parm (kvs : List (K × Value)) (k : K) : Value := (valueAt kvs k).getD (.ref 257)

def missing (kvs : List (K × Value)) (ks : List K) : Nat := (ks.filter fun k => (valueAt kvs k).isNone).length
theorem missing_eq {kvs : List (K × Value)} (hints : ∀ k v, valueAt kvs k = some v → ∃ i t, v = .int i t) (ks : List K) : ((ks.map (parm kvs)).filter fun v => decide (v = .ref 257)).length = missing kvs ks := by
  unfold missing
  rw [List.filter_map, List.length_map]
  congr 1
  apply List.filter_congr
  intro k _
  show decide (parm kvs k = .ref 257) = _
  unfold parm
  cases q : valueAt kvs k with
  | none => simp
  | some v => obtain ⟨i, t, rfl⟩ := hints k v q; simp
theorem full_of {kvs : List (K × Value)} {ks : List K} (h : missing kvs ks = 0) : ∀ k ∈ ks, (valueAt kvs k).isSome = true := by
  intro k hk
  unfold missing at h
  have := List.length_eq_zero_iff.mp h
  rw [List.filter_eq_nil_iff] at this
  have := this k hk
  cases q : valueAt kvs k <;> simp_all
/-- what a constraint says of an assignment -/
def holdsAt (P : List Int → Bool) (kvs : List (K × Value)) (ks : List K) : Bool := P ((ks.map (parm kvs)).map vInt)
abbrev FwdOk (knd : KeyKind prog w K) (g₀ : Heap) (c va da aa : Addr) (kvs : List (K × Value)) (l l' : Led K) (b : Bool) (n : Nat) : Prop := ∀ {A s R g}, Room A n → (∀ b o, g₀.get? b = some o → g.get? b = some o) → At knd g s ((aa, .dct kvs) :: l) →
  (∀ s', Eff knd s (aa :: l.map (·.1)) ((aa, .dct kvs) :: l') s' → R (.ok (.ret (.bool b))) s') → codeAny (model prog w) A (.call (.ref 344) ⟨[.ref c, .ref va, .ref da, .ref aa], []⟩) R s

theorem fcall {R : Result → Shared → Prop} {g₀ : Heap} {c cx f va da aa : Addr} {vals : List Value} {ks : List K} {P : List Int → Bool} {kvs : List (K × Value)} {l : Led K} {fcv : Value} {n : Nat} (hn : 7 ≤ n) (hr : Room A (n + 1)) (X : At knd g₀ s ((aa, .dct kvs) :: l)) (C : ConAt knd g₀ c cx f va vals ks P)
    (hints : ∀ k v, valueAt kvs k = some v → ∃ i t, v = .int i t) (hz : ks.length < 100) {b : Bool} (hfc : FcIs knd g₀ fcv b)
    (h1 : missing kvs ks = 0 → ∀ s', Eff knd s (aa :: l.map (·.1)) ((aa, .dct kvs) :: l) s' → R (.ok (.ret (.bool (holdsAt P kvs ks)))) s')
    (h2 : missing kvs ks ≠ 0 → b = false ∨ missing kvs ks ≠ 1 → ∀ s', Eff knd s (aa :: l.map (·.1)) ((aa, .dct kvs) :: l) s' → R (.ok (.ret (.bool true))) s')
    (h3 : missing kvs ks = 1 → b = true → ∃ l' r, FwdOk knd g₀ c va da aa kvs l l' r n ∧ ∀ s', Eff knd s (aa :: l.map (·.1)) ((aa, .dct kvs) :: l') s' → R (.ok (.ret (.bool r))) s') :
    codeAny (model prog w) A (.call (.ref 372) ⟨[.ref c, .ref va, .ref da, .ref aa, fcv], []⟩) R s := by
  refine enterC (knd := knd) (binds := [("self", .ref c), ("variables", .ref va), ("domains", .ref da), ("assignments", .ref aa), ("forwardcheck", fcv), ("_unassigned", .ref 257)])
    (vL := [("self", .ref c), ("variables", .ref va), ("domains", .ref da), ("forwardcheck", fcv)]) (cnames := ["_unassigned", "assignments"]) (cv := [some (.ref 257), some (.ref aa)]) X hr (X.k _ _ (X.B.X _ _ (fn_fcall _))) rfl ((codeRec_of X.B.X (cd_fcall _)).keeps X.k)
    (binds_K (X.B.X.keeps X.k) rfl (df_fcall _) rfl rfl rfl) (show ∀ x ∈ (["self", "variables", "domains", "assignments", "forwardcheck", "_unassigned"] : List Str), _ from by decide +kernel) (by decide +kernel) (by decide +kernel) ?hL ?hC (fun g L s₁ cl hcl hg hg' B H => ?_) (by kernel_rfl) (by kernel_rfl) kt_fcall.kind
  case hL => kernel_rfl
  case hC => kernel_rfl
  obtain ⟨c1, c2, rfl⟩ := cl_two hcl
  have kt := kt_fcall
  replace H : St knd g (sideOf s) L [("self", .ref c), ("variables", .ref va), ("domains", .ref da), ("forwardcheck", fcv)] ((c1, .cell (some (.ref 257))) :: (c2, .cell (some (.ref aa))) :: (aa, .dct kvs) :: l) s₁ := H
  have Cc := C.c.keep fun o e => hg' _ o e
  have Ccx := C.cx.keep fun o e => hg' _ o e
  refine xs_cons (st := _) (rest := _) ?_
  walk_at "go"
  have V := C.k
  obtain ⟨ov, hov, hkv⟩ := C.v.obj
  have hovg := hg' _ _ hov
  refine start_vars (by assumption) (hr.deeper _).handled (H.o hovg) hkv ?_
  intro I kI s₂ W H2
  refine' comp_bind (X := Nat) (l := (c1, .cell (some (.ref 257))) :: (c2, .cell (some (.ref aa))) :: (aa, .dct kvs) :: l) (fun i => (ks.take i).map (parm kvs)) (fun _ => []) (fun i x => x = i ∧ i ≤ ks.length) 0 kt ?hy ?hr rfl W ?hcell ?hkind H2 ?hsrc ?h0 rfl rfl ?hfit ?turn ?fin
  case hy => walk_at "mem"
  case hr => walk_at "rm"
  case hcell => decide +kernel
  case hkind => rfl
  case hsrc => intro i x C' D vq g₂ s' _ hk hS; exact hS.o (hk _ _ hovg)
  case h0 => exact ⟨rfl, Nat.zero_le _⟩
  case hfit => rintro i x ⟨rfl, hx⟩; rw [List.length_map, List.length_take]; omega
  case turn =>
    rintro i x v new C' D g₂ s' E' hi ⟨rfl, hx⟩ ⟨hv, rfl⟩ hg2 H3
    replace H3 : St knd g₂ (sideOf s₂) C' [] ((I, kI (x + 1)) :: (D, .lst ((ks.take x).map (parm kvs))) :: (c1, .cell (some (.ref 257))) :: (c2, .cell (some (.ref aa))) :: (aa, .dct kvs) :: l) s' := H3
    have hkx : x < ks.length := by rw [← V.1]; exact hi
    have hkey := V.2 x v ks[x] hv (List.getElem?_eq_getElem hkx)
    refine' withEv (tbl := [("x", .local), ("assignments", .cell), ("_unassigned", .cell)]) ?ev (fun ev => ?_)
    case ev => exact Ev.compK kt ⟨by decide +kernel, by decide +kernel⟩
    walk_at "go"
    refine' ⟨x + 1, _, _, ⟨⟨rfl, by omega⟩, take_map_succ _ _ hkx⟩, List.Sublist.refl _, (by assumption)⟩
  case fin =>
    rintro x D s' ⟨rfl, hx⟩ H3
    replace H3 : St knd g (sideOf s) L [("parms", .ref D), ("self", .ref c), ("variables", .ref va), ("domains", .ref da), ("forwardcheck", fcv)] ((D, .lst (ks.map (parm kvs))) :: (c1, .cell (some (.ref 257))) :: (c2, .cell (some (.ref aa))) :: (aa, .dct kvs) :: l) s' := by
      have e : ks.take vals.length = ks := by rw [V.1]; exact List.take_length
      have H4 := H3
      simp only [e, List.nil_append] at H4
      exact H4
    have pv : ∀ v ∈ ks.map (parm kvs), v = .ref 257 ∨ ∃ i t, v = .int i t := fun v hv => by
      obtain ⟨k, hk, rfl⟩ := List.mem_map.mp hv
      unfold parm
      cases q : valueAt kvs k with
      | none => exact .inl rfl
      | some u => exact .inr (hints k u q)
    walk_at "go"
    refine' fixSrc (by assumption) ?hm (fun oD hoD hkD => ?_)
    case hm => walk_at "mem"
    refine' goLst (by assumption) (hr.deeper _).handled hoD hkD ?hU ?_
    case hU => walk_at "up"
    intro I2 s3 W2 H4
    refine' comp_expr (X := Nat) (fun i => ((ks.map (parm kvs)).take i).filter fun v => decide (v = .ref 257)) (fun _ => []) (fun i x => x = i ∧ i ≤ ks.length) 0 W2 ?hcell ?hkind H4 ?hsrc ?h0 rfl rfl ?hfit ?turn ?fin
    case hcell => decide +kernel
    case hkind => rfl
    case hsrc => intro i x C' D vq g₂ s' _ hk hS; exact (hS.has (k := .raw oD) (.tail _ (.tail _ (.head _)))).rawE
    case h0 => exact ⟨rfl, Nat.zero_le _⟩
    case hfit => rintro i x ⟨rfl, hx⟩; refine Nat.lt_of_le_of_lt (List.length_filter_le _ _) ?_; rw [List.length_take, List.length_map]; omega
    case turn =>
      rintro i x v new C' D' g₂ s' E' hi ⟨rfl, hx⟩ ⟨hv, rfl⟩ hg2 H3
      replace H3 := show St knd g₂ (sideOf s3) C' [] ((I2, seqIt "list_iterator" D (x + 1)) :: (D', .lst (((ks.map (parm kvs)).take x).filter fun v => decide (v = .ref 257))) :: (D, .raw oD) :: (c1, .cell (some (.ref 257))) :: (c2, .cell (some (.ref aa))) :: (aa, .dct kvs) :: l) s' from H3
      refine' withEv (tbl := [("parm", .local), ("_unassigned", .cell)]) ?ev (fun ev => ?_)
      case ev => exact Ev.compK kt ⟨by decide +kernel, by decide +kernel⟩
      have hvm : v ∈ ks.map (parm kvs) := List.mem_of_getElem? hv
      have hx' : x < (ks.map (parm kvs)).length := hi
      rw [List.length_map] at hx'
      walk_at "go"
      refine cmpIsRef (pv v hvm) ?_
      walk_at "go"
      by_cases q : v = .ref 257
      · rw [decide_eq_true q]
        walk_at "go"
        refine' ⟨x + 1, _, _, ⟨⟨rfl, by omega⟩, ?_⟩, List.Sublist.refl _, (by assumption)⟩
        rw [take_filter_succ _ _ hv, if_pos (by simpa using q)]
      · rw [decide_eq_false q]
        walk_at "go"
        refine' ⟨x + 1, _, _, ⟨⟨rfl, by omega⟩, ?_⟩, List.Sublist.refl _, (by assumption)⟩
        rw [take_filter_succ _ _ hv, if_neg (by simpa using q), List.append_nil]
    case fin =>
      rintro x D' s' ⟨rfl, hx⟩ H5
      simp only [List.take_length, List.nil_append] at H5
      have hb : ((ks.map (parm kvs)).filter fun v => decide (v = .ref 257)).length < 100000 := Nat.lt_of_le_of_lt (List.length_filter_le _ _) (by rw [List.length_map]; omega)
      walk_at "go"
      have hme := missing_eq hints ks
      rw [hme]
      by_cases hm0 : missing kvs ks = 0
      · rw [hm0]
        refine ifF (by simp) ?_
        walk_at "go"
        obtain ⟨⟨fo, fd, hfo, hfd⟩, hF⟩ := C.f
        have hall : ∀ v ∈ ks.map (parm kvs), ∃ i t, v = .int i t := fun v hv => by
          obtain ⟨k, hk, rfl⟩ := List.mem_map.mp hv
          have := full_of hm0 k hk
          unfold parm
          cases q : valueAt kvs k with
          | none => rw [q] at this; cases this
          | some u => exact hints k u q
        obtain ⟨vs, ev1, ev2⟩ := ints_of hall
        refine' callStar (knd := knd) (la := D) (xs := ks.map (parm kvs)) ?hc ?he
        case he => rfl
        case hc =>
          walk_at "go"
          refine' ⟨_, _, rfl, (by assumption), ?hla, ?hlz, (by assumption : St knd g _ L _ _ _).o (hg' _ _ hfo), hfd, fun s4 H6 => ?_⟩
          case hla => walk_at "has"
          case hlz => rw [List.length_map]; omega
          refine callRet ?_
          rw [ev1]
          refine hF vs (by rw [← List.length_map (f := fun p => Value.int p.1 p.2), ← ev1, List.length_map]) ((hr.deeper _).less (by omega)) (fun b o e => H6.o (hg' _ _ e)) (fun s5 e5 => ?_)
          have H7 := H6.eff (l := []) (List.Perm.refl _) e5
          rw [ev2]
          refine' retq (nx_ret (fn_ret (h1 hm0 _ (St.toEff H7 ?sub hg))))
          case sub => simp only [List.nil_append]; walk_at "sub"
      · refine ifT (by simp; omega) ?_
        walk_at "go"
        refine iFc (by assumption) (hfc.keep hg') ?_
        intro _ _
        walk_at "go"
        cases b with
        | false =>
          refine ifT rfl ?_
          walk_at "go"
          refine' fn_ret (h2 hm0 (.inl rfl) _ (St.toEff (by assumption) ?sub hg))
          case sub => walk_at "sub"
        | true =>
          refine ifF rfl ?_
          walk_at "go"
          by_cases hm1 : missing kvs ks = 1
          · refine ifF (by rw [hme, hm1]; rfl) ?_
            walk_at "go"
            refine callRet ?_
            obtain ⟨l', r, hF, hR⟩ := h3 hm1 rfl
            have H7 := (by assumption : St knd g _ L _ _ _)
            have pm : ∀ {p1 p2 p3 p4 : Addr × Kd K} {t : Led K}, (p1 :: p2 :: p3 :: p4 :: t).Perm (t ++ [p1, p2, p3, p4]) := List.perm_append_comm (l₁ := [_, _, _, _])
            refine hF (hr.deeper _) hg' (H7.at B (l := (aa, .dct kvs) :: l) pm) (fun s5 e5 => ?_)
            refine retq (nx_ret (nx_ret (fn_ret (hR _ (St.toEff (H7.eff (l := (aa, .dct kvs) :: l) pm e5) (List.sublist_append_left _ _) hg)))))
          · refine ifT (by rw [hme]; simp; omega) ?_
            walk_at "go"
            have e1 : (((((ks.map (parm kvs)).filter fun v => decide (v = .ref 257)).length : Nat) : Int) != 1) = true := by rw [hme]; simp; omega
            rw [e1]
            refine' fn_ret (h2 hm0 (.inr hm1) _ (St.toEff (by assumption) ?sub hg))
            case sub => walk_at "sub"
end
end
section
open PySem PySem.W PySem.Calls PyProof.Rows
set_option Elab.async false
set_option maxRecDepth 100000
set_option maxHeartbeats 400000
set_option linter.unusedVariables false
set_option linter.unusedSectionVars false
abbrev tb_fwd : List (Str × NameKind) := [("self", .local), ("variables", .local), ("domains", .local), ("assignments", .local), ("_unassigned", .local), ("unassignedvariable", .local), ("variable", .local), ("domain", .local), ("value", .local)]
theorem kt_fwd : Kt (scp 9 3) tb_fwd := ⟨by decide +kernel, by decide +kernel⟩
theorem dm_hide (P : Params) : findIn (KK P) (.ref 303) "hideValue" = some (some (.ref 300)) := by kernel_rfl
theorem dt_hide (P : Params) : typeIn (KK P) (.ref 300) = some (.type "function") := by kernel_rfl

local macro_rules | `(tactic| walk_at "isB") => `(tactic| first | (with_reducible exact b_len))
local macro_rules | `(tactic| walk_at "isG") => `(tactic| fail)
local macro_rules | `(tactic| walk_at "isD") => `(tactic| first | (with_reducible exact dm_hide _) | (with_reducible exact dt_hide _))
local macro_rules | `(tactic| walk_at "isF") => `(tactic| first | (with_reducible exact fn_fwd _) | (with_reducible exact fn_hide _))
local macro_rules | `(tactic| walk_at "isC") => `(tactic| first | (with_reducible exact cg_fc) | (with_reducible exact cga_fc) | (with_reducible exact no_func) | (with_reducible exact no_assigned) | (with_reducible exact hf_fwd))
section
variable {prog : Program} {w : World} {K : Type} [DecidableEq K] {knd : KeyKind prog w K} {A : Around} {s : Shared}
/-- does a value of u agree -/
def okAt (P : List Int → Bool) (kvs : List (K × Value)) (ks : List K) (u : K) (v : Value) : Bool := holdsAt P (stored kvs u v) ks

theorem map_fix {α : Type} {f : α → α} : ∀ {l : List α}, (∀ x ∈ l, f x = x) → l.map f = l
  | [], _ => rfl
  | a :: l, h => by rw [List.map_cons, h a (.head _), map_fix fun x hx => h x (.tail _ hx)]
theorem vals_stored {kvs : List (K × Value)} {u : K} {v : Value} (k : K) : valueAt (stored kvs u v) k = if k = u then some v else valueAt kvs k := by
  unfold stored valueAt
  split
  · rename_i ha
    induction kvs with
    | nil => simp at ha
    | cons p r ih =>
      obtain ⟨a, b⟩ := p
      simp only [List.map_cons, List.find?_cons]
      by_cases q : a = u
      · subst q
        simp only [if_true]
        by_cases e : k = a
        · subst e; simp
        · have e' : ¬ a = k := fun x => e x.symm
          simp only [e', e, decide_false, if_false]
          by_cases hr : (r.any fun kv => decide (kv.1 = a)) = true
          · have := ih hr; simp only [e, if_false] at this; exact this
          · have : (r.map fun kv => if kv.1 = a then (kv.1, v) else kv) = r := by
              apply map_fix; intro x hx
              rw [if_neg]; intro hh; exact hr (List.any_eq_true.mpr ⟨x, hx, by simpa using hh⟩)
            rw [this]
      · simp only [q, if_false]
        by_cases e : a = k
        · subst e; simp [q]
        · simp only [e, decide_false]
          refine ih ?_
          rw [List.any_cons, decide_eq_false q, Bool.false_or] at ha
          exact ha
  · rename_i ha
    rw [List.find?_append]
    by_cases e : k = u
    · subst e
      have : kvs.find? (fun kv => decide (kv.1 = k)) = none := by
        rw [List.find?_eq_none]; intro x hx hh
        exact ha (List.any_eq_true.mpr ⟨x, hx, hh⟩)
      rw [this]; simp
    · have e' : ¬ u = k := fun x => e x.symm
      simp [e, e']
theorem any_of_none {kvs : List (K × Value)} {u : K} (h : valueAt kvs u = none) : (kvs.any fun kv => decide (kv.1 = u)) = false := by
  cases q : kvs.any fun kv => decide (kv.1 = u) with
  | false => rfl
  | true =>
    obtain ⟨x, hx, hh⟩ := List.any_eq_true.mp q
    unfold valueAt at h
    rw [Option.map_eq_none_iff, List.find?_eq_none] at h
    exact absurd hh (h x hx)
theorem stored_new {kvs : List (K × Value)} {u : K} {v : Value} (h : valueAt kvs u = none) : stored kvs u v = kvs ++ [(u, v)] := by
  unfold stored; rw [any_of_none h, if_neg (by decide)]
theorem stored_twice {kvs : List (K × Value)} {u : K} {v v' : Value} (h : valueAt kvs u = none) : stored (stored kvs u v) u v' = stored kvs u v' := by
  rw [stored_new h, stored_new h]
  unfold stored
  rw [List.any_append, List.any_cons, decide_eq_true rfl, Bool.true_or, Bool.or_true, if_pos rfl, List.map_append]
  congr 1
  · apply map_fix; intro x hx
    rw [if_neg]; intro hh
    have := any_of_none h
    rw [List.any_eq_false] at this
    exact this x hx (by simpa using hh)
  · simp
theorem without_stored {kvs : List (K × Value)} {u : K} {v : Value} (h : valueAt kvs u = none) : without (stored kvs u v) u = kvs := by
  rw [stored_new h]
  unfold without
  rw [List.filter_append]
  have : kvs.filter (fun kv => decide (kv.1 ≠ u)) = kvs := by
    rw [List.filter_eq_self]; intro x hx
    have := any_of_none h
    rw [List.any_eq_false] at this
    simpa using this x hx
  rw [this]; simp
theorem fwd_spec {R : Result → Shared → Prop} {g₀ : Heap} {c cx f va da aa d dx hl sl : Addr} {vals : List Value} {ks : List K} {P : List Int → Bool} {kvs doms : List (K × Value)} {xs hs : List Value} {u : K} (hr : Room A 20)
    (X : At knd g₀ s [(aa, .dct kvs), (d, .dom dx xs), (hl, .lst hs)]) (C : ConAt knd g₀ c cx f va vals ks P) (hpl : PlainK knd)
    (hD : Has knd g₀ da (.dct doms)) (hda : (da == sysModules) = false) (hdu : valueAt doms u = some (.ref d)) (hdx : Has knd g₀ dx (.att (domAtt hl sl)))
    (hints : ∀ k v, valueAt kvs k = some v → ∃ i t, v = .int i t) (hz : ks.length < 100) (hkz : kvs.length < 500) (hxz : xs.length ≤ 400) (hhz : hs.length < 100)
    {j : Nat} (hj : ks[j]? = some u) (hu : valueAt kvs u = none) (hrest : ∀ i k, ks[i]? = some k → i ≠ j → (valueAt kvs k).isSome = true)
    (hx : ∀ v ∈ xs, ∃ i t, v = .int i t) (hnd : (xs.map vInt).Nodup)
    (h : ∀ s', Eff knd s [aa, d, hl] [(aa, .dct kvs), (d, .dom dx (xs.filter (okAt P kvs ks u))), (hl, .lst (hs ++ xs.filter fun v => !okAt P kvs ks u v))] s' → R (.ok (.ret (.bool (!(xs.filter (okAt P kvs ks u)).isEmpty)))) s') :
    codeAny (model prog w) A (.call (.ref 344) ⟨[.ref c, .ref va, .ref da, .ref aa], []⟩) R s := by
  refine enter (knd := knd) (names := ["self", "variables", "domains", "assignments", "_unassigned"]) (vals := [.ref c, .ref va, .ref da, .ref aa, .ref 257]) X hr (X.k _ _ (X.B.X _ _ (fn_fwd _))) rfl ((codeRec_of X.B.X (cd_fwd _)).keeps X.k)
    (binds_K (X.B.X.keeps X.k) rfl (df_fwd _) rfl rfl rfl) (by decide +kernel) (by decide +kernel) (fun g L s₁ hg hg' B H => ?_) (by decide +kernel) (by kernel_rfl) (by kernel_rfl) kt_fwd.kind
  have kt := kt_fwd
  have Cc := C.c.keep fun o e => hg' _ o e
  have Ccx := C.cx.keep fun o e => hg' _ o e
  have hDg := hD.keep fun o e => hg' _ o e
  have hdxg := hdx.keep fun o e => hg' _ o e
  replace H : St knd g (sideOf s) L [("self", .ref c), ("variables", .ref va), ("domains", .ref da), ("assignments", .ref aa), ("_unassigned", .ref 257)] [(aa, .dct kvs), (d, .dom dx xs), (hl, .lst hs)] s₁ := H
  have V := C.k
  obtain ⟨ov, hov, hkv⟩ := C.v.obj
  have hovg := hg' _ _ hov
  refine xs_cons (st := _) (rest := _) ?_
  walk_at "go"
  refine start_vars (by assumption) (hr.deeper _).handled ((by assumption : St knd g _ L _ _ _).o hovg) hkv ?_
  intro I kI s₂ W H2
  refine' for_st (X := Value) (fun x => [("unassignedvariable", x), ("self", .ref c), ("variables", .ref va), ("domains", .ref da), ("assignments", .ref aa), ("_unassigned", .ref 257)]) (fun _ => [(aa, .dct kvs), (d, .dom dx xs), (hl, .lst hs)])
    (fun i x => (i ≤ j → x = .ref 257) ∧ (j < i → knd.is u x = true)) (.ref 257) W ?src ?h0 H2 ?turn ?done
  case src => intro i x s' _ hS; exact hS.o hovg
  case h0 => exact ⟨fun _ => rfl, fun h => absurd h (Nat.not_lt_zero _)⟩
  case turn =>
    rintro i x v new s' E' hi ⟨hx1, hx2⟩ ⟨hv, rfl⟩ H3
    replace H3 := show St knd g (sideOf s) L [("unassignedvariable", x), ("self", .ref c), ("variables", .ref va), ("domains", .ref da), ("assignments", .ref aa), ("_unassigned", .ref 257)] ((I, kI (i + 1)) :: [(aa, .dct kvs), (d, .dom dx xs), (hl, .lst hs)]) s' from H3
    have hik : i < ks.length := by rw [← V.1]; exact hi
    have hkey := V.2 i v ks[i] hv (List.getElem?_eq_getElem hik)
    walk_at "go"
    by_cases hij : i = j
    · subst hij
      obtain rfl := hx1 (Nat.le_refl _)
      have e : ks[i] = u := by have := List.getElem?_eq_getElem hik; rw [hj] at this; exact (Option.some.inj this).symm
      rw [e] at hkey
      refine ifT (by rw [e, hu]; rfl) ?_
      walk_at "go"
      refine for_next ⟨v, ⟨fun h => absurd h (Nat.not_succ_le_self _), fun _ => hkey⟩, ?_⟩
      walk_at "end"
    · refine ifF (by rw [hrest i _ (List.getElem?_eq_getElem hik) hij]; rfl) ?_
      walk_at "go"
      refine for_next ⟨x, ⟨fun h => hx1 (by omega), fun h => hx2 (by omega)⟩, ?_⟩
      walk_at "end"
  case done =>
    rintro x s' E' ⟨_, hx2⟩ H3
    have hjn : j < vals.length := by
      rw [V.1]
      rcases Nat.lt_or_ge j ks.length with h | h
      · exact h
      · rw [List.getElem?_eq_none h] at hj; cases hj
    have hkx := hx2 hjn
    walk_at "go"
    refine cmpIsNotKey (hp := hpl) hkx ?_
    walk_at "go"
    rename_i s4 H4 s5 H5
    have hdone : ∀ {b : Bool} {s6 : Shared} {lc : Led K} {vq : Vars}, b = (!(xs.filter (okAt P kvs ks u)).isEmpty) → St knd g (sideOf s) L vq lc s6 →
        ([(aa, .dct kvs), (d, .dom dx (xs.filter (okAt P kvs ks u))), (hl, .lst (hs ++ xs.filter fun v => !okAt P kvs ks u v))] : Led K).Sublist lc → FnQ R (.ret (.bool b)) s6 := fun e H6 hsub => by
      subst e; exact fn_ret (h _ (St.toEff H6 hsub hg))
    by_cases hxs : xs = []
    · refine ifF (by rw [hxs]; rfl) ?_
      walk_at "go"
      refine ifT (by rw [hxs]; rfl) ?_
      walk_at "go"
      refine' hdone (by rw [hxs]; rfl) (by assumption) ?sub
      case sub => simp only [hxs, List.filter_nil, List.append_nil]; walk_at "sub"
    · refine ifT (by cases xs <;> first | exact absurd rfl hxs | rfl) ?_
      walk_at "go"
      refine' fixSrc (by assumption) ?hm (fun ob hob hkb => ?_)
      case hm => walk_at "mem"
      refine' goLst (by assumption) (hr.deeper _).handled hob hkb ?hU ?_
      case hU => walk_at "up"
      rename_i sl s6 H6 b s7 H7
      intro I2 s8 W2 H8
      refine' for_st (g := g) (R := sideOf s) (L := L) (X := Nat × List (K × Value)) (fun _ => [("domain", .ref d), ("unassignedvariable", x), ("self", .ref c), ("variables", .ref va), ("domains", .ref da), ("assignments", .ref aa), ("_unassigned", .ref 257)])
        (fun q => [(b, .raw ob), (aa, .dct q.2), (d, .dom dx ((xs.take q.1).filter (okAt P kvs ks u) ++ xs.drop q.1)), (hl, .lst (hs ++ (xs.take q.1).filter fun v => !okAt P kvs ks u v))])
        (fun i q => q.1 = i ∧ (i = 0 → q.2 = kvs) ∧ (∀ v, 0 < i → xs[i - 1]? = some v → q.2 = stored kvs u v)) (0, kvs) W2 ?src ?h0 ?H0 ?turn ?done
      case src => intro i q s' _ hS; exact (hS.has (k := .raw ob) (.tail _ (.head _))).rawE
      case h0 => exact ⟨rfl, fun _ => rfl, fun v h => absurd h (Nat.lt_irrefl _)⟩
      case H0 => simp only [List.take_zero, List.filter_nil, List.drop_zero, List.nil_append, List.append_nil]; walk_at "end"
      case turn =>
        rintro i ⟨n, kv⟩ v new s' E' hi ⟨rfl, hk0, hk1⟩ ⟨hv, rfl⟩ H9
        dsimp only at hk0 hk1 H9 hv
        replace H9 := show St knd g (sideOf s) L [("domain", .ref d), ("unassignedvariable", x), ("self", .ref c), ("variables", .ref va), ("domains", .ref da), ("assignments", .ref aa), ("_unassigned", .ref 257)]
          ((I2, seqIt "list_iterator" b (n + 1)) :: [(b, .raw ob), (aa, .dct kv), (d, .dom dx ((xs.take n).filter (okAt P kvs ks u) ++ xs.drop n)), (hl, .lst (hs ++ (xs.take n).filter fun v => !okAt P kvs ks u v))]) s' from H9
        have hkv : kv = kvs ∨ ∃ v', kv = stored kvs u v' := by
          rcases Nat.eq_zero_or_pos n with e | e
          · exact .inl (hk0 e)
          · have hlt : n - 1 < xs.length := by have : n < xs.length := hi; omega
            exact .inr ⟨xs[n - 1], hk1 _ e (List.getElem?_eq_getElem hlt)⟩
        have hkv2 : ∀ v, stored kv u v = stored kvs u v := fun v => by
          rcases hkv with e | ⟨v', e⟩
          · rw [e]
          · rw [e, stored_twice hu]
        have hkvz : kv.length ≤ 501 := by
          rcases hkv with e | ⟨v', e⟩
          · rw [e]; omega
          · rw [e, stored_new hu, List.length_append, List.length_cons, List.length_nil]; omega
        obtain ⟨i0, t0, rfl⟩ := hx v (List.mem_of_getElem? hv)
        have hin : n < xs.length := hi
        walk_at "go"
        refine' callI (C := 375) (dx := cx) ?hc1 ?he ?hp
        case he => rfl
        case hp => rfl
        walk_at "go"
        rename_i s10 H10
        simp only [hkv2] at H10
        have pm : ∀ {p1 p2 p3 p4 p5 : Addr × Kd K}, [p1, p2, p3, p4, p5].Perm ([p3] ++ [p1, p2, p4, p5]) := List.perm_middle (l₁ := [_, _])
        have hall : missing (stored kvs u (.int i0 t0)) ks = 0 := by
          unfold missing
          rw [List.length_eq_zero_iff, List.filter_eq_nil_iff]
          intro k hk
          rw [vals_stored]
          by_cases q : k = u
          · rw [if_pos q]; simp
          · rw [if_neg q]
            obtain ⟨m, hm, e⟩ := List.getElem_of_mem hk
            have := hrest m k (by rw [List.getElem?_eq_getElem hm, e]) (fun e' => q (by subst e'; rw [List.getElem?_eq_getElem hm, e] at hj; exact Option.some.inj hj))
            simp [Option.isSome_iff_ne_none.mp this]
        have hdr : xs.drop n = .int i0 t0 :: xs.drop (n + 1) := by
          rw [List.drop_eq_getElem_cons hin]
          congr 1
          have := List.getElem?_eq_getElem hin
          rw [hv] at this; exact (Option.some.inj this).symm
        refine ⟨H10.o Cc.rawE, callRet (call_inst (H10.X B) (H10.base Cc) (H10.base Ccx) hf_call fi_call (fcall (l := []) (n := 7) (by decide) (hr.deeper _ |>.less (by decide)) (H10.at B (l := [(aa, _)]) pm) (C.keep hg') ?hints hz .false ?h1 ?h2 ?h3))⟩
        case hints =>
          intro k v' e
          rw [vals_stored] at e
          by_cases q : k = u
          · rw [if_pos q] at e; exact ⟨_, _, (Option.some.inj e).symm⟩
          · rw [if_neg q] at e; exact hints k v' e
        case h2 => exact fun q => absurd hall q
        case h3 => exact fun q => by rw [hall] at q; cases q
        case h1 =>
          intro _ s11 e11
          have H11 := (H10.eff (l := [(aa, _)]) pm e11).perm pm
          refine retq ?_
          walk_at "go"
          cases hok : holdsAt P (stored kvs u (.int i0 t0)) ks with
          | true =>
            refine ifF rfl ?_
            walk_at "go"
            refine for_next ⟨(n + 1, stored kvs u (.int i0 t0)), ⟨rfl, fun h => absurd h (Nat.succ_ne_zero _), fun v' _ e => ?_⟩, ?_⟩
            · rw [show (n + 1 - 1) = n from rfl, hv] at e; rw [← Option.some.inj e]
            · have e1 : (xs.take (n + 1)).filter (okAt P kvs ks u) ++ xs.drop (n + 1) = (xs.take n).filter (okAt P kvs ks u) ++ xs.drop n := by
                rw [take_filter_succ _ _ hv, if_pos (show okAt P kvs ks u (.int i0 t0) = true from hok), hdr, List.append_assoc]; rfl
              have e2 : (xs.take (n + 1)).filter (fun v => !okAt P kvs ks u v) = (xs.take n).filter (fun v => !okAt P kvs ks u v) := by
                rw [take_filter_succ _ _ hv, if_neg (by show ¬ (!holdsAt P (stored kvs u (.int i0 t0)) ks) = true; rw [hok]; decide), List.append_nil]
              dsimp only
              rw [e1, e2]
              walk_at "end"
          | false =>
            refine ifT rfl ?_
            rw [hdr] at H11
            walk_at "go"
            have H12 := H11
            have pm2 : ∀ {p1 p2 p3 p4 p5 : Addr × Kd K}, [p1, p2, p3, p4, p5].Perm ([p4, p5] ++ [p1, p2, p3]) := List.perm_append_comm (l₁ := [_, _, _]) (l₂ := [_, _])
            have hxe : xs.take n ++ (.int i0 t0 :: xs.drop (n + 1)) = xs := by rw [← hdr, List.take_append_drop]
            have hlen : ((xs.take n).filter (okAt P kvs ks u)).length ≤ n := Nat.le_trans (List.length_filter_le _ _) (by rw [List.length_take]; exact Nat.min_le_left _ _)
            refine callRet (hide_spec (pre := (xs.take n).filter (okAt P kvs ks u)) (post := xs.drop (n + 1)) ((hr.deeper _).less (by decide)) (H12.at B (l := [(d, _), (hl, _)]) pm2) hdxg ?hp ?hz ?hh (fun s13 e13 => ?_))
            case hp =>
              intro v' hv'
              have hm := (List.mem_filter.mp hv').1
              obtain ⟨j', u', rfl⟩ := hx v' (List.mem_of_mem_take hm)
              refine ⟨j', u', rfl, fun e => ?_⟩
              have hnd' := hnd
              rw [← hxe, List.map_append, List.nodup_append] at hnd'
              exact hnd'.2.2 j' (List.mem_map.mpr ⟨_, hm, rfl⟩) i0 (by simp [vInt]) e
            case hz => rw [List.length_append, List.length_cons, List.length_drop]; omega
            case hh =>
              have : ((xs.take n).filter fun v => !okAt P kvs ks u v).length ≤ n := Nat.le_trans (List.length_filter_le _ _) (by rw [List.length_take]; exact Nat.min_le_left _ _)
              rw [List.length_append]; omega
            have H13 := (H12.eff (l := [(d, _), (hl, _)]) pm2 e13).perm pm2
            refine retq ?_
            walk_at "go"
            refine for_next ⟨(n + 1, stored kvs u (.int i0 t0)), ⟨rfl, fun h => absurd h (Nat.succ_ne_zero _), fun v' _ e => ?_⟩, ?_⟩
            · rw [show (n + 1 - 1) = n from rfl, hv] at e; rw [← Option.some.inj e]
            · have e1 : (xs.take (n + 1)).filter (okAt P kvs ks u) = (xs.take n).filter (okAt P kvs ks u) := by
                rw [take_filter_succ _ _ hv, if_neg (by show ¬ holdsAt P (stored kvs u (.int i0 t0)) ks = true; rw [hok]; decide), List.append_nil]
              have e2 : (xs.take (n + 1)).filter (fun v => !okAt P kvs ks u v) = (xs.take n).filter (fun v => !okAt P kvs ks u v) ++ [.int i0 t0] := by
                rw [take_filter_succ _ _ hv, if_pos (by show (!holdsAt P (stored kvs u (.int i0 t0)) ks) = true; rw [hok]; rfl)]
              dsimp only
              rw [e1, e2, ← List.append_assoc]
              walk_at "end"
      case done =>
        rintro ⟨n, kv⟩ s' E' ⟨e, hk0, hk1⟩ H9
        dsimp only at e hk0 hk1 H9
        subst e
        have hpos : 0 < xs.length := List.length_pos_iff.mpr hxs
        have hkv := hk1 _ hpos (List.getElem?_eq_getElem (show xs.length - 1 < xs.length by omega))
        subst hkv
        have hsome : (valueAt (stored kvs u xs[xs.length - 1]) u).isSome = true := by rw [vals_stored, if_pos rfl]; rfl
        have hkz' : (stored kvs u xs[xs.length - 1]).length ≤ 501 := by rw [stored_new hu, List.length_append, List.length_cons, List.length_nil]; omega
        rw [List.take_length, List.drop_length, List.append_nil] at H9
        have hfz : (xs.filter (okAt P kvs ks u)).length < 1000 := Nat.lt_of_le_of_lt (List.length_filter_le _ _) (by omega)
        walk_at "go"
        rename_i s10 H10 s11 H11
        rw [without_stored hu] at H11
        cases hq : (xs.filter (okAt P kvs ks u)).isEmpty with
        | true =>
          refine ifT rfl ?_
          walk_at "go"
          refine' hdone (by rw [hq]; rfl) H11 ?sub
          case sub => walk_at "sub"
        | false =>
          refine ifF rfl ?_
          walk_at "go"
          refine' hdone (by rw [hq]; rfl) H11 ?sub
          case sub => walk_at "sub"
end
end
end Csp
end
section
open PySem PySem.W PySem.Calls PyProof.Rows
set_option Elab.async false
set_option maxRecDepth 100000
set_option maxHeartbeats 400000
set_option linter.unusedVariables false
set_option linter.unusedSectionVars false
namespace Csp
def KAll {α : Type} (V : Nat → Prop) (P : α → Prop) : KasT α → Prop
  | .ret a => P a
  | .ask i j k => V i ∧ V j ∧ ∀ b, KAll V P (k b)
theorem KAll.bind {α β : Type} {V : Nat → Prop} {P : β → Prop} {R : α → Prop} {f : α → KasT β} : ∀ {t : KasT α}, KAll V R t → (∀ a, R a → KAll V P (f a)) → KAll V P (t.bind f)
  | .ret _, h, k => k _ h
  | .ask _ _ _, h, k => ⟨h.1, h.2.1, fun b => KAll.bind (h.2.2 b) k⟩
section
variable {n₀ : Nat} (h0 : 0 < n₀)
abbrev RP (n₀ : Nat) (p : Array Nat) : Prop := p.Perm (List.toArray (List.range n₀))
include h0
theorem getD_lt {p : Array Nat} (h : RP n₀ p) (k : Nat) : p.getD k 0 < n₀ := by
  by_cases hk : k < p.size
  · have e : p.getD k 0 = p[k] := by simp [Array.getD, hk]
    rw [e]
    have hm : p[k] ∈ p.toList := by simp
    have := (h.toList.mem_iff).mp hm
    simpa using this
  · have e : p.getD k 0 = 0 := by simp [Array.getD, hk]
    rw [e]; exact h0
theorem asc_any {p : Array Nat} (h : RP n₀ p) : ∀ (f n : Nat), KAll (· < n₀) (fun _ : Nat => True) (kas_asc p f n)
  | 0, n => trivial
  | f + 1, n => ⟨getD_lt h0 h _, getD_lt h0 h _, fun c => by
    cases c with
    | true => simp only [if_true]; trivial
    | false => simp only [Bool.false_eq_true, if_false]; exact asc_any h f _⟩
theorem place_any {p : Array Nat} (h : RP n₀ p) (k : Nat) : ∀ (f l r : Nat), KAll (· < n₀) (fun _ : Nat => True) (kas_place p k f l r)
  | 0, l, r => trivial
  | f + 1, l, r => by
    unfold kas_place
    split
    · trivial
    · refine ⟨getD_lt h0 h _, getD_lt h0 h _, fun c => ?_⟩
      cases c with
      | true => simp only [if_true]; exact place_any h k f _ _
      | false => simp only [Bool.false_eq_true, if_false]; exact place_any h k f _ _
theorem desc_perm : ∀ (f : Nat) (p : Array Nat) (n q : Nat), RP n₀ p → KAll (· < n₀) (fun r : Array Nat × Nat × Nat => RP n₀ r.1) (kas_desc f p n q)
  | 0, p, n, q, h => h
  | f + 1, p, n, q, h => ⟨getD_lt h0 h _, getD_lt h0 h _, fun c => by
    cases c with
    | true =>
      simp only [if_true]
      split
      · exact desc_perm f _ _ _ ((mirror_perm _ _ _ _).trans h)
      · exact desc_perm f _ _ _ h
    | false =>
      simp only [Bool.false_eq_true, if_false]
      refine ⟨getD_lt h0 h _, getD_lt h0 h _, fun d => ?_⟩
      cases d with
      | true => simp only [if_true]; exact h
      | false => simp only [Bool.false_eq_true, if_false]; exact desc_perm f _ _ _ h⟩
theorem tail3_perm (n nrem : Nat) (p : Array Nat) (h : RP n₀ p) : KAll (· < n₀) (fun r : Nat × Array Nat => RP n₀ r.2) (kas_tail3 n nrem p) :=
  (asc_any h0 ((mirror_perm _ _ _ _).trans h) _ _).bind fun _ _ => (mirror_perm _ _ _ _).trans h
theorem descPart_perm (n nrem : Nat) (p : Array Nat) (h : RP n₀ p) : KAll (· < n₀) (fun r : Nat × Array Nat => RP n₀ r.2) (kas_descPart n nrem p) := by
  refine (desc_perm h0 _ _ _ _ h).bind fun r hr => ?_
  split
  · exact tail3_perm h0 _ _ _ ((mirror_perm _ _ _ _).trans hr)
  · exact tail3_perm h0 _ _ _ hr
theorem count_perm (nrem : Nat) (p : Array Nat) (h : RP n₀ p) : KAll (· < n₀) (fun r : Nat × Array Nat => RP n₀ r.2) (kas_count nrem p) := by
  refine (asc_any h0 h _ _).bind fun n _ => ?_
  split
  · exact h
  · split
    · refine ⟨getD_lt h0 h _, getD_lt h0 h _, fun c => ?_⟩
      cases c with
      | true => simp only [if_true]; exact h
      | false => simp only [Bool.false_eq_true, if_false]; exact descPart_perm h0 _ _ _ ((mirror_perm _ _ _ _).trans h)
    · exact descPart_perm h0 _ _ _ h
theorem bin_perm : ∀ (f : Nat) (p : Array Nat) (k : Nat), RP n₀ p → KAll (· < n₀) (fun r : Array Nat => RP n₀ r) (kas_bin f p k)
  | 0, _, _, h => h
  | f + 1, p, k, h => (place_any h0 h _ _ _ _).bind fun _ _ => bin_perm f _ _ ((bubble_perm _ _ _).trans h)
theorem sort_perm : KAll (· < n₀) (fun r : Array Nat => RP n₀ r) (kas_sort n₀) := by
  refine (count_perm h0 n₀ _ (Array.Perm.refl _)).bind fun r hr => ?_
  split
  · exact bin_perm h0 _ _ _ hr
  · exact hr
end
theorem run_all {α : Type} {V : Nat → Prop} {P : α → Prop} {I : Shared → Prop} {cmp : Nat → Nat → (Bool → Shared → Prop) → Shared → Prop} (hc : ∀ i j (C : Bool → Shared → Prop) s, V i → V j → I s → (∀ b s', I s' → C b s') → cmp i j C s) {Q : α → Shared → Prop} :
    ∀ {t : KasT α} {s : Shared}, KAll V P t → I s → (∀ a s', P a → I s' → Q a s') → t.kasWp cmp Q s
  | .ret _, _, h, hi, k => k _ _ h hi
  | .ask i j _, _, h, hi, k => hc i j _ _ h.1 h.2.1 hi fun b s' hi' => run_all hc (h.2.2 b) hi' k
theorem perm_out {vs : List Value} {p : Array Nat} (h : p.Perm (List.toArray (List.range vs.length))) : (p.toList.map fun i => vs.getD i Value.none).Perm vs := by
  have h1 : p.toList.Perm (List.range vs.length) := by have := h.toList; simpa using this
  refine (h1.map _).trans ?_
  have : (List.range vs.length).map (fun i => vs.getD i Value.none) = vs := by
    apply List.ext_getElem
    · simp
    · intro i h1 h2; simp [h2]
  rw [this]

section
variable {prog : Program} {w : World} {K : Type} [DecidableEq K] {knd : KeyKind prog w K} {A : Around} {E : Value → Shared → Prop} {s : Shared}
  {g : Heap} {R : Side} {L : Addr} {vs vs' : Vars} {l l' : Led K} {a : Addr}
inductive Fits (knd : KeyKind prog w K) : Led K → List (Addr × Obj) → Prop
  | nil : Fits knd [] []
  | cons {a k o l os} : k.holds knd o → Fits knd l os → Fits knd ((a, k) :: l) ((a, o) :: os)
theorem Fits.addr : ∀ {l : Led K} {os : List (Addr × Obj)}, Fits knd l os → os.map (·.1) = l.map (·.1)
  | _, _, .nil => rfl
  | _, _, .cons _ t => by simp [t.addr]
theorem Fits.of {h : Heap} : ∀ {l : Led K}, (∀ p ∈ l, Has knd h p.1 p.2) → ∃ os, Fits knd l os ∧ ∀ p ∈ os, h.get? p.1 = some p.2
  | [], _ => ⟨[], .nil, fun _ h => nomatch h⟩
  | (a, k) :: l, hl => by
    obtain ⟨o, ho, hk⟩ := hl (a, k) (.head _)
    obtain ⟨os, f, g⟩ := Fits.of (l := l) fun p hp => hl p (.tail _ hp)
    exact ⟨(a, o) :: os, .cons hk f, fun p hp => by
      rcases List.mem_cons.mp hp with rfl | hp
      · exact ho
      · exact g p hp⟩
theorem Fits.has {h : Heap} {l : Led K} {os : List (Addr × Obj)} (f : Fits knd l os) (hg : ∀ p ∈ os, h.get? p.1 = some p.2) : ∀ p ∈ l, Has knd h p.1 p.2 := by
  induction f with
  | nil => intro p hp; cases hp
  | @cons a k o l os hk t ih =>
    intro p hp
    rcases List.mem_cons.mp hp with e | hp
    · rw [e]; exact ⟨o, hg (a, o) (.head _), hk⟩
    · exact ih (fun q hq => hg q (.tail _ hq)) p hp

/-- keys that compare -/
structure KeyLt (knd : KeyKind prog w K) : Prop where
  plain : PlainK knd
  lt : ∀ {A : Around} {E : Value → Shared → Prop} {s : Shared} {a b : K} {u v : Value} {Q : Value → Shared → Prop}, knd.is a u = true → knd.is b v = true → (∀ r t, Q (.bool r) { s with toks := t }) → wpAny (model prog w) A (compareOp .Lt u v) Q E s

/-- the tuples that the solvers sort -/
structure Trip (knd : KeyKind prog w K) (h : Heap) (v : Value) : Prop where
  e : ∃ a x y t u k key, v = .ref a ∧ Has knd h a (.tup [.int x t, .int y u, key]) ∧ knd.is k key = true
theorem Trip.keep {h h' : Heap} {v} (x : Trip knd h v) (e : ∀ b o, h.get? b = some o → h'.get? b = some o) : Trip knd h' v := let ⟨a, x', y, t, u, k, key, e1, e2, e3⟩ := x.e; ⟨a, x', y, t, u, k, key, e1, e2.keep fun o => e _ o, e3⟩

theorem lt_cmp (kl : KeyLt knd) {u v : Value} {C : Bool → Shared → Prop} (hu : Trip knd s.heap u) (hv : Trip knd s.heap v) (hC : ∀ b t, C b { s with toks := t }) :
    wpAny (model prog w) A (keyLt' (tuples' true) u v) C (fun _ _ => False) s := by
  obtain ⟨a1, x1, y1, t1, u1, k1, key1, rfl, ⟨o1, ho1, h1⟩, hk1⟩ := hu.e
  obtain ⟨a2, x2, y2, t2, u2, k2, key2, rfl, ⟨o2, ho2, h2⟩, hk2⟩ := hv.e
  obtain rfl : o1 = tupO _ := h1
  obtain rfl : o2 = tupO _ := h2
  refine kat_lt (xs := #[.int x1 t1, .int y1 u1, key1]) (ys := #[.int x2 t2, .int y2 u2, key2]) ho1 rfl ho2 rfl ?_
  generalize (decide ((#[Value.int x1 t1, .int y1 u1, key1] : Array Value).size < (#[Value.int x2 t2, .int y2 u2, key2] : Array Value).size)) = fin
  have e : (#[Value.int x1 t1, .int y1 u1, key1].toList.zip #[Value.int x2 t2, .int y2 u2, key2].toList) = [(.int x1 t1, .int x2 t2), (.int y1 u1, .int y2 u2), (key1, key2)] := rfl
  rw [e]
  refine kat_cons (wpAny_eqBool_int (kat_go (fun _ => kat_yes (kat_cons (wpAny_eqBool_int (kat_go (fun _ => kat_yes (kat_cons (knd.eqBool hk1 hk2 (kat_go (fun _ => kat_yes (kat_nil ?_)) fun _ => kat_no ?_)))) fun _ => kat_no ?_)))) fun _ => kat_no ?_))
  · exact hC _ s.toks
  · exact kat_one _ _ (kl.lt hk1 hk2 fun r t => hC r t)
  · exact kat_one _ _ (PySem.P.lt_int (hC _ s.toks))
  · exact oneLt_int (hC _ s.toks)

/-- l.sort() -/
theorem uSort (kl : KeyLt knd) {items : List Value} {Q : Value → Shared → Prop} (H : St knd g R L vs l s) {l'' : List Value → Led K} (U : ∀ ys, Up a (.lst items) (.lst ys) l (l'' ys)) (h2 : 2 ≤ items.length) (h64 : items.length < 64)
    (hT : ∀ v ∈ items, ∃ b x y t u k key, v = .ref b ∧ (b, Kd.tup [.int x t, .int y u, key]) ∈ l ∧ knd.is k key = true)
    (h : ∀ ys s', ys.Perm items → St knd g R L vs (l'' ys) s' → Q .none s') : wpAny (model prog w) A (call (.builtin "list.sort") [.ref a]) Q E s := by
  have U0 := U items
  have hm := U0.mem
  obtain ⟨pre, post, hl, _⟩ := U0.split
  obtain ⟨m, F, kn⟩ := H.F
  have D := H.has hm
  obtain ⟨o, ho, n, rfl⟩ := id D
  have hnd := H.nd
  have nh : ∀ p ∈ pre ++ post, p.1 ≠ a := by
    rw [hl, List.map_append, List.map_cons, List.nodup_append, List.nodup_cons] at hnd
    obtain ⟨_, ⟨h2, _⟩, h3⟩ := hnd
    intro p hp
    rcases List.mem_append.mp hp with hp | hp
    · exact h3 p.1 (List.mem_map_of_mem hp) a (by simp)
    · exact fun q => h2 (List.mem_map.mpr ⟨p, hp, q⟩)
  have hsub : ∀ p ∈ pre ++ post, p ∈ l := fun p hp => by
    rw [hl]; rcases List.mem_append.mp hp with hp | hp
    · exact List.mem_append.mpr (.inl hp)
    · exact List.mem_append.mpr (.inr (.tail _ hp))
  obtain ⟨os, fits, hos⟩ := Fits.of (knd := knd) (h := s.heap) (l := pre ++ post) fun p hp => (H.N p (hsub p hp)).1
  have hosm : ∀ p ∈ os, ∃ q ∈ pre ++ post, q.1 = p.1 := fun p hp => by
    have : p.1 ∈ (pre ++ post).map (·.1) := by rw [← fits.addr]; exact List.mem_map_of_mem hp
    obtain ⟨q, hq, e⟩ := List.mem_map.mp this; exact ⟨q, hq, e⟩
  have N : News g L s.heap os := fun p hp => by
    obtain ⟨q, hq, e⟩ := hosm p hp
    have := (H.N q (hsub q hq)).2
    rw [e] at this
    exact ⟨hos p hp, this.1, this.2.1⟩
  have hna : ∀ p ∈ os, p.1 ≠ a := fun p hp => by
    obtain ⟨q, hq, e⟩ := hosm p hp; rw [← e]; exact nh q hq
  have hT' : ∀ v ∈ items, ∃ b x y t u k key, v = .ref b ∧ (b, tupO [.int x t, .int y u, key]) ∈ os ∧ knd.is k key = true := fun v hv => by
    obtain ⟨b, x, y, t, u, k, key, e1, e2, e3⟩ := hT v hv
    refine ⟨b, x, y, t, u, k, key, e1, ?_, e3⟩
    have hb : (b, Kd.tup [.int x t, .int y u, key]) ∈ pre ++ post := by
      rw [hl] at e2
      rcases List.mem_append.mp e2 with q | q
      · exact List.mem_append.mpr (.inl q)
      · rcases List.mem_cons.mp q with q | q
        · cases q
        · exact List.mem_append.mpr (.inr q)
    have : ∀ {l : Led K} {os : List (Addr × Obj)}, Fits knd l os → (b, Kd.tup [.int x t, .int y u, key]) ∈ l → (b, tupO [.int x t, .int y u, key]) ∈ os := by
      intro l os f
      induction f with
      | nil => intro h; cases h
      | cons hk _ ih =>
        intro h
        rcases List.mem_cons.mp h with e | h
        · cases e; rw [show _ = tupO _ from hk]; exact .head _
        · exact .tail _ (ih h)
    exact this fits hb
  refine wpAny_call_entry PySem.F.slot_list_sort (lst_type D) PySem.F.entry_list_sort ?_ (PySem.F.args_list_sort_1 _)
  refine kat_list_sort F N ho (H.N _ hm).2.1 (H.N _ hm).2.2.1 hna h2 h64 fun e1 h' F' N' => ?_
  have trip : ∀ {h₁ : Heap}, (∀ p ∈ os, h₁.get? p.1 = some p.2) → ∀ v ∈ items, Trip knd h₁ v := fun hg v hv => by
    obtain ⟨b, x, y, t, u, k, key, e1, e2, e3⟩ := hT' v hv
    exact ⟨b, x, y, t, u, k, key, e1, ⟨_, hg _ e2, rfl⟩, e3⟩
  have g0 : ∀ p ∈ os, h'.get? p.1 = some p.2 := fun p hp => (N' p (.tail _ hp)).1
  have kt : ∃ fs, KatTups h' items fs ∧ fs.length = items.length ∧ ∀ f ∈ fs, ∃ x t, f = Value.int x t := by
    have : ∀ {vs : List Value}, (∀ v ∈ vs, Trip knd h' v) → ∃ fs, KatTups h' vs fs ∧ fs.length = vs.length ∧ ∀ f ∈ fs, ∃ x t, f = Value.int x t := by
      intro vs
      induction vs with
      | nil => intro _; exact ⟨[], .nil, rfl, fun _ h => nomatch h⟩
      | cons v vs ih =>
        intro hv
        obtain ⟨fs, k1, k2, k3⟩ := ih fun v hv' => hv v (.tail _ hv')
        obtain ⟨b, x, y, t, u, k, key, rfl, ⟨ob, hob, hkb⟩, e3⟩ := (hv v (.head _)).e
        obtain rfl : ob = tupO _ := hkb
        exact ⟨.int x t :: fs, .cons hob rfl rfl rfl k1, by simp [k2], fun f hf => by
          rcases List.mem_cons.mp hf with rfl | hf
          · exact ⟨x, t, rfl⟩
          · exact k3 f hf⟩
    exact this (trip g0)
  obtain ⟨fs, k1, k2, k3⟩ := kt
  refine kat_kind (T := .type "int") (s := { s with heap := h' }) k1 (by omega) (fun v hv => by obtain ⟨x, t, rfl⟩ := k3 v hv; exact Looks.of_pure rfl) (by decide) ?_
  rw [show (Value.type "int" != Value.type "tuple") = true by decide]
  refine run_all (I := fun s' => ∃ t, s' = { s with heap := h', toks := t }) (fun i j C s' hi hj hI hC => ?_) (sort_perm (show 0 < items.length by omega)) ⟨s.toks, rfl⟩ (fun p s' hp hI => ?_)
  · obtain ⟨t, rfl⟩ := hI
    have gi : items.getD i Value.none ∈ items := by rw [List.getD_eq_getElem?_getD, List.getElem?_eq_getElem hi]; exact List.getElem_mem hi
    have gj : items.getD j Value.none ∈ items := by rw [List.getD_eq_getElem?_getD, List.getElem?_eq_getElem hj]; exact List.getElem_mem hj
    exact lt_cmp (s := { s with heap := h', toks := t }) kl (trip g0 _ gi) (trip g0 _ gj) fun b t' => hC b _ ⟨t', rfl⟩
  · obtain ⟨t, rfl⟩ := hI
    refine KasFin.intro (s := { s with heap := h', toks := t }) F' N' (.head hna) fun h'' c F'' N'' => ?_
    have hperm := perm_out (vs := items) hp
    generalize (p.toList.map fun i => items.getD i Value.none) = ys at hperm N''
    have U' := U ys
    refine ⟨_, rfl, h ys _ hperm ?_⟩
    generalize l'' ys = l' at U'
    obtain ⟨pre', post', e1', e2'⟩ := U'.split
    have hsame : ∀ b k, (b, k) ∈ l' → (b, k) = (a, Kd.lst ys) ∨ (b, k) ∈ pre ++ post := by
      intro b k hb
      rw [e2'] at hb
      rcases List.mem_append.mp hb with q | q
      · right
        have hq : (b, k) ∈ l := by rw [e1']; exact List.mem_append.mpr (.inl q)
        have hb' : b ≠ a := by
          rintro rfl
          rw [e1', List.map_append, List.map_cons, List.nodup_append] at hnd
          exact hnd.2.2 b (List.mem_map.mpr ⟨_, q, rfl⟩) b (by simp) rfl
        rw [hl] at hq
        rcases List.mem_append.mp hq with q | q
        · exact List.mem_append.mpr (.inl q)
        · rcases List.mem_cons.mp q with q | q
          · cases q; exact absurd rfl hb'
          · exact List.mem_append.mpr (.inr q)
      · rcases List.mem_cons.mp q with q2 | q2
        · exact .inl q2
        · right
          have hq : (b, k) ∈ l := by rw [e1']; exact List.mem_append.mpr (.inr (.tail _ q2))
          have hb' : b ≠ a := by
            rintro rfl
            rw [e1', List.map_append, List.map_cons, List.nodup_append, List.nodup_cons] at hnd
            exact hnd.2.1.1 (List.mem_map.mpr ⟨_, q2, rfl⟩)
          rw [hl] at hq
          rcases List.mem_append.mp hq with q | q
          · exact List.mem_append.mpr (.inl q)
          · rcases List.mem_cons.mp q with q | q
            · cases q; exact absurd rfl hb'
            · exact List.mem_append.mpr (.inr q)
    have ga : h''.get? a = some (listOf (List.toArray ys) c) := (N'' (a, _) (.head _)).1
    have gos : ∀ p ∈ os, h''.get? p.1 = some p.2 := fun p hp => (N'' p (.tail _ hp)).1
    have Hm := H.N _ hm
    refine ⟨⟨m, F'', kn⟩, fun q hq => ?_, ?_, H.gens, H.drawn, H.os, H.low⟩
    · rcases hsame q.1 q.2 hq with e | e
      · rw [show q = (a, Kd.lst ys) from e]
        exact ⟨⟨_, ga, c, rfl⟩, Hm.2⟩
      · exact ⟨fits.has gos q e, (H.N q (hsub q e)).2⟩
    · have e : l'.map (·.1) = l.map (·.1) := by rw [e1', e2']; simp
      rw [e]; exact hnd
end
end Csp
end
section
open PySem PySem.W PySem.Calls PyProof.Rows
set_option Elab.async false
set_option maxRecDepth 100000
set_option maxHeartbeats 400000
set_option linter.unusedVariables false
set_option linter.unusedSectionVars false
namespace Csp
section
variable {K : Type} [DecidableEq K]
/-- all the tuples of values -/
def allT (dom : K → List Int) : List K → List (List (K × Int))
  | [] => [[]]
  | k :: ks => (dom k).flatMap fun v => (allT dom ks).map fun t => (k, v) :: t
def look (t : List (K × Int)) (k : K) : Int := (t.lookup k).getD 0
abbrev Con (K : Type) := List K × (List Int → Bool)
def good (cons : List (Con K)) (t : List (K × Int)) : Bool := cons.all fun c => c.2 (c.1.map (look t))
def ext (kvs : List (K × Value)) (t : List (K × Int)) : Bool := kvs.all fun p => look t p.1 == vInt p.2
def solsOf (keys : List K) (dom : K → List Int) (cons : List (Con K)) (kvs : List (K × Value)) : List (List (K × Int)) := (allT dom keys).filter fun t => ext kvs t && good cons t

theorem allT_keys {dom : K → List Int} : ∀ {ks : List K} {t}, t ∈ allT dom ks → t.map (·.1) = ks
  | [], t, h => by simp [allT] at h; subst h; rfl
  | k :: ks, t, h => by
    simp only [allT, List.mem_flatMap, List.mem_map] at h
    obtain ⟨v, _, t', ht', rfl⟩ := h
    rw [List.map_cons, allT_keys ht']
theorem allT_dom {dom : K → List Int} : ∀ {ks : List K} {t}, t ∈ allT dom ks → ks.Nodup → ∀ k ∈ ks, look t k ∈ dom k
  | k₀ :: ks, t, h, hn, k, hk => by
    simp only [allT, List.mem_flatMap, List.mem_map] at h
    obtain ⟨v, hv, t', ht', rfl⟩ := h
    rw [List.nodup_cons] at hn
    unfold look
    by_cases e : k = k₀
    · subst e; simpa using hv
    · rw [List.lookup_cons, beq_eq_false_iff_ne.mpr e]
      rcases List.mem_cons.mp hk with q | q
      · exact absurd q e
      · exact allT_dom ht' hn.2 k q
theorem look_ext : ∀ {t t' : List (K × Int)}, t.map (·.1) = t'.map (·.1) → (t.map (·.1)).Nodup → (∀ k ∈ t.map (·.1), look t k = look t' k) → t = t'
  | [], [], _, _, _ => rfl
  | (k, v) :: t, (k', v') :: t', h, hn, hl => by
    simp only [List.map_cons, List.cons.injEq] at h
    obtain ⟨rfl, h⟩ := h
    rw [List.map_cons, List.nodup_cons] at hn
    have h1 := hl k (by simp)
    simp [look] at h1
    subst h1
    congr 1
    refine look_ext h hn.2 fun k₁ hk₁ => ?_
    have := hl k₁ (by rw [List.map_cons]; exact .tail _ hk₁)
    have ne : k₁ ≠ k := fun e => hn.1 (e ▸ hk₁)
    simpa [look, List.lookup_cons, beq_eq_false_iff_ne.mpr ne] using this
  | [], _ :: _, h, _, _ => by simp at h
  | _ :: _, [], h, _, _ => by simp at h
theorem allT_mem {dom : K → List Int} (f : K → Int) : ∀ {ks : List K}, (∀ k ∈ ks, f k ∈ dom k) → ks.map (fun k => (k, f k)) ∈ allT dom ks
  | [], _ => by simp [allT]
  | k :: ks, h => by
    simp only [allT, List.mem_flatMap, List.mem_map, List.map_cons]
    exact ⟨f k, h k (.head _), _, allT_mem f fun k hk => h k (.tail _ hk), rfl⟩
theorem look_map (f : K → Int) : ∀ {ks : List K} {k : K}, k ∈ ks → look (ks.map fun k => (k, f k)) k = f k
  | k₀ :: ks, k, h => by
    unfold look
    rw [List.map_cons, List.lookup_cons]
    by_cases e : k = k₀
    · subst e; simp
    · rw [beq_eq_false_iff_ne.mpr e]
      rcases List.mem_cons.mp h with q | q
      · exact absurd q e
      · exact look_map f q
theorem nodup_map {α β : Type} {f : α → β} (hf : ∀ a b, f a = f b → a = b) : ∀ {l : List α}, l.Nodup → (l.map f).Nodup
  | [], _ => by simp
  | a :: l, h => by
    rw [List.nodup_cons] at h
    rw [List.map_cons, List.nodup_cons]
    refine ⟨fun hm => ?_, nodup_map hf h.2⟩
    obtain ⟨b, hb, e⟩ := List.mem_map.mp hm
    exact h.1 (hf _ _ e ▸ hb)
theorem nodup_of_map {α β : Type} {f : α → β} : ∀ {l : List α}, (l.map f).Nodup → l.Nodup
  | [], _ => by simp
  | a :: l, h => by
    rw [List.map_cons, List.nodup_cons] at h
    rw [List.nodup_cons]
    exact ⟨fun hm => h.1 (List.mem_map.mpr ⟨a, hm, rfl⟩), nodup_of_map h.2⟩
theorem nodup_flatMap {α β : Type} {f : α → List β} : ∀ {l : List α}, l.Nodup → (∀ a ∈ l, (f a).Nodup) → (∀ a ∈ l, ∀ b ∈ l, a ≠ b → ∀ x ∈ f a, x ∉ f b) → (l.flatMap f).Nodup
  | [], _, _, _ => by simp
  | a :: l, hn, h1, h2 => by
    rw [List.nodup_cons] at hn
    rw [List.flatMap_cons, List.nodup_append]
    refine ⟨h1 a (.head _), nodup_flatMap hn.2 (fun a ha => h1 a (.tail _ ha)) fun a ha b hb => h2 a (.tail _ ha) b (.tail _ hb), fun x hx y hy => ?_⟩
    rintro rfl
    obtain ⟨b, hb, hxb⟩ := List.mem_flatMap.mp hy
    exact h2 a (.head _) b (.tail _ hb) (fun e => hn.1 (e ▸ hb)) x hx hxb
theorem allT_nodup {dom : K → List Int} (hd : ∀ k, (dom k).Nodup) : ∀ ks : List K, (allT dom ks).Nodup
  | [] => by simp [allT]
  | k :: ks => by
    unfold allT
    refine nodup_flatMap (hd k) (fun v _ => ?_) fun v _ v' _ hne t ht ht' => ?_
    · exact nodup_map (fun a b e => (List.cons.inj e).2) (allT_nodup hd ks)
    · obtain ⟨t₁, _, rfl⟩ := List.mem_map.mp ht
      obtain ⟨t₂, _, e⟩ := List.mem_map.mp ht'
      exact hne (Prod.mk.inj (List.cons.inj e).1).2.symm
theorem perm_of_mem {α : Type} {l l' : List α} (h : l.Nodup) (h' : l'.Nodup) (e : ∀ x, x ∈ l ↔ x ∈ l') : l.Perm l' := (List.perm_ext_iff_of_nodup h h').mpr e

variable {keys : List K} {dom : K → List Int} {cons : List (Con K)} {kvs : List (K × Value)}
theorem sols_nodup (hd : ∀ k, (dom k).Nodup) : (solsOf keys dom cons kvs).Nodup := (allT_nodup hd keys).filter _
theorem ext_snoc {u : K} {v : Value} {t} : ext (kvs ++ [(u, v)]) t = (ext kvs t && (look t u == vInt v)) := by unfold ext; simp
theorem sols_mono {u : K} {v : Value} (h : solsOf keys dom cons kvs = []) : solsOf keys dom cons (kvs ++ [(u, v)]) = [] := by
  unfold solsOf at *
  rw [List.filter_eq_nil_iff] at *
  intro t ht
  have := h t ht
  rw [ext_snoc]
  simp only [Bool.and_eq_true, not_and, Bool.not_eq_true] at *
  intro a; exact this a.1
theorem sols_swap {a b : K × Value} (h : solsOf keys dom cons (kvs ++ [a]) = []) : solsOf keys dom cons ((kvs ++ [b]) ++ [a]) = [] := by
  unfold solsOf at *
  rw [List.filter_eq_nil_iff] at *
  intro t ht
  have := h t ht
  obtain ⟨a1, a2⟩ := a
  obtain ⟨b1, b2⟩ := b
  rw [ext_snoc] at this
  rw [ext_snoc, ext_snoc]
  simp only [Bool.and_eq_true, not_and, Bool.not_eq_true] at *
  rintro ⟨⟨x, y⟩, z⟩; exact this ⟨x, z⟩
/-- the branching -/
theorem sols_branch (hk : keys.Nodup) (hd : ∀ k, (dom k).Nodup) {u : K} (hu : u ∈ keys) {V : List Value} (hV : (V.map vInt).Nodup)
    (hrem : ∀ x ∈ dom u, x ∉ V.map vInt → ∀ v, vInt v = x → solsOf keys dom cons (kvs ++ [(u, v)]) = []) :
    (solsOf keys dom cons kvs).Perm (V.flatMap fun v => solsOf keys dom cons (kvs ++ [(u, v)])) := by
  have hVn : V.Nodup := by
    exact nodup_of_map hV
  refine perm_of_mem (sols_nodup hd) (nodup_flatMap hVn (fun v _ => sols_nodup hd) fun v hv v' hv' hne t ht ht' => ?_) fun t => ⟨fun ht => ?_, fun ht => ?_⟩
  · have h1 := (List.mem_filter.mp ht).2
    have h2 := (List.mem_filter.mp ht').2
    rw [ext_snoc] at h1 h2
    simp only [Bool.and_eq_true, beq_iff_eq] at h1 h2
    have e : vInt v = vInt v' := h1.1.2.symm.trans h2.1.2
    have : ∀ {l : List Value}, (l.map vInt).Nodup → v ∈ l → v' ∈ l → v = v' := by
      intro l
      induction l with
      | nil => intro _ h; cases h
      | cons a l ih =>
        intro hn m m'
        rw [List.map_cons, List.nodup_cons] at hn
        rcases List.mem_cons.mp m with q | q <;> rcases List.mem_cons.mp m' with q' | q'
        · rw [q, q']
        · exact absurd (List.mem_map.mpr ⟨v', q', by rw [← e, q]⟩) hn.1
        · exact absurd (List.mem_map.mpr ⟨v, q, by rw [e, q']⟩) hn.1
        · exact ih hn.2 q q'
    exact hne (this hV hv hv')
  · obtain ⟨ha, hg⟩ := List.mem_filter.mp ht
    have hx : look t u ∈ dom u := allT_dom ha hk u hu
    by_cases hm : look t u ∈ V.map vInt
    · obtain ⟨v, hv, e⟩ := List.mem_map.mp hm
      refine List.mem_flatMap.mpr ⟨v, hv, List.mem_filter.mpr ⟨ha, ?_⟩⟩
      rw [ext_snoc, e]
      simp only [Bool.and_eq_true] at hg
      simp [hg.1, hg.2]
    · have := hrem _ hx hm (.int (look t u) 0) rfl
      exfalso
      unfold solsOf at this
      rw [List.filter_eq_nil_iff] at this
      refine this t ha ?_
      rw [ext_snoc]
      simp only [Bool.and_eq_true] at hg
      simp [hg.1, hg.2, vInt]
  · obtain ⟨v, hv, hm⟩ := List.mem_flatMap.mp ht
    obtain ⟨ha, hg⟩ := List.mem_filter.mp hm
    rw [ext_snoc] at hg
    simp only [Bool.and_eq_true] at hg
    exact List.mem_filter.mpr ⟨ha, by simp [hg.1.1, hg.2]⟩
def valK (kvs : List (K × Value)) (k : K) : Int := vInt ((valueAt kvs k).getD .none)
theorem ext_look {t} (h : ext kvs t = true) (hn : (kvs.map (·.1)).Nodup) {k : K} (hk : (valueAt kvs k).isSome = true) : look t k = valK kvs k := by
  unfold valK
  cases q : valueAt kvs k with
  | none => rw [q] at hk; cases hk
  | some v =>
    unfold valueAt at q
    obtain ⟨p, hp, e⟩ := Option.map_eq_some_iff.mp q
    have hm := List.mem_of_find?_eq_some hp
    have he := List.find?_some hp
    unfold ext at h
    have := List.all_eq_true.mp h p hm
    simp only [beq_iff_eq] at this
    have e1 : p.1 = k := by simpa using he
    rw [← e1, this, e]; rfl
/-- a constraint that fails -/
theorem sols_bad {c : Con K} (hc : c ∈ cons) (hn : (kvs.map (·.1)).Nodup) (hall : ∀ k ∈ c.1, (valueAt kvs k).isSome = true) (hb : c.2 (c.1.map (valK kvs)) = false) : solsOf keys dom cons kvs = [] := by
  unfold solsOf
  rw [List.filter_eq_nil_iff]
  intro t _
  simp only [Bool.and_eq_true, not_and, Bool.not_eq_true]
  intro he
  cases q : good cons t with
  | false => rfl
  | true =>
    have := List.all_eq_true.mp q c hc
    have e : c.1.map (look t) = c.1.map (valK kvs) := List.map_congr_left fun k hk => ext_look he hn (hall k hk)
    rw [e, hb] at this; cases this
def tupOf (keys : List K) (kvs : List (K × Value)) : List (K × Int) := keys.map fun k => (k, valK kvs k)
/-- a full assignment -/
theorem sols_full (hk : keys.Nodup) (hd : ∀ k, (dom k).Nodup) (hn : (kvs.map (·.1)).Nodup) (hsub : ∀ p ∈ kvs, p.1 ∈ keys) (hall : ∀ k ∈ keys, (valueAt kvs k).isSome = true) (hdom : ∀ k ∈ keys, valK kvs k ∈ dom k)
    (hcs : ∀ c ∈ cons, (∀ k ∈ c.1, k ∈ keys) ∧ c.2 (c.1.map (valK kvs)) = true) : (solsOf keys dom cons kvs).Perm [tupOf keys kvs] := by
  refine perm_of_mem (sols_nodup hd) (by simp) fun t => ⟨fun ht => ?_, fun ht => ?_⟩
  · obtain ⟨ha, hg⟩ := List.mem_filter.mp ht
    simp only [Bool.and_eq_true] at hg
    rw [List.mem_singleton]
    have e1 := allT_keys ha
    refine look_ext (by rw [e1]; unfold tupOf; rw [List.map_map]; exact (List.map_id _).symm) (by rw [e1]; exact hk) fun k hkm => ?_
    rw [e1] at hkm
    rw [ext_look hg.1 hn (hall k hkm)]
    exact (look_map (valK kvs) hkm).symm
  · rw [List.mem_singleton] at ht
    subst ht
    refine List.mem_filter.mpr ⟨allT_mem _ hdom, ?_⟩
    rw [Bool.and_eq_true]
    refine ⟨List.all_eq_true.mpr fun p hp => ?_, List.all_eq_true.mpr fun c hc => ?_⟩
    · have hl : look (tupOf keys kvs) p.1 = valK kvs p.1 := look_map (valK kvs) (hsub p hp)
      rw [hl, beq_iff_eq]
      unfold valK valueAt
      have : kvs.find? (fun kv => decide (kv.1 = p.1)) = some p := by
        have : ∀ {l : List (K × Value)}, (l.map (·.1)).Nodup → p ∈ l → l.find? (fun kv => decide (kv.1 = p.1)) = some p := by
          intro l
          induction l with
          | nil => intro _ h; cases h
          | cons a l ih =>
            intro hn hm
            rw [List.map_cons, List.nodup_cons] at hn
            rw [List.find?_cons]
            rcases List.mem_cons.mp hm with q | q
            · subst q; simp
            · have : ¬ a.1 = p.1 := fun e => hn.1 (e ▸ List.mem_map.mpr ⟨p, q, rfl⟩)
              simp only [this, decide_false]
              exact ih hn.2 q
        exact this hn hp
      rw [this]; rfl
    · obtain ⟨h1, h2⟩ := hcs c hc
      have e : c.1.map (look (tupOf keys kvs)) = c.1.map (valK kvs) := List.map_congr_left fun k hkm => look_map (valK kvs) (h1 k hkm)
      rw [e]; exact h2
end
end Csp
end
section
open PySem PySem.W PySem.Calls PyProof.Rows
set_option Elab.async false
set_option maxRecDepth 100000
set_option maxHeartbeats 400000
set_option linter.unusedVariables false
set_option linter.unusedSectionVars false
namespace Csp
section
variable {prog : Program} {w : World} {K : Type} [DecidableEq K] {knd : KeyKind prog w K} {A : Around} {E : Value → Shared → Prop} {s : Shared} {M : Model}
  {g : Heap} {R : Side} {L : Addr} {vs vs' : Vars} {l l' : Led K} {env : Env} {a : Addr} {pos : Pos} {v : Value}
/-- a constraint's places -/
structure CData (K : Type) where
  c : Addr
  cx : Addr
  f : Addr
  va : Addr
  t : Addr
  vals : List Value
  ks : List K
  P : List Int → Bool
/-- where the parts of a problem lie -/
structure Lay (K : Type) where
  keys : List K
  da : Addr
  vc : Addr
  dA : K → Addr
  dxA : K → Addr
  hlA : K → Addr
  slA : K → Addr
  vA : K → Addr
  vcons : K → List (CData K)
structure CAt (knd : KeyKind prog w K) (h : Heap) (C : CData K) : Prop where
  t : Has knd h C.t (.tup [.ref C.c, .ref C.va])
  con : ConAt knd h C.c C.cx C.f C.va C.vals C.ks C.P
  z : C.ks.length < 100
structure LayAt (knd : KeyKind prog w K) (h : Heap) (Y : Lay K) : Prop where
  da : Has knd h Y.da (.dct (Y.keys.map fun k => (k, .ref (Y.dA k))))
  vc : Has knd h Y.vc (.dct (Y.keys.map fun k => (k, .ref (Y.vA k))))
  nda : (Y.da == sysModules) = false
  nvc : (Y.vc == sysModules) = false
  dx : ∀ k ∈ Y.keys, Has knd h (Y.dxA k) (.att (domAtt (Y.hlA k) (Y.slA k)))
  vl : ∀ k ∈ Y.keys, Has knd h (Y.vA k) (.lst ((Y.vcons k).map fun C => .ref C.t)) ∧ (Y.vcons k).length < 100
  cs : ∀ k ∈ Y.keys, ∀ C ∈ Y.vcons k, CAt knd h C
  nd : Y.keys.Nodup
  z2 : 2 ≤ Y.keys.length
  z : Y.keys.length < 60
theorem LayAt.keep {h h' : Heap} {Y : Lay K} (x : LayAt knd h Y) (e : ∀ b o, h.get? b = some o → h'.get? b = some o) : LayAt knd h' Y :=
  ⟨x.da.keep fun o => e _ o, x.vc.keep fun o => e _ o, x.nda, x.nvc, fun k hk => (x.dx k hk).keep fun o => e _ o, fun k hk => ⟨(x.vl k hk).1.keep fun o => e _ o, (x.vl k hk).2⟩,
    fun k hk C hC => ⟨(x.cs k hk C hC).t.keep fun o => e _ o, (x.cs k hk C hC).con.keep e, (x.cs k hk C hC).z⟩, x.nd, x.z2, x.z⟩
/-- a domain's state: seen, hidden, the states' stack -/
structure DS where
  xs : List Value
  hs : List Value
  st : List Value
def DL (Y : Lay K) (D : K → DS) (us : List K) : Led K := us.flatMap fun k => [(Y.dA k, .dom (Y.dxA k) (D k).xs), (Y.hlA k, .lst (D k).hs), (Y.slA k, .lst (D k).st)]
theorem value_map {f : K → Addr} {keys : List K} : ∀ {k : K}, k ∈ keys → valueAt (keys.map fun k => (k, Value.ref (f k))) k = some (.ref (f k)) := by
  intro k hk
  unfold valueAt
  induction keys with
  | nil => cases hk
  | cons a l ih =>
    rw [List.map_cons, List.find?_cons]
    by_cases e : a = k
    · subst e; simp
    · simp only [e, decide_false]
      rcases List.mem_cons.mp hk with q | q
      · exact absurd q.symm e
      · exact ih q
theorem DL_perm {Y : Lay K} {D : K → DS} : ∀ {us vs : List K}, us.Perm vs → (DL Y D us).Perm (DL Y D vs) := fun p => List.Perm.flatMap_right _ p
theorem DL_congr {Y : Lay K} {D D' : K → DS} {us : List K} (h : ∀ k ∈ us, D k = D' k) : DL Y D us = DL Y D' us := by
  unfold DL
  induction us with
  | nil => rfl
  | cons k us ih => rw [List.flatMap_cons, List.flatMap_cons, h k (.head _), ih fun k hk => h k (.tail _ hk)]
theorem DL_mem {Y : Lay K} {D : K → DS} {us : List K} {k : K} (hk : k ∈ us) : (Y.dA k, Kd.dom (Y.dxA k) (D k).xs) ∈ DL Y D us := List.mem_flatMap.mpr ⟨k, hk, .head _⟩

abbrev ents (Y : Lay K) (x : K) (d : DS) : Led K := [(Y.dA x, .dom (Y.dxA x) d.xs), (Y.hlA x, .lst d.hs), (Y.slA x, .lst d.st)]
def setD (D : K → DS) (x : K) (d : DS) : K → DS := fun y => if y = x then d else D y
theorem DL_erase {Y : Lay K} {D : K → DS} {us : List K} {x : K} (hx : x ∈ us) : (DL Y D us).Perm (ents Y x (D x) ++ DL Y D (us.erase x)) := DL_perm (List.perm_cons_erase hx)
theorem DL_set {Y : Lay K} {D : K → DS} {us : List K} {x : K} {d : DS} (hx : x ∈ us) (hn : us.Nodup) : (DL Y (setD D x d) us).Perm (ents Y x d ++ DL Y D (us.erase x)) := by
  refine (DL_erase hx).trans ?_
  have e1 : setD D x d x = d := by unfold setD; rw [if_pos rfl]
  have e2 : DL Y (setD D x d) (us.erase x) = DL Y D (us.erase x) := DL_congr fun k hk => by
    unfold setD
    rw [if_neg]
    rintro rfl
    exact (List.Nodup.not_mem_erase hn) hk
  rw [e1, e2]
theorem St.atDom {Y : Lay K} {D : K → DS} {us : List K} {x : K} {pre rest : Led K} (H : St knd g R L vs (pre ++ (DL Y D us ++ rest)) s) (hx : x ∈ us) : St knd g R L vs (ents Y x (D x) ++ (pre ++ (DL Y D (us.erase x) ++ rest))) s :=
  H.perm (by
    rw [← List.append_assoc (ents Y x (D x)), ← List.append_assoc pre]
    refine (List.perm_append_comm.append_right _).trans ?_
    rw [List.append_assoc, List.append_assoc, ← List.append_assoc (ents Y x (D x))]
    exact ((DL_erase hx).symm.append_right _).append_left _)
theorem St.backDom {Y : Lay K} {D : K → DS} {us : List K} {x : K} {d : DS} {pre rest : Led K} (hn : us.Nodup) (hx : x ∈ us) (H : St knd g R L vs (ents Y x d ++ (pre ++ (DL Y D (us.erase x) ++ rest))) s) : St knd g R L vs (pre ++ (DL Y (setD D x d) us ++ rest)) s :=
  H.perm (by
    rw [← List.append_assoc (ents Y x d)]
    refine List.Perm.trans ?_ (List.perm_append_comm.append_right _)
    rw [List.append_assoc, ← List.append_assoc (ents Y x d)]
    exact ((DL_set hx hn).append_right _).append_left _)
/-- what the search keeps true -/
structure Inv0 (Y : Lay K) (dom : K → List Int) (cons : List (Con K)) (kvs : List (K × Value)) (us : List K) (D : K → DS) : Prop where
  nd : (kvs.map (·.1)).Nodup
  sub : ∀ p ∈ kvs, p.1 ∈ Y.keys
  vints : ∀ p ∈ kvs, ∃ i t, p.2 = Value.int i t ∧ i ∈ dom p.1
  un : us.Nodup
  usub : ∀ k ∈ us, k ∈ Y.keys
  uass : ∀ k ∈ Y.keys, (k ∈ us ↔ valueAt kvs k = none)
  dints : ∀ k ∈ us, ∀ v ∈ (D k).xs, ∃ i t, v = Value.int i t ∧ i ∈ dom k
  dnd : ∀ k ∈ us, ((D k).xs.map vInt).Nodup
  rem : ∀ k ∈ us, ∀ x ∈ dom k, x ∉ (D k).xs.map vInt → ∀ v, vInt v = x → solsOf Y.keys dom cons (kvs ++ [(k, v)]) = []
  z1 : ∀ k ∈ us, (D k).xs.length + (D k).hs.length ≤ 90
  z2 : ∀ k ∈ us, (D k).st.length + us.length ≤ 90
structure Inv (Y : Lay K) (dom : K → List Int) (cons : List (Con K)) (kvs : List (K × Value)) (us : List K) (D : K → DS) : Prop extends Inv0 Y dom cons kvs us D where
  chk : ∀ c ∈ cons, (∀ k ∈ c.1, (valueAt kvs k).isSome = true) → c.2 (c.1.map (valK kvs)) = true
/-- what stays as it is -/
structure Stat (Y : Lay K) (dom : K → List Int) (cons : List (Con K)) : Prop where
  dn : ∀ k, (dom k).Nodup
  c1 : ∀ k ∈ Y.keys, ∀ C ∈ Y.vcons k, (C.ks, C.P) ∈ cons
  c2 : ∀ c ∈ cons, ∀ k ∈ c.1, ∃ C ∈ Y.vcons k, (C.ks, C.P) = c
  c3 : ∀ c ∈ cons, c.1.Nodup ∧ ∀ k ∈ c.1, k ∈ Y.keys
def Full (keys : List K) (kvs : List (K × Value)) : Prop := (kvs.map (·.1)).Perm keys ∧ ∀ p ∈ kvs, ∃ i t, p.2 = Value.int i t
/-- the end of a search -/
def RecPost (knd : KeyKind prog w K) (Y : Lay K) (dom : K → List Int) (cons : List (Con K)) (s : Shared) (aa so : Addr) (kvs : List (K × Value)) (sols : List Value) (us : List K) (D : K → DS) (s' : Shared) : Prop :=
  ∃ (D' : K → DS) (new : List (Addr × List (K × Value))),
    Eff knd s (aa :: so :: (DL Y D us).map (·.1)) ((aa, .dct kvs) :: (so, .lst (sols ++ new.map fun p => .ref p.1)) :: (DL Y D' us ++ new.map fun p => (p.1, .dct p.2))) s' ∧
    (∀ k ∈ us, (D' k).hs = (D k).hs ∧ (D' k).st = (D k).st ∧ (D' k).xs.Perm (D k).xs) ∧
    (new.map fun p => tupOf Y.keys p.2).Perm (solsOf Y.keys dom cons kvs) ∧ ∀ p ∈ new, Full Y.keys p.2
theorem valueAt_mem {kvs : List (K × Value)} {k : K} {v : Value} (h : valueAt kvs k = some v) : (k, v) ∈ kvs := by
  unfold valueAt at h
  obtain ⟨p, hp, e⟩ := Option.map_eq_some_iff.mp h
  have h1 := List.mem_of_find?_eq_some hp
  have h2 := List.find?_some hp
  have e1 : p.1 = k := by simpa using h2
  rw [← e1, ← e]; exact h1
theorem valueAt_some {kvs : List (K × Value)} {k : K} : (valueAt kvs k).isSome = true ↔ k ∈ kvs.map (·.1) := by
  unfold valueAt
  rw [Option.isSome_map, List.find?_isSome]
  constructor
  · rintro ⟨p, hp, e⟩; exact List.mem_map.mpr ⟨p, hp, by simpa using e⟩
  · intro h; obtain ⟨p, hp, e⟩ := List.mem_map.mp h; exact ⟨p, hp, by simpa using e⟩
theorem Inv0.hints {Y : Lay K} {dom cons kvs us D} (I : Inv0 Y dom cons kvs us D) : ∀ k v, valueAt kvs k = some v → ∃ i t, v = Value.int i t := fun k v h =>
  let ⟨i, t, e, _⟩ := I.vints _ (valueAt_mem h); ⟨i, t, e⟩
theorem Inv.hints {Y : Lay K} {dom cons kvs us D} (I : Inv Y dom cons kvs us D) : ∀ k v, valueAt kvs k = some v → ∃ i t, v = Value.int i t := fun k v h =>
  let ⟨i, t, e, _⟩ := I.vints _ (valueAt_mem h); ⟨i, t, e⟩
/-- all is assigned -/
theorem Inv.leaf {Y : Lay K} {dom cons kvs us D} (I : Inv Y dom cons kvs us D) (T : Stat Y dom cons) (hk : Y.keys.Nodup) (hall : ∀ k ∈ Y.keys, (valueAt kvs k).isSome = true) :
    (solsOf Y.keys dom cons kvs).Perm [tupOf Y.keys kvs] ∧ Full Y.keys kvs ∧ us = [] := by
  refine ⟨sols_full hk T.dn I.nd I.sub hall (fun k hkm => ?_) fun c hc => ⟨(T.c3 c hc).2, I.chk c hc fun k hk' => hall k ((T.c3 c hc).2 k hk')⟩, ⟨perm_of_mem I.nd hk fun k => ⟨fun h => ?_, fun h => valueAt_some.mp (hall k h)⟩, fun p hp => let ⟨i, t, e, _⟩ := I.vints p hp; ⟨i, t, e⟩⟩, ?_⟩
  · have := hall k hkm
    cases q : valueAt kvs k with
    | none => rw [q] at this; cases this
    | some v =>
      obtain ⟨i, t, e, hi⟩ := I.vints _ (valueAt_mem q)
      dsimp only at e hi
      unfold valK; rw [q, e]; exact hi
  · obtain ⟨p, hp, rfl⟩ := List.mem_map.mp h; exact I.sub p hp
  · cases us with
    | nil => rfl
    | cons u us =>
      have h1 := (I.uass u (I.usub u (.head _))).mp (.head _)
      have h2 := hall u (I.usub u (.head _))
      rw [h1] at h2; cases h2
theorem tTup {value slice : Expr} {items : List Value} {i : Int} {t : Tok} {j : Nat} {Q : Value → Shared → Prop} (T : Has knd s.heap a (.tup items)) (hlo : -1000 ≤ i) (hhi : i < 1000) (hj : seqIndex? i items.length = some j) (hv : items[j]? = some v) (h : Q v s) :
    wpAny (model prog w) A (subscriptTail value slice (.ref a) (.int i t)) Q E s :=
  tailOf T.tupI.typeIs slot_tuple_getitem.lookup (getItem_tuple T.tupI (by omega) (by omega) (by simpa using hj) (by simpa using hv) h)
theorem tTupLast {value slice : Expr} {v1 v2 : Value} {i : Int} {t : Tok} {Q : Value → Shared → Prop} (H : St knd g R L vs l s) (T : Has knd s.heap a (.tup [v1, v2, v])) (hi : i = -1) (h : Q v s) :
    wpAny (model prog w) A (subscriptTail value slice (.ref a) (.int i t)) Q E s :=
  tTup T (by omega) (by omega) (j := 2) (by subst hi; rfl) rfl h
end
theorem MethodP_ {M : Model} {A : Around} {E : Value → Shared → Prop} {s : Shared} {env : Env} {x name : Str} {xp apos pos : Pos} {Q : Value → Shared → Prop} (hp : (apos.endLine == pos.line) = true)
    (h : wpAny M A (eval (.Name x xp) env) (fun ov s₁ => wpAny M A (getMethod ov name (do return (← importBound (.Name x xp) env).getD true)) (fun fx s₂ => wpAny M A (callWith pos fx.1 fx.2 (backTo pos (starEach [] env)) []) Q E s₂) E s₁) E s) :
    wpAny M A (eval (.Call (.Attribute (.Name x xp) name apos) [] [] pos) env) Q E s := by
  refine MethodCall_ h ?_
  show (do
    let ov ← eval (.Name x xp) env
    standAt apos.atName
    let (f, first) ← holding [ov] (getMethod ov name (do return (← importBound (.Name x xp) env).getD true))
    let callPos ← (if !true || apos.endLine == pos.line then pure pos else _)
    callWith callPos f first (backTo pos (starEach [] env)) []) = _
  rw [hp]
  rfl
end Csp
end
section
open PySem PySem.W PySem.Calls PyProof.Rows
set_option Elab.async false
set_option maxRecDepth 100000
set_option maxHeartbeats 400000
set_option linter.unusedVariables false
set_option linter.unusedSectionVars false
namespace Csp
local macro_rules | `(tactic| walk_at "mem") => `(tactic| first | (with_reducible assumption) | ((repeat (first | (with_reducible exact List.mem_cons_self) | (with_reducible refine' List.mem_cons_of_mem _ ?_) | (with_reducible assumption) | (with_reducible exact List.mem_append_left _ (by assumption)) | (with_reducible exact List.mem_append_left _ (DL_mem (by assumption))) | (with_reducible refine' List.mem_append_right _ ?_) | (with_reducible exact DL_mem (by assumption)))); done))
local macro_rules | `(tactic| walk_at "tb") => `(tactic| first | ((repeat (first | (with_reducible exact List.mem_cons_self) | (with_reducible refine' List.mem_cons_of_mem _ ?_))); done) | (with_reducible assumption))
local macro_rules | `(tactic| walk_at "rm") => `(tactic| ((repeat (first | (with_reducible assumption) | (with_reducible exact Rm.nil) | (with_reducible apply Rm.hit) | ((with_reducible apply Rm.miss); (focus decide +kernel)))); done))
local macro_rules | `(tactic| walk_at "up") => `(tactic| ((repeat (first | (with_reducible exact Up.head) | (with_reducible apply Up.tail) | (with_reducible apply Up.left))); done))
local macro_rules | `(tactic| walk_at "sub") => `(tactic| first | ((repeat (first | (with_reducible exact List.Sublist.refl _) | (with_reducible refine' List.Sublist.cons_cons _ ?_) | (with_reducible refine' List.Sublist.cons _ ?_))); done) | walk_at "sub1")
local macro_rules | `(tactic| walk_at "sub1") => `(tactic| first | (with_reducible exact List.Sublist.refl _) | ((with_reducible refine' List.Sublist.cons_cons _ ?_); walk_at "sub1") | ((with_reducible refine' List.Sublist.cons _ ?_); walk_at "sub1"))
local macro_rules | `(tactic| walk_at "vsub") => `(tactic| ((repeat (first | (with_reducible exact VSub.nil) | (focus ((with_reducible refine' VSub.cons ?_ ?_); rotate_right 2; (next => first | ((repeat (first | (with_reducible exact List.mem_cons_self) | (with_reducible refine' List.mem_cons_of_mem _ ?_))); done) | walk_at "mem"))))); done))
local macro_rules | `(tactic| walk_at "end") => `(tactic| ((try dsimp only [oneIt, List.cons_append, List.nil_append]); (with_reducible refine' St.vsub (by assumption) ?hv ?hl); (case hv => walk_at "vsub"); (case hl => walk_at "sub")))
local macro_rules | `(tactic| walk_at "has") => `(tactic| first | (with_reducible assumption) | (focus ((with_reducible refine' St.has (by assumption) ?_); rotate_right 1; (first | ((repeat (first | (with_reducible exact List.mem_cons_self) | (with_reducible refine' List.mem_cons_of_mem _ ?_))); done) | walk_at "mem"); done)) | walk_at "has1")
local macro_rules | `(tactic| walk_at "has1") => `(tactic| first
  | (with_reducible assumption)
  | ((with_reducible refine' St.has (by assumption) ?m); (case m => walk_at "mem"))
  | ((with_reducible refine' St.base (by assumption) ?m); (case m => (with_reducible assumption)))
  | ((with_reducible refine' Has.ofRaw (by assumption) ?m); (case m => ((with_reducible refine' St.has (by assumption) ?m2); (case m2 => walk_at "mem")))))
local macro_rules | `(tactic| walk_at "nmod") => `(tactic| first | (with_reducible assumption) | ((with_reducible refine' St.notMod (by assumption) ?m); (case m => walk_at "mem")))
local macro_rules | `(tactic| walk_at "key") => `(tactic| first | (with_reducible assumption))
local macro_rules | `(tactic| walk_at "nm") => `(tactic| first
  | (focus ((with_reducible refine' eL (by assumption) (by assumption) ?_ ?_ ?_); rotate_right 3; (next => (first | ((repeat (first | (with_reducible exact List.mem_cons_self) | (with_reducible refine' List.mem_cons_of_mem _ ?_))); done) | (with_reducible assumption))); (next => (first | ((repeat (first | (with_reducible exact List.mem_cons_self) | (with_reducible refine' List.mem_cons_of_mem _ ?_))); done) | walk_at "mem"))))
  | (focus ((with_reducible refine' eB' (by assumption) (by assumption) (by assumption) ?_ ?_ ?_); rotate_right 3; (next => (first | ((repeat (first | (with_reducible exact List.mem_cons_self) | (with_reducible refine' List.mem_cons_of_mem _ ?_))); done) | (with_reducible assumption))); (next => (walk_at "isB"))))
  | (focus ((with_reducible refine' eG' (by assumption) (by assumption) (by assumption) ?_ ?_ ?_); rotate_right 3; (next => (first | ((repeat (first | (with_reducible exact List.mem_cons_self) | (with_reducible refine' List.mem_cons_of_mem _ ?_))); done) | (with_reducible assumption))); (next => (walk_at "isG"))))
  | (focus ((with_reducible refine' nL (by assumption) (by assumption) ?_ ?_ ?_); rotate_right 3; (next => (first | ((repeat (first | (with_reducible exact List.mem_cons_self) | (with_reducible refine' List.mem_cons_of_mem _ ?_))); done) | (with_reducible assumption))); (next => (first | ((repeat (first | (with_reducible exact List.mem_cons_self) | (with_reducible refine' List.mem_cons_of_mem _ ?_))); done) | walk_at "mem"))))
  | (focus ((with_reducible refine' nB (by assumption) (by assumption) (by assumption) ?_ ?_ ?_); rotate_right 3; (next => (first | ((repeat (first | (with_reducible exact List.mem_cons_self) | (with_reducible refine' List.mem_cons_of_mem _ ?_))); done) | (with_reducible assumption))); (next => (walk_at "isB"))))
  | (focus ((with_reducible refine' nG (by assumption) (by assumption) (by assumption) ?_ ?_ ?_); rotate_right 3; (next => (first | ((repeat (first | (with_reducible exact List.mem_cons_self) | (with_reducible refine' List.mem_cons_of_mem _ ?_))); done) | (with_reducible assumption))); (next => (walk_at "isG"))))
  | (focus ((with_reducible refine' nC (by assumption) (by assumption) ?_ ?_ ?_ ?_); rotate_right 4; rotate_left 1; (next => (first | ((repeat (first | (with_reducible exact List.mem_cons_self) | (with_reducible refine' List.mem_cons_of_mem _ ?_))); done) | (with_reducible assumption))); rotate_right 1; rotate_left 1; (next => (first | (with_reducible assumption) | rfl)); rotate_right 1; (next => (walk_at "has"))))
  | (focus ((with_reducible refine' nF (by assumption) (by assumption) ?_ ?_ ?_ ?_ ?_); rotate_right 5; rotate_left 1; (next => (first | ((repeat (first | (with_reducible exact List.mem_cons_self) | (with_reducible refine' List.mem_cons_of_mem _ ?_))); done) | (with_reducible assumption))); rotate_right 1; rotate_left 1; (next => rfl); rotate_right 1; rotate_left 1; (next => rfl); rotate_right 1; (next => (walk_at "has"))))
  | (focus ((with_reducible refine' eC (by assumption) (by assumption) ?_ ?_ ?_ ?_); rotate_right 4; (next => (first | ((repeat (first | (with_reducible exact List.mem_cons_self) | (with_reducible refine' List.mem_cons_of_mem _ ?_))); done) | (with_reducible assumption))); (next => rfl); (next => (first | ((repeat (first | (with_reducible exact List.mem_cons_self) | (with_reducible refine' List.mem_cons_of_mem _ ?_))); done) | walk_at "mem")))))
local macro_rules | `(tactic| walk_at "st") => `(tactic| first
  | (focus ((with_reducible refine' sL (by assumption) (by assumption) ?_ ?_ ?_); rotate_right 3; (next => (first | ((repeat (first | (with_reducible exact List.mem_cons_self) | (with_reducible refine' List.mem_cons_of_mem _ ?_))); done) | (with_reducible assumption))); (next => (walk_at "rm")); intro _ _))
  | (focus ((with_reducible refine' nS (by assumption) (by assumption) ?_ ?_ ?_); rotate_right 3; (next => (first | ((repeat (first | (with_reducible exact List.mem_cons_self) | (with_reducible refine' List.mem_cons_of_mem _ ?_))); done) | (with_reducible assumption))); (next => (walk_at "rm")); intro _ _))
  | (focus ((with_reducible refine' sC (by assumption) (by assumption) ?_ ?_ ?_ ?_); rotate_right 4; (next => (first | ((repeat (first | (with_reducible exact List.mem_cons_self) | (with_reducible refine' List.mem_cons_of_mem _ ?_))); done) | (with_reducible assumption))); (next => rfl); (next => (walk_at "up")); intro _ _)))
local macro_rules | `(tactic| walk_at "size") => `(tactic| first | assumption | omega | (simp only [List.length_append, List.length_cons, List.length_nil, List.length_take, List.length_drop]; omega))
local macro_rules | `(tactic| walk_at "op") => `(tactic| fail)
local macro_rules | `(tactic| walk_at "gcall") => `(tactic| first
  | (focus ((with_reducible refine' cDictGet (by assumption) ?_ ?_ ?_ ?_); rotate_right 4; (next => (walk_at "has")); (next => (walk_at "nmod")); (next => (with_reducible assumption)); intro _ _))
  | (focus ((with_reducible refine' cDictCopy (by assumption) ?_ ?_ ?_ ?_); rotate_right 4; (next => (walk_at "has")); (next => (walk_at "nmod")); (next => (walk_at "size")); intro _ _ _))
  | (focus ((with_reducible refine' cDictValues (by assumption) ?_ ?_ ?_); rotate_right 3; (next => (walk_at "has")); (next => (walk_at "nmod")); intro _ _ _))
  | (focus ((with_reducible refine' cListLen (by assumption) ?_ ?_ ?_); rotate_right 3; (next => (walk_at "has")); (next => (walk_at "size")); intro _ _ _))
  | (focus ((with_reducible refine' cDictLen (by assumption) ?_ ?_ ?_ ?_); rotate_right 4; (next => (walk_at "has")); (next => (walk_at "nmod")); (next => (walk_at "size")); intro _ _ _))
  | (focus ((with_reducible refine' cDomLen (by assumption) (by assumption) ?_ ?_ ?_); rotate_right 3; (next => (walk_at "has")); (next => (walk_at "size")); intro _ _ _))
  | (focus ((with_reducible refine' uAppend (by assumption) ?_ ?_ ?_); rotate_right 3; (next => (walk_at "up")); (next => (walk_at "size")); intro _ _))
  | (focus ((with_reducible refine' uPop (by assumption) ?_ ?_ ?_); rotate_right 3; (next => (walk_at "up")); (next => (walk_at "size")); intro _ _))
  | (focus ((with_reducible refine' uDomExtend (by assumption) (by assumption) ?_ ?_ ?_ ?_); rotate_right 4; (next => (walk_at "up")); (next => (walk_at "has")); (next => (walk_at "size")); intro _ _)))
local macro_rules | `(tactic| walk_at "ggetMethod") => `(tactic| first
  | (focus ((with_reducible refine' mDict (by assumption) ?_ F.slot_dict_get F.type_dict_get ?_); rotate_right 2; (next => (walk_at "has"))))
  | (focus ((with_reducible refine' mDict (by assumption) ?_ F.slot_dict_copy F.type_dict_copy ?_); rotate_right 2; (next => (walk_at "has"))))
  | (focus ((with_reducible refine' mDict (by assumption) ?_ F.slot_dict_values F.type_dict_values ?_); rotate_right 2; (next => (walk_at "has"))))
  | (focus ((with_reducible refine' mInst (by assumption) (by assumption) ?_ ?_ ?_ ?_ ?_ ?_ ?_); rotate_right 7; (next => (walk_at "has")); (next => (walk_at "has")); (next => (walk_at "isC")); (next => (walk_at "isC")); (next => (walk_at "isC")); (next => rfl)))
  | (focus ((with_reducible refine' mOwn (by assumption) (by assumption) ?_ ?_ ?_ ?_ ?_ ?_ ?_ ?_); rotate_right 8; (next => (walk_at "has")); (next => (walk_at "has")); (next => (walk_at "isC")); (next => (walk_at "isC")); (next => (walk_at "isC")); (next => rfl); (next => rfl); intro _ _))
  | (focus ((with_reducible refine' mLstH (by assumption) ?_ F.slot_list_append F.type_list_append ?_); rotate_right 2; (next => (walk_at "has"))))
  | (focus ((with_reducible refine' mLstH (by assumption) ?_ F.slot_list_pop F.type_list_pop ?_); rotate_right 2; (next => (walk_at "has"))))
  | (focus ((with_reducible refine' mLstH (by assumption) ?_ F.slot_list_sort F.type_list_sort ?_); rotate_right 2; (next => (walk_at "has"))))
  | (focus ((with_reducible refine' mDomBi (by assumption) (by assumption) ?_ ?_ ?_ ?_ ?_ ?_ ?_); rotate_right 7; (next => (walk_at "has")); (next => (walk_at "has")); (next => rfl); (next => (walk_at "isD")); (next => (walk_at "isD")); (next => (first | exact .inl rfl | exact .inr rfl)))))
local macro_rules | `(tactic| walk_at "ggetAttr") => `(tactic| first
  | (focus ((with_reducible refine' eInstAttr (by assumption) (by assumption) ?_ ?_ ?_ ?_ ?_ ?_ ?_); rotate_right 7; (next => (walk_at "has")); (next => (walk_at "has")); (next => rfl); (next => (walk_at "isC")); (next => (walk_at "isC")); (next => rfl); intro _ _))
  | (focus ((with_reducible refine' eDomAttr (by assumption) (by assumption) ?_ ?_ ?_ ?_ ?_ ?_); rotate_right 6; (next => (walk_at "has")); (next => (walk_at "has")); (next => rfl); (next => (walk_at "isD")); (next => rfl); intro _ _)))
local macro_rules | `(tactic| walk_at "gtruthy") => `(tactic| first
  | (with_reducible refine wpAny_truthy_bool ?_)
  | (with_reducible refine truthy_none ?_)
  | (focus ((with_reducible refine' iDict (by assumption) ?_ ?_ ?_ ?_); rotate_right 4; (next => (walk_at "has")); (next => (walk_at "nmod")); (next => (walk_at "size")); intro _ _))
  | (focus ((with_reducible refine' iDom (by assumption) (by assumption) ?_ ?_ ?_); rotate_right 3; (next => (walk_at "has")); (next => (walk_at "size")); intro _ _))
  | (focus ((with_reducible refine' iList (by assumption) ?_ ?_ ?_); rotate_right 3; (next => (walk_at "has")); (next => (walk_at "size")); intro _ _))
  | (with_reducible refine iTruth ?_))
local macro_rules | `(tactic| walk_at "gcompareOp") => `(tactic| first
  | (focus ((with_reducible refine' dIn (by assumption) ?_ ?_ ?_ ?_); rotate_right 4; rotate_left 2; (next => (with_reducible assumption)); rotate_right 2; (next => (walk_at "has")); (next => (walk_at "nmod")); intro _ _))
  | (focus ((with_reducible refine' dNotIn (by assumption) ?_ ?_ ?_ ?_); rotate_right 4; rotate_left 2; (next => (with_reducible assumption)); rotate_right 2; (next => (walk_at "has")); (next => (walk_at "nmod")); intro _ _))
  | (with_reducible refine wpAny_is_ref_self ?_)
  | (with_reducible refine cmpNe ?_)
  | (with_reducible refine cmpEq ?_))
local macro_rules | `(tactic| walk_at "gsubscriptTail") => `(tactic| first
  | (focus ((with_reducible refine' tDict (by assumption) ?_ ?_ ?_ ?_); rotate_right 4; (next => (walk_at "has")); (next => (with_reducible assumption)); (next => (with_reducible assumption)); intro _ _))
  | (focus ((with_reducible refine' tSliceAll (by assumption) ?_ ?_ ?_ ?_); rotate_right 4; (next => (walk_at "has")); (next => (walk_at "has")); (next => (walk_at "size")); intro _ _ _))
  | (focus ((with_reducible refine' tSliceD (by assumption) (by assumption) ?_ ?_ ?_ ?_); rotate_right 4; (next => (walk_at "has")); (next => (walk_at "has")); (next => (walk_at "size")); intro _ _ _))
  | (focus ((with_reducible refine' tTupLast (by assumption) ?_ ?_ ?_); rotate_right 3; (next => (walk_at "has")); (next => rfl))))
local macro_rules | `(tactic| walk_at "oprest") => `(tactic| first
  | (focus ((with_reducible refine' uDictSet (by assumption) ?_ ?_ ?_ ?_); rotate_right 4; (next => (walk_at "up")); (next => (with_reducible assumption)); (next => (walk_at "size")); intro _ _))
  | (focus ((with_reducible refine' uDictDel (by assumption) ?_ ?_ ?_ ?_ ?_); rotate_right 5; (next => (walk_at "up")); (next => (with_reducible assumption)); (next => (with_reducible assumption)); (next => (walk_at "size")); intro _ _))
  | (focus ((with_reducible refine' uDelAll (by assumption) ?_ ?_ ?_ ?_); rotate_right 4; (next => (walk_at "up")); (next => (walk_at "has")); (next => (walk_at "size")); intro _ _))
  | (focus ((with_reducible refine' iSub (by assumption) ?_); intro _ _ _))
  | (focus ((with_reducible refine' iNeg (by assumption) ?_); intro _ _ _)))
local macro_rules | `(tactic| walk_at "go1") => `(tactic| first
  | ((guard_target = wpAny _ _ (PySem.eval (Expr.Name _ _) _) _ _ _); first
    | (focus ((with_reducible refine' eL (by assumption) (by assumption) ?_ ?_ ?_); rotate_right 3; (next => (first | ((repeat (first | (with_reducible exact List.mem_cons_self) | (with_reducible refine' List.mem_cons_of_mem _ ?_))); done) | (with_reducible assumption))); (next => (first | ((repeat (first | (with_reducible exact List.mem_cons_self) | (with_reducible refine' List.mem_cons_of_mem _ ?_))); done) | walk_at "mem"))))
    | (focus ((with_reducible refine' eB' (by assumption) (by assumption) (by assumption) ?_ ?_ ?_); rotate_right 3; (next => (first | ((repeat (first | (with_reducible exact List.mem_cons_self) | (with_reducible refine' List.mem_cons_of_mem _ ?_))); done) | (with_reducible assumption))); (next => (walk_at "isB"))))
    | (focus ((with_reducible refine' eG' (by assumption) (by assumption) (by assumption) ?_ ?_ ?_); rotate_right 3; (next => (first | ((repeat (first | (with_reducible exact List.mem_cons_self) | (with_reducible refine' List.mem_cons_of_mem _ ?_))); done) | (with_reducible assumption))); (next => (walk_at "isG"))))
    | (focus ((with_reducible refine' nL (by assumption) (by assumption) ?_ ?_ ?_); rotate_right 3; (next => (first | ((repeat (first | (with_reducible exact List.mem_cons_self) | (with_reducible refine' List.mem_cons_of_mem _ ?_))); done) | (with_reducible assumption))); (next => (first | ((repeat (first | (with_reducible exact List.mem_cons_self) | (with_reducible refine' List.mem_cons_of_mem _ ?_))); done) | walk_at "mem"))))
    | (focus ((with_reducible refine' nB (by assumption) (by assumption) (by assumption) ?_ ?_ ?_); rotate_right 3; (next => (first | ((repeat (first | (with_reducible exact List.mem_cons_self) | (with_reducible refine' List.mem_cons_of_mem _ ?_))); done) | (with_reducible assumption))); (next => (walk_at "isB"))))
    | (focus ((with_reducible refine' nG (by assumption) (by assumption) (by assumption) ?_ ?_ ?_); rotate_right 3; (next => (first | ((repeat (first | (with_reducible exact List.mem_cons_self) | (with_reducible refine' List.mem_cons_of_mem _ ?_))); done) | (with_reducible assumption))); (next => (walk_at "isG"))))
    | (focus ((with_reducible refine' nC (by assumption) (by assumption) ?_ ?_ ?_ ?_); rotate_right 4; rotate_left 1; (next => (first | ((repeat (first | (with_reducible exact List.mem_cons_self) | (with_reducible refine' List.mem_cons_of_mem _ ?_))); done) | (with_reducible assumption))); rotate_right 1; rotate_left 1; (next => (first | (with_reducible assumption) | rfl)); rotate_right 1; (next => (walk_at "has"))))
    | (focus ((with_reducible refine' nF (by assumption) (by assumption) ?_ ?_ ?_ ?_ ?_); rotate_right 5; rotate_left 1; (next => (first | ((repeat (first | (with_reducible exact List.mem_cons_self) | (with_reducible refine' List.mem_cons_of_mem _ ?_))); done) | (with_reducible assumption))); rotate_right 1; rotate_left 1; (next => rfl); rotate_right 1; rotate_left 1; (next => rfl); rotate_right 1; (next => (walk_at "has"))))
    | (focus ((with_reducible refine' eC (by assumption) (by assumption) ?_ ?_ ?_ ?_); rotate_right 4; (next => (first | ((repeat (first | (with_reducible exact List.mem_cons_self) | (with_reducible refine' List.mem_cons_of_mem _ ?_))); done) | (with_reducible assumption))); (next => rfl); (next => (first | ((repeat (first | (with_reducible exact List.mem_cons_self) | (with_reducible refine' List.mem_cons_of_mem _ ?_))); done) | walk_at "mem"))))
    | walk_at "op")
  | ((guard_target = wpAny _ _ (PySem.eval _ _) _ _ _); first
    | (with_reducible refine wpAny_BinOp ?_)
    | (with_reducible refine UnaryOp_ ?_)
    | (focus ((with_reducible refine' MethodCall_ ?_ ?_); rotate_right 2; rotate_left 1; (next => rfl); rotate_right 1))
    | (focus ((with_reducible refine' MethodP_ ?_ ?_); rotate_right 2; (next => (with_reducible assumption))))
    | (focus ((with_reducible refine' MethodStar_ ?_ ?_); rotate_right 2; rotate_left 1; (next => rfl); rotate_right 1))
    | (focus ((with_reducible refine Call_ ?_ ?_); rotate_right 2; rotate_left 1; (next => rfl); rotate_right 1))
    | (with_reducible refine Attribute_name ?_)
    | (with_reducible refine Subscript_ ?_)
    | (focus ((with_reducible refine' eInt (by assumption) ?_); intro _ _ _))
    | (focus ((with_reducible refine' eStr (by assumption) ?_); intro _ _ _))
    | (with_reducible refine eBool ?_)
    | (with_reducible refine eNone ?_)
    | (with_reducible refine' eSlice (by assumption) ?_)
    | (focus ((with_reducible refine wpAny_Compare1 ?_ ?_); rotate_right 2; rotate_left 1; (next => (with_unfolding_all rfl)); rotate_right 1))
    | (with_reducible refine List_ ?_)
    | (with_reducible refine Tuple_ ?_)
    | (with_reducible refine BoolOp_one ?_)
    | (with_reducible refine BoolOp_and ?_)
    | (with_reducible refine BoolOp_or ?_)
    | (focus ((with_reducible refine' xComp ?_ ?_ ?_ ?_ ?_); rotate_right 5; rotate_left 1; (next => (intro _; rfl)); rotate_right 1; rotate_left 1; (next => (with_unfolding_all rfl)); rotate_right 1; rotate_left 1; (next => (with_unfolding_all rfl)); rotate_right 1; rotate_left 1; (next => (decide +kernel)); rotate_right 1))
    | (focus ((with_reducible refine' eDictNil (by assumption) ?_); intro _ _ _))
    | walk_at "op")
  | ((guard_target = wpAny _ _ (spliced _) _ _ _); first
    | (focus ((with_reducible refine args_cons ?_ ?_); rotate_right 2; rotate_left 1; (next => rfl); rotate_right 1))
    | (with_reducible refine args_nil ?_)
    | walk_at "op")
  | ((guard_target = wpAny _ _ (callWith _ _ _ _ _) _ _ _); first
    | (focus ((with_reducible refine callBi1 ?_ ?_ ?_); rotate_right 3; rotate_left 1; (next => rfl); rotate_right 1; rotate_left 1; (next => rfl); rotate_right 1))
    | (focus ((with_reducible refine callBi2 ?_ ?_ ?_); rotate_right 3; rotate_left 1; (next => rfl); rotate_right 1; rotate_left 1; (next => rfl); rotate_right 1))
    | (with_reducible refine callBi10 ?_)
    | (focus ((with_reducible refine' callKm1 ?_ ?_ ?_ ?_ ?_); rotate_right 5; (next => (walk_at "isF")); (next => rfl); rotate_left 1; (next => rfl); rotate_right 1; rotate_left 1; (next => rfl); rotate_right 1))
    | (focus ((with_reducible refine' callKf1 ?_ ?_ ?_ ?_ ?_); rotate_right 5; (next => (walk_at "isF")); (next => rfl); rotate_left 1; (next => rfl); rotate_right 1; rotate_left 1; (next => rfl); rotate_right 1))
    | (focus ((with_reducible refine' callKm10 ?_ ?_ (by assumption) (by assumption) ?_); rotate_right 3; (next => (walk_at "isF")); (next => rfl)))
    | (focus ((with_reducible refine callTy2 ?_ ?_ ?_); rotate_right 3; rotate_left 1; (next => rfl); rotate_right 1; rotate_left 1; (next => rfl); rotate_right 1))
    | walk_at "op")
  | ((guard_target = Nx _ _ _ _ _ _ _ _); first
    | (with_reducible refine nx ?_)
    | (with_reducible refine nx_ret ?_)
    | (with_reducible refine nx_brk ?_)
    | (with_reducible refine nx_cont ?_))
  | ((guard_target = wpAny _ _ (storeName _ _ _) _ _ _); first
    | (focus ((with_reducible refine' sL (by assumption) (by assumption) ?_ ?_ ?_); rotate_right 3; (next => (first | ((repeat (first | (with_reducible exact List.mem_cons_self) | (with_reducible refine' List.mem_cons_of_mem _ ?_))); done) | (with_reducible assumption))); (next => (walk_at "rm")); intro _ _))
    | (focus ((with_reducible refine' nS (by assumption) (by assumption) ?_ ?_ ?_); rotate_right 3; (next => (first | ((repeat (first | (with_reducible exact List.mem_cons_self) | (with_reducible refine' List.mem_cons_of_mem _ ?_))); done) | (with_reducible assumption))); (next => (walk_at "rm")); intro _ _))
    | (focus ((with_reducible refine' sC (by assumption) (by assumption) ?_ ?_ ?_ ?_); rotate_right 4; (next => (first | ((repeat (first | (with_reducible exact List.mem_cons_self) | (with_reducible refine' List.mem_cons_of_mem _ ?_))); done) | (with_reducible assumption))); (next => rfl); (next => (walk_at "up")); intro _ _)))
  | ((guard_target = wpAny _ _ (exec _ _) _ _ _); first
    | (focus ((with_reducible refine wpAny_Expr_any ?_ ?_ ?_); rotate_right 3; rotate_left 1; (next => (first | rfl | assumption)); rotate_right 1; rotate_left 1; (next => rfl); rotate_right 1))
    | (focus ((with_reducible refine wpAny_Assign_Name ?_ ?_); rotate_right 2; rotate_left 1; (next => rfl); rotate_right 1))
    | (with_reducible refine wpAny_Return_some ?_)
    | (with_reducible refine xIf ?_)
    | (with_reducible refine xDel ?_)
    | (with_reducible refine wpAny_Break ?_)
    | (with_reducible refine wpAny_Return_none ?_)
    | (focus ((with_reducible refine wpAny_Assign_Subscript ?_ ?_); rotate_right 2; rotate_left 1; (next => rfl); rotate_right 1))
    | (focus ((with_reducible refine plainObj_wpAny_Assign_Attribute ?_ ?_); rotate_right 2; rotate_left 1; (next => rfl); rotate_right 1))
    | (focus ((with_reducible refine xFor ?_ ?_); rotate_right 2; rotate_left 1; (next => (intro _; rfl)); rotate_right 1))
    | (focus ((with_reducible refine' xCompA ?_ ?_ ?_ ?_ ?_ ?_); rotate_right 6; rotate_left 1; (next => rfl); rotate_right 1; rotate_left 1; (next => (intro _; rfl)); rotate_right 1; rotate_left 1; (next => (with_unfolding_all rfl)); rotate_right 1; rotate_left 1; (next => (with_unfolding_all rfl)); rotate_right 1; rotate_left 1; (next => (decide +kernel)); rotate_right 1))
    | walk_at "op")
  | ((guard_target = wpAny _ _ (execs _ _) _ _ _); first
    | (with_reducible refine wpAny_execs_nil ?_)
    | (with_reducible refine xs_cons ?_))
  | ((guard_target = wpAny _ _ (PySem.isTrue _ _ _) _ _ _); first
    | (focus ((with_reducible refine isTrue_plain ?_ ?_); rotate_right 2; rotate_left 1; (next => rfl); rotate_right 1))
    | (with_reducible refine isTrue_not ?_)
    | (focus ((with_reducible refine wpAny_isTrue_Compare1 ?_ ?_); rotate_right 2; rotate_left 1; (next => (with_unfolding_all rfl)); rotate_right 1))
    | (with_reducible refine isTrue_and_nil ?_)
    | (with_reducible refine isTrue_or_nil ?_)
    | (with_reducible refine isTrue_and ?_)
    | (with_reducible refine isTrue_or ?_)
    | walk_at "op")
  | ((guard_target = wpAny _ _ (call (Value.builtin _) _) _ _ _); first | walk_at "op" | walk_at "gcall")
  | ((guard_target = wpAny _ _ (getMethod _ _ _) _ _ _); first | walk_at "op" | walk_at "ggetMethod")
  | ((guard_target = wpAny _ _ (getAttr _ _ _) _ _ _); first | walk_at "op" | walk_at "ggetAttr")
  | ((guard_target = wpAny _ _ (truthy _) _ _ _); first | walk_at "op" | walk_at "gtruthy")
  | ((guard_target = wpAny _ _ (compareOp _ _ _) _ _ _); first | walk_at "op" | walk_at "gcompareOp")
  | ((guard_target = wpAny _ _ (subscriptTail _ _ _ _) _ _ _); first | walk_at "op" | walk_at "gsubscriptTail")
  | (with_reducible refine' inX (by assumption) (by assumption) ?_)
  | (focus ((with_reducible refine' eSliceEnd (by assumption) ?_); intro _ _ _))
  | (with_reducible refine evalPart_none_step ?_)
  | (with_reducible refine evalPart_some_step ?_)
  | (with_reducible refine for_brk ?_)
  | (with_reducible refine for_ret ?_)
  | (with_reducible refine iNot ?_)
  | (with_reducible refine wpAny_tests_nil ?_)
  | (with_reducible refine wpAny_tests_one ?_)
  | (with_reducible refine ifT (Eq.refl true) ?_)
  | (with_reducible refine ifF (Eq.refl false) ?_)
  | (with_reducible refine wpAny_assign_Name ?_)
  | (with_reducible refine assignInOrder_cons ?_)
  | (with_reducible refine assignInOrder_nil ?_)
  | (focus ((with_reducible refine' uTuple (by assumption) ?_ ?_); rotate_right 2; (next => (walk_at "size")); intro _ _ _))
  | (focus ((with_reducible refine' uList (by assumption) ?_ ?_); rotate_right 2; (next => (walk_at "size")); intro _ _ _))
  | walk_at "op"
  | walk_at "oprest")
local macro_rules | `(tactic| walk_at "go") => `(tactic| (repeat (first
  | ((guard_target = wpAny _ _ (PySem.eval (Expr.Name _ _) _) _ _ _); first
    | (focus ((with_reducible refine' eL (by assumption) (by assumption) ?_ ?_ ?_); rotate_right 3; (next => (first | ((repeat (first | (with_reducible exact List.mem_cons_self) | (with_reducible refine' List.mem_cons_of_mem _ ?_))); done) | (with_reducible assumption))); (next => (first | ((repeat (first | (with_reducible exact List.mem_cons_self) | (with_reducible refine' List.mem_cons_of_mem _ ?_))); done) | walk_at "mem"))))
    | (focus ((with_reducible refine' eB' (by assumption) (by assumption) (by assumption) ?_ ?_ ?_); rotate_right 3; (next => (first | ((repeat (first | (with_reducible exact List.mem_cons_self) | (with_reducible refine' List.mem_cons_of_mem _ ?_))); done) | (with_reducible assumption))); (next => (walk_at "isB"))))
    | (focus ((with_reducible refine' eG' (by assumption) (by assumption) (by assumption) ?_ ?_ ?_); rotate_right 3; (next => (first | ((repeat (first | (with_reducible exact List.mem_cons_self) | (with_reducible refine' List.mem_cons_of_mem _ ?_))); done) | (with_reducible assumption))); (next => (walk_at "isG"))))
    | (focus ((with_reducible refine' nL (by assumption) (by assumption) ?_ ?_ ?_); rotate_right 3; (next => (first | ((repeat (first | (with_reducible exact List.mem_cons_self) | (with_reducible refine' List.mem_cons_of_mem _ ?_))); done) | (with_reducible assumption))); (next => (first | ((repeat (first | (with_reducible exact List.mem_cons_self) | (with_reducible refine' List.mem_cons_of_mem _ ?_))); done) | walk_at "mem"))))
    | (focus ((with_reducible refine' nB (by assumption) (by assumption) (by assumption) ?_ ?_ ?_); rotate_right 3; (next => (first | ((repeat (first | (with_reducible exact List.mem_cons_self) | (with_reducible refine' List.mem_cons_of_mem _ ?_))); done) | (with_reducible assumption))); (next => (walk_at "isB"))))
    | (focus ((with_reducible refine' nG (by assumption) (by assumption) (by assumption) ?_ ?_ ?_); rotate_right 3; (next => (first | ((repeat (first | (with_reducible exact List.mem_cons_self) | (with_reducible refine' List.mem_cons_of_mem _ ?_))); done) | (with_reducible assumption))); (next => (walk_at "isG"))))
    | (focus ((with_reducible refine' nC (by assumption) (by assumption) ?_ ?_ ?_ ?_); rotate_right 4; rotate_left 1; (next => (first | ((repeat (first | (with_reducible exact List.mem_cons_self) | (with_reducible refine' List.mem_cons_of_mem _ ?_))); done) | (with_reducible assumption))); rotate_right 1; rotate_left 1; (next => (first | (with_reducible assumption) | rfl)); rotate_right 1; (next => (walk_at "has"))))
    | (focus ((with_reducible refine' nF (by assumption) (by assumption) ?_ ?_ ?_ ?_ ?_); rotate_right 5; rotate_left 1; (next => (first | ((repeat (first | (with_reducible exact List.mem_cons_self) | (with_reducible refine' List.mem_cons_of_mem _ ?_))); done) | (with_reducible assumption))); rotate_right 1; rotate_left 1; (next => rfl); rotate_right 1; rotate_left 1; (next => rfl); rotate_right 1; (next => (walk_at "has"))))
    | (focus ((with_reducible refine' eC (by assumption) (by assumption) ?_ ?_ ?_ ?_); rotate_right 4; (next => (first | ((repeat (first | (with_reducible exact List.mem_cons_self) | (with_reducible refine' List.mem_cons_of_mem _ ?_))); done) | (with_reducible assumption))); (next => rfl); (next => (first | ((repeat (first | (with_reducible exact List.mem_cons_self) | (with_reducible refine' List.mem_cons_of_mem _ ?_))); done) | walk_at "mem"))))
    | walk_at "op")
  | ((guard_target = wpAny _ _ (PySem.eval _ _) _ _ _); first
    | (with_reducible refine wpAny_BinOp ?_)
    | (with_reducible refine UnaryOp_ ?_)
    | (focus ((with_reducible refine' MethodCall_ ?_ ?_); rotate_right 2; rotate_left 1; (next => rfl); rotate_right 1))
    | (focus ((with_reducible refine' MethodP_ ?_ ?_); rotate_right 2; (next => (with_reducible assumption))))
    | (focus ((with_reducible refine' MethodStar_ ?_ ?_); rotate_right 2; rotate_left 1; (next => rfl); rotate_right 1))
    | (focus ((with_reducible refine Call_ ?_ ?_); rotate_right 2; rotate_left 1; (next => rfl); rotate_right 1))
    | (with_reducible refine Attribute_name ?_)
    | (with_reducible refine Subscript_ ?_)
    | (focus ((with_reducible refine' eInt (by assumption) ?_); intro _ _ _))
    | (focus ((with_reducible refine' eStr (by assumption) ?_); intro _ _ _))
    | (with_reducible refine eBool ?_)
    | (with_reducible refine eNone ?_)
    | (with_reducible refine' eSlice (by assumption) ?_)
    | (focus ((with_reducible refine wpAny_Compare1 ?_ ?_); rotate_right 2; rotate_left 1; (next => (with_unfolding_all rfl)); rotate_right 1))
    | (with_reducible refine List_ ?_)
    | (with_reducible refine Tuple_ ?_)
    | (with_reducible refine BoolOp_one ?_)
    | (with_reducible refine BoolOp_and ?_)
    | (with_reducible refine BoolOp_or ?_)
    | (focus ((with_reducible refine' xComp ?_ ?_ ?_ ?_ ?_); rotate_right 5; rotate_left 1; (next => (intro _; rfl)); rotate_right 1; rotate_left 1; (next => (with_unfolding_all rfl)); rotate_right 1; rotate_left 1; (next => (with_unfolding_all rfl)); rotate_right 1; rotate_left 1; (next => (decide +kernel)); rotate_right 1))
    | (focus ((with_reducible refine' eDictNil (by assumption) ?_); intro _ _ _))
    | walk_at "op")
  | ((guard_target = wpAny _ _ (spliced _) _ _ _); first
    | (focus ((with_reducible refine args_cons ?_ ?_); rotate_right 2; rotate_left 1; (next => rfl); rotate_right 1))
    | (with_reducible refine args_nil ?_)
    | walk_at "op")
  | ((guard_target = wpAny _ _ (callWith _ _ _ _ _) _ _ _); first
    | (focus ((with_reducible refine callBi1 ?_ ?_ ?_); rotate_right 3; rotate_left 1; (next => rfl); rotate_right 1; rotate_left 1; (next => rfl); rotate_right 1))
    | (focus ((with_reducible refine callBi2 ?_ ?_ ?_); rotate_right 3; rotate_left 1; (next => rfl); rotate_right 1; rotate_left 1; (next => rfl); rotate_right 1))
    | (with_reducible refine callBi10 ?_)
    | (focus ((with_reducible refine' callKm1 ?_ ?_ ?_ ?_ ?_); rotate_right 5; (next => (walk_at "isF")); (next => rfl); rotate_left 1; (next => rfl); rotate_right 1; rotate_left 1; (next => rfl); rotate_right 1))
    | (focus ((with_reducible refine' callKf1 ?_ ?_ ?_ ?_ ?_); rotate_right 5; (next => (walk_at "isF")); (next => rfl); rotate_left 1; (next => rfl); rotate_right 1; rotate_left 1; (next => rfl); rotate_right 1))
    | (focus ((with_reducible refine' callKm10 ?_ ?_ (by assumption) (by assumption) ?_); rotate_right 3; (next => (walk_at "isF")); (next => rfl)))
    | (focus ((with_reducible refine callTy2 ?_ ?_ ?_); rotate_right 3; rotate_left 1; (next => rfl); rotate_right 1; rotate_left 1; (next => rfl); rotate_right 1))
    | walk_at "op")
  | ((guard_target = Nx _ _ _ _ _ _ _ _); first
    | (with_reducible refine nx ?_)
    | (with_reducible refine nx_ret ?_)
    | (with_reducible refine nx_brk ?_)
    | (with_reducible refine nx_cont ?_))
  | ((guard_target = wpAny _ _ (storeName _ _ _) _ _ _); first
    | (focus ((with_reducible refine' sL (by assumption) (by assumption) ?_ ?_ ?_); rotate_right 3; (next => (first | ((repeat (first | (with_reducible exact List.mem_cons_self) | (with_reducible refine' List.mem_cons_of_mem _ ?_))); done) | (with_reducible assumption))); (next => (walk_at "rm")); intro _ _))
    | (focus ((with_reducible refine' nS (by assumption) (by assumption) ?_ ?_ ?_); rotate_right 3; (next => (first | ((repeat (first | (with_reducible exact List.mem_cons_self) | (with_reducible refine' List.mem_cons_of_mem _ ?_))); done) | (with_reducible assumption))); (next => (walk_at "rm")); intro _ _))
    | (focus ((with_reducible refine' sC (by assumption) (by assumption) ?_ ?_ ?_ ?_); rotate_right 4; (next => (first | ((repeat (first | (with_reducible exact List.mem_cons_self) | (with_reducible refine' List.mem_cons_of_mem _ ?_))); done) | (with_reducible assumption))); (next => rfl); (next => (walk_at "up")); intro _ _)))
  | ((guard_target = wpAny _ _ (exec _ _) _ _ _); first
    | (focus ((with_reducible refine wpAny_Expr_any ?_ ?_ ?_); rotate_right 3; rotate_left 1; (next => (first | rfl | assumption)); rotate_right 1; rotate_left 1; (next => rfl); rotate_right 1))
    | (focus ((with_reducible refine wpAny_Assign_Name ?_ ?_); rotate_right 2; rotate_left 1; (next => rfl); rotate_right 1))
    | (with_reducible refine wpAny_Return_some ?_)
    | (with_reducible refine xIf ?_)
    | (with_reducible refine xDel ?_)
    | (with_reducible refine wpAny_Break ?_)
    | (with_reducible refine wpAny_Return_none ?_)
    | (focus ((with_reducible refine wpAny_Assign_Subscript ?_ ?_); rotate_right 2; rotate_left 1; (next => rfl); rotate_right 1))
    | (focus ((with_reducible refine plainObj_wpAny_Assign_Attribute ?_ ?_); rotate_right 2; rotate_left 1; (next => rfl); rotate_right 1))
    | (focus ((with_reducible refine xFor ?_ ?_); rotate_right 2; rotate_left 1; (next => (intro _; rfl)); rotate_right 1))
    | (focus ((with_reducible refine' xCompA ?_ ?_ ?_ ?_ ?_ ?_); rotate_right 6; rotate_left 1; (next => rfl); rotate_right 1; rotate_left 1; (next => (intro _; rfl)); rotate_right 1; rotate_left 1; (next => (with_unfolding_all rfl)); rotate_right 1; rotate_left 1; (next => (with_unfolding_all rfl)); rotate_right 1; rotate_left 1; (next => (decide +kernel)); rotate_right 1))
    | walk_at "op")
  | ((guard_target = wpAny _ _ (execs _ _) _ _ _); first
    | (with_reducible refine wpAny_execs_nil ?_)
    | (with_reducible refine xs_cons ?_))
  | ((guard_target = wpAny _ _ (PySem.isTrue _ _ _) _ _ _); first
    | (focus ((with_reducible refine isTrue_plain ?_ ?_); rotate_right 2; rotate_left 1; (next => rfl); rotate_right 1))
    | (with_reducible refine isTrue_not ?_)
    | (focus ((with_reducible refine wpAny_isTrue_Compare1 ?_ ?_); rotate_right 2; rotate_left 1; (next => (with_unfolding_all rfl)); rotate_right 1))
    | (with_reducible refine isTrue_and_nil ?_)
    | (with_reducible refine isTrue_or_nil ?_)
    | (with_reducible refine isTrue_and ?_)
    | (with_reducible refine isTrue_or ?_)
    | walk_at "op")
  | ((guard_target = wpAny _ _ (call (Value.builtin _) _) _ _ _); first | walk_at "op" | walk_at "gcall")
  | ((guard_target = wpAny _ _ (getMethod _ _ _) _ _ _); first | walk_at "op" | walk_at "ggetMethod")
  | ((guard_target = wpAny _ _ (getAttr _ _ _) _ _ _); first | walk_at "op" | walk_at "ggetAttr")
  | ((guard_target = wpAny _ _ (truthy _) _ _ _); first | walk_at "op" | walk_at "gtruthy")
  | ((guard_target = wpAny _ _ (compareOp _ _ _) _ _ _); first | walk_at "op" | walk_at "gcompareOp")
  | ((guard_target = wpAny _ _ (subscriptTail _ _ _ _) _ _ _); first | walk_at "op" | walk_at "gsubscriptTail")
  | (with_reducible refine' inX (by assumption) (by assumption) ?_)
  | (focus ((with_reducible refine' eSliceEnd (by assumption) ?_); intro _ _ _))
  | (with_reducible refine evalPart_none_step ?_)
  | (with_reducible refine evalPart_some_step ?_)
  | (with_reducible refine for_brk ?_)
  | (with_reducible refine for_ret ?_)
  | (with_reducible refine iNot ?_)
  | (with_reducible refine wpAny_tests_nil ?_)
  | (with_reducible refine wpAny_tests_one ?_)
  | (with_reducible refine ifT (Eq.refl true) ?_)
  | (with_reducible refine ifF (Eq.refl false) ?_)
  | (with_reducible refine wpAny_assign_Name ?_)
  | (with_reducible refine assignInOrder_cons ?_)
  | (with_reducible refine assignInOrder_nil ?_)
  | (focus ((with_reducible refine' uTuple (by assumption) ?_ ?_); rotate_right 2; (next => (walk_at "size")); intro _ _ _))
  | (focus ((with_reducible refine' uList (by assumption) ?_ ?_); rotate_right 2; (next => (walk_at "size")); intro _ _ _))
  | walk_at "op"
  | walk_at "oprest")))
local macro_rules | `(tactic| walk_at "pc") => `(tactic| exact perm_of_S fun S f h0 hc ha => by (simp only [ha, hc, h0, List.cons_append, List.nil_append, Nat.add_zero, Nat.zero_add]; first | done | ac_rfl | omega))
local macro_rules | `(tactic| walk_at "goS") => `(tactic| (repeat ((fail_if_success (with_reducible refine nx ?_)); (first
  | ((guard_target = wpAny _ _ (PySem.eval (Expr.Name _ _) _) _ _ _); first
    | (focus ((with_reducible refine' eL (by assumption) (by assumption) ?_ ?_ ?_); rotate_right 3; (next => (first | ((repeat (first | (with_reducible exact List.mem_cons_self) | (with_reducible refine' List.mem_cons_of_mem _ ?_))); done) | (with_reducible assumption))); (next => (first | ((repeat (first | (with_reducible exact List.mem_cons_self) | (with_reducible refine' List.mem_cons_of_mem _ ?_))); done) | walk_at "mem"))))
    | (focus ((with_reducible refine' eB' (by assumption) (by assumption) (by assumption) ?_ ?_ ?_); rotate_right 3; (next => (first | ((repeat (first | (with_reducible exact List.mem_cons_self) | (with_reducible refine' List.mem_cons_of_mem _ ?_))); done) | (with_reducible assumption))); (next => (walk_at "isB"))))
    | (focus ((with_reducible refine' eG' (by assumption) (by assumption) (by assumption) ?_ ?_ ?_); rotate_right 3; (next => (first | ((repeat (first | (with_reducible exact List.mem_cons_self) | (with_reducible refine' List.mem_cons_of_mem _ ?_))); done) | (with_reducible assumption))); (next => (walk_at "isG"))))
    | (focus ((with_reducible refine' nL (by assumption) (by assumption) ?_ ?_ ?_); rotate_right 3; (next => (first | ((repeat (first | (with_reducible exact List.mem_cons_self) | (with_reducible refine' List.mem_cons_of_mem _ ?_))); done) | (with_reducible assumption))); (next => (first | ((repeat (first | (with_reducible exact List.mem_cons_self) | (with_reducible refine' List.mem_cons_of_mem _ ?_))); done) | walk_at "mem"))))
    | (focus ((with_reducible refine' nB (by assumption) (by assumption) (by assumption) ?_ ?_ ?_); rotate_right 3; (next => (first | ((repeat (first | (with_reducible exact List.mem_cons_self) | (with_reducible refine' List.mem_cons_of_mem _ ?_))); done) | (with_reducible assumption))); (next => (walk_at "isB"))))
    | (focus ((with_reducible refine' nG (by assumption) (by assumption) (by assumption) ?_ ?_ ?_); rotate_right 3; (next => (first | ((repeat (first | (with_reducible exact List.mem_cons_self) | (with_reducible refine' List.mem_cons_of_mem _ ?_))); done) | (with_reducible assumption))); (next => (walk_at "isG"))))
    | (focus ((with_reducible refine' nC (by assumption) (by assumption) ?_ ?_ ?_ ?_); rotate_right 4; rotate_left 1; (next => (first | ((repeat (first | (with_reducible exact List.mem_cons_self) | (with_reducible refine' List.mem_cons_of_mem _ ?_))); done) | (with_reducible assumption))); rotate_right 1; rotate_left 1; (next => (first | (with_reducible assumption) | rfl)); rotate_right 1; (next => (walk_at "has"))))
    | (focus ((with_reducible refine' nF (by assumption) (by assumption) ?_ ?_ ?_ ?_ ?_); rotate_right 5; rotate_left 1; (next => (first | ((repeat (first | (with_reducible exact List.mem_cons_self) | (with_reducible refine' List.mem_cons_of_mem _ ?_))); done) | (with_reducible assumption))); rotate_right 1; rotate_left 1; (next => rfl); rotate_right 1; rotate_left 1; (next => rfl); rotate_right 1; (next => (walk_at "has"))))
    | (focus ((with_reducible refine' eC (by assumption) (by assumption) ?_ ?_ ?_ ?_); rotate_right 4; (next => (first | ((repeat (first | (with_reducible exact List.mem_cons_self) | (with_reducible refine' List.mem_cons_of_mem _ ?_))); done) | (with_reducible assumption))); (next => rfl); (next => (first | ((repeat (first | (with_reducible exact List.mem_cons_self) | (with_reducible refine' List.mem_cons_of_mem _ ?_))); done) | walk_at "mem"))))
    | walk_at "op")
  | ((guard_target = wpAny _ _ (PySem.eval _ _) _ _ _); first
    | (with_reducible refine wpAny_BinOp ?_)
    | (with_reducible refine UnaryOp_ ?_)
    | (focus ((with_reducible refine' MethodCall_ ?_ ?_); rotate_right 2; rotate_left 1; (next => rfl); rotate_right 1))
    | (focus ((with_reducible refine' MethodP_ ?_ ?_); rotate_right 2; (next => (with_reducible assumption))))
    | (focus ((with_reducible refine' MethodStar_ ?_ ?_); rotate_right 2; rotate_left 1; (next => rfl); rotate_right 1))
    | (focus ((with_reducible refine Call_ ?_ ?_); rotate_right 2; rotate_left 1; (next => rfl); rotate_right 1))
    | (with_reducible refine Attribute_name ?_)
    | (with_reducible refine Subscript_ ?_)
    | (focus ((with_reducible refine' eInt (by assumption) ?_); intro _ _ _))
    | (focus ((with_reducible refine' eStr (by assumption) ?_); intro _ _ _))
    | (with_reducible refine eBool ?_)
    | (with_reducible refine eNone ?_)
    | (with_reducible refine' eSlice (by assumption) ?_)
    | (focus ((with_reducible refine wpAny_Compare1 ?_ ?_); rotate_right 2; rotate_left 1; (next => (with_unfolding_all rfl)); rotate_right 1))
    | (with_reducible refine List_ ?_)
    | (with_reducible refine Tuple_ ?_)
    | (with_reducible refine BoolOp_one ?_)
    | (with_reducible refine BoolOp_and ?_)
    | (with_reducible refine BoolOp_or ?_)
    | (focus ((with_reducible refine' xComp ?_ ?_ ?_ ?_ ?_); rotate_right 5; rotate_left 1; (next => (intro _; rfl)); rotate_right 1; rotate_left 1; (next => (with_unfolding_all rfl)); rotate_right 1; rotate_left 1; (next => (with_unfolding_all rfl)); rotate_right 1; rotate_left 1; (next => (decide +kernel)); rotate_right 1))
    | (focus ((with_reducible refine' eDictNil (by assumption) ?_); intro _ _ _))
    | walk_at "op")
  | ((guard_target = wpAny _ _ (spliced _) _ _ _); first
    | (focus ((with_reducible refine args_cons ?_ ?_); rotate_right 2; rotate_left 1; (next => rfl); rotate_right 1))
    | (with_reducible refine args_nil ?_)
    | walk_at "op")
  | ((guard_target = wpAny _ _ (callWith _ _ _ _ _) _ _ _); first
    | (focus ((with_reducible refine callBi1 ?_ ?_ ?_); rotate_right 3; rotate_left 1; (next => rfl); rotate_right 1; rotate_left 1; (next => rfl); rotate_right 1))
    | (focus ((with_reducible refine callBi2 ?_ ?_ ?_); rotate_right 3; rotate_left 1; (next => rfl); rotate_right 1; rotate_left 1; (next => rfl); rotate_right 1))
    | (with_reducible refine callBi10 ?_)
    | (focus ((with_reducible refine' callKm1 ?_ ?_ ?_ ?_ ?_); rotate_right 5; (next => (walk_at "isF")); (next => rfl); rotate_left 1; (next => rfl); rotate_right 1; rotate_left 1; (next => rfl); rotate_right 1))
    | (focus ((with_reducible refine' callKf1 ?_ ?_ ?_ ?_ ?_); rotate_right 5; (next => (walk_at "isF")); (next => rfl); rotate_left 1; (next => rfl); rotate_right 1; rotate_left 1; (next => rfl); rotate_right 1))
    | (focus ((with_reducible refine' callKm10 ?_ ?_ (by assumption) (by assumption) ?_); rotate_right 3; (next => (walk_at "isF")); (next => rfl)))
    | (focus ((with_reducible refine callTy2 ?_ ?_ ?_); rotate_right 3; rotate_left 1; (next => rfl); rotate_right 1; rotate_left 1; (next => rfl); rotate_right 1))
    | walk_at "op")
  | ((guard_target = Nx _ _ _ _ _ _ _ _); first
    | (with_reducible refine nx ?_)
    | (with_reducible refine nx_ret ?_)
    | (with_reducible refine nx_brk ?_)
    | (with_reducible refine nx_cont ?_))
  | ((guard_target = wpAny _ _ (storeName _ _ _) _ _ _); first
    | (focus ((with_reducible refine' sL (by assumption) (by assumption) ?_ ?_ ?_); rotate_right 3; (next => (first | ((repeat (first | (with_reducible exact List.mem_cons_self) | (with_reducible refine' List.mem_cons_of_mem _ ?_))); done) | (with_reducible assumption))); (next => (walk_at "rm")); intro _ _))
    | (focus ((with_reducible refine' nS (by assumption) (by assumption) ?_ ?_ ?_); rotate_right 3; (next => (first | ((repeat (first | (with_reducible exact List.mem_cons_self) | (with_reducible refine' List.mem_cons_of_mem _ ?_))); done) | (with_reducible assumption))); (next => (walk_at "rm")); intro _ _))
    | (focus ((with_reducible refine' sC (by assumption) (by assumption) ?_ ?_ ?_ ?_); rotate_right 4; (next => (first | ((repeat (first | (with_reducible exact List.mem_cons_self) | (with_reducible refine' List.mem_cons_of_mem _ ?_))); done) | (with_reducible assumption))); (next => rfl); (next => (walk_at "up")); intro _ _)))
  | ((guard_target = wpAny _ _ (exec _ _) _ _ _); first
    | (focus ((with_reducible refine wpAny_Expr_any ?_ ?_ ?_); rotate_right 3; rotate_left 1; (next => (first | rfl | assumption)); rotate_right 1; rotate_left 1; (next => rfl); rotate_right 1))
    | (focus ((with_reducible refine wpAny_Assign_Name ?_ ?_); rotate_right 2; rotate_left 1; (next => rfl); rotate_right 1))
    | (with_reducible refine wpAny_Return_some ?_)
    | (with_reducible refine xIf ?_)
    | (with_reducible refine xDel ?_)
    | (with_reducible refine wpAny_Break ?_)
    | (with_reducible refine wpAny_Return_none ?_)
    | (focus ((with_reducible refine wpAny_Assign_Subscript ?_ ?_); rotate_right 2; rotate_left 1; (next => rfl); rotate_right 1))
    | (focus ((with_reducible refine plainObj_wpAny_Assign_Attribute ?_ ?_); rotate_right 2; rotate_left 1; (next => rfl); rotate_right 1))
    | (focus ((with_reducible refine xFor ?_ ?_); rotate_right 2; rotate_left 1; (next => (intro _; rfl)); rotate_right 1))
    | (focus ((with_reducible refine' xCompA ?_ ?_ ?_ ?_ ?_ ?_); rotate_right 6; rotate_left 1; (next => rfl); rotate_right 1; rotate_left 1; (next => (intro _; rfl)); rotate_right 1; rotate_left 1; (next => (with_unfolding_all rfl)); rotate_right 1; rotate_left 1; (next => (with_unfolding_all rfl)); rotate_right 1; rotate_left 1; (next => (decide +kernel)); rotate_right 1))
    | walk_at "op")
  | ((guard_target = wpAny _ _ (execs _ _) _ _ _); first
    | (with_reducible refine wpAny_execs_nil ?_)
    | (with_reducible refine xs_cons ?_))
  | ((guard_target = wpAny _ _ (PySem.isTrue _ _ _) _ _ _); first
    | (focus ((with_reducible refine isTrue_plain ?_ ?_); rotate_right 2; rotate_left 1; (next => rfl); rotate_right 1))
    | (with_reducible refine isTrue_not ?_)
    | (focus ((with_reducible refine wpAny_isTrue_Compare1 ?_ ?_); rotate_right 2; rotate_left 1; (next => (with_unfolding_all rfl)); rotate_right 1))
    | (with_reducible refine isTrue_and_nil ?_)
    | (with_reducible refine isTrue_or_nil ?_)
    | (with_reducible refine isTrue_and ?_)
    | (with_reducible refine isTrue_or ?_)
    | walk_at "op")
  | ((guard_target = wpAny _ _ (call (Value.builtin _) _) _ _ _); first | walk_at "op" | walk_at "gcall")
  | ((guard_target = wpAny _ _ (getMethod _ _ _) _ _ _); first | walk_at "op" | walk_at "ggetMethod")
  | ((guard_target = wpAny _ _ (getAttr _ _ _) _ _ _); first | walk_at "op" | walk_at "ggetAttr")
  | ((guard_target = wpAny _ _ (truthy _) _ _ _); first | walk_at "op" | walk_at "gtruthy")
  | ((guard_target = wpAny _ _ (compareOp _ _ _) _ _ _); first | walk_at "op" | walk_at "gcompareOp")
  | ((guard_target = wpAny _ _ (subscriptTail _ _ _ _) _ _ _); first | walk_at "op" | walk_at "gsubscriptTail")
  | (with_reducible refine' inX (by assumption) (by assumption) ?_)
  | (focus ((with_reducible refine' eSliceEnd (by assumption) ?_); intro _ _ _))
  | (with_reducible refine evalPart_none_step ?_)
  | (with_reducible refine evalPart_some_step ?_)
  | (with_reducible refine for_brk ?_)
  | (with_reducible refine for_ret ?_)
  | (with_reducible refine iNot ?_)
  | (with_reducible refine wpAny_tests_nil ?_)
  | (with_reducible refine wpAny_tests_one ?_)
  | (with_reducible refine ifT (Eq.refl true) ?_)
  | (with_reducible refine ifF (Eq.refl false) ?_)
  | (with_reducible refine wpAny_assign_Name ?_)
  | (with_reducible refine assignInOrder_cons ?_)
  | (with_reducible refine assignInOrder_nil ?_)
  | (focus ((with_reducible refine' uTuple (by assumption) ?_ ?_); rotate_right 2; (next => (walk_at "size")); intro _ _ _))
  | (focus ((with_reducible refine' uList (by assumption) ?_ ?_); rotate_right 2; (next => (walk_at "size")); intro _ _ _))
  | walk_at "op"
  | walk_at "oprest"))))
section
open PySem PySem.W PySem.Calls PyProof.Rows
set_option Elab.async false
set_option maxRecDepth 100000
set_option maxHeartbeats 400000
set_option linter.unusedVariables false
set_option linter.unusedSectionVars false
theorem dm_push (P : Params) : findIn (KK P) (.ref 303) "pushState" = some (some (.ref 286)) := by kernel_rfl
theorem dt_push (P : Params) : typeIn (KK P) (.ref 286) = some (.type "function") := by kernel_rfl
theorem dm_pop (P : Params) : findIn (KK P) (.ref 303) "popState" = some (some (.ref 293)) := by kernel_rfl
theorem dt_pop (P : Params) : typeIn (KK P) (.ref 293) = some (.type "function") := by kernel_rfl

local macro_rules | `(tactic| walk_at "isB") => `(tactic| fail)
local macro_rules | `(tactic| walk_at "isG") => `(tactic| fail)
local macro_rules | `(tactic| walk_at "isD") => `(tactic| first | (with_reducible exact dm_push _) | (with_reducible exact dt_push _) | (with_reducible exact dm_pop _) | (with_reducible exact dt_pop _))
local macro_rules | `(tactic| walk_at "isF") => `(tactic| first | (with_reducible exact fn_push _) | (with_reducible exact fn_pop _))
local macro_rules | `(tactic| walk_at "isC") => `(tactic| fail)
section
variable {prog : Program} {w : World} {K : Type} [DecidableEq K] {knd : KeyKind prog w K} {A : Around} {E : Value → Shared → Prop} {s : Shared}
  {g : Heap} {R : Side} {L : Addr} {vs : Vars} {l : Led K} {env : Env} {cl : List (Str × Addr)} {tbl : List (Str × NameKind)}
def pushD (d : DS) (t : Tok) : DS := ⟨d.xs, d.hs, d.st ++ [.int d.xs.length t]⟩
def Pushed (D D' : K → DS) (us : List K) : Prop := ∀ x ∈ us, ∃ t, D' x = pushD (D x) t
theorem setD_ne {D : K → DS} {x y : K} {d : DS} (h : y ≠ x) : setD D x d y = D y := by unfold setD; rw [if_neg h]
theorem setD_eq {D : K → DS} {x : K} {d : DS} : setD D x d x = d := by unfold setD; rw [if_pos rfl]

/-- between a push and its pop -/
def Mid (D0 D : K → DS) (us : List K) : Prop := ∀ x ∈ us, ∃ t r, (D x).st = (D0 x).st ++ [.int (D0 x).xs.length t] ∧ (D x).hs = (D0 x).hs ++ r ∧ ((D x).xs ++ r).Perm (D0 x).xs
def PopOk (d d' : DS) : Prop := d'.hs = d.hs ∧ d'.st = d.st ∧ d'.xs.Perm d.xs
def Popped (D0 D' : K → DS) (us : List K) : Prop := ∀ x ∈ us, PopOk (D0 x) (D' x)
theorem Mid.of {D0 D : K → DS} {us : List K} (h : Pushed D0 D us) : Mid D0 D us := fun x hx => by
  obtain ⟨t, e⟩ := h x hx
  rw [e]; exact ⟨t, [], rfl, (List.append_nil _).symm, by rw [List.append_nil]; exact List.Perm.refl _⟩
theorem push_stmt {Y : Lay K} {D : K → DS} {us : List K} {rest : Led K} {pd : Addr} {opd : Obj} {p1 p2 p3 p4 p5 p6 p7 p8 p9 : Pos} {Q : Flow → Shared → Prop} (hr : Room A 6) (V : Ev env L cl tbl) (hp : (("pushdomains" : Str), NameKind.local) ∈ tbl) (hd : (("domain" : Str), NameKind.local) ∈ tbl)
    (hpv : (("pushdomains" : Str), Value.ref pd) ∈ vs) (hrm : Rm "domain" vs vs) (B : Bs w g) (LY : LayAt knd g Y) (hn : us.Nodup) (hus : ∀ x ∈ us, x ∈ Y.keys) (hz : ∀ x ∈ us, (D x).xs.length < 500 ∧ (D x).st.length < 500)
    (H : St knd g R L vs (DL Y D us ++ rest) s) (hm : (pd, Kd.raw opd) ∈ rest) (hk : (Kd.lst (us.map fun x => Value.ref (Y.dA x))).holds knd opd) (hlen : us.length < 100) (hi : interactive env = false) (hp56 : (p5.endLine == p6.line) = true)
    (h : ∀ D' s', Pushed D D' us → St knd g R L vs (DL Y D' us ++ rest) s' → Q .next s') :
    wpAny (model prog w) A (exec (.If (.Name "pushdomains" p1) [.For (.Name "domain" p2) (.Name "pushdomains" p3) [.Expr (.Call (.Attribute (.Name "domain" p4) "pushState" p5) [] [] p6) p7] [] p8] [] p9) env) Q E s := by
  have hzl : (us.map fun x => Value.ref (Y.dA x)).length < 100000 := by rw [List.length_map]; omega
  walk_at "go"
  rename_i s₁ H1
  by_cases hus0 : us = []
  · subst hus0
    refine ifF rfl ?_
    walk_at "go"
    exact h D _ (fun x hx => by cases hx) H1
  · refine ifT (by cases us <;> first | exact absurd rfl hus0 | rfl) ?_
    walk_at "go"
    have hop : s₁.heap.get? pd = some opd := (H1.has (List.mem_append_right _ hm)).rawE
    refine' start_lst H1 hr.handled hop hk ?_
    intro I s₂ W H2
    refine' for_st (g := g) (R := R) (L := L) (X := K → DS) (fun _ => vs) (fun D' => DL Y D' us ++ rest) (fun i D' => (∀ x ∈ us.take i, ∃ t, D' x = pushD (D x) t) ∧ (∀ x ∈ us, x ∉ us.take i → D' x = D x)) D W ?src ?h0 H2 ?turn ?done
    case src => intro i q s' _ hS; exact (hS.has (List.mem_append_right (oneIt I _ i) (List.mem_append_right _ hm))).rawE
    case h0 => exact ⟨(fun x hx => by rw [List.take_zero] at hx; cases hx), fun _ _ _ => rfl⟩
    case turn =>
      rintro i D' v new s' E' hi' ⟨hJ1, hJ2⟩ ⟨hv, rfl⟩ H3
      rw [List.length_map] at hi'
      rw [List.getElem?_map, List.getElem?_eq_getElem hi'] at hv
      obtain rfl : Value.ref (Y.dA us[i]) = v := Option.some.inj hv
      generalize hxe : us[i] = x at *
      have hxm : x ∈ us := hxe ▸ List.getElem_mem hi'
      have hxt : x ∉ us.take i := by
        intro hm'
        obtain ⟨j, hj, e⟩ := List.getElem_of_mem hm'
        rw [List.length_take] at hj
        rw [List.getElem_take, ← hxe] at e
        have := (List.getElem_inj hn).mp e
        omega
      have hDx := hJ2 x hxm hxt
      have H4 := St.atDom (pre := oneIt I (seqIt "list_iterator" pd) (i + 1)) H3 hxm
      rw [hDx] at H4
      replace H4 := show St knd g R L vs ((Y.dA x, .dom (Y.dxA x) (D x).xs) :: (Y.hlA x, .lst (D x).hs) :: (Y.slA x, .lst (D x).st) :: (I, seqIt "list_iterator" pd (i + 1)) :: (DL Y D' (us.erase x) ++ rest)) s' from H4
      have hdx := LY.dx x (hus x hxm)
      walk_at "go"
      rename_i s₄ H5
      have pm : ∀ {p1 p2 p3 : Addr × Kd K} {t : Led K}, (p1 :: p2 :: p3 :: t).Perm ([p1, p3] ++ (p2 :: t)) := fun {p1 p2 p3 t} => (List.Perm.swap p3 p2 t).cons p1
      refine callRet (push_spec (hr.less (by decide)) (H5.at B (l := [(Y.dA x, _), (Y.slA x, _)]) pm) hdx (by have := (hz x hxm).1; omega) (by have := (hz x hxm).2; omega) fun t s₅ e5 => ?_)
      have H6 := (H5.eff (l := [(Y.dA x, _), (Y.slA x, _)]) pm e5).perm pm
      refine retq ?_
      walk_at "go"
      refine for_next ⟨setD D' x (pushD (D x) t), ⟨fun y hy => ?_, fun y hy hy' => ?_⟩, ?_⟩
      · rw [List.take_add_one, List.getElem?_eq_getElem hi', hxe] at hy
        rcases List.mem_append.mp hy with q | q
        · have : y ≠ x := fun e => hxt (e ▸ q)
          rw [setD_ne this]; exact hJ1 y q
        · have : y = x := by simpa using q
          rw [this, setD_eq]; exact ⟨t, rfl⟩
      · rw [List.take_add_one, List.getElem?_eq_getElem hi', hxe] at hy'
        have h1 : y ∉ us.take i := fun q => hy' (List.mem_append.mpr (.inl q))
        have h2 : y ≠ x := fun e => hy' (List.mem_append.mpr (.inr (by simp [e])))
        rw [setD_ne h2]; exact hJ2 y hy h1
      · exact (St.backDom (d := pushD (D x) t) (pre := oneIt I (seqIt "list_iterator" pd) (i + 1)) hn hxm H6).sub (fun p hp => .tail _ hp) (List.Sublist.refl _)
    case done =>
      rintro D' s' E' ⟨hJ1, _⟩ H3
      rw [List.length_map, List.take_length] at hJ1
      walk_at "go"
      exact h D' _ hJ1 H3
theorem pop_stmt {Y : Lay K} {D D0 : K → DS} {us : List K} {rest : Led K} {pd : Addr} {opd : Obj} {p1 p2 p3 p4 p5 p6 p7 p8 p9 : Pos} {Q : Flow → Shared → Prop} (hr : Room A 6) (V : Ev env L cl tbl) (hp : (("pushdomains" : Str), NameKind.local) ∈ tbl) (hd : (("domain" : Str), NameKind.local) ∈ tbl)
    (hpv : (("pushdomains" : Str), Value.ref pd) ∈ vs) (hrm : Rm "domain" vs vs) (B : Bs w g) (LY : LayAt knd g Y) (hn : us.Nodup) (hus : ∀ x ∈ us, x ∈ Y.keys) (hmid : Mid D0 D us) (hz : ∀ x ∈ us, (D0 x).xs.length + (D0 x).hs.length < 300 ∧ (D0 x).st.length < 500)
    (H : St knd g R L vs (DL Y D us ++ rest) s) (hm : (pd, Kd.raw opd) ∈ rest) (hk : (Kd.lst (us.map fun x => Value.ref (Y.dA x))).holds knd opd) (hlen : us.length < 100) (hi : interactive env = false) (hp56 : (p5.endLine == p6.line) = true)
    (h : ∀ D' s', Popped D0 D' us → St knd g R L vs (DL Y D' us ++ rest) s' → Q .next s') :
    wpAny (model prog w) A (exec (.If (.Name "pushdomains" p1) [.For (.Name "domain" p2) (.Name "pushdomains" p3) [.Expr (.Call (.Attribute (.Name "domain" p4) "popState" p5) [] [] p6) p7] [] p8] [] p9) env) Q E s := by
  have hzl : (us.map fun x => Value.ref (Y.dA x)).length < 100000 := by rw [List.length_map]; omega
  walk_at "go"
  rename_i s₁ H1
  by_cases hus0 : us = []
  · subst hus0
    refine ifF rfl ?_
    walk_at "go"
    exact h D _ (fun x hx => by cases hx) H1
  · refine ifT (by cases us <;> first | exact absurd rfl hus0 | rfl) ?_
    walk_at "go"
    have hop : s₁.heap.get? pd = some opd := (H1.has (List.mem_append_right _ hm)).rawE
    refine' start_lst H1 hr.handled hop hk ?_
    intro I s₂ W H2
    refine' for_st (g := g) (R := R) (L := L) (X := K → DS) (fun _ => vs) (fun D' => DL Y D' us ++ rest) (fun i D' => (∀ x ∈ us.take i, PopOk (D0 x) (D' x)) ∧ (∀ x ∈ us, x ∉ us.take i → D' x = D x)) D W ?src ?h0 H2 ?turn ?done
    case src => intro i q s' _ hS; exact (hS.has (List.mem_append_right (oneIt I _ i) (List.mem_append_right _ hm))).rawE
    case h0 => exact ⟨(fun x hx => by rw [List.take_zero] at hx; cases hx), fun _ _ _ => rfl⟩
    case turn =>
      rintro i D' v new s' E' hi' ⟨hJ1, hJ2⟩ ⟨hv, rfl⟩ H3
      rw [List.length_map] at hi'
      rw [List.getElem?_map, List.getElem?_eq_getElem hi'] at hv
      obtain rfl : Value.ref (Y.dA us[i]) = v := Option.some.inj hv
      generalize hxe : us[i] = x at *
      have hxm : x ∈ us := hxe ▸ List.getElem_mem hi'
      have hxt : x ∉ us.take i := by
        intro hm'
        obtain ⟨j, hj, e⟩ := List.getElem_of_mem hm'
        rw [List.length_take] at hj
        rw [List.getElem_take, ← hxe] at e
        have := (List.getElem_inj hn).mp e
        omega
      have hDx := hJ2 x hxm hxt
      obtain ⟨t, r, est, ehs, eperm⟩ := hmid x hxm
      have elen : (D0 x).xs.length = (D x).xs.length + r.length := by rw [← eperm.length_eq, List.length_append]
      have H4 := St.atDom (pre := oneIt I (seqIt "list_iterator" pd) (i + 1)) H3 hxm
      rw [hDx] at H4
      replace H4 := show St knd g R L vs ((Y.dA x, .dom (Y.dxA x) (D x).xs) :: (Y.hlA x, .lst (D x).hs) :: (Y.slA x, .lst (D x).st) :: (I, seqIt "list_iterator" pd (i + 1)) :: (DL Y D' (us.erase x) ++ rest)) s' from H4
      rw [est, ehs, elen] at H4
      have hdx := LY.dx x (hus x hxm)
      have hzx := hz x hxm
      walk_at "go"
      rename_i s₄ H5
      refine callRet (pop_spec (k := r.length) (hr.less (by decide)) (H5.at B (l := [(Y.dA x, _), (Y.hlA x, _), (Y.slA x, _)]) (List.Perm.refl _)) hdx (by rw [List.length_append]; omega) (by omega) (by rw [List.length_append]; omega) (by omega) fun s₅ e5 => ?_)
      have H6 := H5.eff (l := [(Y.dA x, _), (Y.hlA x, _), (Y.slA x, _)]) (List.Perm.refl _) e5
      have ed : ((D0 x).hs ++ r).drop (((D0 x).hs ++ r).length - r.length) = r := by rw [List.length_append, Nat.add_sub_cancel, List.drop_left]
      have et : ((D0 x).hs ++ r).take (((D0 x).hs ++ r).length - r.length) = (D0 x).hs := by rw [List.length_append, Nat.add_sub_cancel, List.take_left]
      rw [ed, et] at H6
      refine retq ?_
      walk_at "go"
      refine for_next ⟨setD D' x ⟨(D x).xs ++ r, (D0 x).hs, (D0 x).st⟩, ⟨fun y hy => ?_, fun y hy hy' => ?_⟩, ?_⟩
      · rw [List.take_add_one, List.getElem?_eq_getElem hi', hxe] at hy
        rcases List.mem_append.mp hy with q | q
        · have : y ≠ x := fun e => hxt (e ▸ q)
          rw [setD_ne this]; exact hJ1 y q
        · have : y = x := by simpa using q
          rw [this, setD_eq]; exact ⟨rfl, rfl, eperm⟩
      · rw [List.take_add_one, List.getElem?_eq_getElem hi', hxe] at hy'
        have h1 : y ∉ us.take i := fun q => hy' (List.mem_append.mpr (.inl q))
        have h2 : y ≠ x := fun e => hy' (List.mem_append.mpr (.inr (by simp [e])))
        rw [setD_ne h2]; exact hJ2 y hy h1
      · exact (St.backDom (d := ⟨(D x).xs ++ r, (D0 x).hs, (D0 x).st⟩) (pre := oneIt I (seqIt "list_iterator" pd) (i + 1)) hn hxm H6).sub (fun p hp => .tail _ hp) (List.Sublist.refl _)
    case done =>
      rintro D' s' E' ⟨hJ1, _⟩ H3
      rw [List.length_map, List.take_length] at hJ1
      walk_at "go"
      exact h D' _ hJ1 H3
end
end
section
open PySem PySem.W PySem.Calls PyProof.Rows
set_option Elab.async false
set_option maxRecDepth 100000
set_option maxHeartbeats 400000
set_option linter.unusedVariables false
set_option linter.unusedSectionVars false
section
variable {prog : Program} {w : World} {K : Type} [DecidableEq K] {knd : KeyKind prog w K} {A : Around} {E : Value → Shared → Prop} {s : Shared}
  {g : Heap} {R : Side} {L : Addr} {vs : Vars} {l lc rest : Led K}
/-- what a call finds, all else taken as its ground -/
structure AtAll (knd : KeyKind prog w K) (g : Heap) (s : Shared) (l rest : Led K) : Prop where
  at_ : At knd (hideAll s.heap (l.map (·.1))) s l
  rest : ∀ p ∈ rest, Has knd (hideAll s.heap (l.map (·.1))) p.1 p.2
  sub : ∀ b o, g.get? b = some o → (hideAll s.heap (l.map (·.1))).get? b = some o
theorem St.atAll (H : St knd g R L vs lc s) (B : Bs w g) (hp : lc.Perm (l ++ rest)) : AtAll knd g s l rest := by
  have H := H.perm hp.symm
  have hg : ∀ b o, g.get? b = some o → (hideAll s.heap (l.map (·.1))).get? b = some o := fun b o e => by
    obtain ⟨m, F, _⟩ := H.F
    exact hideAll_get _ (F.keep b o e) fun q => by
      obtain ⟨p, hp, rfl⟩ := List.mem_map.mp q
      have := (H.N p (List.mem_append.mpr (.inl hp))).2.2.1
      rw [this] at e; cases e
  have hnd := H.nd
  rw [List.map_append, List.nodup_append] at hnd
  refine ⟨⟨B.keeps hg, fun b o e => of_hideAll _ e, hnd.1, fun p hp => ?_⟩, fun p hp => ?_, hg⟩
  · have := H.N p (List.mem_append.mpr (.inl hp))
    exact ⟨this.1, hideAll_none _ (List.mem_map_of_mem hp), this.2.2.2⟩
  · obtain ⟨o, ho, hk⟩ := (H.N p (List.mem_append.mpr (.inr hp))).1
    exact ⟨o, hideAll_get _ ho fun q => hnd.2.2 _ q _ (List.mem_map_of_mem hp) rfl, hk⟩

/-- the argument pushdomains -/
inductive PvIs (knd : KeyKind prog w K) (rest : Led K) : Value → Bool → Prop
  | none : PvIs knd rest .none false
  | lst {pd opd xs} : (pd, Kd.raw opd) ∈ rest → (Kd.lst xs).holds knd opd → xs.length < 100000 → PvIs knd rest (.ref pd) (!xs.isEmpty)
theorem PvIs.fc {h : Heap} {pv b} (x : PvIs knd rest pv b) (hr : ∀ p ∈ rest, Has knd h p.1 p.2) : FcIs knd h pv b := by
  cases x with
  | none => exact .none
  | lst h1 h2 h3 => exact .lst ((hr _ h1).ofRaw h2) h3

inductive ConRes (C : CData K) (kvs : List (K × Value)) (us : List K) (b : Bool) (D : K → DS) : Bool → (K → DS) → Prop
  | full : missing kvs C.ks = 0 → ConRes C kvs us b D (holdsAt C.P kvs C.ks) D
  | skip : missing kvs C.ks ≠ 0 → b = false ∨ missing kvs C.ks ≠ 1 → ConRes C kvs us b D true D
  | fwd {u} : b = true → u ∈ us → u ∈ C.ks → (∀ k ∈ C.ks, k ≠ u → (valueAt kvs k).isSome = true) → ConRes C kvs us b D (!((D u).xs.filter (okAt C.P kvs C.ks u)).isEmpty)
      (setD D u ⟨(D u).xs.filter (okAt C.P kvs C.ks u), (D u).hs ++ (D u).xs.filter (fun v => !okAt C.P kvs C.ks u v), (D u).st⟩)
theorem one_missing {kvs : List (K × Value)} {ks : List K} (hn : ks.Nodup) (h : missing kvs ks = 1) : ∃ (j : Nat) (u : K), ks[j]? = some u ∧ valueAt kvs u = none ∧ (∀ (i : Nat) (k : K), ks[i]? = some k → i ≠ j → (valueAt kvs k).isSome = true) := by
  unfold missing at h
  obtain ⟨u, hu⟩ := List.length_eq_one_iff.mp h
  have hm : u ∈ ks.filter fun k => (valueAt kvs k).isNone := by rw [hu]; exact .head _
  obtain ⟨h1, h2⟩ := List.mem_filter.mp hm
  obtain ⟨j, hj, e⟩ := List.getElem_of_mem h1
  refine ⟨j, u, by rw [List.getElem?_eq_getElem hj, e], by simpa using h2, fun i k hk hij => ?_⟩
  cases q : valueAt kvs k with
  | some v => rfl
  | none =>
    exfalso
    have hkm : k ∈ ks.filter fun k => (valueAt kvs k).isNone := List.mem_filter.mpr ⟨List.mem_of_getElem? hk, by rw [q]; rfl⟩
    rw [hu, List.mem_singleton] at hkm
    obtain ⟨hi, e2⟩ := List.getElem?_eq_some_iff.mp hk
    exact hij ((List.getElem_inj hn).mp (e2.trans (hkm.trans e.symm)))

/-- a constraint is asked -/
theorem con_call {Y : Lay K} {C : CData K} {D : K → DS} {us : List K} {aa : Addr} {kvs : List (K × Value)} {pv : Value} {b : Bool} {Q : Value → Shared → Prop} (hr : Room A 22) (B : Bs w g) (LY : LayAt knd g Y) (hC : CAt knd g C) (hpl : PlainK knd) (hpv : PvIs knd rest pv b)
    (hints : ∀ k v, valueAt kvs k = some v → ∃ i t, v = .int i t) (hkz : kvs.length < 500) (hn : us.Nodup) (hus : ∀ x ∈ us, x ∈ Y.keys) (hck : C.ks.Nodup) (hcu : ∀ k ∈ C.ks, valueAt kvs k = none → k ∈ us)
    (hx : ∀ u ∈ us, (∀ v ∈ (D u).xs, ∃ i t, v = Value.int i t) ∧ ((D u).xs.map vInt).Nodup ∧ (D u).xs.length ≤ 400 ∧ (D u).hs.length < 100)
    (H : St knd g R L vs (DL Y D us ++ ((aa, Kd.dct kvs) :: rest)) s)
    (h : ∀ r D' s', ConRes C kvs us b D r D' → St knd g R L vs (DL Y D' us ++ ((aa, Kd.dct kvs) :: rest)) s' → Q (.bool r) s') :
    wpAny (model prog w) A (call (.ref C.c) [.ref C.va, .ref Y.da, .ref aa, pv]) Q E s := by
  have fcg : ∀ {h : Heap}, (∀ p ∈ rest, Has knd h p.1 p.2) → FcIs knd h pv b := fun hr => hpv.fc hr
  have pm : (DL Y D us ++ ((aa, Kd.dct kvs) :: rest)).Perm ([(aa, Kd.dct kvs)] ++ (rest ++ DL Y D us)) := (List.perm_append_comm).trans (List.Perm.refl _)
  have X := H.atAll B pm
  have hCg := hC.con.keep X.sub
  refine callRet (call_inst (H.X B) (H.base hC.con.c) (H.base hC.con.cx) hf_call fi_call ?_)
  by_cases hm : missing kvs C.ks = 1 ∧ b = true
  · obtain ⟨hm1, hb⟩ := hm
    obtain ⟨j, u, hj, hu, hrest⟩ := one_missing hck hm1
    have huc : u ∈ C.ks := List.mem_of_getElem? hj
    have huu := hcu u huc hu
    have huk := hus u huu
    obtain ⟨hx1, hx2, hx3, hx4⟩ := hx u huu
    have H2 := St.atDom (pre := []) H huu
    have pm3 : ∀ {d1 d2 d3 a : Addr × Kd K} {t r : Led K}, ([d1, d2, d3] ++ ([] ++ (t ++ (a :: r)))).Perm ([a, d1, d2] ++ (d3 :: (t ++ r))) := fun {d1 d2 d3 a t r} =>
      ((List.perm_middle (l₁ := t) (l₂ := r) (a := a)).append_left [d1, d2, d3]).trans (List.perm_middle (l₁ := [d1, d2, d3]) (l₂ := t ++ r) (a := a))
    have X2 := H2.atAll B (l := [(aa, .dct kvs), (Y.dA u, .dom (Y.dxA u) (D u).xs), (Y.hlA u, .lst (D u).hs)]) (rest := (Y.slA u, .lst (D u).st) :: (DL Y D (us.erase u) ++ rest)) pm3
    have hCg2 := hC.con.keep X2.sub
    refine fcall (l := [(Y.dA u, .dom (Y.dxA u) (D u).xs), (Y.hlA u, .lst (D u).hs)]) (n := 20) (by decide) (hr.less (by decide)) X2.at_ hCg2 hints hC.z (fcg fun p hp => X2.rest p (.tail _ (List.mem_append.mpr (.inr hp)))) (fun h0 s' e => ?_) (fun h0 hb' s' e => ?_) (fun _ _ => ?_)
    · rw [hm1] at h0; cases h0
    · rcases hb' with q | q
      · rw [hb] at q; cases q
      · exact absurd hm1 q
    · refine ⟨[(Y.dA u, .dom (Y.dxA u) ((D u).xs.filter (okAt C.P kvs C.ks u))), (Y.hlA u, .lst ((D u).hs ++ (D u).xs.filter fun v => !okAt C.P kvs C.ks u v))], !((D u).xs.filter (okAt C.P kvs C.ks u)).isEmpty, fun {A s R g'} hroom hgg Xg hR => ?_, fun s' e => ?_⟩
      · exact fwd_spec hroom Xg (hCg2.keep hgg) hpl ((LY.da.keep fun o => X2.sub _ o).keep fun o => hgg _ o) LY.nda (value_map huk) (((LY.dx u huk).keep fun o => X2.sub _ o).keep fun o => hgg _ o) hints hC.z hkz hx3 hx4 hj hu hrest hx1 hx2 hR
      · refine retq (h _ _ _ (.fwd hb huu huc fun k hk hne => ?_) ?_)
        · obtain ⟨i, hi, e⟩ := List.getElem_of_mem hk
          refine hrest i k (by rw [List.getElem?_eq_getElem hi, e]) ?_
          rintro rfl
          rw [List.getElem?_eq_getElem hi, e] at hj
          exact hne (Option.some.inj hj)
        · have H3 := (H2.eff (l := [(aa, .dct kvs), (Y.dA u, .dom (Y.dxA u) (D u).xs), (Y.hlA u, .lst (D u).hs)]) (rest := (Y.slA u, .lst (D u).st) :: (DL Y D (us.erase u) ++ rest)) pm3 e).perm pm3
          exact St.backDom (d := ⟨(D u).xs.filter (okAt C.P kvs C.ks u), (D u).hs ++ (D u).xs.filter (fun v => !okAt C.P kvs C.ks u v), (D u).st⟩) (pre := []) hn huu H3
  · refine fcall (l := []) (n := 7) (by decide) (hr.less (by decide)) X.at_ hCg hints hC.z (fcg fun p hp => X.rest p (List.mem_append.mpr (.inl hp))) (fun h0 s' e => ?_) (fun h0 hb s' e => ?_) (fun h1 hb => absurd ⟨h1, hb⟩ hm)
    · exact retq (h _ _ _ (.full h0) ((H.eff pm e).perm pm))
    · exact retq (h _ _ _ (.skip h0 hb) ((H.eff pm e).perm pm))
end
end
section
open PySem PySem.W PySem.Calls PyProof.Rows
set_option Elab.async false
set_option maxRecDepth 100000
set_option maxHeartbeats 400000
set_option linter.unusedVariables false
set_option linter.unusedSectionVars false
section
variable {K : Type} [DecidableEq K] {Y : Lay K} {dom : K → List Int} {cons : List (Con K)} {kvs : List (K × Value)} {us : List K} {D D' : K → DS}
theorem parm_val {kvs : List (K × Value)} {k : K} (h : (valueAt kvs k).isSome = true) : vInt (parm kvs k) = valK kvs k := by
  unfold parm valK
  cases q : valueAt kvs k with
  | none => rw [q] at h; cases h
  | some v => rfl
theorem holdsAt_val {P : List Int → Bool} {kvs : List (K × Value)} {ks : List K} (h : ∀ k ∈ ks, (valueAt kvs k).isSome = true) : holdsAt P kvs ks = P (ks.map (valK kvs)) := by
  unfold holdsAt
  rw [List.map_map]
  congr 1
  exact List.map_congr_left fun k hk => parm_val (h k hk)
theorem nodup_snoc {u : K} {v : Value} (hn : (kvs.map (·.1)).Nodup) (hu : valueAt kvs u = none) : ((kvs ++ [(u, v)]).map (·.1)).Nodup := by
  rw [List.map_append, List.nodup_append]
  refine ⟨hn, by simp, fun a ha b hb => ?_⟩
  rw [List.map_cons, List.map_nil, List.mem_singleton] at hb
  rintro rfl
  rw [hb] at ha
  have := valueAt_some.mpr ha
  rw [hu] at this; cases this
/-- a value that a constraint refuses -/
theorem refuse_sols {C : CData K} {u : K} {v v' : Value} (hc : (C.ks, C.P) ∈ cons) (hn : (kvs.map (·.1)).Nodup) (hu : valueAt kvs u = none) (huc : u ∈ C.ks) (hall : ∀ k ∈ C.ks, k ≠ u → (valueAt kvs k).isSome = true)
    (hok : okAt C.P kvs C.ks u v = false) (hv : vInt v' = vInt v) : solsOf Y.keys dom cons (kvs ++ [(u, v')]) = [] := by
  have hs : ∀ w : Value, kvs ++ [(u, w)] = stored kvs u w := fun w => (stored_new hu).symm
  have ha : ∀ w : Value, ∀ k ∈ C.ks, (valueAt (stored kvs u w) k).isSome = true := fun w k hk => by
    rw [vals_stored]
    by_cases q : k = u
    · rw [if_pos q]; rfl
    · rw [if_neg q]; exact hall k hk q
  refine sols_bad (c := (C.ks, C.P)) hc (nodup_snoc hn hu) (fun k hk => by rw [hs]; exact ha v' k hk) ?_
  rw [hs]
  unfold okAt at hok
  rw [holdsAt_val (ha v)] at hok
  rw [← hok]
  show C.P _ = C.P _
  congr 1
  refine List.map_congr_left fun k hk => ?_
  unfold valK
  rw [vals_stored, vals_stored]
  by_cases q : k = u
  · rw [if_pos q, if_pos q]; exact hv
  · rw [if_neg q, if_neg q]

theorem res_inv {C : CData K} {b r : Bool} (I : Inv0 Y dom cons kvs us D) (T : Stat Y dom cons) (hc : (C.ks, C.P) ∈ cons) (h : ConRes C kvs us b D r D') : Inv0 Y dom cons kvs us D' := by
  cases h with
  | full _ => exact I
  | skip _ _ => exact I
  | @fwd u hb huu huc hall =>
    have hu := (I.uass u (I.usub u huu)).mp huu
    have hlen : ((D u).xs.filter (okAt C.P kvs C.ks u)).length + ((D u).xs.filter (fun v => !okAt C.P kvs C.ks u v)).length = (D u).xs.length := by
      have := (List.filter_append_perm (okAt C.P kvs C.ks u) (D u).xs).length_eq
      rw [List.length_append] at this
      exact this
    refine ⟨I.nd, I.sub, I.vints, I.un, I.usub, I.uass, fun k hk v hv => ?_, fun k hk => ?_, fun k hk x hx hnx v hv => ?_, fun k hk => ?_, fun k hk => ?_⟩
    all_goals (by_cases q : k = u)
    · subst q; rw [setD_eq] at hv; exact I.dints k hk v (List.mem_filter.mp hv).1
    · rw [setD_ne q] at hv; exact I.dints k hk v hv
    · subst q; rw [setD_eq]; exact ((List.filter_sublist).map vInt).nodup (I.dnd k hk)
    · rw [setD_ne q]; exact I.dnd k hk
    · subst q
      rw [setD_eq] at hnx
      by_cases hm : x ∈ (D k).xs.map vInt
      · obtain ⟨v₀, hv₀, e⟩ := List.mem_map.mp hm
        refine refuse_sols hc I.nd hu huc hall (v := v₀) ?_ (hv.trans e.symm)
        cases q : okAt C.P kvs C.ks k v₀ with
        | false => rfl
        | true => exact absurd (List.mem_map.mpr ⟨v₀, List.mem_filter.mpr ⟨hv₀, q⟩, e⟩) hnx
      · exact I.rem k hk x hx hm v hv
    · rw [setD_ne q] at hnx; exact I.rem k hk x hx hnx v hv
    · subst q; rw [setD_eq]; have := I.z1 k hk; dsimp only; rw [List.length_append]; omega
    · rw [setD_ne q]; exact I.z1 k hk
    · subst q; rw [setD_eq]; exact I.z2 k hk
    · rw [setD_ne q]; exact I.z2 k hk
theorem empty_sols (hk : Y.keys.Nodup) (I : Inv0 Y dom cons kvs us D) (T : Stat Y dom cons) {u : K} (hu : u ∈ us) (he : (D u).xs = []) : solsOf Y.keys dom cons kvs = [] := by
  have := sols_branch (kvs := kvs) (cons := cons) hk T.dn (I.usub u hu) (V := []) (by simp) (fun x hx _ v hv => I.rem u hu x hx (by rw [he]; simp) v hv)
  simpa using this.length_eq
theorem res_false {C : CData K} {b : Bool} (hk : Y.keys.Nodup) (I : Inv0 Y dom cons kvs us D) (T : Stat Y dom cons) (hc : (C.ks, C.P) ∈ cons) (h : ConRes C kvs us b D false D') : solsOf Y.keys dom cons kvs = [] := by
  generalize hr : false = r at h
  have h' := h
  cases h with
  | full h0 => exact sols_bad hc I.nd (full_of h0) ((holdsAt_val (full_of h0)).symm.trans hr.symm)
  | skip _ _ => cases hr
  | @fwd u hb huu huc hall =>
    refine empty_sols hk (res_inv I T hc h') T huu ?_
    rw [setD_eq]
    cases q : (D u).xs.filter (okAt C.P kvs C.ks u) with
    | nil => rfl
    | cons _ _ => rw [q] at hr; cases hr
theorem res_true {C : CData K} {b : Bool} (h : ConRes C kvs us b D true D') (I : Inv0 Y dom cons kvs us D) (hall : ∀ k ∈ C.ks, (valueAt kvs k).isSome = true) : C.P (C.ks.map (valK kvs)) = true := by
  generalize hr : true = r at h
  have h0 : missing kvs C.ks = 0 := by
    unfold missing
    rw [List.length_eq_zero_iff, List.filter_eq_nil_iff]
    intro k hk
    have := hall k hk
    cases q : valueAt kvs k <;> simp_all
  cases h with
  | full _ => exact (holdsAt_val hall).symm
  | skip h1 _ => exact absurd h0 h1
  | @fwd u hb huu huc _ =>
    have h1 := hall u huc
    rw [(I.uass u (I.usub u huu)).mp huu] at h1; cases h1
theorem res_mid {C : CData K} {r : Bool} {D0 : K → DS} (M : Mid D0 D us) (h : ConRes C kvs us true D r D') : Mid D0 D' us := by
  cases h with
  | full _ => exact M
  | skip _ _ => exact M
  | @fwd u hb huu huc hall =>
    intro x hx
    obtain ⟨t, r, e1, e2, e3⟩ := M x hx
    by_cases q : x = u
    · subst q
      rw [setD_eq]
      refine ⟨t, r ++ (D x).xs.filter (fun v => !okAt C.P kvs C.ks x v), e1, by dsimp only; rw [e2, List.append_assoc], ?_⟩
      dsimp only
      refine List.Perm.trans ?_ e3
      refine ((List.perm_append_comm (l₁ := r)).append_left _).trans ?_
      rw [← List.append_assoc]
      exact (List.filter_append_perm _ _).append_right _
    · rw [setD_ne q]; exact ⟨t, r, e1, e2, e3⟩
theorem res_same {C : CData K} {r : Bool} (h : ConRes C kvs us false D r D') : D' = D := by
  cases h with
  | full _ => rfl
  | skip _ _ => rfl
  | fwd hb => cases hb
end
section
variable {prog : Program} {w : World} {K : Type} [DecidableEq K] {knd : KeyKind prog w K} {A : Around} {E : Value → Shared → Prop} {s : Shared}
  {g : Heap} {R : Side} {L : Addr} {vs : Vars} {l : Led K} {env : Env} {a : Addr} {pos : Pos}
theorem aTuple2 {x1 x2 : Str} {q1 q2 : Pos} {n : Nat} {v1 v2 : Value} {Q : Unit → Shared → Prop} (H : St knd g R L vs l s) (T : Has knd s.heap a (.tup [v1, v2])) (hh : A.handled = none)
    (h : ∀ s', St knd g R L vs l s' → wpAny (model prog w) A (assign (.Name x1 q1) env v1) (fun _ s₁ => wpAny (model prog w) A (assign (.Name x2 q2) env v2) Q E s₁) E s') : wpAny (model prog w) A (assign (.Tuple [.Name x1 q1, .Name x2 q2] n pos) env (.ref a)) Q E s :=
  aTuple H T hh rfl rfl fun s' H' => assignInOrder_cons (wpAny_mono (h s' H') (fun _ s₁ h₁ => assignInOrder_cons (wpAny_mono h₁ (fun _ s₂ h₂ => assignInOrder_nil h₂) fun _ _ e => e)) fun _ _ e => e)
theorem aTuple3 {x1 x2 x3 : Str} {q1 q2 q3 : Pos} {n : Nat} {v1 v2 v3 : Value} {Q : Unit → Shared → Prop} (H : St knd g R L vs l s) (T : Has knd s.heap a (.tup [v1, v2, v3])) (hh : A.handled = none)
    (h : ∀ s', St knd g R L vs l s' → wpAny (model prog w) A (assign (.Name x1 q1) env v1) (fun _ s₁ => wpAny (model prog w) A (assign (.Name x2 q2) env v2) (fun _ s₂ => wpAny (model prog w) A (assign (.Name x3 q3) env v3) Q E s₂) E s₁) E s') : wpAny (model prog w) A (assign (.Tuple [.Name x1 q1, .Name x2 q2, .Name x3 q3] n pos) env (.ref a)) Q E s :=
  aTuple H T hh rfl rfl fun s' H' => assignInOrder_cons (wpAny_mono (h s' H') (fun _ s₁ h₁ => assignInOrder_cons (wpAny_mono h₁ (fun _ s₂ h₂ => assignInOrder_cons (wpAny_mono h₂ (fun _ s₃ h₃ => assignInOrder_nil h₃) fun _ _ e => e)) fun _ _ e => e)) fun _ _ e => e)
theorem PvIs.mono {rest rest' : Led K} {pv b} (x : PvIs knd rest pv b) (h : ∀ p ∈ rest, p ∈ rest') : PvIs knd rest' pv b := by
  cases x with
  | none => exact .none
  | lst h1 h2 h3 => exact .lst (h _ h1) h2 h3
/-- a push, or none -/
def Rel (b : Bool) (D0 D : K → DS) (us : List K) : Prop := (b = true → Mid D0 D us) ∧ (b = false → D = D0)
theorem Rel.res {kvs : List (K × Value)} {us : List K} {D0 D D' : K → DS} {b r : Bool} {C : CData K} (x : Rel b D0 D us) (h : ConRes C kvs us b D r D') : Rel b D0 D' us := by
  cases b with
  | true => exact ⟨(fun _ => res_mid (x.1 rfl) h), (fun e => by cases e)⟩
  | false => exact ⟨(fun e => by cases e), fun _ => (res_same h).trans (x.2 rfl)⟩
end
end
section
open PySem PySem.W PySem.Calls PyProof.Rows
set_option Elab.async false
set_option maxRecDepth 100000
set_option maxHeartbeats 400000
set_option linter.unusedVariables false
set_option linter.unusedSectionVars false

local macro_rules | `(tactic| walk_at "isB") => `(tactic| fail)
local macro_rules | `(tactic| walk_at "isG") => `(tactic| fail)
local macro_rules | `(tactic| walk_at "isD") => `(tactic| fail)
local macro_rules | `(tactic| walk_at "isF") => `(tactic| fail)
local macro_rules | `(tactic| walk_at "isC") => `(tactic| fail)
section
variable {prog : Program} {w : World} {K : Type} [DecidableEq K] {knd : KeyKind prog w K} {A : Around} {E : Value → Shared → Prop} {s : Shared}
  {g : Heap} {R : Side} {L : Addr} {vs : Vars} {env : Env} {cl : List (Str × Addr)} {tbl : List (Str × NameKind)} {rest : Led K}
def NE (us : List K) (D : K → DS) : Prop := ∀ x ∈ us, (D x).xs ≠ []
theorem res_ne {C : CData K} {kvs : List (K × Value)} {us : List K} {D D' : K → DS} {b r : Bool} (h : ConRes C kvs us b D r D') (hr : r = true) (hn : NE us D) : NE us D' := by
  cases h with
  | full _ => exact hn
  | skip _ _ => exact hn
  | @fwd u hb huu huc hall =>
    intro x hx
    by_cases q : x = u
    · subst q
      rw [setD_eq]
      intro e
      have e' : (D x).xs.filter (okAt C.P kvs C.ks x) = [] := e
      rw [e'] at hr; cases hr
    · rw [setD_ne q]; exact hn x hx
/-- the constraints of a variable, one after the other -/
theorem con_loop {Y : Lay K} {dom : K → List Int} {cons : List (Con K)} {kvs : List (K × Value)} {us : List K} {D D0 : K → DS} {aa cd ca : Addr} {k : K} {pv : Value} {b : Bool} {n : Nat} {q1 q2 q3 q4 q5 q6 q7 q8 q9 q10 q11 q12 : Pos} {orelse : List Stmt} {Q : Flow → Shared → Prop}
    (hr : Room A 22) (V : Ev env L cl tbl) (t1 : (("constraint" : Str), NameKind.local) ∈ tbl) (t2 : (("variables" : Str), NameKind.local) ∈ tbl) (t3 : (("domains" : Str), NameKind.cell) ∈ tbl) (t4 : (("assignments" : Str), NameKind.cell) ∈ tbl) (t5 : (("pushdomains" : Str), NameKind.local) ∈ tbl)
    (hcd : cl.lookup ("domains" : Str) = some cd) (hca : cl.lookup ("assignments" : Str) = some ca) (mcd : (cd, Kd.cell (some (.ref Y.da))) ∈ rest) (mca : (ca, Kd.cell (some (.ref aa))) ∈ rest)
    (hpv : (("pushdomains" : Str), pv) ∈ vs) (hpvis : PvIs knd rest pv b) (r1 : Rm "constraint" vs vs) (r2 : Rm "variables" vs vs)
    (B : Bs w g) (LY : LayAt knd g Y) (hpl : PlainK knd) (hk : k ∈ Y.keys) (I0 : Inv0 Y dom cons kvs us D) (T : Stat Y dom cons) (hkz : kvs.length < 300) (hrel : Rel b D0 D us)
    (H : St knd g R L vs (DL Y D us ++ ((aa, Kd.dct kvs) :: rest)) s)
    (hbrk : ∀ D' s', Inv0 Y dom cons kvs us D' → Rel b D0 D' us → solsOf Y.keys dom cons kvs = [] → St knd g R L vs (DL Y D' us ++ ((aa, Kd.dct kvs) :: rest)) s' → Q .next s')
    (hdone : ∀ D' s' E', Inv0 Y dom cons kvs us D' → Rel b D0 D' us → (∀ C ∈ Y.vcons k, (∀ x ∈ C.ks, (valueAt kvs x).isSome = true) → C.P (C.ks.map (valK kvs)) = true) → St knd g R L vs (DL Y D' us ++ ((aa, Kd.dct kvs) :: rest)) s' → (NE us D → NE us D') →
      wpAny (model prog w) A (execs orelse env) Q E' s') :
    wpAny (model prog w) A (pyIter (.ref (Y.vA k))) (fun it s₂ =>
      codeAny (model prog w) A (.forLoop (.Tuple [.Name "constraint" q1, .Name "variables" q2] n q3) it
        [.If (.UnaryOp .Not (.Call (.Name "constraint" q4) [.Name "variables" q5, .Name "domains" q6, .Name "assignments" q7, .Name "pushdomains" q8] [] q9) q10) [.Break q11] [] q12] orelse env)
        (fun r s' => match r with | .ok f => Q f s' | .error e => cameBackBy (model prog w) A env E e s') s₂) E s := by
  obtain ⟨hvl, hvz⟩ := LY.vl k hk
  obtain ⟨ov, hov, hkv⟩ := id hvl
  refine' start_lst H hr.handled (H.o hov) hkv ?_
  intro I s₂ W H2
  refine' for_st (g := g) (R := R) (L := L) (X := K → DS) (fun _ => vs) (fun D' => DL Y D' us ++ ((aa, Kd.dct kvs) :: rest))
    (fun i D' => Inv0 Y dom cons kvs us D' ∧ Rel b D0 D' us ∧ (∀ C ∈ (Y.vcons k).take i, (∀ x ∈ C.ks, (valueAt kvs x).isSome = true) → C.P (C.ks.map (valK kvs)) = true) ∧ (NE us D → NE us D')) D W ?src ?h0 H2 ?turn ?done
  case src => intro i q s' _ hS; exact hS.o hov
  case h0 => exact ⟨I0, hrel, (fun C hC => by rw [List.take_zero] at hC; cases hC), id⟩
  case turn =>
    rintro i D' v new s' E' hi ⟨J1, J2, J3, J4⟩ ⟨hv, rfl⟩ H3
    rw [List.length_map] at hi
    rw [List.getElem?_map, List.getElem?_eq_getElem hi] at hv
    generalize hCe : (Y.vcons k)[i] = C at *
    have hCm : C ∈ Y.vcons k := hCe ▸ List.getElem_mem hi
    obtain rfl : Value.ref C.t = v := Option.some.inj hv
    have hCA := LY.cs k hk C hCm
    have hCc := T.c1 k hk C hCm
    replace H3 := show St knd g R L vs ((I, seqIt "list_iterator" (Y.vA k) (i + 1)) :: (DL Y D' us ++ ((aa, Kd.dct kvs) :: rest))) s' from H3
    refine aTuple2 H3 (H3.base hCA.t) hr.handled fun s₃ H4 => ?_
    walk_at "go"
    refine' callI (C := 375) (dx := C.cx) ?hc1 ?he ?hp
    case he => rfl
    case hp => rfl
    walk_at "go"
    rename_i s₅ H6
    refine ⟨H6.o hCA.con.c.rawE, ?_⟩
    have pm : ∀ {i a : Addr × Kd K} {t r : Led K}, (i :: (t ++ (a :: r))).Perm (t ++ (a :: i :: r)) := fun {i a t r} => (List.perm_middle (l₁ := t) (l₂ := a :: r) (a := i)).symm.trans ((List.Perm.swap a i r).append_left t)
    have H7 := H6.perm (l' := DL Y D' us ++ ((aa, Kd.dct kvs) :: ((I, seqIt "list_iterator" (Y.vA k) (i + 1)) :: rest))) pm.symm
    have hcn := T.c3 _ hCc
    refine con_call hr B LY hCA hpl (PvIs.mono hpvis fun p hp => .tail _ hp) J1.hints (by omega) J1.un J1.usub hcn.1 (fun x hx hx' => (J1.uass x (hcn.2 x hx)).mpr hx')
      (fun u hu => ⟨fun v hv => (J1.dints u hu v hv).imp fun i ⟨t, e, _⟩ => ⟨t, e⟩, J1.dnd u hu, by have := J1.z1 u hu; omega, by have := J1.z1 u hu; omega⟩) H7 (fun r D'' s₆ hres H8 => ?_)
    have H9 := H8.perm (l' := (I, seqIt "list_iterator" (Y.vA k) (i + 1)) :: (DL Y D'' us ++ ((aa, Kd.dct kvs) :: rest))) pm
    have J1' := res_inv J1 T hCc hres
    have J2' := J2.res hres
    walk_at "go"
    cases r with
    | false =>
      refine ifT rfl ?_
      walk_at "go"
      exact hbrk D'' _ J1' J2' (res_false LY.nd J1 T hCc hres) (H9.sub (fun p hp => .tail _ (.tail _ hp)) (List.sublist_cons_self ..))
    | true =>
      refine ifF rfl ?_
      walk_at "go"
      refine for_next ⟨D'', ⟨J1', J2', fun C' hC' => ?_, fun hne => res_ne hres rfl (J4 hne)⟩, H9.sub (fun p hp => .tail _ (.tail _ hp)) (List.Sublist.refl _)⟩
      rw [List.take_add_one, List.getElem?_eq_getElem hi, hCe] at hC'
      rcases List.mem_append.mp hC' with q | q
      · exact J3 C' q
      · have : C' = C := by simpa using q
        subst this
        exact res_true hres J1
  case done =>
    rintro D' s' E' ⟨J1, J2, J3, J4⟩ H3
    rw [List.length_map, List.take_length] at J3
    exact hdone D' s' E' J1 J2 J3 H3 J4
end
end
section
open PySem PySem.W PySem.Calls PyProof.Rows
set_option Elab.async false
set_option maxRecDepth 100000
set_option maxHeartbeats 400000
set_option linter.unusedVariables false
set_option linter.unusedSectionVars false
section
variable {K : Type} [DecidableEq K] {Y : Lay K} {dom : K → List Int} {cons : List (Con K)} {kvs : List (K × Value)} {us us1 : List K} {D D' D1 : K → DS} {k : K}
theorem PopOk.refl (d : DS) : PopOk d d := ⟨rfl, rfl, List.Perm.refl _⟩
theorem PopOk.trans {a b c : DS} (h : PopOk a b) (h' : PopOk b c) : PopOk a c := ⟨h'.1.trans h.1, h'.2.1.trans h.2.1, h'.2.2.trans h.2.2⟩
theorem val_snoc {v : Value} (hu : valueAt kvs k = none) (x : K) : valueAt (kvs ++ [(k, v)]) x = if x = k then some v else valueAt kvs x := by
  rw [← stored_new hu, vals_stored]
/-- a value is given to a variable -/
theorem inv_child (V : Inv Y dom cons kvs us D) (hus : us.Perm (k :: us1)) (hD : ∀ x ∈ us1, PopOk (D x) (D' x)) {i : Int} {t : Tok} (hi : i ∈ dom k) : Inv0 Y dom cons (kvs ++ [(k, .int i t)]) us1 D' := by
  have hk : k ∈ us := hus.mem_iff.mpr (.head _)
  have hkm := V.usub k hk
  have hu := (V.uass k hkm).mp hk
  have h1 : ∀ x ∈ us1, x ∈ us := fun x hx => hus.mem_iff.mpr (.tail _ hx)
  have hn := List.nodup_cons.mp (hus.nodup_iff.mp V.un)
  have hl : us.length = us1.length + 1 := by rw [hus.length_eq]; rfl
  refine ⟨nodup_snoc V.nd hu, fun p hp => ?_, fun p hp => ?_, hn.2, fun x hx => V.usub x (h1 x hx), fun x hx => ?_, fun x hx v hv => ?_, fun x hx => ?_, fun x hx y hy hny v hv => ?_, fun x hx => ?_, fun x hx => ?_⟩
  · rcases List.mem_append.mp hp with q | q
    · exact V.sub p q
    · rw [List.mem_singleton] at q; rw [q]; exact hkm
  · rcases List.mem_append.mp hp with q | q
    · exact V.vints p q
    · rw [List.mem_singleton] at q; rw [q]; exact ⟨i, t, rfl, hi⟩
  · rw [val_snoc hu]
    by_cases q : x = k
    · subst q; rw [if_pos rfl]; exact ⟨fun h => absurd h hn.1, fun h => by cases h⟩
    · rw [if_neg q, ← V.uass x hx, hus.mem_iff]
      exact ⟨fun h => .tail _ h, fun h => (List.mem_cons.mp h).resolve_left q⟩
  · exact V.dints x (h1 x hx) v ((hD x hx).2.2.mem_iff.mp hv)
  · exact ((hD x hx).2.2.map vInt).nodup_iff.mpr (V.dnd x (h1 x hx))
  · refine sols_swap (V.rem x (h1 x hx) y hy (fun h => hny (((hD x hx).2.2.map vInt).mem_iff.mpr h)) v hv)
  · have := V.z1 x (h1 x hx); rw [(hD x hx).2.2.length_eq, (hD x hx).1]; exact this
  · have := V.z2 x (h1 x hx); rw [(hD x hx).2.1]; omega
/-- a push changes nothing that counts -/
theorem inv_push (I : Inv0 Y dom cons kvs us1 D) (hz : ∀ x ∈ us1, (D x).st.length + 1 + us1.length ≤ 90) (h : Pushed D D1 us1) : Inv0 Y dom cons kvs us1 D1 := by
  have e : ∀ x ∈ us1, (D1 x).xs = (D x).xs ∧ (D1 x).hs = (D x).hs ∧ (D1 x).st.length = (D x).st.length + 1 := fun x hx => by
    obtain ⟨t, q⟩ := h x hx; rw [q]; exact ⟨rfl, rfl, by simp [pushD]⟩
  refine ⟨I.nd, I.sub, I.vints, I.un, I.usub, I.uass, fun x hx v hv => I.dints x hx v ((e x hx).1 ▸ hv), fun x hx => by rw [(e x hx).1]; exact I.dnd x hx, fun x hx y hy hny v hv => I.rem x hx y hy (by rw [← (e x hx).1]; exact hny) v hv, fun x hx => by rw [(e x hx).1, (e x hx).2.1]; exact I.z1 x hx,
    fun x hx => by rw [(e x hx).2.2]; exact hz x hx⟩
/-- all constraints are checked -/
theorem inv_full (V : Inv Y dom cons kvs us D) (T : Stat Y dom cons) (hu : valueAt kvs k = none) {v : Value} (hkm : k ∈ Y.keys) (I : Inv0 Y dom cons (kvs ++ [(k, v)]) us1 D1)
    (hc : ∀ C ∈ Y.vcons k, (∀ x ∈ C.ks, (valueAt (kvs ++ [(k, v)]) x).isSome = true) → C.P (C.ks.map (valK (kvs ++ [(k, v)]))) = true) : Inv Y dom cons (kvs ++ [(k, v)]) us1 D1 := by
  refine ⟨I, fun c hcm hall => ?_⟩
  by_cases q : k ∈ c.1
  · obtain ⟨C, hC, e⟩ := T.c2 c hcm k q
    subst e
    exact hc C hC hall
  · have e : ∀ x ∈ c.1, valueAt (kvs ++ [(k, v)]) x = valueAt kvs x := fun x hx => by
      rw [val_snoc hu, if_neg]; rintro rfl; exact q hx
    have := V.chk c hcm fun x hx => by rw [← e x hx]; exact hall x hx
    have e2 : c.1.map (valK (kvs ++ [(k, v)])) = c.1.map (valK kvs) := List.map_congr_left fun x hx => by unfold valK; rw [e x hx]
    rw [e2]; exact this
end
end
section
open PySem PySem.W PySem.Calls PyProof.Rows
set_option Elab.async false
set_option maxRecDepth 100000
set_option maxHeartbeats 400000
set_option linter.unusedVariables false
set_option linter.unusedSectionVars false
theorem fn_rec (P : Params) : (KK P).lookup 208 = some (methO "recursiveBacktracking" "RecursiveBacktrackingSolver.recursiveBacktracking" 5 1 208 .none) := by kernel_rfl
theorem cd_rec (P : Params) : codeIn (KK P) (.ref 207) "RecursiveBacktrackingSolver.recursiveBacktracking" = true := by kernel_rfl
theorem cg_rs : CG 225 := ⟨fun P => by kernel_rfl, fun P => by kernel_rfl⟩
theorem cga_rs : CGa 225 := fun P => by kernel_rfl
theorem no_fc : NoCls 225 "_forwardcheck" := fun P => by kernel_rfl
theorem hf_rec : HasFn 225 "recursiveBacktracking" 208 := ⟨fun P => by kernel_rfl, fun P => by kernel_rfl⟩
abbrev tb_rec : List (Str × NameKind) := [("self", .local), ("solutions", .local), ("domains", .cell), ("vconstraints", .cell), ("assignments", .cell), ("single", .local), ("lst", .local), ("item", .local), ("variable", .local), ("forwardcheck", .local), ("pushdomains", .local), ("value", .local), ("domain", .local), ("constraint", .local), ("variables", .local)]
theorem kt_rec : Kt (scp 5 1) tb_rec := ⟨by decide +kernel, by decide +kernel⟩

local macro_rules | `(tactic| walk_at "isB") => `(tactic| first | (with_reducible exact b_len))
local macro_rules | `(tactic| walk_at "isG") => `(tactic| fail)
local macro_rules | `(tactic| walk_at "isD") => `(tactic| first | (with_reducible exact dm_push _) | (with_reducible exact dt_push _) | (with_reducible exact dm_pop _) | (with_reducible exact dt_pop _))
local macro_rules | `(tactic| walk_at "isF") => `(tactic| first | (with_reducible exact fn_push _) | (with_reducible exact fn_pop _) | (with_reducible exact fn_rec _))
local macro_rules | `(tactic| walk_at "isC") => `(tactic| first | (with_reducible exact cg_rs) | (with_reducible exact cga_rs) | (with_reducible exact no_fc) | (with_reducible exact hf_rec))
section
variable {prog : Program} {w : World} {K : Type} [DecidableEq K] {knd : KeyKind prog w K} {A : Around} {s : Shared}
abbrev envR (L c1 c2 c3 : Addr) : Env := envX "RecursiveBacktrackingSolver.recursiveBacktracking" (scp 5 1) L 208 (.ref (208 - 1)) [("assignments", c1), ("vconstraints", c2), ("domains", c3)]
theorem len_le {α : Type} [DecidableEq α] : ∀ {l m : List α}, l.Nodup → (∀ x ∈ l, x ∈ m) → l.length ≤ m.length
  | [], _, _, _ => Nat.zero_le _
  | x :: l, m, hn, h => by
    rw [List.nodup_cons] at hn
    have hx := h x (.head _)
    have := len_le (l := l) (m := m.erase x) hn.2 fun y hy => (List.mem_erase_of_ne (fun (e : y = x) => hn.1 (e ▸ hy))).mpr (h y (.tail _ hy))
    rw [List.length_erase_of_mem hx] at this
    have := List.length_pos_of_mem hx
    rw [List.length_cons]; omega
/-- the list pushdomains -/
inductive PvD (knd : KeyKind prog w K) (Y : Lay K) (us : List K) : Led K → Value → Bool → Prop
  | none : PvD knd Y us [] .none false
  | lst {pd opd} : (Kd.lst (us.map fun x => Value.ref (Y.dA x))).holds knd opd → PvD knd Y us [(pd, Kd.raw opd)] (.ref pd) (!us.isEmpty)
/-- the search, for n variables that are open -/
def RecOk (knd : KeyKind prog w K) (Y : Lay K) (dom : K → List Int) (cons : List (Con K)) (so sf sx aa : Addr) (fb : Bool) (n : Nat) : Prop :=
  ∀ {A : Around} {s : Shared} {R : Result → Shared → Prop} {g₀ : Heap} {kvs : List (K × Value)} {sols : List Value} {us : List K} {D : K → DS}, us.length = n → Room A (30 + 2 * n + 1) →
    At knd g₀ s ((aa, .dct kvs) :: (so, .lst sols) :: DL Y D us) → LayAt knd g₀ Y → Has knd g₀ sf (.raw (instObj 225 sx)) → Has knd g₀ sx (.att [("_forwardcheck", .bool fb)]) →
    Inv Y dom cons kvs us D → sols.length + (solsOf Y.keys dom cons kvs).length < 50000 → (∀ k ∈ Y.keys, k ∉ us → ∃ xs, Has knd g₀ (Y.dA k) (.dom (Y.dxA k) xs) ∧ xs.length < 1000) →
    (∀ s', RecPost knd Y dom cons s aa so kvs sols us D s' → R (.ok (.ret (.ref so))) s') →
    codeAny (model prog w) A (.call (.ref 208) ⟨[.ref sf, .ref so, .ref Y.da, .ref Y.vc, .ref aa, .bool false], []⟩) R s
theorem push_any {s : Shared} {E : Value → Shared → Prop} {g : Heap} {R : Side} {L : Addr} {vs : Vars} {env : Env} {cl : List (Str × Addr)} {tbl : List (Str × NameKind)} {Y : Lay K} {D : K → DS} {us : List K} {rest pdl : Led K} {pv : Value} {b : Bool} {p1 p2 p3 p4 p5 p6 p7 p8 p9 : Pos} {Q : Flow → Shared → Prop}
    (hr : Room A 6) (V : Ev env L cl tbl) (hp : (("pushdomains" : Str), NameKind.local) ∈ tbl) (hd : (("domain" : Str), NameKind.local) ∈ tbl)
    (hpv : (("pushdomains" : Str), pv) ∈ vs) (hrm : Rm "domain" vs vs) (B : Bs w g) (LY : LayAt knd g Y) (hn : us.Nodup) (hus : ∀ x ∈ us, x ∈ Y.keys) (hz : ∀ x ∈ us, (D x).xs.length < 500 ∧ (D x).st.length < 500) (hlen : us.length < 100)
    (hP : PvD knd Y us pdl pv b) (hsub : ∀ p ∈ pdl, p ∈ rest) (H : St knd g R L vs (DL Y D us ++ rest) s) (hi : interactive env = false) (hp56 : (p5.endLine == p6.line) = true)
    (h : ∀ D' s', (b = true → Pushed D D' us) → (b = false → D' = D) → St knd g R L vs (DL Y D' us ++ rest) s' → Q .next s') :
    wpAny (model prog w) A (exec (.If (.Name "pushdomains" p1) [.For (.Name "domain" p2) (.Name "pushdomains" p3) [.Expr (.Call (.Attribute (.Name "domain" p4) "pushState" p5) [] [] p6) p7] [] p8] [] p9) env) Q E s := by
  cases hP with
  | none =>
    walk_at "go"
    exact h D _ (fun e => by cases e) (fun _ => rfl) H
  | @lst pd opd hk =>
    refine push_stmt hr V hp hd hpv hrm B LY hn hus hz H (hsub _ (.head _)) hk hlen hi hp56 fun D' s' hP H' => ?_
    cases us with
    | nil => exact h D s' (fun e => by cases e) (fun _ => rfl) H'
    | cons x us => exact h D' s' (fun _ => hP) (fun e => by cases e) H'
theorem pop_any {s : Shared} {E : Value → Shared → Prop} {g : Heap} {R : Side} {L : Addr} {vs : Vars} {env : Env} {cl : List (Str × Addr)} {tbl : List (Str × NameKind)} {Y : Lay K} {D D0 : K → DS} {us : List K} {rest pdl : Led K} {pv : Value} {b : Bool} {p1 p2 p3 p4 p5 p6 p7 p8 p9 : Pos} {Q : Flow → Shared → Prop}
    (hr : Room A 6) (V : Ev env L cl tbl) (hp : (("pushdomains" : Str), NameKind.local) ∈ tbl) (hd : (("domain" : Str), NameKind.local) ∈ tbl)
    (hpv : (("pushdomains" : Str), pv) ∈ vs) (hrm : Rm "domain" vs vs) (B : Bs w g) (LY : LayAt knd g Y) (hn : us.Nodup) (hus : ∀ x ∈ us, x ∈ Y.keys) (hz : ∀ x ∈ us, (D0 x).xs.length + (D0 x).hs.length < 300 ∧ (D0 x).st.length < 500) (hlen : us.length < 100)
    (hP : PvD knd Y us pdl pv b) (hsub : ∀ p ∈ pdl, p ∈ rest) (hmid : b = true → Mid D0 D us) (hsame : b = false → ∀ x ∈ us, PopOk (D0 x) (D x)) (H : St knd g R L vs (DL Y D us ++ rest) s) (hi : interactive env = false) (hp56 : (p5.endLine == p6.line) = true)
    (h : ∀ D' s', Popped D0 D' us → St knd g R L vs (DL Y D' us ++ rest) s' → Q .next s') :
    wpAny (model prog w) A (exec (.If (.Name "pushdomains" p1) [.For (.Name "domain" p2) (.Name "pushdomains" p3) [.Expr (.Call (.Attribute (.Name "domain" p4) "popState" p5) [] [] p6) p7] [] p8] [] p9) env) Q E s := by
  cases hP with
  | none =>
    walk_at "go"
    exact h D _ (hsame rfl) H
  | @lst pd opd hk =>
    refine pop_stmt (D0 := D0) hr V hp hd hpv hrm B LY hn hus ?_ hz H (hsub _ (.head _)) hk hlen hi hp56 fun D' s' hP H' => h D' s' hP H'
    cases us with
    | nil => exact fun x hx => by cases hx
    | cons x us => exact hmid rfl
theorem take_len {α β : Type} {f : α → List β} {xs : List α} {i : Nat} {v : α} (h : xs[i]? = some v) : ((xs.take i).flatMap f).length + (f v).length ≤ (xs.flatMap f).length := by
  have e := List.take_append_drop (i + 1) xs
  have e2 : (xs.flatMap f).length = ((xs.take (i + 1) ++ xs.drop (i + 1)).flatMap f).length := by rw [e]
  rw [e2, List.flatMap_append, List.length_append, List.take_add_one, h, List.flatMap_append, List.length_append]
  have : (((some v).toList).flatMap f).length = (f v).length := by simp
  omega
theorem perm_fin {α : Type} {a s x y z c1 c2 c3 : α} {t p n : List α} : ((a :: s :: ((x :: y :: z :: t) ++ n)) ++ (c1 :: c2 :: c3 :: p)).Perm (t ++ (a :: s :: x :: y :: z :: c1 :: c2 :: c3 :: (p ++ n))) := by
  classical
  refine List.perm_iff_count.mpr fun e => ?_
  simp only [List.count_append, List.count_cons, List.cons_append]
  omega
set_option maxHeartbeats 4000000 in
/-- the loop over the values -/
theorem rec_loop {s₀ : Shared} {R : Result → Shared → Prop} {E : Value → Shared → Prop} {g : Heap} {L c1 c2 c3 : Addr} {Y : Lay K} {so sf sx aa : Addr} {fb : Bool} {kvs : List (K × Value)} {sols : List Value} {us us1 : List K} {D : K → DS} {dom : K → List Int} {cons : List (Con K)}
    {lst key item pv : Value} {k : K} {pdl : Led K} {b : Bool} (hr : Room A (30 + 2 * us.length)) (B : Bs w g) (hg : ∀ b o, s₀.heap.get? b = some o → b ∉ (aa :: so :: (DL Y D us).map (·.1)) → g.get? b = some o)
    (LY : LayAt knd g Y) (hself : Has knd g sf (.raw (instObj 225 sx))) (hsx : Has knd g sx (.att [("_forwardcheck", .bool fb)])) (kl : KeyLt knd) (V : Inv Y dom cons kvs us D) (T : Stat Y dom cons) (hsz : sols.length + (solsOf Y.keys dom cons kvs).length < 50000)
    (hB : ∀ k ∈ Y.keys, k ∉ us → ∃ xs, Has knd g (Y.dA k) (.dom (Y.dxA k) xs) ∧ xs.length < 1000)
    (IH : RecOk knd Y dom cons so sf sx aa fb us1.length) (hus1 : us.Perm (k :: us1)) (hpd : PvD knd Y us1 pdl pv b)
    (H : St knd g (sideOf s₀) L [("pushdomains", pv), ("forwardcheck", .bool fb), ("variable", key), ("item", item), ("lst", lst), ("self", .ref sf), ("solutions", .ref so), ("single", .bool false)]
      (DL Y D us1 ++ ((aa, .dct (kvs ++ [(k, .none)])) :: (so, .lst sols) :: (Y.dA k, .dom (Y.dxA k) (D k).xs) :: (Y.hlA k, .lst (D k).hs) :: (Y.slA k, .lst (D k).st) :: (c1, .cell (some (.ref aa))) :: (c2, .cell (some (.ref Y.vc))) :: (c3, .cell (some (.ref Y.da))) :: pdl)) s)
    (hkey : knd.is k key = true)
    (h : ∀ s', RecPost knd Y dom cons s₀ aa so kvs sols us D s' → R (.ok (.ret (.ref so))) s') :
    wpAny (model prog w) A (execs ((bdy 5 1).drop 7) (envR L c1 c2 c3)) (FnQ R) E s := by
  have hk : k ∈ us := hus1.mem_iff.mpr (.head _)
  have hkm := V.usub k hk
  have hu := (V.uass k hkm).mp hk
  have kt := kt_rec
  have hda := LY.da
  have hvc := LY.vc
  have hnda := LY.nda
  have hnvc := LY.nvc
  have hv1 : valueAt (Y.keys.map fun k => (k, Value.ref (Y.vA k))) k = some (.ref (Y.vA k)) := value_map hkm
  have hv2 : valueAt (Y.keys.map fun k => (k, Value.ref (Y.dA k))) k = some (.ref (Y.dA k)) := value_map hkm
  have hn1 : us1.Nodup := ((hus1.nodup_iff).mp V.un).tail
  have hk1 : k ∉ us1 := (List.nodup_cons.mp ((hus1.nodup_iff).mp V.un)).1
  have hu1 : ∀ x ∈ us1, x ∈ us := fun x hx => hus1.mem_iff.mpr (.tail _ hx)
  have ul : us.length = us1.length + 1 := by rw [hus1.length_eq]; rfl
  have hbr := (sols_branch (cons := cons) (kvs := kvs) LY.nd T.dn hkm (V.dnd k hk) (V.rem k hk)).length_eq
  refine xs_cons (st := _) (rest := _) ?_
  walk_at "go"
  refine' fixSrc (a := Y.dA k) (k := Kd.dom (Y.dxA k) (D k).xs) (by assumption) ?hm (fun od hod hkd => ?_)
  case hm => exact List.mem_append_right _ (.tail _ (.tail _ (.head _)))
  rename_i s1 H1
  have H2 : St knd g (sideOf s₀) L _ (DL Y D us1 ++ ((aa, .dct (kvs ++ [(k, .none)])) :: (so, .lst sols) :: (Y.dA k, .raw od) :: (Y.hlA k, .lst (D k).hs) :: (Y.slA k, .lst (D k).st) :: (c1, .cell (some (.ref aa))) :: (c2, .cell (some (.ref Y.vc))) :: (c3, .cell (some (.ref Y.da))) :: pdl)) s1 :=
    recastO H1 hod (Up.left (.tail (.tail .head)) _)
  refine' start_dom H2 B hr.handled hod hkd ?_
  intro I s2 W H3
  refine' for_st (g := g) (R := sideOf s₀) (L := L) (X := List (K × Value) × (K → DS) × List (Addr × List (K × Value))) (fun _ => [("pushdomains", pv), ("forwardcheck", .bool fb), ("variable", key), ("item", item), ("lst", lst), ("self", .ref sf), ("solutions", .ref so), ("single", .bool false)])
    (fun q => DL Y q.2.1 us1 ++ ((aa, Kd.dct q.1) :: (so, .lst (sols ++ q.2.2.map fun p => Value.ref p.1)) :: (Y.dA k, .raw od) :: (Y.hlA k, .lst (D k).hs) :: (Y.slA k, .lst (D k).st) :: (c1, .cell (some (.ref aa))) :: (c2, .cell (some (.ref Y.vc))) :: (c3, .cell (some (.ref Y.da))) :: (pdl ++ q.2.2.map fun p => (p.1, Kd.dct p.2))))
    (fun i q => (∃ v, q.1 = kvs ++ [(k, v)]) ∧ (∀ x ∈ us1, PopOk (D x) (q.2.1 x)) ∧ (q.2.2.map fun p => tupOf Y.keys p.2).Perm (((D k).xs.take i).flatMap fun v => solsOf Y.keys dom cons (kvs ++ [(k, v)])) ∧ ∀ p ∈ q.2.2, Full Y.keys p.2)
    (kvs ++ [(k, .none)], D, []) W ?src ?h0 ?H0 ?turn ?done
  case src => intro i q s' _ hS; exact (hS.has (k := .raw od) (List.mem_append_right (oneIt I _ i) (List.mem_append_right _ (.tail _ (.tail _ (.head _)))))).rawE
  case h0 => exact ⟨⟨_, rfl⟩, fun x _ => PopOk.refl _, by simp, fun p hp => by cases hp⟩
  case H0 => simp only [List.map_nil, List.append_nil]; exact H3
  case turn =>
    rintro i ⟨kv, D', new⟩ v nw s' E' hi ⟨⟨v0, rfl⟩, hD, hnew, hfull⟩ ⟨hv, rfl⟩ H4
    dsimp only at hD hnew hfull H4
    replace H4 := show St knd g (sideOf s₀) L [("pushdomains", pv), ("forwardcheck", .bool fb), ("variable", key), ("item", item), ("lst", lst), ("self", .ref sf), ("solutions", .ref so), ("single", .bool false)] ((I, seqIt "list_iterator" (Y.dA k) (i + 1)) :: (DL Y D' us1 ++ ((aa, Kd.dct (kvs ++ [(k, v0)])) :: (so, .lst (sols ++ new.map fun p => Value.ref p.1)) :: (Y.dA k, .raw od) :: (Y.hlA k, .lst (D k).hs) :: (Y.slA k, .lst (D k).st) :: (c1, .cell (some (.ref aa))) :: (c2, .cell (some (.ref Y.vc))) :: (c3, .cell (some (.ref Y.da))) :: (pdl ++ new.map fun p => (p.1, Kd.dct p.2))))) s' from H4
    obtain ⟨iv, tv, rfl, hivd⟩ := V.dints k hk v (List.mem_of_getElem? hv)
    have hkz : (kvs ++ [(k, v0)]).length ≤ 900 := by
      have : (kvs.map (·.1)).length ≤ Y.keys.length := (len_le V.nd fun x hx => by obtain ⟨p, hp, rfl⟩ := List.mem_map.mp hx; exact V.sub p hp)
      rw [List.length_map] at this; have := LY.z; rw [List.length_append, List.length_cons, List.length_nil]; omega
    walk_at "go1"; walk_at "go1"; walk_at "go1"; walk_at "go1"; walk_at "go1"; walk_at "go1"; walk_at "go1"; walk_at "go1"; walk_at "go1"
    rename_i s5 H5
    have est : stored (kvs ++ [(k, v0)]) k (.int iv tv) = kvs ++ [(k, .int iv tv)] := by rw [← stored_new hu, stored_twice hu, stored_new hu]
    rw [est] at H5
    have pm : ∀ {i a : Addr × Kd K} {t r : Led K}, (i :: (t ++ (a :: r))).Perm (t ++ (a :: i :: r)) := fun {i a t r} => (List.perm_middle (l₁ := t) (l₂ := a :: r) (a := i)).symm.trans ((List.Perm.swap a i r).append_left t)
    have H6 := H5.perm (l' := DL Y D' us1 ++ ((aa, Kd.dct (kvs ++ [(k, .int iv tv)])) :: (I, seqIt "list_iterator" (Y.dA k) (i + 1)) :: (so, .lst (sols ++ new.map fun p => Value.ref p.1)) :: (Y.dA k, .raw od) :: (Y.hlA k, .lst (D k).hs) :: (Y.slA k, .lst (D k).st) :: (c1, .cell (some (.ref aa))) :: (c2, .cell (some (.ref Y.vc))) :: (c3, .cell (some (.ref Y.da))) :: (pdl ++ new.map fun p => (p.1, Kd.dct p.2)))) pm.symm
    have ev : Ev (envR L c1 c2 c3) L [("assignments", c1), ("vconstraints", c2), ("domains", c3)] tb_rec := Ev.ofKt kt
    have I0 : Inv0 Y dom cons (kvs ++ [(k, .int iv tv)]) us1 D' := inv_child V hus1 hD hivd
    have hz2 : ∀ x ∈ us1, (D' x).st.length + 1 + us1.length ≤ 90 := fun x hx => by have := V.z2 x (hu1 x hx); rw [(hD x hx).2.1]; omega
    have hlen : us1.length < 100 := by have := len_le hn1 (fun x hx => V.usub x (hu1 x hx)); have := LY.z; omega
    refine xs_cons (st := _) (rest := _) ?_
    refine' push_any (D := D') (us := us1) (pdl := pdl) (b := b) (hr.less (by omega)) ev ?p1 ?p2 ?p3 ?p4 B LY hn1 (fun x hx => V.usub x (hu1 x hx)) (fun x hx => ⟨by have := I0.z1 x hx; omega, by have := hz2 x hx; omega⟩) hlen hpd ?p5 H6 rfl rfl (fun D1 s7 hp1 hp2 H7 => ?_)
    case p1 => walk_at "mem"
    case p2 => walk_at "mem"
    case p3 => walk_at "mem"
    case p4 => walk_at "rm"
    case p5 => exact fun p hp => .tail _ (.tail _ (.tail _ (.tail _ (.tail _ (.tail _ (.tail _ (.tail _ (.tail _ (List.mem_append_left _ hp)))))))))
    have I1 : Inv0 Y dom cons (kvs ++ [(k, .int iv tv)]) us1 D1 := by
      cases b with
      | true => exact inv_push I0 hz2 (hp1 rfl)
      | false => rw [hp2 rfl]; exact I0
    have hrel : Rel b D' D1 us1 := ⟨fun e => Mid.of (hp1 e), hp2⟩
    refine nx ?_
    walk_at "go"
    rename_i s8 H8
    have hkz2 : (kvs ++ [(k, Value.int iv tv)]).length < 300 := by
      have : (kvs.map (·.1)).length ≤ Y.keys.length := (len_le V.nd fun x hx => by obtain ⟨p, hp, rfl⟩ := List.mem_map.mp hx; exact V.sub p hp)
      rw [List.length_map] at this; have := LY.z; rw [List.length_append, List.length_cons, List.length_nil]; omega
    refine' con_loop (k := k) (D := D1) (D0 := D') (us := us1) (b := b) (aa := aa) (cd := c3) (ca := c1) (pv := pv) (hr.less (by omega)) ev ?t1 ?t2 ?t3 ?t4 ?t5 rfl rfl ?mcd ?mca ?hpv ?pvis ?r1 ?r2 B LY kl.plain hkm I1 T hkz2 hrel H8 (fun D2 s9 hI hR hS H9 => ?brk) (fun D2 s9 E2 hI hR hC H9 _ => ?dn)
    case t1 => walk_at "mem"
    case t2 => walk_at "mem"
    case t3 => walk_at "mem"
    case t4 => walk_at "mem"
    case t5 => walk_at "mem"
    case mcd => walk_at "mem"
    case mca => walk_at "mem"
    case hpv => walk_at "mem"
    case pvis =>
      have hsubp : ∀ p ∈ pdl, p ∈ ((I, seqIt "list_iterator" (Y.dA k) (i + 1)) :: (so, .lst (sols ++ new.map fun p => Value.ref p.1)) :: (Y.dA k, .raw od) :: (Y.hlA k, .lst (D k).hs) :: (Y.slA k, .lst (D k).st) :: (c1, .cell (some (.ref aa))) :: (c2, .cell (some (.ref Y.vc))) :: (c3, .cell (some (.ref Y.da))) :: (pdl ++ new.map fun p => (p.1, Kd.dct p.2)) : Led K) := fun p hp => .tail _ (.tail _ (.tail _ (.tail _ (.tail _ (.tail _ (.tail _ (.tail _ (List.mem_append_left _ hp))))))))
      cases hpd with
      | none => exact .none
      | @lst pd opd ho =>
        have e : (!us1.isEmpty) = !(us1.map fun x => Value.ref (Y.dA x)).isEmpty := by cases us1 <;> rfl
        rw [e]
        exact .lst (hsubp _ (.head _)) ho (by rw [List.length_map]; omega)
    case r1 => walk_at "rm"
    case r2 => walk_at "rm"
    case brk =>
      refine nx (xs_cons (st := _) (rest := _) ?_)
      refine' pop_any (D0 := D') (D := D2) (us := us1) (pdl := pdl) (b := b) (hr.less (by omega)) ev ?p1 ?p2 ?p3 ?p4 B LY hn1 (fun x hx => V.usub x (hu1 x hx)) (fun x hx => ⟨by have := I0.z1 x hx; omega, by have := hz2 x hx; omega⟩) hlen hpd ?p5 hR.1 (fun e x hx => by rw [hR.2 e]; exact PopOk.refl _) H9 rfl rfl (fun D3 s10 hP H10 => ?_)
      case p1 => walk_at "mem"
      case p2 => walk_at "mem"
      case p3 => walk_at "mem"
      case p4 => walk_at "rm"
      case p5 => exact fun p hp => .tail _ (.tail _ (.tail _ (.tail _ (.tail _ (.tail _ (.tail _ (.tail _ (.tail _ (List.mem_append_left _ hp)))))))))
      walk_at "go"
      refine for_next ⟨(kvs ++ [(k, .int iv tv)], D3, new), ⟨⟨_, rfl⟩, fun x hx => (hD x hx).trans (hP x hx), ?_, hfull⟩, ?_⟩
      · dsimp only
        rw [List.take_add_one, hv, List.flatMap_append]
        have : (Option.some (Value.int iv tv)).toList.flatMap (fun v => solsOf Y.keys dom cons (kvs ++ [(k, v)])) = [] := by
          show solsOf Y.keys dom cons (kvs ++ [(k, .int iv tv)]) ++ [] = []
          rw [hS]; rfl
        rw [this, List.append_nil]; exact hnew
      · exact (H10.perm pm).sub (fun p hp => .tail _ hp) (List.Sublist.refl _)
    case dn =>
      refine xs_cons (st := _) (rest := _) ?_
      walk_at "go"
      have pmr : ∀ {a i s : Addr × Kd K} {t r : Led K}, (t ++ (a :: i :: s :: r)).Perm ((a :: s :: t) ++ (i :: r)) := fun {a i s t r} => ((List.Perm.swap s i r).cons a |>.append_left t).trans (List.perm_middle.trans (List.perm_middle.cons a))
      have X := H9.atAll B (l := (aa, .dct (kvs ++ [(k, .int iv tv)])) :: (so, .lst (sols ++ new.map fun p => Value.ref p.1)) :: DL Y D2 us1) pmr
      have hInv : Inv Y dom cons (kvs ++ [(k, .int iv tv)]) us1 D2 := inv_full V T hu hkm hI hC
      have hszc : (sols ++ new.map fun p => Value.ref p.1).length + (solsOf Y.keys dom cons (kvs ++ [(k, .int iv tv)])).length < 50000 := by
        have t1 := take_len (f := fun v => solsOf Y.keys dom cons (kvs ++ [(k, v)])) hv
        have t2 := hnew.length_eq
        rw [List.length_map] at t2
        rw [List.length_append, List.length_map]
        omega
      refine callRet (IH rfl (hr.less (by omega)) X.at_ (LY.keep X.sub) (hself.keep fun o => X.sub _ o) (hsx.keep fun o => X.sub _ o) hInv hszc (fun k' hk' hn' => ?_) fun s11 hpost => ?_)
      · by_cases q : k' = k
        · subst q
          have := X.rest (Y.dA k', .raw od) (.tail _ (.head _))
          exact ⟨(D k').xs, this.ofRaw hkd, by have := V.z1 k' hk; omega⟩
        · obtain ⟨xs, h1, h2⟩ := hB k' hk' (fun hm => hn' ((List.mem_cons.mp (hus1.mem_iff.mp hm)).resolve_left q))
          exact ⟨xs, h1.keep fun o => X.sub _ o, h2⟩
      · obtain ⟨D4, new2, e, hD4, hperm2, hfull2⟩ := hpost
        have H10 := H9.eff (l := (aa, .dct (kvs ++ [(k, .int iv tv)])) :: (so, .lst (sols ++ new.map fun p => Value.ref p.1)) :: DL Y D2 us1) pmr e
        refine retq ?_
        have pmq : ∀ {a s i : Addr × Kd K} {t n2 X : Led K}, ((a :: s :: (t ++ n2)) ++ (i :: X)).Perm (t ++ (a :: i :: s :: (X ++ n2))) := fun {a s i t n2 X} => by
          have e1 : ((a :: s :: (t ++ n2)) ++ (i :: X)) = a :: s :: (t ++ (n2 ++ (i :: X))) := by simp
          rw [e1]
          refine ((List.perm_middle.symm).cons a).trans (List.perm_middle.symm.trans (List.Perm.append_left t ?_))
          refine List.Perm.cons a ?_
          refine ((List.perm_middle (l₁ := n2) (l₂ := X) (a := i)).cons s).trans ((List.Perm.swap i s _).trans ?_)
          exact (List.perm_append_comm.cons s).cons i
        have H11 := H10.perm pmq.symm
        replace H11 : St knd g (sideOf s₀) L [("value", .int iv tv), ("pushdomains", pv), ("forwardcheck", .bool fb), ("variable", key), ("item", item), ("lst", lst), ("self", .ref sf), ("solutions", .ref so), ("single", .bool false)] (DL Y D4 us1 ++ ((aa, Kd.dct (kvs ++ [(k, .int iv tv)])) :: (I, seqIt "list_iterator" (Y.dA k) (i + 1)) :: (so, .lst (sols ++ (new ++ new2).map fun p => Value.ref p.1)) :: (Y.dA k, .raw od) :: (Y.hlA k, .lst (D k).hs) :: (Y.slA k, .lst (D k).st) :: (c1, .cell (some (.ref aa))) :: (c2, .cell (some (.ref Y.vc))) :: (c3, .cell (some (.ref Y.da))) :: (pdl ++ (new ++ new2).map fun p => (p.1, Kd.dct p.2)))) s11 := by
          have h := H11
          simp only [List.cons_append, List.append_assoc] at h
          simp only [List.map_append]
          exact h
        have hl3 : (sols ++ (new ++ new2).map fun p => Value.ref p.1).length < 100000 := by
          have t3 := hperm2.length_eq
          rw [List.length_map] at t3
          rw [List.length_append, List.length_map] at hszc
          rw [List.length_append, List.length_map, List.length_append]
          omega
        walk_at "go"
        rename_i s12 H12
        have hR4 : b = true → Mid D' D4 us1 := fun e x hx => by
          obtain ⟨t, r, e1, e2, e3⟩ := hR.1 e x hx
          obtain ⟨f1, f2, f3⟩ := hD4 x hx
          exact ⟨t, r, f2.trans e1, f1.trans e2, (f3.append_right r).trans e3⟩
        have hS4 : b = false → ∀ x ∈ us1, PopOk (D' x) (D4 x) := fun e x hx => by
          have := hD4 x hx
          rw [hR.2 e] at this; exact this
        have hnew3 : ((new ++ new2).map fun p => tupOf Y.keys p.2).Perm (((D k).xs.take (i + 1)).flatMap fun v => solsOf Y.keys dom cons (kvs ++ [(k, v)])) := by
          rw [List.take_add_one, hv, List.flatMap_append, List.map_append]
          refine hnew.append ?_
          show (new2.map fun p => tupOf Y.keys p.2).Perm (solsOf Y.keys dom cons (kvs ++ [(k, .int iv tv)]) ++ [])
          rw [List.append_nil]; exact hperm2
        have hfull3 : ∀ p ∈ new ++ new2, Full Y.keys p.2 := fun p hp => (List.mem_append.mp hp).elim (hfull p) (hfull2 p)
        cases hse : (sols ++ (new ++ new2).map fun p => Value.ref p.1).isEmpty with
        | true =>
          refine ifF rfl (wpAny_execs_nil (nx (wpAny_execs_nil (nx (xs_cons (st := _) (rest := _) ?_)))))
          refine' pop_any (D0 := D') (D := D4) (us := us1) (pdl := pdl) (b := b) (hr.less (by omega)) ev ?p1 ?p2 ?p3 ?p4 B LY hn1 (fun x hx => V.usub x (hu1 x hx)) (fun x hx => ⟨by have := I0.z1 x hx; omega, by have := hz2 x hx; omega⟩) hlen hpd ?p5 hR4 hS4 H12 rfl rfl (fun D5 s14 hP H14 => ?_)
          case p1 => walk_at "mem"
          case p2 => walk_at "mem"
          case p3 => walk_at "mem"
          case p4 => walk_at "rm"
          case p5 => exact fun p hp => .tail _ (.tail _ (.tail _ (.tail _ (.tail _ (.tail _ (.tail _ (.tail _ (.tail _ (List.mem_append_left _ hp)))))))))
          walk_at "go"
          exact for_next ⟨(kvs ++ [(k, .int iv tv)], D5, new ++ new2), ⟨⟨_, rfl⟩, fun x hx => (hD x hx).trans (hP x hx), hnew3, hfull3⟩, (H14.perm pm).sub (fun p hp => .tail _ hp) (List.Sublist.refl _)⟩
        | false =>
          refine ifT rfl ?_
          walk_at "go1"; walk_at "go1"; walk_at "go1"; walk_at "go1"
          refine ifF rfl (wpAny_execs_nil (nx (wpAny_execs_nil (nx (xs_cons (st := _) (rest := _) ?_)))))
          refine' pop_any (D0 := D') (D := D4) (us := us1) (pdl := pdl) (b := b) (hr.less (by omega)) ev ?p1 ?p2 ?p3 ?p4 B LY hn1 (fun x hx => V.usub x (hu1 x hx)) (fun x hx => ⟨by have := I0.z1 x hx; omega, by have := hz2 x hx; omega⟩) hlen hpd ?p5 hR4 hS4 H12 rfl rfl (fun D5 s14 hP H14 => ?_)
          case p1 => walk_at "mem"
          case p2 => walk_at "mem"
          case p3 => walk_at "mem"
          case p4 => walk_at "rm"
          case p5 => exact fun p hp => .tail _ (.tail _ (.tail _ (.tail _ (.tail _ (.tail _ (.tail _ (.tail _ (.tail _ (List.mem_append_left _ hp)))))))))
          walk_at "go"
          exact for_next ⟨(kvs ++ [(k, .int iv tv)], D5, new ++ new2), ⟨⟨_, rfl⟩, fun x hx => (hD x hx).trans (hP x hx), hnew3, hfull3⟩, (H14.perm pm).sub (fun p hp => .tail _ hp) (List.Sublist.refl _)⟩

  case done =>
    rintro ⟨kv, D', new⟩ s' E' ⟨⟨v0, rfl⟩, hD, hnew, hfull⟩ H4
    dsimp only at hD hnew hfull H4
    have hkz : (kvs ++ [(k, v0)]).length ≤ 900 := by
      have : (kvs.map (·.1)).length ≤ Y.keys.length := (len_le V.nd fun x hx => by obtain ⟨p, hp, rfl⟩ := List.mem_map.mp hx; exact V.sub p hp)
      rw [List.length_map] at this; have := LY.z; rw [List.length_append, List.length_cons, List.length_nil]; omega
    have hval : (valueAt (kvs ++ [(k, v0)]) k).isSome = true := by rw [← stored_new hu, vals_stored, if_pos rfl]; rfl
    walk_at "go1"; walk_at "go1"; walk_at "go1"; walk_at "go1"; walk_at "go1"; walk_at "go1"; walk_at "go1"; walk_at "go1"; walk_at "go1"
    rename_i s5 H5
    walk_at "go"
    have ewo : without (kvs ++ [(k, v0)]) k = kvs := by rw [← stored_new hu, without_stored hu]
    rw [ewo] at H5
    have H6 := H5.unfix (l' := DL Y D' us1 ++ ((aa, Kd.dct kvs) :: (so, .lst (sols ++ new.map fun p => Value.ref p.1)) :: (Y.dA k, .dom (Y.dxA k) (D k).xs) :: (Y.hlA k, .lst (D k).hs) :: (Y.slA k, .lst (D k).st) :: (c1, .cell (some (.ref aa))) :: (c2, .cell (some (.ref Y.vc))) :: (c3, .cell (some (.ref Y.da))) :: (pdl ++ new.map fun p => (p.1, Kd.dct p.2)))) hkd (Up.left (.tail (.tail .head)) _)
    have eD : (DL Y (setD D' k (D k)) us).Perm ((Y.dA k, Kd.dom (Y.dxA k) (D k).xs) :: (Y.hlA k, .lst (D k).hs) :: (Y.slA k, .lst (D k).st) :: DL Y D' us1) := by
      refine (DL_perm hus1).trans ?_
      have e2 : DL Y (setD D' k (D k)) us1 = DL Y D' us1 := DL_congr fun x hx => setD_ne fun e => hk1 (e ▸ hx)
      have e3 : DL Y (setD D' k (D k)) (k :: us1) = (Y.dA k, Kd.dom (Y.dxA k) (D k).xs) :: (Y.hlA k, .lst (D k).hs) :: (Y.slA k, .lst (D k).st) :: DL Y D' us1 := by
        rw [← e2]; unfold DL; rw [List.flatMap_cons, setD_eq]; rfl
      rw [e3]
    refine h _ ⟨setD D' k (D k), new, ?_, fun x hx => ?_, ?_, hfull⟩
    · refine (H6.perm (l' := ((aa, Kd.dct kvs) :: (so, .lst (sols ++ new.map fun p => Value.ref p.1)) :: (DL Y (setD D' k (D k)) us ++ new.map fun p => (p.1, Kd.dct p.2))) ++ ((c1, .cell (some (.ref aa))) :: (c2, .cell (some (.ref Y.vc))) :: (c3, .cell (some (.ref Y.da))) :: pdl)) ?_).toEff (List.sublist_append_left _ _) hg
      exact (((((eD.append_right _).cons _).cons _)).append_right _).trans perm_fin
    · by_cases q : x = k
      · subst q; rw [setD_eq]; exact PopOk.refl _
      · rw [setD_ne q]; exact hD x ((List.mem_cons.mp (hus1.mem_iff.mp hx)).resolve_left q)
    · rw [List.take_length] at hnew
      exact hnew.trans (sols_branch LY.nd T.dn hkm (V.dnd k hk) (V.rem k hk)).symm
end
end
section
open PySem PySem.W PySem.Calls PyProof.Rows
set_option Elab.async false
set_option maxRecDepth 100000
set_option maxHeartbeats 400000
set_option linter.unusedVariables false
set_option linter.unusedSectionVars false

local macro_rules | `(tactic| walk_at "isB") => `(tactic| first | (with_reducible exact b_len))
local macro_rules | `(tactic| walk_at "isG") => `(tactic| fail)
local macro_rules | `(tactic| walk_at "isD") => `(tactic| first | (with_reducible exact dm_push _) | (with_reducible exact dt_push _) | (with_reducible exact dm_pop _) | (with_reducible exact dt_pop _))
local macro_rules | `(tactic| walk_at "isF") => `(tactic| first | (with_reducible exact fn_push _) | (with_reducible exact fn_pop _) | (with_reducible exact fn_rec _))
local macro_rules | `(tactic| walk_at "isC") => `(tactic| first | (with_reducible exact cg_rs) | (with_reducible exact cga_rs) | (with_reducible exact no_fc) | (with_reducible exact hf_rec))
section
variable {prog : Program} {w : World} {K : Type} [DecidableEq K] {knd : KeyKind prog w K} {A : Around} {s : Shared}
/-- from the choice of a variable on -/
theorem rec_tail {s₀ : Shared} {R : Result → Shared → Prop} {E : Value → Shared → Prop} {g : Heap} {L c1 c2 c3 b : Addr} {Y : Lay K} {so sf sx aa : Addr} {fb : Bool} {kvs : List (K × Value)} {sols : List Value} {us : List K} {D : K → DS} {dom : K → List Int} {cons : List (Con K)}
    {lst key : Value} {k : K} {a1 a2 : Int} {t1 t2 : Tok} (hr : Room A (30 + 2 * us.length)) (B : Bs w g) (hg : ∀ b o, s₀.heap.get? b = some o → b ∉ (aa :: so :: (DL Y D us).map (·.1)) → g.get? b = some o)
    (LY : LayAt knd g Y) (hself : Has knd g sf (.raw (instObj 225 sx))) (hsx : Has knd g sx (.att [("_forwardcheck", .bool fb)])) (kl : KeyLt knd) (V : Inv Y dom cons kvs us D) (T : Stat Y dom cons) (hsz : sols.length + (solsOf Y.keys dom cons kvs).length < 50000)
    (hB : ∀ k ∈ Y.keys, k ∉ us → ∃ xs, Has knd g (Y.dA k) (.dom (Y.dxA k) xs) ∧ xs.length < 1000)
    (H : St knd g (sideOf s₀) L [("item", .ref b), ("lst", lst), ("self", .ref sf), ("solutions", .ref so), ("single", .bool false)]
      ((b, Kd.tup [.int a1 t1, .int a2 t2, key]) :: (c1, .cell (some (.ref aa))) :: (c2, .cell (some (.ref Y.vc))) :: (c3, .cell (some (.ref Y.da))) :: (aa, .dct kvs) :: (so, .lst sols) :: DL Y D us) s)
    (IH : ∀ m, m + 1 = us.length → RecOk knd Y dom cons so sf sx aa fb m) (hkey : knd.is k key = true) (hk : k ∈ us)
    (h : ∀ s', RecPost knd Y dom cons s₀ aa so kvs sols us D s' → R (.ok (.ret (.ref so))) s') :
    wpAny (model prog w) A (execs ((bdy 5 1).drop 3) (envR L c1 c2 c3)) (FnQ R) E s := by
  have hu := (V.uass k (V.usub k hk)).mp hk
  have hkm := V.usub k hk
  have kt := kt_rec
  have hus0 : us.Perm (k :: us.erase k) := List.perm_cons_erase hk
  have e1 : (us.erase k).Perm (Y.keys.filter fun x => decide (x ∈ us.erase k)) := by
    refine perm_of_mem (V.un.erase k) (LY.nd.filter _) fun x => ⟨fun hx => List.mem_filter.mpr ⟨V.usub x (List.mem_of_mem_erase hx), by simpa using hx⟩, fun hx => by simpa using (List.mem_filter.mp hx).2⟩
  generalize hus1e : (Y.keys.filter fun x => decide (x ∈ us.erase k)) = us1 at e1
  have hus1 : us.Perm (k :: us1) := hus0.trans (e1.cons k)
  have hkz : kvs.length ≤ 900 := by
    have : (kvs.map (·.1)).length ≤ Y.keys.length := (len_le V.nd fun x hx => by obtain ⟨p, hp, rfl⟩ := List.mem_map.mp hx; exact V.sub p hp)
    rw [List.length_map] at this; have := LY.z; omega
  have H1 : St knd g (sideOf s₀) L [("item", .ref b), ("lst", lst), ("self", .ref sf), ("solutions", .ref so), ("single", .bool false)]
      ((b, Kd.tup [.int a1 t1, .int a2 t2, key]) :: (c1, .cell (some (.ref aa))) :: (c2, .cell (some (.ref Y.vc))) :: (c3, .cell (some (.ref Y.da))) :: (aa, .dct kvs) :: (so, .lst sols) :: (Y.dA k, .dom (Y.dxA k) (D k).xs) :: (Y.hlA k, .lst (D k).hs) :: (Y.slA k, .lst (D k).st) :: DL Y D us1) s :=
    H.perm ((((((((DL_perm hus1).symm).cons _).cons _).cons _).cons _).cons _).cons _)
  refine xs_cons (st := _) (rest := _) ?_
  walk_at "go"
  rename_i s8 H8
  rw [stored_new hu] at H8
  have pm : ∀ {x1 x2 x3 x4 x5 x6 x7 x8 : Addr × Kd K} {t : Led K}, (x1 :: x2 :: x3 :: x4 :: x5 :: x6 :: x7 :: x8 :: t).Perm (t ++ [x4, x5, x6, x7, x8, x1, x2, x3]) := fun {x1 x2 x3 x4 x5 x6 x7 x8 t} =>
    (List.perm_append_comm (l₁ := [x1, x2, x3, x4, x5, x6, x7, x8]) (l₂ := t)).trans ((List.perm_append_comm (l₁ := [x1, x2, x3]) (l₂ := [x4, x5, x6, x7, x8])).append_left t)
  cases fb with
  | false =>
    refine ifF rfl ?_
    walk_at "go1"; walk_at "go1"; walk_at "go1"; walk_at "go1"; walk_at "go1"; walk_at "go1"; walk_at "go1"
    rename_i s9 H9
    refine rec_loop (us1 := us1) (lst := lst) (item := .ref b) hr B hg LY hself hsx kl V T hsz hB (IH _ (by rw [hus1.length_eq]; rfl)) hus1 .none ?_ hkey h
    exact (H9.sub (fun p hp => hp) (List.sublist_cons_self ..)).perm pm.symm
  | true =>
    refine ifT rfl ?_
    walk_at "go"
    have hVlen : (Y.keys.map fun k => (k, Value.ref (Y.dA k))).length = Y.keys.length := List.length_map ..
    obtain ⟨oda, hda, hkda⟩ := id LY.da
    refine' start_keys H8 hr.handled LY.nda (H8.o hda) hkda ?_
    intro I s9 ep W H9
    refine' comp_bind (l := (b, Kd.tup [.int a1 t1, .int a2 t2, key]) :: (c1, .cell (some (.ref aa))) :: (c2, .cell (some (.ref Y.vc))) :: (c3, .cell (some (.ref Y.da))) :: (aa, .dct (kvs ++ [(k, .none)])) :: (so, .lst sols) :: (Y.dA k, .dom (Y.dxA k) (D k).xs) :: (Y.hlA k, .lst (D k).hs) :: (Y.slA k, .lst (D k).st) :: DL Y D us1) (X := Nat)
      (fun i => ((Y.keys.take i).filter fun x => decide (x ∈ us.erase k)).map fun x => Value.ref (Y.dA x)) (fun _ => []) (fun i x => x = i ∧ i ≤ Y.keys.length) 0 kt ?hy ?hr rfl W ?hcell ?hkind H9 ?hsrc ?h0 rfl rfl ?hfit ?turn ?fin
    case hy => walk_at "mem"
    case hr => walk_at "rm"
    case hcell => decide +kernel
    case hkind => rfl
    case hsrc => intro i x C' D' vq g₂ s' _ hk hS; exact hS.o (hk _ _ hda)
    case h0 => exact ⟨rfl, Nat.zero_le _⟩
    case hfit => rintro i x ⟨rfl, hx⟩; rw [List.length_map]; refine Nat.lt_of_le_of_lt (List.length_filter_le _ _) ?_; rw [List.length_take]; have := LY.z; omega
    case turn =>
      rintro i x xkey new C' D' g₂ s' E' hi ⟨rfl, hx2⟩ ⟨⟨k', x0, hkv, hkey'⟩, rfl⟩ hg2 H3
      rw [hVlen] at hi
      have hki : Y.keys[x]? = some k' := by
        rw [List.getElem?_map] at hkv
        obtain ⟨k'', e1, e2⟩ := Option.map_eq_some_iff.mp hkv
        cases e2; exact e1
      have hkm' : k' ∈ Y.keys := List.mem_of_getElem? hki
      replace H3 := show St knd g₂ (sideOf s9) C' [] ((I, keyIt "dict_keyiterator" Y.da (Y.keys.map fun k => (k, Value.ref (Y.dA k))).length ep (x + 1)) :: (D', .lst (((Y.keys.take x).filter fun x => decide (x ∈ us.erase k)).map fun x => Value.ref (Y.dA x))) :: (b, Kd.tup [.int a1 t1, .int a2 t2, key]) :: (c1, .cell (some (.ref aa))) :: (c2, .cell (some (.ref Y.vc))) :: (c3, .cell (some (.ref Y.da))) :: (aa, .dct (kvs ++ [(k, .none)])) :: (so, .lst sols) :: (Y.dA k, .dom (Y.dxA k) (D k).xs) :: (Y.hlA k, .lst (D k).hs) :: (Y.slA k, .lst (D k).st) :: DL Y D us1) s' from H3
      have LY2 := LY.keep hg2
      have B2 := B.keeps hg2
      have hda2 := LY2.da
      have hnda := LY.nda
      have hv2 : valueAt (Y.keys.map fun k => (k, Value.ref (Y.dA k))) k' = some (.ref (Y.dA k')) := value_map hkm'
      refine' withEv (tbl := [("x", .local), ("assignments", .cell), ("domains", .cell)]) ?ev (fun ev => ?_)
      case ev => exact Ev.compK kt ⟨by decide +kernel, by decide +kernel⟩
      have hpe : (!(valueAt (kvs ++ [(k, Value.none)]) k').isSome) = decide (k' ∈ us.erase k) := by
        rw [← stored_new hu, vals_stored]
        by_cases q : k' = k
        · subst q; rw [if_pos rfl]; simp [List.Nodup.not_mem_erase V.un]
        · rw [if_neg q]
          have h1 := V.uass k' hkm'
          by_cases q2 : k' ∈ us
          · rw [h1.mp q2]; simp [(List.mem_erase_of_ne q).mpr q2]
          · cases q3 : valueAt kvs k' with
            | none => exact absurd (h1.mpr q3) q2
            | some v => rw [decide_eq_false (fun h => q2 (List.mem_of_mem_erase h))]; rfl
      walk_at "go"
      rw [hpe]
      have hstep := take_filter_succ (fun x => decide (x ∈ us.erase k)) Y.keys hki
      cases hd : decide (k' ∈ us.erase k) with
      | true =>
        rw [hd, if_pos rfl] at hstep
        walk_at "go"
        exact ⟨x + 1, _, _, ⟨⟨rfl, by omega⟩, by rw [hstep, List.map_append]; rfl⟩, List.Sublist.refl _, (by assumption)⟩
      | false =>
        rw [hd, if_neg (by decide), List.append_nil] at hstep
        walk_at "go"
        exact ⟨x + 1, _, _, ⟨⟨rfl, by omega⟩, by rw [hstep]⟩, List.Sublist.refl _, (by assumption)⟩
    case fin =>
      rintro x D' s' ⟨rfl, hx2⟩ H3
      rw [hVlen, List.take_length, hus1e, List.nil_append] at H3
      walk_at "go1"; walk_at "go1"; walk_at "go1"
      obtain ⟨opd, _, hopd, fx⟩ := H3.fix (.head _)
      have H4 := fx _ .head
      have pm2 : ∀ {p x1 x2 x3 x4 x5 x6 x7 x8 : Addr × Kd K} {t : Led K}, (p :: x1 :: x2 :: x3 :: x4 :: x5 :: x6 :: x7 :: x8 :: t).Perm (t ++ [x4, x5, x6, x7, x8, x1, x2, x3, p]) := fun {p x1 x2 x3 x4 x5 x6 x7 x8 t} =>
        (List.perm_append_comm (l₁ := [p, x1, x2, x3, x4, x5, x6, x7, x8]) (l₂ := t)).trans (((List.perm_append_comm (l₁ := [p, x1, x2, x3]) (l₂ := [x4, x5, x6, x7, x8])).trans ((List.perm_append_comm (l₁ := [p]) (l₂ := [x1, x2, x3])).append_left [x4, x5, x6, x7, x8])).append_left t)
      refine rec_loop (us1 := us1) (lst := lst) (item := .ref b) hr B hg LY hself hsx kl V T hsz hB (IH _ (by rw [hus1.length_eq]; rfl)) hus1 (.lst (pd := D') hopd) ?_ hkey h
      exact (H4.sub (fun p hp => hp) (List.Sublist.cons_cons _ (List.sublist_cons_self ..))).perm pm2.symm

theorem rec_spec {R : Result → Shared → Prop} {g₀ : Heap} {Y : Lay K} {so sf sx aa : Addr} {fb : Bool} {kvs : List (K × Value)} {sols : List Value} {us : List K} {D : K → DS} (hr : Room A (30 + 2 * us.length + 1))
    (X : At knd g₀ s ((aa, .dct kvs) :: (so, .lst sols) :: DL Y D us)) (LY : LayAt knd g₀ Y) (hself : Has knd g₀ sf (.raw (instObj 225 sx))) (hsx : Has knd g₀ sx (.att [("_forwardcheck", .bool fb)])) (kl : KeyLt knd)
    {dom : K → List Int} {cons : List (Con K)} (V : Inv Y dom cons kvs us D) (T : Stat Y dom cons) (hsz : sols.length + (solsOf Y.keys dom cons kvs).length < 50000)
    (hB : ∀ k ∈ Y.keys, k ∉ us → ∃ xs, Has knd g₀ (Y.dA k) (.dom (Y.dxA k) xs) ∧ xs.length < 1000)
    (IH : ∀ m, m + 1 = us.length → RecOk knd Y dom cons so sf sx aa fb m)
    (h : ∀ s', RecPost knd Y dom cons s aa so kvs sols us D s' → R (.ok (.ret (.ref so))) s') :
    codeAny (model prog w) A (.call (.ref 208) ⟨[.ref sf, .ref so, .ref Y.da, .ref Y.vc, .ref aa, .bool false], []⟩) R s := by
  refine enterC (knd := knd) (binds := [("self", .ref sf), ("solutions", .ref so), ("domains", .ref Y.da), ("vconstraints", .ref Y.vc), ("assignments", .ref aa), ("single", .bool false)])
    (vL := [("self", .ref sf), ("solutions", .ref so), ("single", .bool false)]) (cnames := ["assignments", "vconstraints", "domains"]) (cv := [some (.ref aa), some (.ref Y.vc), some (.ref Y.da)]) X hr (X.k _ _ (X.B.X _ _ (fn_rec _))) rfl ((codeRec_of X.B.X (cd_rec _)).keeps X.k)
    (BindsTo.of_eq (by kernel_rfl)) (show ∀ x ∈ (["self", "solutions", "domains", "vconstraints", "assignments", "single"] : List Str), _ from by decide +kernel) (by decide +kernel) (by decide +kernel) ?hL ?hC (fun g L s₁ cl hcl hg hg' B H => ?_) (by kernel_rfl) (by kernel_rfl) kt_rec.kind
  case hL => kernel_rfl
  case hC => kernel_rfl
  obtain ⟨c1, c2, c3, rfl⟩ := cl_three hcl
  have kt := kt_rec
  replace H : St knd g (sideOf s) L [("self", .ref sf), ("solutions", .ref so), ("single", .bool false)] ((c1, .cell (some (.ref aa))) :: (c2, .cell (some (.ref Y.vc))) :: (c3, .cell (some (.ref Y.da))) :: (aa, .dct kvs) :: (so, .lst sols) :: DL Y D us) s₁ := H
  refine xs_cons (st := _) (rest := _) ?_
  walk_at "go"
  have LYg := LY.keep hg'
  have hVlen : (Y.keys.map fun k => (k, Value.ref (Y.dA k))).length = Y.keys.length := List.length_map ..
  obtain ⟨oda, hda, hkda⟩ := id LYg.da
  refine' start_keys (by assumption) (hr.deeper _).handled LYg.nda ((by assumption : St knd g _ L _ _ _).o hda) hkda ?_
  intro I s₂ ep W H2
  refine' comp_bind (l := (c1, .cell (some (.ref aa))) :: (c2, .cell (some (.ref Y.vc))) :: (c3, .cell (some (.ref Y.da))) :: (aa, .dct kvs) :: (so, .lst sols) :: DL Y D us) (X := Led K) (fun x => (x.map fun p => Value.ref p.1).reverse) (fun x => x)
    (fun i x => x.length = i ∧ i ≤ Y.keys.length ∧ (∀ p ∈ x, ∃ a b t u k key, p.2 = Kd.tup [.int a t, .int b u, key] ∧ knd.is k key = true ∧ k ∈ Y.keys) ∧
      (∀ j k, j < i → Y.keys[j]? = some k → ∃ p ∈ x, ∃ a b t u key, p.2 = Kd.tup [.int a t, .int b u, key] ∧ knd.is k key = true)) [] kt ?hy ?hr rfl W ?hcell ?hkind H2 ?hsrc ?h0 rfl rfl ?hfit ?turn ?fin
  case hy => walk_at "mem"
  case hr => walk_at "rm"
  case hcell => decide +kernel
  case hkind => rfl
  case hsrc => intro i x C' D' vq g₂ s' _ hk hS; exact hS.o (hk _ _ hda)
  case h0 => exact ⟨rfl, Nat.zero_le _, (fun p hp => nomatch hp), fun j k hj => absurd hj (Nat.not_lt_zero _)⟩
  case hfit => rintro i x ⟨hx, hx2, _⟩; have := LY.z; rw [List.length_reverse, List.length_map]; omega
  case turn =>
    rintro i x key new C' D' g₂ s' E' hi ⟨hx1, hx2, hx3, hx4⟩ ⟨⟨k, x0, hkv, hkey⟩, rfl⟩ hg2 H3
    rw [hVlen] at hi
    have hki : Y.keys[i]? = some k := by
      rw [List.getElem?_map] at hkv
      obtain ⟨k', e1, e2⟩ := Option.map_eq_some_iff.mp hkv
      cases e2; exact e1
    have hkm : k ∈ Y.keys := List.mem_of_getElem? hki
    replace H3 := show St knd g₂ (sideOf s₂) C' [] (x ++ ((I, keyIt "dict_keyiterator" Y.da (Y.keys.map fun k => (k, Value.ref (Y.dA k))).length ep (i + 1)) :: (D', .lst ((x.map fun p => Value.ref p.1).reverse)) :: (c1, .cell (some (.ref aa))) :: (c2, .cell (some (.ref Y.vc))) :: (c3, .cell (some (.ref Y.da))) :: (aa, .dct kvs) :: (so, .lst sols) :: DL Y D us)) s' from H3
    have LY2 := LYg.keep hg2
    have B2 := B.keeps hg2
    have hvc2 := LY2.vc
    have hda2 := LY2.da
    have hnda := LY.nda
    have hnvc := LY.nvc
    have hv1 : valueAt (Y.keys.map fun k => (k, Value.ref (Y.vA k))) k = some (.ref (Y.vA k)) := value_map hkm
    have hv2 : valueAt (Y.keys.map fun k => (k, Value.ref (Y.dA k))) k = some (.ref (Y.dA k)) := value_map hkm
    have hvl2 := (LY2.vl k hkm).1
    have hvz : ((Y.vcons k).map fun C => Value.ref C.t).length < 100000 := by rw [List.length_map]; have := (LY.vl k hkm).2; omega
    have step : ∀ {a b : Int} {t u : Tok} {c : Addr}, (((c, Kd.tup [.int a t, .int b u, key]) :: x).length = i + 1 ∧ i + 1 ≤ Y.keys.length ∧ (∀ p ∈ ((c, Kd.tup [.int a t, .int b u, key]) :: x : Led K), ∃ a b t u k key, p.2 = Kd.tup [.int a t, .int b u, key] ∧ knd.is k key = true ∧ k ∈ Y.keys) ∧
        (∀ j k, j < i + 1 → Y.keys[j]? = some k → ∃ p ∈ ((c, Kd.tup [.int a t, .int b u, key]) :: x : Led K), ∃ a b t u key, p.2 = Kd.tup [.int a t, .int b u, key] ∧ knd.is k key = true)) ∧
        ((((c, Kd.tup [.int a t, .int b u, key]) :: x : Led K).map fun p => Value.ref p.1).reverse = ((x.map fun p => Value.ref p.1).reverse) ++ [.ref c]) := by
      intro a b t u c
      refine ⟨⟨by rw [List.length_cons, hx1], hi, fun p hp => ?_, fun j k' hj hk' => ?_⟩, by rw [List.map_cons, List.reverse_cons]⟩
      · rcases List.mem_cons.mp hp with e | hp
        · rw [e]; exact ⟨a, b, t, u, k, key, rfl, hkey, hkm⟩
        · exact hx3 p hp
      · rcases Nat.lt_succ_iff_lt_or_eq.mp hj with q | q
        · obtain ⟨p, hp, r⟩ := hx4 j k' q hk'
          exact ⟨p, .tail _ hp, r⟩
        · subst q
          rw [hki] at hk'
          cases hk'
          exact ⟨_, .head _, a, b, t, u, key, rfl, hkey⟩
    refine' withEv (tbl := [("variable", .local), ("vconstraints", .cell), ("domains", .cell), ("len", .globalImplicit)]) ?ev (fun ev => ?_)
    case ev => exact Ev.compK kt ⟨by decide +kernel, by decide +kernel⟩
    by_cases hku : k ∈ us
    · have hxz : (D k).xs.length < 1000 := by have := V.z1 k hku; omega
      walk_at "go"
      exact ⟨_, _, _, step, List.Sublist.refl _, (by assumption)⟩
    · obtain ⟨xs1, hxs1, hxz1⟩ := hB k hkm hku
      have hxs2 := (hxs1.keep fun o e => hg' _ o e).keep fun o e => hg2 _ o e
      walk_at "go"
      exact ⟨_, _, _, step, List.Sublist.refl _, (by assumption)⟩
  case fin =>
    rintro x D' s' ⟨hx1, _, hx3, hx4⟩ H3
    rw [hVlen] at hx1 hx4
    replace H3 := show St knd g (sideOf s) L [("lst", .ref D'), ("self", .ref sf), ("solutions", .ref so), ("single", .bool false)] (x ++ ((D', .lst ((x.map fun p => Value.ref p.1).reverse)) :: (c1, .cell (some (.ref aa))) :: (c2, .cell (some (.ref Y.vc))) :: (c3, .cell (some (.ref Y.da))) :: (aa, .dct kvs) :: (so, .lst sols) :: DL Y D us)) s' from H3
    walk_at "go"
    refine' uSort kl (by assumption) (l'' := fun ys => x ++ ((D', .lst ys) :: (c1, .cell (some (.ref aa))) :: (c2, .cell (some (.ref Y.vc))) :: (c3, .cell (some (.ref Y.da))) :: (aa, .dct kvs) :: (so, .lst sols) :: DL Y D us)) (fun ys => Up.left .head _) ?h2 ?h64 ?hT (fun ys s4 hperm H4 => ?_)
    case h2 => rw [List.length_reverse, List.length_map, hx1]; exact LY.z2
    case h64 => rw [List.length_reverse, List.length_map, hx1]; have := LY.z; omega
    case hT =>
      intro v hv
      rw [List.mem_reverse] at hv
      obtain ⟨p, hp, rfl⟩ := List.mem_map.mp hv
      obtain ⟨a, b, t, u, k, key, e1, e2, _⟩ := hx3 p hp
      exact ⟨p.1, a, b, t, u, k, key, rfl, List.mem_append_left _ (by rw [← e1]; exact hp), e2⟩
    have hys : ∀ v ∈ ys, ∃ p ∈ x, v = .ref p.1 := fun v hv => by
      have := hperm.mem_iff.mp hv
      rw [List.mem_reverse] at this
      obtain ⟨p, hp, e⟩ := List.mem_map.mp this
      exact ⟨p, hp, e.symm⟩
    walk_at "go"
    refine' fixSrc (by assumption) ?hm (fun oD hoD hkD => ?_)
    case hm => walk_at "mem"
    refine' goLst (by assumption) (hr.deeper _).handled hoD hkD ?hU ?_
    case hU => walk_at "up"
    intro I2 s5 W2 H5
    refine' for_st (g := g) (R := sideOf s) (L := L) (X := Unit) (fun _ => [("lst", .ref D'), ("self", .ref sf), ("solutions", .ref so), ("single", .bool false)]) (fun _ => x ++ ((D', .raw oD) :: (c1, .cell (some (.ref aa))) :: (c2, .cell (some (.ref Y.vc))) :: (c3, .cell (some (.ref Y.da))) :: (aa, .dct kvs) :: (so, .lst sols) :: DL Y D us))
      (fun i _ => ∀ j v, j < i → ys[j]? = some v → ∀ p ∈ x, v = .ref p.1 → ∀ a b t u k key, p.2 = Kd.tup [.int a t, .int b u, key] → knd.is k key = true → (valueAt kvs k).isSome = true) () W2 ?src ?h0 ?H0 ?turn ?done
    case src => intro i q s' _ hS; exact (hS.has (k := .raw oD) (.tail _ (List.mem_append_right x (List.mem_cons_self ..)))).rawE
    case h0 => exact fun j v h => absurd h (Nat.not_lt_zero _)
    case H0 => exact H5
    case turn =>
      rintro i ⟨⟩ v new s' E' hi hJ ⟨hv, rfl⟩ H6
      replace H6 := show St knd g (sideOf s) L [("lst", .ref D'), ("self", .ref sf), ("solutions", .ref so), ("single", .bool false)] ((I2, seqIt "list_iterator" D' (i + 1)) :: (x ++ ((D', .raw oD) :: (c1, .cell (some (.ref aa))) :: (c2, .cell (some (.ref Y.vc))) :: (c3, .cell (some (.ref Y.da))) :: (aa, .dct kvs) :: (so, .lst sols) :: DL Y D us))) s' from H6
      obtain ⟨p, hp, rfl⟩ := hys v (List.mem_of_getElem? hv)
      obtain ⟨a, b, t, u, k, key, e1, hkey, hkm⟩ := hx3 p hp
      have hpm : (p.1, Kd.tup [.int a t, .int b u, key]) ∈ x := by rw [← e1]; exact hp
      walk_at "go"
      cases hass2 : (valueAt kvs k).isSome with
      | true =>
        refine ifF rfl ?_
        walk_at "go"
        refine for_next ⟨(), fun j v hj hv' p' hp' e' a' b' t' u' k' key' e1' hk' => ?_, ?_⟩
        · rcases Nat.lt_succ_iff_lt_or_eq.mp hj with q | q
          · exact hJ j v q hv' p' hp' e' a' b' t' u' k' key' e1' hk'
          · subst q
            rw [hv] at hv'
            have e2 : p.1 = p'.1 := by have := Option.some.inj hv'; rw [e'] at this; exact Value.ref.inj this
            have e3 : p = p' := by
              have hn := H6.nd
              have : ∀ {l : Led K}, (l.map (·.1)).Nodup → p ∈ l → p' ∈ l → p = p' := by
                intro l
                induction l with
                | nil => intro _ h; cases h
                | cons a l ih =>
                  intro hn m m'
                  rw [List.map_cons, List.nodup_cons] at hn
                  rcases List.mem_cons.mp m with q | q <;> rcases List.mem_cons.mp m' with q' | q'
                  · rw [q, q']
                  · exact absurd (List.mem_map.mpr ⟨p', q', by rw [← e2, q]⟩) hn.1
                  · exact absurd (List.mem_map.mpr ⟨p, q, by rw [e2, q']⟩) hn.1
                  · exact ih hn.2 q q'
              exact this hn (.tail _ (List.mem_append_left _ hp)) (.tail _ (List.mem_append_left _ hp'))
            subst e3
            rw [e1] at e1'
            cases e1'
            rw [← knd.inj key k k' hkey hk']
            exact hass2
        · walk_at "end"
      | false =>
        refine ifT rfl ?_
        refine xs_cons (st := _) (rest := _) (wpAny_Break (nx_brk (nx_brk (for_brk (nx ?_)))))
        have hku : k ∈ us := (V.uass k hkm).mpr (by cases q : valueAt kvs k with | none => rfl | some v => rw [q] at hass2; cases hass2)
        refine rec_tail (b := p.1) (lst := .ref D') (a1 := a) (a2 := b) (t1 := t) (t2 := u) (hr.deeper _) B hg LYg (hself.keep fun o e => hg' _ o e) (hsx.keep fun o e => hg' _ o e) kl V T hsz (fun k hk hn => ?_) ?_ IH hkey hku h
        · obtain ⟨xs, h1, h2⟩ := hB k hk hn
          exact ⟨xs, h1.keep fun o e => hg' _ o e, h2⟩
        · refine' St.vsub (by assumption) ?hv ((List.Sublist.append (List.singleton_sublist.mpr hpm) (List.sublist_cons_self ..)).cons _)
          case hv => walk_at "vsub"
    case done =>
      rintro ⟨⟩ s' E' hJ H6
      have hall : ∀ k ∈ Y.keys, (valueAt kvs k).isSome = true := by
        intro k hk
        obtain ⟨j, hj, e⟩ := List.getElem_of_mem hk
        obtain ⟨p, hp, a, b, t, u, key, e1, e2⟩ := hx4 j k hj (by rw [List.getElem?_eq_getElem hj, e])
        have hpy : Value.ref p.1 ∈ ys := hperm.mem_iff.mpr (by rw [List.mem_reverse]; exact List.mem_map.mpr ⟨p, hp, rfl⟩)
        obtain ⟨i, hi, e3⟩ := List.getElem_of_mem hpy
        exact hJ i _ hi (by rw [List.getElem?_eq_getElem hi, e3]) p hp rfl a b t u k key e1 e2
      obtain ⟨hl1, hl2, hl3⟩ := V.leaf T LY.nd hall
      have hsz' : sols.length < 100000 := by omega
      have hkz : kvs.length ≤ 1000 := by have := hl2.1.length_eq; rw [List.length_map] at this; have := LY.z; omega
      subst hl3
      walk_at "go"
      rename_i s7 H7 c s8 H8 s9 H9
      have hsubl : List.Sublist ([(c, .dct kvs), (aa, .dct kvs), (so, .lst (sols ++ [.ref c]))] : Led K) ((c, .dct kvs) :: (x ++ ((D', .raw oD) :: (c1, .cell (some (.ref aa))) :: (c2, .cell (some (.ref Y.vc))) :: (c3, .cell (some (.ref Y.da))) :: (aa, .dct kvs) :: (so, .lst (sols ++ [.ref c])) :: DL Y D []))) := by
        refine List.Sublist.cons_cons _ (List.Sublist.trans ?_ (List.sublist_append_right x _))
        exact .cons _ (.cons _ (.cons _ (.cons _ (.cons_cons _ (.cons_cons _ (List.nil_sublist _))))))
      have pm : List.Perm ([(aa, .dct kvs), (so, .lst (sols ++ [.ref c])), (c, .dct kvs)] : Led K) [(c, .dct kvs), (aa, .dct kvs), (so, .lst (sols ++ [.ref c]))] := List.perm_append_comm (l₁ := [(aa, Kd.dct kvs), (so, Kd.lst (sols ++ [Value.ref c]))]) (l₂ := [(c, Kd.dct kvs)])
      have H10 := (H9.vsub (vs' := []) .nil hsubl).perm pm
      have hall2 : ∀ p ∈ [(c, kvs)], Full Y.keys p.2 := fun p hp => by rw [List.mem_singleton] at hp; rw [hp]; exact hl2
      exact fn_ret (h _ ⟨D, [(c, kvs)], St.toEff H10 (List.Sublist.refl _) hg, (fun k hk => by cases hk), hl1.symm, hall2⟩)
/-- the recursive search, whole -/
theorem rec_ok {Y : Lay K} {dom : K → List Int} {cons : List (Con K)} {so sf sx aa : Addr} {fb : Bool} (kl : KeyLt knd) (T : Stat Y dom cons) : ∀ n, RecOk knd Y dom cons so sf sx aa fb n
  | 0 => fun hn hr X LY hself hsx V hsz hB h => rec_spec (by rw [hn]; exact hr) X LY hself hsx kl V T hsz hB (fun m hm => by rw [hn] at hm; cases hm) h
  | n + 1 => fun hn hr X LY hself hsx V hsz hB h => rec_spec (by rw [hn]; exact hr) X LY hself hsx kl V T hsz hB (fun m hm => by rw [hn] at hm; cases hm; exact rec_ok kl T n) h
end
end
section
open PySem PySem.W PySem.Calls PyProof.Rows
set_option Elab.async false
set_option maxRecDepth 100000
set_option maxHeartbeats 400000
set_option linter.unusedVariables false
set_option linter.unusedSectionVars false
section
variable {M : Model} {A : Around} {R : GenEnd} {Y : Protocol} {n : Nat} {s₀ : Shared} {c : Code} {fs : List Frame} {s : Shared} {env : Env}
  {gd : Bool → Bool} {lv : List Value → List Value}
theorem noErr {α : Type} {A : Around} {m : Sem α} {Q : α → Shared → Prop} {E : Value → Shared → Prop} {s : Shared} (h : wpAny M A m Q (fun _ _ => False) s) : wpAny M A m Q E s := wpAny_mono h (fun _ _ h => h) fun _ _ h => h.elim
theorem seg_wbind {α β : Type} {m : Sem α} {f : α → Sem β} {K : β → Sem Fin} {H : Value → Sem Fin} (h : wpAny M (A.over c fs) m (fun a s' => Seg M A R Y n s₀ c ((f a).wrap K H gd lv) fs s') (fun _ _ => False) s) :
    Seg M A R Y n s₀ c ((m >>= f).wrap K H gd lv) fs s := by
  rw [Sem.bind_eq_wrap', Sem.wrap_wrap]; exact seg_wrap (noErr h)
/-- after a statement -/
def SegQ (M : Model) (A : Around) (R : GenEnd) (Y : Protocol) (n : Nat) (s₀ : Shared) (c : Code) (fs : List Frame) (rest : List Stmt) (env : Env) (K : Flow → Sem Fin) (H : Value → Sem Fin) (gd : Bool → Bool) (lv : List Value → List Value) (f : Flow) (s' : Shared) : Prop :=
  match f with
  | .next => Seg M A R Y n s₀ c ((execs rest env).wrap K H gd lv) fs s'
  | f => Seg M A R Y n s₀ c (K f) fs s'
variable {K : Flow → Sem Fin} {H : Value → Sem Fin}
theorem seg_stmt {st : Stmt} {rest : List Stmt} (h : wpAny M (A.over c fs) (exec st env) (SegQ M A R Y n s₀ c fs rest env K H gd lv) (fun _ _ => False) s) : Seg M A R Y n s₀ c ((execs (st :: rest) env).wrap K H gd lv) fs s :=
  seg_execs_cons (seg_wrap (noErr (wpAny_mono h (fun f s' h => by cases f <;> exact h) fun _ _ h => h)))
theorem segq {rest : List Stmt} (h : Seg M A R Y n s₀ c ((execs rest env).wrap K H gd lv) fs s) : SegQ M A R Y n s₀ c fs rest env K H gd lv .next s := h
theorem segq_ret {rest : List Stmt} {v : Value} (h : Seg M A R Y n s₀ c (K (.ret v)) fs s) : SegQ M A R Y n s₀ c fs rest env K H gd lv (.ret v) s := h
theorem segq_brk {rest : List Stmt} (h : Seg M A R Y n s₀ c (K .brk) fs s) : SegQ M A R Y n s₀ c fs rest env K H gd lv .brk s := h
/-- the frame of a loop's call -/
def OwnF (env : Env) (K : Flow → Sem Fin) (H : Value → Sem Fin) (gd : Bool → Bool) (lv : List Value → List Value) (c : Code) (p : Pos) : Frame :=
  .ret (fun r => ((match r with | .ok f => (.pure f : Sem Flow) | .error e => .raise e).onRaise fun (x : Value) => do
        if (← field x 1) == Value.none then unsupported "frame.own-activation:exception-without-traceback"
        setFlight x env.frame).wrap K H gd lv) none (gd false) (lv []) c p []
theorem seg_own {c₂ : Code} {p : Pos} {f : Flow} (h : Seg M A R Y n s₀ c (K f) fs s) : Seg M A R Y n s₀ c₂ (.pure (.done f)) (OwnF env K H gd lv c p :: fs) s :=
  seg_leaf (.ok f) h
theorem seg_For {target iter : Expr} {body orelse : List Stmt} {pos : Pos}
    (h : wpAny M (A.over c fs) (eval iter env) (fun x s₁ => wpAny M (A.over c fs) (pyIter x) (fun it s₂ => ∀ p, Seg M A R Y n s₀ (.forLoop target it body orelse env) (M.den (.forLoop target it body orelse env)) (OwnF env K H gd lv c p :: fs) s₂) (fun _ _ => False) s₁) (fun _ _ => False) s)
    (hs : ∀ x, foldedSetIterable iter env x = pure x) : Seg M A R Y n s₀ c ((exec (.For target iter body orelse pos) env).wrap K H gd lv) fs s := by
  rw [exec_For]
  refine seg_wbind (wpAny_standAt (seg_wbind (wpAny_mono h (fun x s₁ h₁ => ?_) fun _ _ h => h)))
  refine seg_wbind (wpAny_of_eq (hs x) (seg_wbind (wpAny_standAt (seg_wbind (wpAny_holding (wpAny_mono h₁ (fun it s₂ h₂ => ?_) fun _ _ h => h))))))
  exact seg_call h₂
theorem seg_Whi {test : Expr} {body orelse : List Stmt} {pos : Pos}
    (h : ∀ p, Seg M A R Y n s₀ (.whileLoop test body orelse env) (M.den (.whileLoop test body orelse env)) (OwnF env K H gd lv c p :: fs) s) :
    Seg M A R Y n s₀ c ((exec (.While test body orelse pos) env).wrap K H gd lv) fs s := seg_While h
end
section
variable {prog : Program} {w : World} {A : Around} {R : GenEnd} {Y : Protocol} {n : Nat} {s₀ : Shared} {fs : List Frame} {s : Shared} {env : Env}
abbrev noteH (env : Env) : Value → Sem Fin := fun e => (do noteFrame e env; theTreesLotGoes e : Sem Unit).bind fun _ => .raise e
theorem seg_block {stmts : List Stmt}
    (h : Seg (model prog w) A R Y n s₀ (.block stmts env) ((execs stmts env).wrap (fun f => .pure (.done f)) (noteH env) id id) fs s) :
    Seg (model prog w) A R Y n s₀ (.block stmts env) ((model prog w).den (.block stmts env)) fs s := by
  show Seg _ A R Y n s₀ _ ((execs stmts env).onRaise (fun x => do noteFrame x env; theTreesLotGoes x) >>= fun f => .pure (.done f)) fs s
  rw [Sem.onRaise_eq_wrap, Sem.bind_eq_wrap', Sem.wrap_wrap]
  rw [Sem.wrap_congr (execs stmts env) _ _ (K' := fun f => .pure (.done f)) (H' := noteH env) (fun f => by cases f <;> rfl) (fun e => by
    unfold noteH; rw [Sem.bind_eq_wrap, Sem.bind_eq_wrap, Sem.wrap_wrap]; rfl)]
  exact h
theorem seg_forTurn {target : Expr} {it : Value} {body orelse : List Stmt}
    (h : wpAny (model prog w) (A.over (.forLoop target it body orelse env) fs) (pyNext it) (fun r s₁ => match r with
      | none => Seg (model prog w) A R Y n s₀ (.block orelse env) ((model prog w).den (.block orelse env)) fs s₁
      | some v => wpAny (model prog w) (A.over (.forLoop target it body orelse env) fs) (letOwnedTupleGo target it v) (fun _ s₁' => wpAny (model prog w) (A.over (.forLoop target it body orelse env) fs) (assign target env v) (fun _ s₂ =>
          wpAny (model prog w) (A.over (.forLoop target it body orelse env) fs) (execs body env) (fun f s₃ => match f with
            | .next | .cont => Seg (model prog w) A R Y n s₀ (.forLoop target it body orelse env) ((model prog w).den (.forLoop target it body orelse env)) fs s₃
            | .brk => Seg (model prog w) A R Y n s₀ (.forLoop target it body orelse env) (.pure (.done .next)) fs s₃
            | .ret v => Seg (model prog w) A R Y n s₀ (.forLoop target it body orelse env) (.pure (.done (.ret v))) fs s₃) (fun _ _ => False) s₂) (fun _ _ => False) s₁') (fun _ _ => False) s₁) (fun _ _ => False) s) :
    Seg (model prog w) A R Y n s₀ (.forLoop target it body orelse env) ((model prog w).den (.forLoop target it body orelse env)) fs s := by
  show Seg _ A R Y n s₀ _ ((forTurn target it body orelse env).onRaise (fun x => do noteFrame x env; theTreesLotGoes x)) fs s
  simp only [forTurn]
  rw [Sem.onRaise_eq_wrap]
  refine seg_wbind (wpAny_standAt (seg_wbind (wpAny_onRaise (wpAny_mono h (fun r s₁ h₁ => ?_) fun _ _ h => h.elim))))
  cases r with
  | none => exact seg_again rfl h₁
  | some v =>
    refine seg_wbind (wpAny_mono h₁ (fun _ s₁' h₁' => seg_wbind (wpAny_mono h₁' (fun _ s₂ h₂ => seg_wbind (wpAny_mono h₂ (fun f s₃ h₃ => ?_) fun _ _ h => h)) fun _ _ h => h)) fun _ _ h => h)
    cases f with
    | next => exact seg_again rfl h₃
    | cont => exact seg_again rfl h₃
    | brk => exact h₃
    | ret v => exact h₃
abbrev KW (test : Expr) (body orelse : List Stmt) (env : Env) : Flow → Sem Fin := fun f => match f with
  | .next | .cont => .pure (.again (.whileLoop test body orelse env))
  | .brk => .pure (.done .next)
  | .ret v => .pure (.done (.ret v))
abbrev HW (env : Env) : Value → Sem Fin := fun e => (do noteFrame e env; theTreesLotGoes e : Sem Unit).wrap (fun _ => .raise e) .raise id id
theorem seg_whiTurn {test : Expr} {body orelse : List Stmt}
    (h : wpAny (model prog w) (A.over (.whileLoop test body orelse env) fs) (isTrue test env (eval test env)) (fun b s' => b = true ∧
          Seg (model prog w) A R Y n s₀ (.whileLoop test body orelse env) ((execs body env).wrap (KW test body orelse env) (HW env) id id) fs s') (fun _ _ => False) s) :
    Seg (model prog w) A R Y n s₀ (.whileLoop test body orelse env) ((model prog w).den (.whileLoop test body orelse env)) fs s := by
  refine seg_whileLoop (noErr (wpAny_mono h (fun b s' hb => ?_) fun _ _ h => h))
  obtain ⟨rfl, hb⟩ := hb
  exact hb
end
end
section
open PySem PySem.W PySem.Calls PyProof.Rows
set_option Elab.async false
set_option maxRecDepth 100000
set_option maxHeartbeats 400000
set_option linter.unusedVariables false
set_option linter.unusedSectionVars false
section
variable {prog : Program} {w : World} {K : Type} [DecidableEq K] {knd : KeyKind prog w K} {A : Around} {s : Shared}
  {g : Heap} {R' : Side} {L : Addr} {a : Addr} {env : Env} {R : GenEnd} {Y : Protocol} {m : Nat} {s₀ : Shared} {fs : List Frame}
/-- a for loop that may yield in its else -/
theorem seg_for_st {X : Type} (vs : X → Vars) (l : X → Led K) (J : Nat → X → Prop) (x₀ : X) {it : Value} {o : Obj} {n : Nat} {P : Nat → Value → Led K → Prop} {io : Nat → Led K} {target : Expr} {body orelse : List Stmt} {QB : Flow → Shared → Prop}
    (W : Iter prog w knd (A.over (.forLoop target it body orelse env) fs) it a o n P io) (hsrc : ∀ i x s, J i x → St knd g R' L (vs x) (io i ++ l x) s → s.heap.get? a = some o) (h0 : J 0 x₀) (H : St knd g R' L (vs x₀) (io 0 ++ l x₀) s)
    (hb : ∀ f s', QB f s' → Seg (model prog w) A R Y m s₀ (.forLoop target it body orelse env) (.pure (.done f)) fs s')
    (turn : ∀ i x v new s', i < n → J i x → P i v new → St knd g R' L (vs x) (new ++ (io (i + 1) ++ l x)) s' →
      wpAny (model prog w) (A.over (.forLoop target it body orelse env) fs) (assign target env v) (fun _ s₂ => wpAny (model prog w) (A.over (.forLoop target it body orelse env) fs) (execs body env) (ForQ (fun s₃ => ∃ y, J (i + 1) y ∧ St knd g R' L (vs y) (io (i + 1) ++ l y) s₃) QB) (fun _ _ => False) s₂) (fun _ _ => False) s')
    (done : ∀ x s', J n x → St knd g R' L (vs x) (l x) s' → Seg (model prog w) A R Y m s₀ (.block orelse env) ((model prog w).den (.block orelse env)) fs s') :
    Seg (model prog w) A R Y m s₀ (.forLoop target it body orelse env) ((model prog w).den (.forLoop target it body orelse env)) fs s := by
  have key : ∀ k i x s, k + i = n → J i x → St knd g R' L (vs x) (io i ++ l x) s → Seg (model prog w) A R Y m s₀ (.forLoop target it body orelse env) ((model prog w).den (.forLoop target it body orelse env)) fs s := by
    intro k
    induction k with
    | zero =>
      intro i x s hk hJ hS
      obtain rfl : i = n := by omega
      exact seg_forTurn (W.done hS (hsrc i x s hJ hS) fun s₁ hS₁ => done x s₁ hJ hS₁)
    | succ k ih =>
      intro i x s hk hJ hS
      refine seg_forTurn (wpAny_mono (W.item (target := target) (by omega) hS (hsrc i x s hJ hS) (E' := fun _ _ => False) (fun v new s₁ hP hS₁ => turn i x v new s₁ (by omega) hJ hP hS₁)) (fun r s₁ h₁ => ?_) fun _ _ e => e)
      obtain ⟨v, rfl, h₁⟩ := h₁
      refine wpAny_mono h₁ (fun _ s₂ h₂ => wpAny_mono h₂ (fun _ s₃ h₃ => wpAny_mono h₃ (fun f s₄ h₄ => ?_) fun _ _ e => e) fun _ _ e => e) fun _ _ e => e
      cases f with
      | next => obtain ⟨y, hy, hS'⟩ := h₄; exact ih (i + 1) y s₄ (by omega) hy hS'
      | cont => obtain ⟨y, hy, hS'⟩ := h₄; exact ih (i + 1) y s₄ (by omega) hy hS'
      | brk => exact hb .next _ h₄
      | ret v => exact hb (.ret v) _ h₄
  exact key n 0 x₀ s rfl h0 H
end

section
variable {prog : Program} {w : World} {A : Around} {E : Value → Shared → Prop} {s : Shared}
theorem pyNextB {a : Addr} {g n : Nat} {gs : GenState} {P : Nat → Shared → Shared → Prop} {Y : Protocol} {Q : Option Value → Shared → Prop} (hh : A.handled = none)
    (hl : s.heap.NoLimit) (hroom : A.depth < recursionLimit)
    (hg : s.heap.IsGen a g) (hgs : s.gens[g]? = some gs)
    (hgo : gs.Goes (model prog w) A.in1 (fun n s₀ r s₁ => r = .ok (.ret .none) ∧ P n s₀ s₁) Y n (.send .none) (s.setGen g .running))
    (hY : ∀ v s₁ gs', gs'.bare = true → Y (n - 1) (s.setGen g .running) v s₁ (fun r' s'' => match n with
        | 0 => False
        | m + 1 => gs'.Goes (model prog w) A.in1 (fun n s₀ r s₁ => r = .ok (.ret .none) ∧ P n s₀ s₁) Y m r' s'') → Q (some v) (s₁.setGen g gs'))
    (hP : ∀ s₁, P n (s.setGen g .running) s₁ → ∀ h', (∀ b o, s₁.heap.get? b = some o → h'.get? b = some o) → Q none { s₁.setGen g .finished with heap := h' }) :
    wpAny (model prog w) A (pyNext (.ref a)) Q E s := by
  unfold pyNext
  refine wpAny_bind (wpAny_attempt (wpAny_callSpecial?_slot (name := Str.ofString "__next__") hg.typeIs slot_gen_next
    (wpAny_call_entry slot_gen_next hg.typeIs entry_gen_next ?_ (args_gen_next _))))
  show wpAny _ A.in1 (Builtin.Generator.genWake (.ref a) (.send .none)) _ _ s
  unfold Builtin.Generator.genWake
  refine wpAny_bind (wpAny_holding (wpAny_genNumber hg (wpAny_bind (wpAny_genState hgs ?_))))
  cases gs with
  | running => exact hgo.elim
  | finished => exact hgo.elim
  | _ =>
    refine wpAny_bind (wpAny_roomToWake hl hroom ?_)
    show wpAny _ A.in1 (.resume g (.send .none) [] _) _ _ s
    refine wpAny_resumeQ hgs hgo (fun x s₁ hx => ?_) (fun v s₁ gs' hb hv => ?_)
    · obtain ⟨rfl, hp⟩ := hx
      show wpAny _ A.in1 (newExc (.type "StopIteration") [] >>= _) _ _ _
      refine wpAny_bind ?_
      simp only [newExc, newTuple]
      refine wpAny_bind (wpAny_newObj_type ?_ (by size_fits))
      refine wpAny_bind (m := firstArgMember _ _) (wpAny_of_eq (a := Value.none) (by first | rfl | (simp only [firstArgMember]; rfl)) ?_)
      refine wpAny_newObj_type ?_ (by size_fits)
      simp only [raiseNew]
      refine wpAny_bind (wpAny_bind (wpAny_handled ?_))
      first | rw [show A.in1.handled = none from hh] | rw [hh]
      refine wpAny_throw ?_
      refine wpAny_bind (wpAny_isInstance (T := "StopIteration") (b := true) ⟨_, Heap.get?_push_size _ rfl, rfl⟩ isSubtype_stop ?_)
      exact wpAny_pure (hP s₁ hp _ fun b o hb => Heap.get?_push_of_some _ (Heap.get?_push_of_some _ hb))
    · exact wpAny_pure ⟨v, rfl, wpAny_pure (hY v s₁ gs' hb hv)⟩

/-- the list that takes what a generator gives -/
abbrev GL (acc : List Value) (c : Nat) : Obj := { cls := .type "list", dict := none, data := .seq acc.toArray c, slots := #[] }
theorem extend_loop {R : Result → Shared → Prop} {GI : Nat → List Value → Shared → Prop} {S I : Addr} {res : Value}
    (hS : ∀ n acc s, GI n acc s → (∃ c, s.heap.get? S = some (GL acc c)))
    (next : ∀ n acc s E, GI n acc s → wpAny (model prog w) A.in1 (pyNext (.ref I)) (fun r s' => match r with
      | some v => acc.length < 50000 ∧ (∃ c, s'.heap.get? S = some (GL acc c)) ∧ ∃ m, m < n ∧ ∀ h' c, h'.get? S = some (GL (acc ++ [v]) c) → Heap.SameBut S s'.heap h' → GI m (acc ++ [v]) { s' with heap := h' }
      | none => R (.ok (.ret res)) s') E s) :
    ∀ n acc s, GI n acc s → codeAny (model prog w) A (.builtin "list.extend.loop" ⟨[.ref S, .ref I, res], []⟩) R s := by
  intro n
  induction n using Nat.strongRecOn with
  | ind n ih =>
  intro acc s hG
  refine codeAny_builtin F.entry_extend_loop ?_
  rw [Around.under_plainId F.plain_extend_loop _]
  show wpAny _ A.in1 (pyNext (.ref I) >>= _) _ _ s
  refine wpAny_bind (wpAny_mono (next n acc s (fun _ _ => False) hG) (fun r s' h => ?_) fun _ _ h => h.elim)
  cases r with
  | none => exact wpAny_pure h
  | some v =>
    obtain ⟨hz, ⟨c, hS'⟩, m, hm, hk⟩ := h
    show wpAny _ A.in1 (updateSeq S (·.push v) >>= _) _ _ _
    refine wpAny_bind ?_
    have hz' : acc.toArray.size < 50000 := by rw [List.size_toArray]; exact hz
    refine wpAny_updateSeq hS' rfl (wpAny_pure ⟨plainId_quiet F.plain_extend_loop _, ih m hm (acc ++ [v]) _ (hk _ _ (by
      have e := Heap.get?_update_self (Obj.mapSeq (·.push v)) hS' rfl
      rw [e]
      show some (GL _ _) = _
      simp [Obj.mapSeq]; rfl) (Heap.SameBut.update ..))⟩) ?_ ?_
    · rw [sizeLine_eq]; omega
    · show (acc.toArray.push v).size ≤ sizeLine + 1; rw [Array.size_push, sizeLine_eq]; omega
end
end
section
open PySem PySem.W PySem.Calls PyProof.Rows
set_option Elab.async false
set_option maxRecDepth 100000
set_option maxHeartbeats 400000
set_option linter.unusedVariables false
set_option linter.unusedSectionVars false
section
variable {prog : Program} {w : World} {A : Around} {E : Value → Shared → Prop} {s : Shared}
theorem extend_gen {R : Result → Shared → Prop} {GI : Nat → List Value → Shared → Prop} {S I : Addr} {res : Value} {gn n c₀ : Nat}
    (hS : ∀ n acc s, GI n acc s → (∃ c, s.heap.get? S = some (GL acc c)))
    (next : ∀ n acc s E, GI n acc s → wpAny (model prog w) A.in1 (pyNext (.ref I)) (fun r s' => match r with
      | some v => acc.length < 50000 ∧ (∃ c, s'.heap.get? S = some (GL acc c)) ∧ ∃ m, m < n ∧ ∀ h' c, h'.get? S = some (GL (acc ++ [v]) c) → Heap.SameBut S s'.heap h' → GI m (acc ++ [v]) { s' with heap := h' }
      | none => R (.ok (.ret res)) s') E s)
    (hg : s.heap.IsGen I gn) (hSI : S ≠ I) (hS0 : s.heap.get? S = some (GL [] c₀)) (h0 : ∀ h' c, h'.get? S = some (GL [] c) → Heap.SameBut S s.heap h' → GI n [] { s with heap := h' }) :
    wpAny (model prog w) A.in1 (Builtin.List.listExtendWith (.ref S) (.ref I) res)
      (fun fin s' => match fin with | .done f => R (.ok f) s' | .again c' => c'.quiet = true ∧ codeAny (model prog w) A c' R s') (fun e s' => R (.error e) s') s := by
  unfold Builtin.List.listExtendWith
  refine wpAny_bind (wpAny_typeOf hg.typeIs ?_)
  have h1 : Builtin.List.listSameRef (.ref S) (.ref I) = false := by simp [Builtin.List.listSameRef, hSI]
  have h2 : (Value.type "generator" == Value.type "list") = false := by decide
  have h3 : (Value.type "generator" == Value.type "tuple") = false := by decide
  simp only [h1, h2, h3, Bool.or_false, Bool.false_eq_true, if_false]
  refine wpAny_bind (wpAny_pyIter_gen hg ?_)
  refine wpAny_bind (wpAny_holding ?_)
  unfold Builtin.List.listLengthHint
  refine wpAny_bind (wpAny_specialOf hg.typeIs F.gen_no_len ?_)
  show wpAny _ A.in1 (specialOf (Value.ref I) (Str.ofString "__length_hint__") >>= _) _ _ _
  refine wpAny_bind (wpAny_specialOf hg.typeIs F.gen_no_hint ?_)
  refine wpAny_pure ?_
  show wpAny _ A.in1 (rule "list.extend.makes-room" >>= fun _ => Builtin.List.listTouch (.ref S) >>= fun _ =>
    again (.builtin "list.extend.loop" ⟨[.ref S, .ref I, res], []⟩)) _ _ _
  refine wpAny_bind (wpAny_rule ?_)
  refine wpAny_bind ?_
  show wpAny _ A.in1 (updateSeq S (·.push .none) >>= fun _ => updateSeq S (·.pop)) _ _ _
  refine wpAny_bind (wpAny_updateSeq hS0 rfl ?_)
  have hS₂ := Heap.get?_update_self (Obj.mapSeq (·.push Value.none)) hS0 rfl
  refine wpAny_updateSeq (hz := by seq_fits) hS₂ rfl ?_
  have hS₃ := Heap.get?_update_self (Obj.mapSeq (·.pop)) hS₂ rfl
  exact wpAny_pure ⟨plainId_quiet F.plain_extend_loop _, extend_loop hS next n [] _ (h0 _ _ hS₃ ((Heap.SameBut.update ..).trans (Heap.SameBut.update ..)))⟩
/-- list(generator) -/
theorem callListGen {Q : Value → Shared → Prop} {GI : Nat → List Value → Shared → Prop} {I : Addr} {gn n : Nat}
    (hS : ∀ n acc s', GI n acc s' → (∃ c, s'.heap.get? s.heap.objs.size = some (GL acc c)))
    (next : ∀ n acc s' E, GI n acc s' → wpAny (model prog w) A.in1.in1 (pyNext (.ref I)) (fun r s₁ => match r with
      | some v => acc.length < 50000 ∧ (∃ c, s₁.heap.get? s.heap.objs.size = some (GL acc c)) ∧ ∃ m, m < n ∧ ∀ h' c, h'.get? s.heap.objs.size = some (GL (acc ++ [v]) c) → Heap.SameBut s.heap.objs.size s₁.heap h' → GI m (acc ++ [v]) { s₁ with heap := h' }
      | none => Q (.ref s.heap.objs.size) s₁) E s')
    (hg : s.heap.IsGen I gn) (h0 : ∀ h' c, h'.get? s.heap.objs.size = some (GL [] c) → (∀ b o, s.heap.get? b = some o → h'.get? b = some o) → GI n [] { s with heap := h' }) :
    wpAny (model prog w) A (call (.type "list") [.ref I]) Q E s := by
  have hIs : I < s.heap.objs.size := let ⟨_, _, _, ho, _⟩ := hg; Heap.lt_size ho
  refine callType_codes (Q₁ := fun obj s₁ => obj = .ref s.heap.objs.size ∧ s₁ = { s with heap := s.heap.push { cls := .type "list", data := .seq #[] } }) F.called_list (F.typeCall_list_1 _) F.entry_list_init
    (code_list_new _ ⟨rfl, rfl⟩) fun obj s₁ h₁ => ?_
  obtain ⟨rfl, rfl⟩ := h₁
  have hS1 : (s.heap.push { cls := .type "list", data := .seq #[] }).get? s.heap.objs.size = some { cls := .type "list", data := .seq #[] } := Heap.get?_push_size _ rfl
  refine ⟨⟨_, hS1, rfl⟩, F.args_list_init_2 _ _, ?_⟩
  show wpAny _ A.in1.in1 (do let old ← Builtin.List.listItems (.ref s.heap.objs.size); Builtin.List.listUpdate (.ref s.heap.objs.size) (fun _ => #[]); letGo old.toList.reverse; Builtin.List.listExtendWith (.ref s.heap.objs.size) (.ref I) .none) _ _ _
  refine wpAny_bind ?_
  unfold Builtin.List.listItems
  refine wpAny_bind (wpAny_seqItems hS1 rfl (wpAny_pure ?_))
  show wpAny _ A.in1.in1 (updateSeq s.heap.objs.size (fun _ => #[]) >>= fun _ => letGo (#[] : Array Value).toList.reverse >>= fun _ => Builtin.List.listExtendWith (.ref s.heap.objs.size) (.ref I) .none) _ _ _
  refine wpAny_bind (wpAny_updateSeq hS1 rfl ?_)
  have hS₂ := Heap.get?_update_self (Obj.mapSeq (fun _ => (#[] : Array Value))) hS1 rfl
  refine wpAny_bind (wpAny_letGo ?_)
  have hsb : Heap.SameBut s.heap.objs.size (s.heap.push { cls := .type "list", data := .seq #[] }) ((s.heap.push { cls := .type "list", data := .seq #[] }).update s.heap.objs.size (Obj.mapSeq (fun _ => (#[] : Array Value)))) := Heap.SameBut.update ..
  refine extend_gen (GI := GI) (n := n) (A := A.in1) hS (fun n acc s' E hG => wpAny_mono (next n acc s' E hG) (fun r s₁ h => ?_) fun _ _ h => h) ((hg.push _).sameBut hsb (Nat.ne_of_lt hIs)) (Ne.symm (Nat.ne_of_lt hIs)) hS₂ fun h' c e hs => h0 h' c e fun b o hb => ?_
  · cases r with
    | none => exact ⟨rfl, h⟩
    | some v => exact h
  · have hne : b ≠ s.heap.objs.size := Nat.ne_of_lt (Heap.lt_size hb)
    rw [hs.2 b hne, hsb.2 b hne]
    exact Heap.get?_push_of_some _ hb
end
end
section
open PySem PySem.W PySem.Calls PyProof.Rows
set_option Elab.async false
set_option maxRecDepth 100000
set_option maxHeartbeats 400000
set_option linter.unusedVariables false
set_option linter.unusedSectionVars false
/-- a level of the generator's stack -/
structure Lev (K : Type) where
  k : K
  key : Value
  V : List Value
  va : Addr
  ta : Addr
  pv : Value
  pdl : Led K
  b : Bool
section
variable {prog : Program} {w : World} {K : Type} [DecidableEq K] {knd : KeyKind prog w K} {Y : Lay K} {dom : K → List Int} {cons : List (Con K)}
  {kvs : List (K × Value)} {us us1 : List K} {D D' D0 D1 : K → DS} {q : List (Lev K)} {rem : List (List (K × Int))} {lv : Lev K} {v : Value}
def lvSols (Y : Lay K) (dom : K → List Int) (cons : List (Con K)) (kvs : List (K × Value)) (k : K) (V : List Value) : List (List (K × Int)) := V.flatMap fun v => solsOf Y.keys dom cons (kvs ++ [(k, v)])
structure LevOk (knd : KeyKind prog w K) (Y : Lay K) (dom : K → List Int) (us us1 : List K) (lv : Lev K) : Prop where
  perm : us.Perm (lv.k :: us1)
  key : knd.is lv.k lv.key = true
  V : ∀ v ∈ lv.V, ∃ i t, v = Value.int i t ∧ i ∈ dom lv.k
  z : lv.V.length ≤ 90
  pv : PvD knd Y us1 lv.pdl lv.pv lv.b
structure RelK (Y : Lay K) (b : Bool) (D0 D : K → DS) (us1 : List K) : Prop where
  mid : b = true → Mid D0 D us1
  same : b = false → ∀ x ∈ us1, PopOk (D0 x) (D x)
  out : ∀ x ∈ Y.keys, x ∉ us1 → PopOk (D0 x) (D x)
inductive Stk {prog : Program} {w : World} {K : Type} [DecidableEq K] (knd : KeyKind prog w K) (Y : Lay K) (dom : K → List Int) (cons : List (Con K)) : List (Lev K) → List (K × Value) → List K → (K → DS) → List (List (K × Int)) → Prop
  | nil {us : List K} {D : K → DS} : us.Perm Y.keys → Inv Y dom cons [] us D → NE us D → Stk knd Y dom cons [] [] us D []
  | cons {q : List (Lev K)} {kvs : List (K × Value)} {us us1 : List K} {D0 D : K → DS} {rem : List (List (K × Int))} {lv : Lev K} {v : Value} : Stk knd Y dom cons q kvs us D0 rem → LevOk knd Y dom us us1 lv → RelK Y lv.b D0 D us1 → Inv Y dom cons (kvs ++ [(lv.k, v)]) us1 D → NE us1 D →
      Stk knd Y dom cons (lv :: q) (kvs ++ [(lv.k, v)]) us1 D (lvSols Y dom cons kvs lv.k lv.V ++ rem)
theorem Stk.inv (h : Stk knd Y dom cons q kvs us D rem) : Inv Y dom cons kvs us D ∧ NE us D := by
  cases h with
  | nil _ h h' => exact ⟨h, h'⟩
  | cons _ _ _ h h' => exact ⟨h, h'⟩
theorem Stk.klen (h : Stk knd Y dom cons q kvs us D rem) : us.length + q.length = Y.keys.length ∧ kvs.length = q.length := by
  induction h with
  | nil p _ _ => exact ⟨by rw [p.length_eq]; rfl, rfl⟩
  | cons _ h2 _ _ _ ih =>
    have := h2.perm.length_eq
    rw [List.length_cons] at this
    rw [List.length_cons, List.length_append, List.length_cons, List.length_nil]
    omega
theorem Mid.move {D0 D D' : K → DS} {us : List K} (h : Mid D0 D us) (h' : ∀ x ∈ us, PopOk (D x) (D' x)) : Mid D0 D' us := fun x hx => by
  obtain ⟨t, r, e1, e2, e3⟩ := h x hx
  obtain ⟨f1, f2, f3⟩ := h' x hx
  exact ⟨t, r, f2.trans e1, f1.trans e2, (f3.append_right r).trans e3⟩
theorem NE.move (h : NE us D) (hD : ∀ x ∈ us, PopOk (D x) (D' x)) : NE us D' := fun x hx e => by
  have := (hD x hx).2.2
  rw [e] at this
  exact h x hx this.symm.eq_nil
theorem inv0_move (V : Inv0 Y dom cons kvs us D) (hD : ∀ x ∈ us, PopOk (D x) (D' x)) : Inv0 Y dom cons kvs us D' :=
  ⟨V.nd, V.sub, V.vints, V.un, V.usub, V.uass, fun x hx v hv => V.dints x hx v ((hD x hx).2.2.mem_iff.mp hv), fun x hx => ((hD x hx).2.2.map vInt).nodup_iff.mpr (V.dnd x hx),
    fun x hx y hy hny v hv => V.rem x hx y hy (fun h => hny (((hD x hx).2.2.map vInt).mem_iff.mpr h)) v hv, fun x hx => by have := V.z1 x hx; rw [(hD x hx).2.2.length_eq, (hD x hx).1]; exact this,
    fun x hx => by have := V.z2 x hx; rw [(hD x hx).2.1]; exact this⟩
theorem inv_move (V : Inv Y dom cons kvs us D) (hD : ∀ x ∈ us, PopOk (D x) (D' x)) : Inv Y dom cons kvs us D' := ⟨inv0_move V.toInv0 hD, V.chk⟩
theorem Stk.move (h : Stk knd Y dom cons q kvs us D rem) (hD : ∀ x ∈ Y.keys, PopOk (D x) (D' x)) : Stk knd Y dom cons q kvs us D' rem := by
  cases h with
  | nil p h h' => exact .nil p (inv_move h fun x hx => hD x (h.usub x hx)) (h'.move fun x hx => hD x (h.usub x hx))
  | cons a b c d e => exact .cons a b ⟨fun hb => (c.mid hb).move fun x hx => hD x (d.usub x hx), fun hb x hx => (c.same hb x hx).trans (hD x (d.usub x hx)), fun x hx hn => (c.out x hx hn).trans (hD x hx)⟩ (inv_move d fun x hx => hD x (d.usub x hx)) (e.move fun x hx => hD x (d.usub x hx))
/-- the state of the domains, changed on some -/
def mixD (us : List K) (D' D : K → DS) : K → DS := fun x => if x ∈ us then D' x else D x
theorem mixD_in {x : K} (h : x ∈ us) : mixD us D' D x = D' x := by unfold mixD; rw [if_pos h]
theorem mixD_out {x : K} (h : x ∉ us) : mixD us D' D x = D x := by unfold mixD; rw [if_neg h]
theorem DL_mix_in : DL Y (mixD us D' D) us = DL Y D' us := DL_congr fun _ hk => mixD_in hk
theorem DL_mix_out {as : List K} (h : ∀ x ∈ as, x ∉ us) : DL Y (mixD us D' D) as = DL Y D as := DL_congr fun _ hk => mixD_out (h _ hk)
/-- a level is given up -/
theorem Stk.pop (h : Stk knd Y dom cons q kvs us D0 rem) (hr : RelK Y lv.b D0 D us1) (hP : Popped D0 D' us1) : Stk knd Y dom cons q kvs us (mixD us1 D' D) rem :=
  h.move fun x hx => by
    by_cases hm : x ∈ us1
    · rw [mixD_in hm]; exact hP x hm
    · rw [mixD_out hm]; exact hr.out x hx hm
/-- the measure -/
def qmu (n : Nat) : List (Lev K) → Nat
  | [] => 0
  | lv :: q => lv.V.length * 91 ^ (n - (q.length + 1)) + qmu n q
def curMu (n : Nat) (V : List Value) (q : List (Lev K)) : Nat := V.length * 91 ^ (n - (q.length + 1)) + qmu n q
def nodeMu (n : Nat) (q : List (Lev K)) : Nat := 91 ^ (n - q.length) + qmu n q
theorem mu_pos (n m : Nat) : 0 < 91 ^ (n - m) := Nat.pow_pos (by decide)
theorem mu_first {n : Nat} {V : List Value} (hV : V.length ≤ 90) (hq : q.length < n) : curMu n V q < nodeMu n q := by
  unfold curMu nodeMu
  have e : n - q.length = (n - (q.length + 1)) + 1 := by omega
  rw [e, Nat.pow_succ]
  have h1 := mu_pos n (q.length + 1)
  have h2 := Nat.mul_le_mul_right (91 ^ (n - (q.length + 1))) hV
  omega
theorem mu_step {n : Nat} {V : List Value} : curMu n V q < curMu n (V ++ [v]) q := by
  unfold curMu
  rw [List.length_append, List.length_cons, List.length_nil, Nat.zero_add, Nat.add_mul]
  have h1 := mu_pos n (q.length + 1)
  omega
theorem mu_push {n : Nat} : nodeMu n (lv :: q) ≤ curMu n (lv.V ++ [v]) q := by
  unfold curMu nodeMu
  rw [show qmu n (lv :: q) = lv.V.length * 91 ^ (n - (q.length + 1)) + qmu n q from rfl]
  rw [List.length_append, List.length_cons, List.length_cons, List.length_nil, Nat.zero_add, Nat.add_mul]
  omega
theorem mu_leaf {n : Nat} : curMu n lv.V q < nodeMu n (lv :: q) := by
  unfold curMu nodeMu
  rw [show qmu n (lv :: q) = lv.V.length * 91 ^ (n - (q.length + 1)) + qmu n q from rfl]
  have h1 := mu_pos n (lv :: q).length
  omega
theorem mu_down {n : Nat} {V : List Value} : curMu n lv.V q ≤ curMu n V (lv :: q) := by
  unfold curMu
  rw [show qmu n (lv :: q) = curMu n lv.V q from rfl]
  unfold curMu; omega
theorem lvSols_snoc {k : K} {V : List Value} : lvSols Y dom cons kvs k (V ++ [v]) = lvSols Y dom cons kvs k V ++ solsOf Y.keys dom cons (kvs ++ [(k, v)]) := by
  unfold lvSols; rw [List.flatMap_append, List.flatMap_cons, List.flatMap_nil, List.append_nil]
end
/-- the entries of the stack -/
def QL {K : Type} (q : List (Lev K)) : Led K := q.flatMap fun lv => (lv.ta, .tup [lv.key, .ref lv.va, lv.pv]) :: (lv.va, .lst lv.V) :: lv.pdl
def qrefs {K : Type} (q : List (Lev K)) : List Value := q.reverse.map fun lv => .ref lv.ta
theorem QL_cons {K : Type} {lv : Lev K} {q : List (Lev K)} : QL (lv :: q) = (lv.ta, .tup [lv.key, .ref lv.va, lv.pv]) :: (lv.va, .lst lv.V) :: (lv.pdl ++ QL q) := by
  unfold QL; rw [List.flatMap_cons]; rfl
theorem qrefs_cons {K : Type} {lv : Lev K} {q : List (Lev K)} : qrefs (lv :: q) = qrefs q ++ [.ref lv.ta] := by
  unfold qrefs; rw [List.reverse_cons, List.map_append]; rfl
end
section
open PySem PySem.W PySem.Calls PyProof.Rows
set_option Elab.async false
set_option maxRecDepth 100000
set_option maxHeartbeats 400000
set_option linter.unusedVariables false
set_option linter.unusedSectionVars false
theorem fn_iter (P : Params) : (KK P).lookup 169 = some (methO "getSolutionIter" "BacktrackingSolver.getSolutionIter" 4 1 169 .none) := by kernel_rfl
theorem cd_iter (P : Params) : codeIn (KK P) (.ref 168) "BacktrackingSolver.getSolutionIter" = true := by kernel_rfl
theorem cg_bt : CG 186 := ⟨fun P => by kernel_rfl, fun P => by kernel_rfl⟩
theorem cga_bt : CGa 186 := fun P => by kernel_rfl
theorem no_fcb : NoCls 186 "_forwardcheck" := fun P => by kernel_rfl
abbrev tb_iter : List (Str × NameKind) := [("self", .local), ("domains", .cell), ("constraints", .local), ("vconstraints", .cell), ("forwardcheck", .local), ("assignments", .cell), ("queue", .local), ("variable", .cell), ("lst", .local), ("item", .local), ("values", .local), ("pushdomains", .local), ("domain", .local), ("constraint", .local), ("variables", .local)]
theorem kt_iter : Kt (scp 4 1) tb_iter := ⟨by decide +kernel, by decide +kernel⟩
def whBody : Stmt → List Stmt
  | .While _ b _ _ => b
  | _ => []
def whElse : Stmt → List Stmt
  | .While _ _ e _ => e
  | _ => []
def whTest : Stmt → Expr
  | .While t _ _ _ => t
  | _ => .Name "x" default
def ifBody : Stmt → List Stmt
  | .If _ b _ _ => b
  | _ => []
def forElse : Stmt → List Stmt
  | .For _ _ _ e _ => e
  | _ => []
def nth (l : List Stmt) (i : Nat) : Stmt := l.getD i (.Pass default)
/-- the body of the outer loop; the inner loop's; the innermost one's -/
abbrev oBody : List Stmt := whBody (nth (bdy 4 1) 3)
abbrev iBody : List Stmt := whBody (nth oBody 3)
abbrev xWhile : Stmt := nth (ifBody (nth iBody 0)) 1

local macro_rules | `(tactic| walk_at "isB") => `(tactic| first | (with_reducible exact b_len))
local macro_rules | `(tactic| walk_at "isG") => `(tactic| fail)
local macro_rules | `(tactic| walk_at "isD") => `(tactic| first | (with_reducible exact dm_push _) | (with_reducible exact dt_push _) | (with_reducible exact dm_pop _) | (with_reducible exact dt_pop _))
local macro_rules | `(tactic| walk_at "isF") => `(tactic| first | (with_reducible exact fn_push _) | (with_reducible exact fn_pop _))
local macro_rules | `(tactic| walk_at "isC") => `(tactic| first | (with_reducible exact cg_bt) | (with_reducible exact cga_bt) | (with_reducible exact no_fcb))
section
variable {prog : Program} {w : World} {K : Type} [DecidableEq K] {knd : KeyKind prog w K} {A : Around} {s : Shared} {g : Heap} {R : Side}
abbrev envG (L c0 c1 c2 c3 : Addr) : Env := envX "BacktrackingSolver.getSolutionIter" (scp 4 1) L 169 (.ref (169 - 1)) [("variable", c0), ("assignments", c1), ("vconstraints", c2), ("domains", c3)]
/-- the places of a run -/
structure Pl where
  c0 : Addr
  c1 : Addr
  c2 : Addr
  c3 : Addr
  aa : Addr
  qa : Addr
/-- the fixed entries -/
abbrev GF (Y : Lay K) (p : Pl) (q : List (Lev K)) (ext : Led K) : Led K := (p.c1, .cell (some (.ref p.aa))) :: (p.c2, .cell (some (.ref Y.vc))) :: (p.c3, .cell (some (.ref Y.da))) :: (p.qa, .lst (qrefs q)) :: (QL q ++ ext)
/-- the entries while a level is tried -/
abbrev GC (Y : Lay K) (p : Pl) (q : List (Lev K)) (ext : Led K) (kvs : List (K × Value)) (key : Value) (va : Addr) (V : List Value) (pdl : Led K) (us1 as : List K) (D : K → DS) : Led K :=
  (p.c0, .cell (some key)) :: (va, .lst V) :: (pdl ++ (DL Y D us1 ++ ((p.aa, .dct kvs) :: (DL Y D as ++ GF Y p q ext))))
abbrev vsG (fb : Bool) (p : Pl) (va : Addr) (pv : Value) : Vars := [("values", .ref va), ("pushdomains", pv), ("forwardcheck", .bool fb), ("queue", .ref p.qa)]
set_option maxHeartbeats 4000000 in
/-- one value of a level is tried -/
theorem gen_try {L : Addr} {p : Pl} {Y : Lay K} {fb : Bool} {kvs kvsa : List (K × Value)} {us us1 as : List K} {D : K → DS} {dom : K → List Int} {cons : List (Con K)} {q : List (Lev K)} {ext : Led K} {lv : Lev K} {V' : List Value} {v : Value} {Q : Flow → Shared → Prop} {E : Value → Shared → Prop}
    (hr : Room A 30) (B : Bs w g) (LY : LayAt knd g Y) (kl : KeyLt knd) (T : Stat Y dom cons) (V : Inv Y dom cons kvs us D) (hne : NE us D) (hL : LevOk knd Y dom us us1 lv) (hV : lv.V = V' ++ [v]) (hst : stored kvsa lv.k v = kvs ++ [(lv.k, v)]) (hza : kvsa.length ≤ 900) (has : ∀ x ∈ as, x ∉ us1)
    (H : St knd g R L (vsG fb p lv.va lv.pv) (GC Y p q ext kvsa lv.key lv.va lv.V lv.pdl us1 as D) s)
    (hbrk : ∀ D' s', RelK Y lv.b D (mixD us1 D' D) us1 → Inv Y dom cons (kvs ++ [(lv.k, v)]) us1 (mixD us1 D' D) → NE us1 (mixD us1 D' D) → St knd g R L (vsG fb p lv.va lv.pv) (GC Y p q ext (kvs ++ [(lv.k, v)]) lv.key lv.va V' lv.pdl us1 as (mixD us1 D' D)) s' → Q .brk s')
    (hnxt : ∀ D' s', (∀ x ∈ us1, PopOk (D x) (D' x)) → solsOf Y.keys dom cons (kvs ++ [(lv.k, v)]) = [] → St knd g R L (vsG fb p lv.va lv.pv) (GC Y p q ext (kvs ++ [(lv.k, v)]) lv.key lv.va V' lv.pdl us1 as (mixD us1 D' D)) s' → Q .next s') :
    wpAny (model prog w) A (execs (iBody.drop 1) (envG L p.c0 p.c1 p.c2 p.c3)) Q E s := by
  obtain ⟨k, key, V0, va, ta, pv, pdl, b⟩ := lv
  dsimp only at hV hst H hbrk hnxt hL ⊢
  subst hV
  have hus := hL.perm
  have hk : k ∈ us := hus.mem_iff.mpr (.head _)
  have hkm := V.usub k hk
  have hu := (V.uass k hkm).mp hk
  have kt := kt_iter
  have hda := LY.da
  have hvc := LY.vc
  have hnda := LY.nda
  have hnvc := LY.nvc
  have hkey := hL.key
  dsimp only at hkey hus
  have hv1 : valueAt (Y.keys.map fun k => (k, Value.ref (Y.vA k))) k = some (.ref (Y.vA k)) := value_map hkm
  have hn1 : us1.Nodup := ((hus.nodup_iff).mp V.un).tail
  have hu1 : ∀ x ∈ us1, x ∈ us := fun x hx => hus.mem_iff.mpr (.tail _ hx)
  have ul : us.length = us1.length + 1 := by rw [hus.length_eq]; rfl
  obtain ⟨iv, tv, rfl, hivd⟩ := hL.V v (List.mem_append_right _ (.head _))
  have hVz : V'.length < 90 := by have := hL.z; dsimp only at this; rw [List.length_append, List.length_cons, List.length_nil] at this; omega
  refine xs_cons (st := _) (rest := _) ?_
  walk_at "goS"
  rename_i s5 H5
  rw [hst] at H5
  have ev : Ev (envG L p.c0 p.c1 p.c2 p.c3) L [("variable", p.c0), ("assignments", p.c1), ("vconstraints", p.c2), ("domains", p.c3)] tb_iter := Ev.ofKt kt
  have I0 : Inv0 Y dom cons (kvs ++ [(k, .int iv tv)]) us1 D := inv_child V hus (fun x _ => PopOk.refl _) hivd
  have hz2 : ∀ x ∈ us1, (D x).st.length + 1 + us1.length ≤ 90 := fun x hx => by have := V.z2 x (hu1 x hx); omega
  have hlen : us1.length < 100 := by have := len_le hn1 (fun x hx => V.usub x (hu1 x hx)); have := LY.z; omega
  have pm1 : ∀ {D : K → DS} {l1 l2 : Led K} {x y z : Addr × Kd K}, (DL Y D us1 ++ (x :: y :: z :: (pdl ++ (l1 ++ l2)))).Perm (x :: y :: (pdl ++ (DL Y D us1 ++ (z :: (l1 ++ l2))))) := fun {D l1 l2 x y z} => by
    classical
    refine List.perm_iff_count.mpr fun e => ?_
    simp only [List.count_append, List.count_cons]
    omega
  have H6 := H5.perm (l' := DL Y D us1 ++ ((p.c0, .cell (some key)) :: (va, .lst V') :: (p.aa, Kd.dct (kvs ++ [(k, .int iv tv)])) :: (pdl ++ (DL Y D as ++ GF Y p q ext)))) pm1
  refine nx ?_
  refine xs_cons (st := _) (rest := _) ?_
  have hpd := hL.pv
  dsimp only at hpd
  refine' push_any (D := D) (us := us1) (pdl := pdl) (b := b) (hr.less (by omega)) ev ?p1 ?p2 ?p3 ?p4 B LY hn1 (fun x hx => V.usub x (hu1 x hx)) (fun x hx => ⟨by have := I0.z1 x hx; omega, by have := hz2 x hx; omega⟩) hlen hpd ?p5 H6 rfl rfl (fun D1 s7 hp1 hp2 H7 => ?_)
  case p1 => walk_at "mem"
  case p2 => walk_at "mem"
  case p3 => walk_at "mem"
  case p4 => walk_at "rm"
  case p5 => exact fun p hp => .tail _ (.tail _ (.tail _ (List.mem_append_left _ hp)))
  have I1 : Inv0 Y dom cons (kvs ++ [(k, .int iv tv)]) us1 D1 := by
    cases b with
    | true => exact inv_push I0 hz2 (hp1 rfl)
    | false => rw [hp2 rfl]; exact I0
  have hrel : Rel b D D1 us1 := ⟨fun e => Mid.of (hp1 e), hp2⟩
  have pm2 : ∀ {t r : Led K} {x y z : Addr × Kd K}, (t ++ (x :: y :: z :: r)).Perm (t ++ (z :: x :: y :: r)) := fun {t r x y z} => by
    classical
    refine List.perm_iff_count.mpr fun e => ?_
    simp only [List.count_append, List.count_cons]
    omega
  have H8 := H7.perm (l' := DL Y D1 us1 ++ ((p.aa, Kd.dct (kvs ++ [(k, .int iv tv)])) :: (p.c0, .cell (some key)) :: (va, .lst V') :: (pdl ++ (DL Y D as ++ GF Y p q ext)))) pm2.symm
  refine nx ?_
  refine xs_cons (st := _) (rest := _) ?_
  walk_at "go"
  rename_i s9 H9
  have hkz2 : (kvs ++ [(k, Value.int iv tv)]).length < 300 := by
    have : (kvs.map (·.1)).length ≤ Y.keys.length := (len_le V.nd fun x hx => by obtain ⟨p, hp, rfl⟩ := List.mem_map.mp hx; exact V.sub p hp)
    rw [List.length_map] at this; have := LY.z; rw [List.length_append, List.length_cons, List.length_nil]; omega
  refine' con_loop (k := k) (D := D1) (D0 := D) (us := us1) (b := b) (aa := p.aa) (cd := p.c3) (ca := p.c1) (pv := pv) (hr.less (by omega)) ev ?t1 ?t2 ?t3 ?t4 ?t5 rfl rfl ?mcd ?mca ?hpv ?pvis ?r1 ?r2 B LY kl.plain hkm I1 T hkz2 hrel H9 (fun D2 s10 hI hR hS H10 => ?brk) (fun D2 s10 E2 hI hR hC H10 hNE => ?dn)
  case t1 => walk_at "mem"
  case t2 => walk_at "mem"
  case t3 => walk_at "mem"
  case t4 => walk_at "mem"
  case t5 => walk_at "mem"
  case mcd => walk_at "mem"
  case mca => walk_at "mem"
  case hpv => walk_at "mem"
  case pvis =>
    have hsubp : ∀ r ∈ pdl, r ∈ ((p.c0, .cell (some key)) :: (va, .lst V') :: (pdl ++ (DL Y D as ++ GF Y p q ext)) : Led K) := fun p hp => .tail _ (.tail _ (List.mem_append_left _ hp))
    cases hpd with
    | none => exact .none
    | @lst pd opd ho =>
      have e : (!us1.isEmpty) = !(us1.map fun x => Value.ref (Y.dA x)).isEmpty := by cases us1 <;> rfl
      rw [e]
      exact .lst (hsubp _ (.head _)) ho (by rw [List.length_map]; omega)
  case r1 => walk_at "rm"
  case r2 => walk_at "rm"
  case brk =>
    have H11 := H10.perm (l' := DL Y D2 us1 ++ ((p.c0, .cell (some key)) :: (va, .lst V') :: (p.aa, Kd.dct (kvs ++ [(k, .int iv tv)])) :: (pdl ++ (DL Y D as ++ GF Y p q ext)))) pm2
    refine nx (xs_cons (st := _) (rest := _) ?_)
    refine' pop_any (D0 := D) (D := D2) (us := us1) (pdl := pdl) (b := b) (hr.less (by omega)) ev ?p1 ?p2 ?p3 ?p4 B LY hn1 (fun x hx => V.usub x (hu1 x hx)) (fun x hx => ⟨by have := I0.z1 x hx; omega, by have := hz2 x hx; omega⟩) hlen hpd ?p5 hR.1 (fun e x hx => by rw [hR.2 e]; exact PopOk.refl _) H11 rfl rfl (fun D3 s12 hP H12 => ?_)
    case p1 => walk_at "mem"
    case p2 => walk_at "mem"
    case p3 => walk_at "mem"
    case p4 => walk_at "rm"
    case p5 => exact fun p hp => .tail _ (.tail _ (.tail _ (List.mem_append_left _ hp)))
    exact nx (wpAny_execs_nil (hnxt D3 _ hP hS (by rw [GC, DL_mix_in, DL_mix_out has]; exact H12.perm pm1.symm)))
  case dn =>
    have hInv : Inv Y dom cons (kvs ++ [(k, .int iv tv)]) us1 D2 := inv_full V T hu hkm hI hC
    have hNE2 : NE us1 D2 := hNE (by
      intro x hx
      have h0 := hne x (hu1 x hx)
      cases b with
      | true => obtain ⟨t, e⟩ := hp1 rfl x hx; rw [e]; exact h0
      | false => rw [hp2 rfl]; exact h0)
    have hmix : ∀ x ∈ us1, PopOk (D2 x) (mixD us1 D2 D x) := fun x hx => by rw [mixD_in hx]; exact PopOk.refl _
    refine xs_cons (st := _) (rest := _) (wpAny_Break (nx_brk (nx_brk (hbrk D2 _ ⟨fun e => (hR.1 e).move hmix, fun e x hx => ?_, fun x hx hn => ?_⟩ (inv_move hInv hmix) (hNE2.move hmix) (by rw [GC, DL_mix_in, DL_mix_out has]; exact H10.perm (pm1.symm.trans pm2))))))
    · rw [mixD_in hx, hR.2 e]; exact PopOk.refl _
    · rw [mixD_out hn]; exact PopOk.refl _
end
end
section
open PySem PySem.W PySem.Calls PyProof.Rows
set_option Elab.async false
set_option maxRecDepth 100000
set_option maxHeartbeats 400000
set_option linter.unusedVariables false
set_option linter.unusedSectionVars false

local macro_rules | `(tactic| walk_at "isB") => `(tactic| first | (with_reducible exact b_len))
local macro_rules | `(tactic| walk_at "isG") => `(tactic| fail)
local macro_rules | `(tactic| walk_at "isD") => `(tactic| first | (with_reducible exact dm_push _) | (with_reducible exact dt_push _) | (with_reducible exact dm_pop _) | (with_reducible exact dt_pop _))
local macro_rules | `(tactic| walk_at "isF") => `(tactic| first | (with_reducible exact fn_push _) | (with_reducible exact fn_pop _))
local macro_rules | `(tactic| walk_at "isC") => `(tactic| first | (with_reducible exact cg_bt) | (with_reducible exact cga_bt) | (with_reducible exact no_fcb))
section
variable {prog : Program} {w : World} {K : Type} [DecidableEq K] {knd : KeyKind prog w K} {A : Around} {s : Shared} {g : Heap} {R : Side}
theorem xWhileR {env : Env} {test : Expr} {body orelse : List Stmt} {pos : Pos} {E : Value → Shared → Prop} {Q : Flow → Shared → Prop} (I : Nat → Shared → Prop) (n : Nat) (h0 : I n s)
    (turn : ∀ m s' E', I m s' → wpAny (model prog w) A (isTrue test env (eval test env)) (fun b s₂ => if b = true then wpAny (model prog w) A (execs body env) (ForQ (fun s₃ => ∃ j, j < m ∧ I j s₃) Q) E' s₂ else wpAny (model prog w) A (execs orelse env) Q E' s₂) E' s') :
    wpAny (model prog w) A (exec (.While test body orelse pos) env) Q E s := by
  refine wpAny_While (codeAny_whileLoop I (fun m s' hI => ?_) n h0)
  refine wpAny_mono (turn m s' _ hI) (fun b s₂ h => ?_) fun _ _ h => h
  cases b with
  | true =>
    rw [if_pos rfl] at h ⊢
    refine wpAny_mono h (fun f s₃ h₃ => ?_) fun _ _ h => h
    cases f <;> exact h₃
  | false => rw [if_neg (by decide)] at h ⊢; exact h
/-- those that are not open -/
def AS (Y : Lay K) (us : List K) : List K := Y.keys.filter fun x => decide (x ∉ us)
theorem AS_perm {Y : Lay K} {us : List K} (hk : Y.keys.Nodup) (hn : us.Nodup) (hs : ∀ x ∈ us, x ∈ Y.keys) : (us ++ AS Y us).Perm Y.keys := by
  refine perm_of_mem ?_ hk fun x => ?_
  · rw [List.nodup_append]
    refine ⟨hn, hk.filter _, fun a ha b hb => ?_⟩
    rintro rfl
    have := (List.mem_filter.mp hb).2
    simp at this; exact this ha
  · rw [List.mem_append]
    unfold AS
    rw [List.mem_filter]
    constructor
    · rintro (h | h)
      · exact hs x h
      · exact h.1
    · intro h
      by_cases q : x ∈ us
      · exact .inl q
      · exact .inr ⟨h, by simpa using q⟩
theorem AS_not {Y : Lay K} {us : List K} : ∀ x ∈ AS Y us, x ∉ us := fun x hx => by have := (List.mem_filter.mp hx).2; simpa using this
theorem DL_app {Y : Lay K} {D : K → DS} {a b : List K} : DL Y D (a ++ b) = DL Y D a ++ DL Y D b := by unfold DL; rw [List.flatMap_append]
theorem DL_split {Y : Lay K} {D : K → DS} {us : List K} (hk : Y.keys.Nodup) (hn : us.Nodup) (hs : ∀ x ∈ us, x ∈ Y.keys) : (DL Y D us ++ DL Y D (AS Y us)).Perm (DL Y D Y.keys) := by
  rw [← DL_app]; exact DL_perm (AS_perm hk hn hs)
/-- the entries between two levels -/
abbrev GU (Y : Lay K) (p : Pl) (q : List (Lev K)) (ext : Led K) (kvs : List (K × Value)) (cv : Option Value) (D : K → DS) : Led K :=
  (p.c0, .cell cv) :: (p.aa, .dct kvs) :: (DL Y D Y.keys ++ GF Y p q ext)
abbrev vsU (fb : Bool) (p : Pl) : Vars := [("forwardcheck", .bool fb), ("queue", .ref p.qa)]
structure CurOk (knd : KeyKind prog w K) (Y : Lay K) (dom : K → List Int) (cons : List (Con K)) (q : List (Lev K)) (kvs : List (K × Value)) (us us1 : List K) (D : K → DS) (rem : List (List (K × Int))) (lv : Lev K) (kvsa : List (K × Value)) : Prop where
  stk : Stk knd Y dom cons q kvs us D rem
  lok : LevOk knd Y dom us us1 lv
  st : ∀ v, stored kvsa lv.k v = kvs ++ [(lv.k, v)]
  dl : lv.V = [] → (valueAt kvsa lv.k).isSome = true ∧ without kvsa lv.k = kvs
  z : kvsa.length ≤ 100
theorem QL_sub {lv : Lev K} {q : List (Lev K)} {ext : Led K} : ∀ x ∈ QL q ++ ext, x ∈ QL (lv :: q) ++ ext := fun x hx => by
  rw [QL_cons]
  rcases List.mem_append.mp hx with h | h
  · exact List.mem_append_left _ (.tail _ (.tail _ (List.mem_append_right _ h)))
  · exact List.mem_append_right _ h
theorem qrefs_empty {q : List (Lev K)} : (qrefs q).isEmpty = q.isEmpty := by
  unfold qrefs; cases q <;> simp
theorem qrefs_len {q : List (Lev K)} : (qrefs q).length = q.length := by unfold qrefs; simp
theorem cur_of {Y : Lay K} {dom : K → List Int} {cons : List (Con K)} {q : List (Lev K)} {kvs : List (K × Value)} {us us1 : List K} {D : K → DS} {rem : List (List (K × Int))} {lv : Lev K} {v : Value} (LY : LayAt knd g Y)
    (hS : Stk knd Y dom cons q kvs us D rem) (hL : LevOk knd Y dom us us1 lv) : CurOk knd Y dom cons q kvs us us1 D rem lv (kvs ++ [(lv.k, v)]) := by
  have I := hS.inv.1
  have hk : lv.k ∈ us := hL.perm.mem_iff.mpr (.head _)
  have hu := (I.uass _ (I.usub _ hk)).mp hk
  have hz := hS.klen
  have := LY.z
  refine ⟨hS, hL, fun v' => ?_, fun _ => ⟨?_, ?_⟩, ?_⟩
  · rw [← stored_new hu, stored_twice hu, stored_new hu]
  · rw [val_snoc hu, if_pos rfl]; rfl
  · rw [← stored_new hu, without_stored hu]
  · rw [List.length_append, List.length_cons, List.length_nil]; omega
theorem toGC {Y : Lay K} {D3 D' : K → DS} {us1 : List K} {c0 va aa : Addr × Kd K} {pdl r : Led K} : (c0 :: va :: (pdl ++ (DL Y (mixD us1 D3 D') us1 ++ (aa :: (DL Y (mixD us1 D3 D') (AS Y us1) ++ r))))).Perm (DL Y D3 us1 ++ (c0 :: va :: aa :: (pdl ++ (DL Y D' (AS Y us1) ++ r)))) := by
  rw [DL_mix_in, DL_mix_out AS_not]
  classical
  refine List.perm_iff_count.mpr fun e => ?_
  simp only [List.count_append, List.count_cons]
  omega
theorem toGU {Y : Lay K} {D3 D' : K → DS} {us1 : List K} {c0 va aa : Addr × Kd K} {pdl r : Led K} (hk : Y.keys.Nodup) (hn : us1.Nodup) (hs : ∀ x ∈ us1, x ∈ Y.keys) : ((c0 :: aa :: (DL Y (mixD us1 D3 D') Y.keys ++ r)) ++ (va :: pdl)).Perm (DL Y D3 us1 ++ (c0 :: va :: aa :: (pdl ++ (DL Y D' (AS Y us1) ++ r)))) := by
  have h := DL_split (D := mixD us1 D3 D') hk hn hs
  rw [DL_mix_in, DL_mix_out AS_not] at h
  classical
  refine List.perm_iff_count.mpr fun e => ?_
  have := h.count_eq e
  simp only [List.count_append, List.count_cons, List.cons_append] at this ⊢
  omega
set_option maxHeartbeats 4000000 in
/-- the levels that are used up are given up -/
theorem gen_unwind {L : Addr} {p : Pl} {Y : Lay K} {fb : Bool} {kvs : List (K × Value)} {us : List K} {D : K → DS} {dom : K → List Int} {cons : List (Con K)} {q : List (Lev K)} {ext : Led K} {rem : List (List (K × Int))} {cv : Option Value} {Q : Flow → Shared → Prop} {E : Value → Shared → Prop}
    (hr : Room A 30) (B : Bs w g) (LY : LayAt knd g Y) (kl : KeyLt knd) (T : Stat Y dom cons) (hS : Stk knd Y dom cons q kvs us D rem)
    (H : St knd g R L (vsU fb p) (GU Y p q ext kvs cv D) s)
    (hret : ∀ D' us' cv' s', rem = [] → Stk knd Y dom cons [] [] us' D' [] → St knd g R L (vsU fb p) (GU Y p [] ext [] cv' D') s' → Q (.ret .none) s')
    (hcont : ∀ q' kvs' us' us1' D' rem' lv kvsa s', CurOk knd Y dom cons q' kvs' us' us1' D' rem' lv kvsa → lv.V ≠ [] → rem = lvSols Y dom cons kvs' lv.k lv.V ++ rem' → curMu Y.keys.length lv.V q' ≤ qmu Y.keys.length q →
      St knd g R L (vsG fb p lv.va lv.pv) (GC Y p q' ext kvsa lv.key lv.va lv.V lv.pdl us1' (AS Y us1') D') s' → Q .next s') :
    wpAny (model prog w) A (exec xWhile (envG L p.c0 p.c1 p.c2 p.c3)) Q E s := by
  have kt := kt_iter
  refine xWhileR (fun m s' => ∃ q' kvs' us' D' cv', Stk knd Y dom cons q' kvs' us' D' rem ∧ qmu Y.keys.length q' ≤ qmu Y.keys.length q ∧ q'.length = m ∧ St knd g R L (vsU fb p) (GU Y p q' ext kvs' cv' D') s') q.length ⟨q, kvs, us, D, cv, hS, Nat.le_refl _, rfl, H⟩ ?_
  rintro m s' E' ⟨q', kvs', us', D', cv', hS', hmu, rfl, H'⟩
  have hqz : (qrefs q').length < 1000 := by rw [qrefs_len]; have := hS'.klen; have := LY.z; omega
  walk_at "go"
  rename_i s1 H1
  rw [qrefs_empty]
  cases q' with
  | nil =>
    have hS0 := hS'
    cases hS'
    refine ifF rfl ?_
    exact xs_cons (st := _) (rest := _) (wpAny_Return_none (nx_ret (hret _ _ _ _ rfl hS0 H1)))
  | cons lv q' =>
    cases hS' with
    | @cons _ kvs0 us0 _ D0 _ rem0 _ v0 hS2 hL hR hI hN =>
    have hk := hL.perm.mem_iff.mpr (.head _)
    have I2 := hS2.inv.1
    have hkm := I2.usub _ hk
    have hu := (I2.uass _ hkm).mp hk
    have hC := cur_of (v := v0) LY hS2 hL
    have hkey := hL.key
    have ul := hL.perm.length_eq
    rw [List.length_cons] at ul
    have hn1 := hI.un
    have hsub1 : ∀ x ∈ us', x ∈ Y.keys := hI.usub
    have hlen : us'.length < 100 := by have := len_le hn1 hsub1; have := LY.z; omega
    have hVz : lv.V.length < 100000 := by have := hL.z; omega
    have hkz : (kvs0 ++ [(lv.k, v0)]).length ≤ 900 := by have := hC.z; omega
    have hval : (valueAt (kvs0 ++ [(lv.k, v0)]) lv.k).isSome = true := by rw [val_snoc hu, if_pos rfl]; rfl
    rw [GU, GF, qrefs_cons, QL_cons, List.cons_append, List.cons_append, List.append_assoc] at H1
    refine ifT rfl ?_
    refine xs_cons (st := _) (rest := _) ?_
    refine Assign_Tuple ?_ rfl rfl
    have hqz2 : (qrefs q').length < 1000 := by rw [qrefs_cons, List.length_append] at hqz; omega
    walk_at "go"
    refine' aTuple3 (v1 := lv.key) (v2 := .ref lv.va) (v3 := lv.pv) (by assumption) ?hT hr.handled ?_
    case hT => walk_at "has"
    intro s2 H2
    walk_at "goS"
    rename_i s5 H5
    have hpd := hL.pv
    have ev : Ev (envG L p.c0 p.c1 p.c2 p.c3) L [("variable", p.c0), ("assignments", p.c1), ("vconstraints", p.c2), ("domains", p.c3)] tb_iter := Ev.ofKt kt
    have hsp := DL_split (D := D') LY.nd hn1 hsub1
    have pm1 : ∀ {x y c1 c2 c3 qq ta va : Addr × Kd K} {pl r : Led K}, (ta :: (DL Y D' us' ++ (x :: va :: y :: (pl ++ (DL Y D' (AS Y us') ++ (c1 :: c2 :: c3 :: qq :: r)))))).Perm (x :: y :: (DL Y D' Y.keys ++ (c1 :: c2 :: c3 :: qq :: (ta :: va :: (pl ++ r))))) := fun {x y c1 c2 c3 qq ta va pl r} => by
      classical
      refine List.perm_iff_count.mpr fun e => ?_
      have := hsp.count_eq e
      simp only [List.count_append, List.count_cons] at this ⊢
      omega
    have H6 := H5.perm (l' := (lv.ta, .tup [lv.key, .ref lv.va, lv.pv]) :: (DL Y D' us' ++ ((p.c0, .cell (some lv.key)) :: (lv.va, .lst lv.V) :: (p.aa, .dct (kvs0 ++ [(lv.k, v0)])) :: (lv.pdl ++ (DL Y D' (AS Y us') ++ GF Y p q' ext))))) (by
      have := pm1 (x := (p.c0, .cell (some lv.key))) (y := (p.aa, .dct (kvs0 ++ [(lv.k, v0)]))) (c1 := (p.c1, .cell (some (.ref p.aa)))) (c2 := (p.c2, .cell (some (.ref Y.vc)))) (c3 := (p.c3, .cell (some (.ref Y.da)))) (qq := (p.qa, .lst (qrefs q'))) (ta := (lv.ta, .tup [lv.key, .ref lv.va, lv.pv])) (va := (lv.va, .lst lv.V)) (pl := lv.pdl) (r := QL q' ++ ext)
      exact this)
    have H7 := H6.sub (fun _ h => h) (List.sublist_cons_self ..)
    refine nx ?_
    refine xs_cons (st := _) (rest := _) ?_
    refine' pop_any (D0 := D0) (D := D') (us := us') (pdl := lv.pdl) (b := lv.b) (hr.less (by omega)) ev ?p1 ?p2 ?p3 ?p4 B LY hn1 hsub1 (fun x hx => ⟨by have := I2.z1 x (hL.perm.mem_iff.mpr (.tail _ hx)); omega, by have := I2.z2 x (hL.perm.mem_iff.mpr (.tail _ hx)); omega⟩) hlen hpd ?p5 hR.mid hR.same H7 rfl rfl (fun D3 s8 hP H8 => ?_)
    case p1 => walk_at "mem"
    case p2 => walk_at "mem"
    case p3 => walk_at "mem"
    case p4 => walk_at "rm"
    case p5 => exact fun p hp => .tail _ (.tail _ (.tail _ (List.mem_append_left _ hp)))
    have hS3 := hS2.pop hR hP
    refine nx ?_
    refine xs_cons (st := _) (rest := _) ?_
    walk_at "go"
    rename_i s9 H9
    cases hV : lv.V with
    | nil =>
      refine ifF rfl ?_
      walk_at "go"
      rename_i s12 H12
      rw [← stored_new hu, without_stored hu] at H12
      refine for_next ⟨q'.length, Nat.lt_succ_self _, q', kvs0, us0, mixD us' D3 D', some lv.key, ?_, ?_, rfl, ?_⟩
      · exact hS3
      · refine Nat.le_trans ?_ hmu; exact Nat.le_add_left _ _
      · refine St.sub (vs' := vsU fb p) (H12.perm (toGU LY.nd hn1 hsub1)) ?_ (List.sublist_append_left ..)
        exact fun r hr => .tail _ (.tail _ hr)
    | cons x V =>
      refine ifT rfl ?_
      refine xs_cons (st := _) (rest := _) (wpAny_Break (nx_brk (nx_brk (for_brk ?_))))
      refine hcont q' kvs0 us0 us' (mixD us' D3 D') rem0 lv (kvs0 ++ [(lv.k, v0)]) _ (cur_of LY hS3 hL) (by rw [hV]; exact List.cons_ne_nil _ _) rfl hmu ?_
      refine St.sub (vs' := vsG fb p lv.va lv.pv) (H9.perm toGC) ?_ (List.Sublist.refl _)
      intro r hr
      rcases List.mem_cons.mp hr with e | hr
      · exact e ▸ .tail _ (.head _)
      · rcases List.mem_cons.mp hr with e | hr
        · exact e ▸ .head _
        · exact .tail _ (.tail _ hr)
end
end
section
open PySem PySem.W PySem.Calls PyProof.Rows
set_option Elab.async false
set_option maxRecDepth 100000
set_option maxHeartbeats 400000
set_option linter.unusedVariables false
set_option linter.unusedSectionVars false

local macro_rules | `(tactic| walk_at "isB") => `(tactic| first | (with_reducible exact b_len))
local macro_rules | `(tactic| walk_at "isG") => `(tactic| fail)
local macro_rules | `(tactic| walk_at "isD") => `(tactic| first | (with_reducible exact dm_push _) | (with_reducible exact dt_push _) | (with_reducible exact dm_pop _) | (with_reducible exact dt_pop _))
local macro_rules | `(tactic| walk_at "isF") => `(tactic| first | (with_reducible exact fn_push _) | (with_reducible exact fn_pop _))
local macro_rules | `(tactic| walk_at "isC") => `(tactic| first | (with_reducible exact cg_bt) | (with_reducible exact cga_bt) | (with_reducible exact no_fcb))
section
variable {prog : Program} {w : World} {K : Type} [DecidableEq K] {knd : KeyKind prog w K} {A : Around} {s : Shared} {g : Heap} {R : Side}
theorem LevOk.less {Y : Lay K} {dom : K → List Int} {us us1 : List K} {lv : Lev K} {V' : List Value} {v : Value} (h : LevOk knd Y dom us us1 lv) (e : lv.V = V' ++ [v]) : LevOk knd Y dom us us1 { lv with V := V' } :=
  ⟨h.perm, h.key, fun x hx => h.V x (by rw [e]; exact List.mem_append_left _ hx), by have := h.z; rw [e, List.length_append] at this; show V'.length ≤ 90; omega, h.pv⟩
theorem fromGC {Y : Lay K} {D : K → DS} {us1 : List K} {c0 va aa : Addr × Kd K} {pdl r : Led K} (hk : Y.keys.Nodup) (hn : us1.Nodup) (hs : ∀ x ∈ us1, x ∈ Y.keys) : ((c0 :: aa :: (DL Y D Y.keys ++ r)) ++ (va :: pdl)).Perm (c0 :: va :: (pdl ++ (DL Y D us1 ++ (aa :: (DL Y D (AS Y us1) ++ r))))) := by
  have h := DL_split (D := D) hk hn hs
  classical
  refine List.perm_iff_count.mpr fun e => ?_
  have := h.count_eq e
  simp only [List.count_append, List.count_cons, List.cons_append] at this ⊢
  omega
set_option maxHeartbeats 4000000 in
/-- the inner loop -/
theorem gen_inner {L : Addr} {p : Pl} {Y : Lay K} {fb : Bool} {kvs kvsa : List (K × Value)} {us us1 : List K} {D : K → DS} {dom : K → List Int} {cons : List (Con K)} {q : List (Lev K)} {ext : Led K} {rem : List (List (K × Int))} {lv : Lev K} {Q : Flow → Shared → Prop} {E : Value → Shared → Prop}
    (hr : Room A 30) (B : Bs w g) (LY : LayAt knd g Y) (kl : KeyLt knd) (T : Stat Y dom cons) (hC : CurOk knd Y dom cons q kvs us us1 D rem lv kvsa)
    (H : St knd g R L (vsG fb p lv.va lv.pv) (GC Y p q ext kvsa lv.key lv.va lv.V lv.pdl us1 (AS Y us1) D) s)
    (hret : ∀ D' us' cv' s', lvSols Y dom cons kvs lv.k lv.V ++ rem = [] → Stk knd Y dom cons [] [] us' D' [] → St knd g R L (vsU fb p) (GU Y p [] ext [] cv' D') s' → Q (.ret .none) s')
    (hdone : ∀ lv' q' kvs' us1' D' rem' s', Stk knd Y dom cons (lv' :: q') kvs' us1' D' rem' → (lvSols Y dom cons kvs lv.k lv.V ++ rem).Perm (solsOf Y.keys dom cons kvs' ++ rem') → nodeMu Y.keys.length (lv' :: q') ≤ curMu Y.keys.length lv.V q →
      St knd g R L (vsG fb p lv'.va lv'.pv) (GC Y p q' ext kvs' lv'.key lv'.va lv'.V lv'.pdl us1' (AS Y us1') D') s' → Q .next s') :
    wpAny (model prog w) A (exec (nth oBody 3) (envG L p.c0 p.c1 p.c2 p.c3)) Q E s := by
  have kt := kt_iter
  refine xWhileR (fun m s' => ∃ q' kvs' us' us1' D' rem' lv' kvsa', CurOk knd Y dom cons q' kvs' us' us1' D' rem' lv' kvsa' ∧ (lvSols Y dom cons kvs lv.k lv.V ++ rem).Perm (lvSols Y dom cons kvs' lv'.k lv'.V ++ rem') ∧ curMu Y.keys.length lv'.V q' = m ∧ m ≤ curMu Y.keys.length lv.V q ∧
    St knd g R L (vsG fb p lv'.va lv'.pv) (GC Y p q' ext kvsa' lv'.key lv'.va lv'.V lv'.pdl us1' (AS Y us1') D') s') (curMu Y.keys.length lv.V q) ⟨q, kvs, us, us1, D, rem, lv, kvsa, hC, List.Perm.refl _, rfl, Nat.le_refl _, H⟩ ?_
  rintro m s' E' ⟨q', kvs', us', us1', D', rem', lv', kvsa', hC', hP', rfl, hm, H'⟩
  have tr : ∀ {q2 kvs2 us2 us12 D2 rem2 lv2 kvsa2 s2 E2}, CurOk knd Y dom cons q2 kvs2 us2 us12 D2 rem2 lv2 kvsa2 → lv2.V ≠ [] → (lvSols Y dom cons kvs lv.k lv.V ++ rem).Perm (lvSols Y dom cons kvs2 lv2.k lv2.V ++ rem2) → curMu Y.keys.length lv2.V q2 ≤ curMu Y.keys.length lv'.V q' →
      St knd g R L (vsG fb p lv2.va lv2.pv) (GC Y p q2 ext kvsa2 lv2.key lv2.va lv2.V lv2.pdl us12 (AS Y us12) D2) s2 →
      wpAny (model prog w) A (execs (iBody.drop 1) (envG L p.c0 p.c1 p.c2 p.c3)) (ForQ (fun s₃ => ∃ j, j < curMu Y.keys.length lv'.V q' ∧ ∃ q' kvs' us' us1' D' rem' lv' kvsa', CurOk knd Y dom cons q' kvs' us' us1' D' rem' lv' kvsa' ∧ (lvSols Y dom cons kvs lv.k lv.V ++ rem).Perm (lvSols Y dom cons kvs' lv'.k lv'.V ++ rem') ∧ curMu Y.keys.length lv'.V q' = j ∧ j ≤ curMu Y.keys.length lv.V q ∧
        St knd g R L (vsG fb p lv'.va lv'.pv) (GC Y p q' ext kvsa' lv'.key lv'.va lv'.V lv'.pdl us1' (AS Y us1') D') s₃) Q) E2 s2 := by
    intro q2 kvs2 us2 us12 D2 rem2 lv2 kvsa2 s2 E2 hC2 hV2 hP2 hm2 H2
    obtain ⟨V', v, hV⟩ : ∃ V' v, lv2.V = V' ++ [v] := ⟨_, _, (List.dropLast_concat_getLast hV2).symm⟩
    have hI := hC2.stk.inv
    rw [hV, lvSols_snoc] at hP2
    rw [hV] at hm2
    refine gen_try hr B LY kl T hI.1 hI.2 hC2.lok hV (hC2.st v) (by have := hC2.z; omega) AS_not H2 (fun D3 s3 hR hI3 hN H3 => for_brk ?_) (fun D3 s3 hD hS H3 => for_next ?_)
    · refine hdone { lv2 with V := V' } q2 _ us12 _ _ s3 (.cons hC2.stk (hC2.lok.less hV) hR hI3 hN) (hP2.trans ?_) ?_ H3
      · rw [List.append_assoc, ← List.append_assoc, ← List.append_assoc]
        exact List.perm_append_comm.append_right _
      · exact Nat.le_trans (mu_push (lv := { lv2 with V := V' }) (v := v)) (Nat.le_trans hm2 hm)
    · have hM : ∀ x ∈ Y.keys, PopOk (D2 x) (mixD us12 D3 D2 x) := fun x _ => by
        by_cases h : x ∈ us12
        · rw [mixD_in h]; exact hD x h
        · rw [mixD_out h]; exact PopOk.refl _
      refine ⟨_, Nat.lt_of_lt_of_le (mu_step (v := v)) hm2, q2, kvs2, us2, us12, _, rem2, { lv2 with V := V' }, _, cur_of (v := v) LY (hC2.stk.move hM) (hC2.lok.less hV), ?_, rfl, ?_, H3⟩
      · rw [hS, List.append_nil] at hP2; exact hP2
      · exact Nat.le_trans (Nat.le_of_lt (mu_step (v := v))) (Nat.le_trans hm2 hm)
  have hVz : lv'.V.length < 100000 := by have := hC'.lok.z; omega
  walk_at "go"
  rename_i s1 H1
  generalize hM : curMu Y.keys.length lv'.V q' = M at tr hm ⊢
  cases hVe : lv'.V with
  | nil =>
    have hkey := hC'.lok.key
    obtain ⟨hval, hwo⟩ := hC'.dl hVe
    have hkz : kvsa'.length ≤ 900 := by have := hC'.z; omega
    refine ifT rfl ?_
    walk_at "goS"
    rename_i s2 H2
    rw [hwo] at H2
    have hIn := hC'.stk.inv.1
    have hu1n : us1'.Nodup := ((hC'.lok.perm.nodup_iff).mp hIn.un).tail
    have hu1s : ∀ x ∈ us1', x ∈ Y.keys := fun x hx => hIn.usub x (hC'.lok.perm.mem_iff.mpr (.tail _ hx))
    have H3 : St knd g R L (vsU fb p) (GU Y p q' ext kvs' (some lv'.key) D') s2 := St.sub (H2.perm (fromGC (D := D') LY.nd hu1n hu1s)) (fun r hr => .tail _ (.tail _ hr)) (List.sublist_append_left ..)
    have hrem : (lvSols Y dom cons kvs lv.k lv.V ++ rem).Perm rem' := by rw [hVe] at hP'; exact hP'
    refine nx (xs_cons (st := _) (rest := _) (gen_unwind hr B LY kl T hC'.stk H3 (fun D4 us4 cv4 s4 h1 h2 h3 => ?_) (fun q4 kvs4 us4 us14 D4 rem4 lv4 kvsa4 s4 h1 h2 h3 h4 h5 => ?_)))
    · rw [h1] at hrem
      exact nx_ret (nx_ret (for_ret (hret _ _ _ _ hrem.eq_nil h2 h3)))
    · rw [h3] at hrem
      exact nx (wpAny_execs_nil (nx (tr h1 h2 hrem (by rw [← hM, hVe]; exact Nat.le_trans h4 (Nat.le_add_left _ _)) h5)))
  | cons x V =>
    refine ifF rfl (wpAny_execs_nil (nx ?_))
    exact tr hC' (by rw [hVe]; exact List.cons_ne_nil _ _) hP' (Nat.le_of_eq hM) H1
end
end
section
open PySem PySem.W PySem.Calls PyProof.Rows
set_option Elab.async false
set_option maxRecDepth 100000
set_option maxHeartbeats 400000
set_option linter.unusedVariables false
set_option linter.unusedSectionVars false

local macro_rules | `(tactic| walk_at "mem") => `(tactic| with_reducible exact List.mem_append_left _ (DL_mem (by assumption)))
local macro_rules | `(tactic| walk_at "isB") => `(tactic| first | (with_reducible exact b_len))
local macro_rules | `(tactic| walk_at "isG") => `(tactic| fail)
local macro_rules | `(tactic| walk_at "isD") => `(tactic| first | (with_reducible exact dm_push _) | (with_reducible exact dt_push _) | (with_reducible exact dm_pop _) | (with_reducible exact dt_pop _))
local macro_rules | `(tactic| walk_at "isF") => `(tactic| first | (with_reducible exact fn_push _) | (with_reducible exact fn_pop _))
local macro_rules | `(tactic| walk_at "isC") => `(tactic| first | (with_reducible exact cg_bt) | (with_reducible exact cga_bt) | (with_reducible exact no_fcb))
section
variable {prog : Program} {w : World} {K : Type} [DecidableEq K] {knd : KeyKind prog w K} {A : Around} {s : Shared} {g : Heap} {R : Side}
theorem Stk.size {Y : Lay K} {dom : K → List Int} {cons : List (Con K)} {q : List (Lev K)} {kvs : List (K × Value)} {us : List K} {D : K → DS} {rem : List (List (K × Int))} (h : Stk knd Y dom cons q kvs us D rem) : ∀ x ∈ Y.keys, (D x).xs.length ≤ 90 := by
  induction h with
  | nil p I _ => exact fun x hx => by have := I.z1 x (p.mem_iff.mpr hx); omega
  | @cons _ _ _ us1 _ _ _ _ _ _ _ c d _ ih =>
    intro x hx
    by_cases q : x ∈ us1
    · have := d.z1 x q; omega
    · rw [(c.out x hx q).2.2.length_eq]; exact ih x hx
abbrev LstItems (knd : KeyKind prog w K) (Y : Lay K) (x : Led K) : Prop := x.length = Y.keys.length ∧ (∀ p ∈ x, ∃ a b t u k key, p.2 = Kd.tup [.int a t, .int b u, key] ∧ knd.is k key = true ∧ k ∈ Y.keys) ∧
  (∀ k ∈ Y.keys, ∃ p ∈ x, ∃ a b t u key, p.2 = Kd.tup [.int a t, .int b u, key] ∧ knd.is k key = true)
set_option maxHeartbeats 4000000 in
theorem gen_lst {L : Addr} {p : Pl} {Y : Lay K} {fb : Bool} {kvs : List (K × Value)} {us : List K} {D : K → DS} {dom : K → List Int} {cons : List (Con K)} {q : List (Lev K)} {ext : Led K} {rem : List (List (K × Int))} {cv : Option Value} {Q : Flow → Shared → Prop} {E : Value → Shared → Prop}
    (hr : Room A 30) (B : Bs w g) (LY : LayAt knd g Y) (hS : Stk knd Y dom cons q kvs us D rem)
    (H : St knd g R L (vsU fb p) (GU Y p q ext kvs cv D) s)
    (h : ∀ D' x s', LstItems knd Y x → St knd g R L (("lst", .ref D') :: vsU fb p) (x ++ ((D', .lst ((x.map fun p => Value.ref p.1).reverse)) :: GU Y p q ext kvs cv D)) s' → Q .next s') :
    wpAny (model prog w) A (exec (nth oBody 0) (envG L p.c0 p.c1 p.c2 p.c3)) Q E s := by
  have kt := kt_iter
  have hDz := hS.size
  conv in nth oBody 0 => whnf
  walk_at "go"
  have hVlen : (Y.keys.map fun k => (k, Value.ref (Y.dA k))).length = Y.keys.length := List.length_map ..
  obtain ⟨oda, hda, hkda⟩ := id LY.da
  refine' start_keys (by assumption) hr.handled LY.nda ((by assumption : St knd g _ L _ _ _).o hda) hkda ?_
  intro I s₂ ep W H2
  refine' comp_bind (l := GU Y p q ext kvs cv D) (X := Led K) (fun x => (x.map fun p => Value.ref p.1).reverse) (fun x => x)
    (fun i x => x.length = i ∧ i ≤ Y.keys.length ∧ (∀ p ∈ x, ∃ a b t u k key, p.2 = Kd.tup [.int a t, .int b u, key] ∧ knd.is k key = true ∧ k ∈ Y.keys) ∧
      (∀ j k, j < i → Y.keys[j]? = some k → ∃ p ∈ x, ∃ a b t u key, p.2 = Kd.tup [.int a t, .int b u, key] ∧ knd.is k key = true)) [] kt ?hy ?hr rfl W ?hcell ?hkind H2 ?hsrc ?h0 rfl rfl ?hfit ?turn ?fin
  case hy => walk_at "mem"
  case hr => walk_at "rm"
  case hcell => decide +kernel
  case hkind => rfl
  case hsrc => intro i x C' D' vq g₂ s' _ hk hS; exact hS.o (hk _ _ hda)
  case h0 => exact ⟨rfl, Nat.zero_le _, (fun p hp => nomatch hp), fun j k hj => absurd hj (Nat.not_lt_zero _)⟩
  case hfit => rintro i x ⟨hx, hx2, _⟩; have := LY.z; rw [List.length_reverse, List.length_map]; omega
  case turn =>
    rintro i x key new C' D' g₂ s' E' hi ⟨hx1, hx2, hx3, hx4⟩ ⟨⟨k, x0, hkv, hkey⟩, rfl⟩ hg2 H3
    rw [hVlen] at hi
    have hki : Y.keys[i]? = some k := by
      rw [List.getElem?_map] at hkv
      obtain ⟨k', e1, e2⟩ := Option.map_eq_some_iff.mp hkv
      cases e2; exact e1
    have hkm : k ∈ Y.keys := List.mem_of_getElem? hki
    replace H3 := show St knd g₂ (sideOf s₂) C' [] (x ++ ((I, keyIt "dict_keyiterator" Y.da (Y.keys.map fun k => (k, Value.ref (Y.dA k))).length ep (i + 1)) :: (D', .lst ((x.map fun p => Value.ref p.1).reverse)) :: GU Y p q ext kvs cv D)) s' from H3
    have LY2 := LY.keep hg2
    have B2 := B.keeps hg2
    have hvc2 := LY2.vc
    have hda2 := LY2.da
    have hnda := LY.nda
    have hnvc := LY.nvc
    have hv1 : valueAt (Y.keys.map fun k => (k, Value.ref (Y.vA k))) k = some (.ref (Y.vA k)) := value_map hkm
    have hv2 : valueAt (Y.keys.map fun k => (k, Value.ref (Y.dA k))) k = some (.ref (Y.dA k)) := value_map hkm
    have hvl2 := (LY2.vl k hkm).1
    have hvz : ((Y.vcons k).map fun C => Value.ref C.t).length < 100000 := by rw [List.length_map]; have := (LY.vl k hkm).2; omega
    have step : ∀ {a b : Int} {t u : Tok} {c : Addr}, (((c, Kd.tup [.int a t, .int b u, key]) :: x).length = i + 1 ∧ i + 1 ≤ Y.keys.length ∧ (∀ p ∈ ((c, Kd.tup [.int a t, .int b u, key]) :: x : Led K), ∃ a b t u k key, p.2 = Kd.tup [.int a t, .int b u, key] ∧ knd.is k key = true ∧ k ∈ Y.keys) ∧
        (∀ j k, j < i + 1 → Y.keys[j]? = some k → ∃ p ∈ ((c, Kd.tup [.int a t, .int b u, key]) :: x : Led K), ∃ a b t u key, p.2 = Kd.tup [.int a t, .int b u, key] ∧ knd.is k key = true)) ∧
        ((((c, Kd.tup [.int a t, .int b u, key]) :: x : Led K).map fun p => Value.ref p.1).reverse = ((x.map fun p => Value.ref p.1).reverse) ++ [.ref c]) := by
      intro a b t u c
      refine ⟨⟨by rw [List.length_cons, hx1], hi, fun p hp => ?_, fun j k' hj hk' => ?_⟩, by rw [List.map_cons, List.reverse_cons]⟩
      · rcases List.mem_cons.mp hp with e | hp
        · rw [e]; exact ⟨a, b, t, u, k, key, rfl, hkey, hkm⟩
        · exact hx3 p hp
      · rcases Nat.lt_succ_iff_lt_or_eq.mp hj with q | q
        · obtain ⟨p, hp, r⟩ := hx4 j k' q hk'
          exact ⟨p, .tail _ hp, r⟩
        · subst q
          rw [hki] at hk'
          cases hk'
          exact ⟨_, .head _, a, b, t, u, key, rfl, hkey⟩
    refine' withEv (tbl := [("variable", .local), ("vconstraints", .cell), ("domains", .cell), ("len", .globalImplicit)]) ?ev (fun ev => ?_)
    case ev => exact Ev.compK kt ⟨by decide +kernel, by decide +kernel⟩
    have hxz : (D k).xs.length < 1000 := by have := hDz k hkm; omega
    walk_at "go"
    exact ⟨_, _, _, step, List.Sublist.refl _, (by assumption)⟩
  case fin =>
    rintro x D' s' ⟨hx1, _, hx3, hx4⟩ H3
    rw [hVlen] at hx1 hx4
    refine h D' x s' ⟨hx1, hx3, fun k hk => ?_⟩ H3
    obtain ⟨j, hj, e⟩ := List.getElem_of_mem hk
    exact hx4 j k hj (by rw [List.getElem?_eq_getElem hj, e])
set_option maxHeartbeats 4000000 in
theorem gen_sort {L : Addr} {p : Pl} {Y : Lay K} {fb : Bool} {rest x : Led K} {D' : Addr} {Q : Flow → Shared → Prop} {E : Value → Shared → Prop}
    (hr : Room A 30) (B : Bs w g) (LY : LayAt knd g Y) (kl : KeyLt knd) (hx : LstItems knd Y x)
    (H : St knd g R L (("lst", .ref D') :: vsU fb p) (x ++ ((D', .lst ((x.map fun p => Value.ref p.1).reverse)) :: rest)) s)
    (h : ∀ ys s', ys.Perm ((x.map fun p => Value.ref p.1).reverse) → St knd g R L (("lst", .ref D') :: vsU fb p) (x ++ ((D', .lst ys) :: rest)) s' → Q .next s') :
    wpAny (model prog w) A (exec (nth oBody 1) (envG L p.c0 p.c1 p.c2 p.c3)) Q E s := by
  have kt := kt_iter
  conv in nth oBody 1 => whnf
  walk_at "go"
  refine' uSort kl (by assumption) (l'' := fun ys => x ++ ((D', .lst ys) :: rest)) (fun ys => Up.left .head _) ?h2 ?h64 ?hT (fun ys s4 hperm H4 => ?_)
  case h2 => rw [List.length_reverse, List.length_map, hx.1]; exact LY.z2
  case h64 => rw [List.length_reverse, List.length_map, hx.1]; have := LY.z; omega
  case hT =>
    intro v hv
    rw [List.mem_reverse] at hv
    obtain ⟨p, hp, rfl⟩ := List.mem_map.mp hv
    obtain ⟨a, b, t, u, k, key, e1, e2, _⟩ := hx.2.1 p hp
    exact ⟨p.1, a, b, t, u, k, key, rfl, List.mem_append_left _ (by rw [← e1]; exact hp), e2⟩
  walk_at "goS"
  exact h ys _ hperm (by assumption)
end
end
section
open PySem PySem.W PySem.Calls PyProof.Rows
set_option Elab.async false
set_option maxRecDepth 100000
set_option maxHeartbeats 400000
set_option linter.unusedVariables false
set_option linter.unusedSectionVars false

local macro_rules | `(tactic| walk_at "isB") => `(tactic| first | (with_reducible exact b_len))
local macro_rules | `(tactic| walk_at "isG") => `(tactic| fail)
local macro_rules | `(tactic| walk_at "isD") => `(tactic| first | (with_reducible exact dm_push _) | (with_reducible exact dt_push _) | (with_reducible exact dm_pop _) | (with_reducible exact dt_pop _))
local macro_rules | `(tactic| walk_at "isF") => `(tactic| first | (with_reducible exact fn_push _) | (with_reducible exact fn_pop _))
local macro_rules | `(tactic| walk_at "isC") => `(tactic| first | (with_reducible exact cg_bt) | (with_reducible exact cga_bt) | (with_reducible exact no_fcb))
local macro_rules | `(tactic| walk_at "mem") => `(tactic| with_reducible exact List.mem_append_left _ (DL_mem (by assumption)))
section
variable {prog : Program} {w : World} {K : Type} [DecidableEq K] {knd : KeyKind prog w K} {A : Around} {s : Shared} {g : Heap} {R : Side}
structure KeyOrd (knd : KeyKind prog w K) : Prop extends KeyLt knd where
  ne : ∀ {A : Around} {E : Value → Shared → Prop} {s : Shared} {a b : K} {u v : Value} {Q : Value → Shared → Prop}, knd.is a u = true → knd.is b v = true → Q (.bool (decide (a ≠ b))) s → wpAny (model prog w) A (compareOp .NotEq u v) Q E s
abbrev forBody : Stmt → List Stmt
  | .For _ _ b _ _ => b
  | _ => []
abbrev pickB : List Stmt := ifBody (nth (forBody (nth oBody 2)) 0)
local macro_rules | `(tactic| walk_at "op") => `(tactic| (with_reducible refine' KeyOrd.ne (by assumption) (by assumption) (by assumption) ?_))
set_option maxHeartbeats 4000000 in
/-- a variable is picked -/
theorem gen_pick {L : Addr} {p : Pl} {Y : Lay K} {fb : Bool} {kvs : List (K × Value)} {us : List K} {D : K → DS} {dom : K → List Int} {cons : List (Con K)} {q : List (Lev K)} {ext : Led K} {rem : List (List (K × Int))} {cv : Option Value} {Q : Flow → Shared → Prop} {E : Value → Shared → Prop}
    {b : Addr} {a1 a2 : Int} {t1 t2 : Tok} {k : K} {key : Value}
    (hr : Room A 30) (B : Bs w g) (LY : LayAt knd g Y) (ko : KeyOrd knd) (hS : Stk knd Y dom cons q kvs us D rem) (hkey : knd.is k key = true) (hk : k ∈ us)
    (H : St knd g R L (("item", .ref b) :: vsU fb p) ((b, Kd.tup [.int a1 t1, .int a2 t2, key]) :: GU Y p q ext kvs cv D) s)
    (h : ∀ us1 lv s', CurOk knd Y dom cons q kvs us us1 D rem lv kvs → lv.V = (D k).xs → lv.k = k → St knd g R L (vsG fb p lv.va lv.pv) (GC Y p q ext kvs lv.key lv.va lv.V lv.pdl us1 (AS Y us1) D) s' → Q .brk s') :
    wpAny (model prog w) A (execs pickB (envG L p.c0 p.c1 p.c2 p.c3)) Q E s := by
  have kt := kt_iter
  have V := hS.inv.1
  have hN := hS.inv.2
  have hkm := V.usub k hk
  have hu := (V.uass k hkm).mp hk
  have hda := LY.da
  have hnda := LY.nda
  have hv2 : valueAt (Y.keys.map fun k => (k, Value.ref (Y.dA k))) k = some (.ref (Y.dA k)) := value_map hkm
  have hus0 : us.Perm (k :: us.erase k) := List.perm_cons_erase hk
  have e1 : (us.erase k).Perm (Y.keys.filter fun x => decide (x ∈ us.erase k)) := by
    refine perm_of_mem (V.un.erase k) (LY.nd.filter _) fun x => ⟨fun hx => List.mem_filter.mpr ⟨V.usub x (List.mem_of_mem_erase hx), by simpa using hx⟩, fun hx => by simpa using (List.mem_filter.mp hx).2⟩
  generalize hus1e : (Y.keys.filter fun x => decide (x ∈ us.erase k)) = us1 at e1
  have hus1 : us.Perm (k :: us1) := hus0.trans (e1.cons k)
  have hn1 : us1.Nodup := ((hus1.nodup_iff).mp V.un).tail
  have hsub1 : ∀ x ∈ us1, x ∈ Y.keys := fun x hx => V.usub x (hus1.mem_iff.mpr (.tail _ hx))
  have hxz : (D k).xs.length < 1000 := by have := V.z1 k hk; omega
  have hxz9 : (D k).xs.length ≤ 90 := by have := V.z1 k hk; omega
  have hkz := hS.klen
  have hYz := LY.z
  have hcur : ∀ {va pv pdl bb}, PvD knd Y us1 pdl pv bb → CurOk knd Y dom cons q kvs us us1 D rem ⟨k, key, (D k).xs, va, 0, pv, pdl, bb⟩ kvs := fun {va pv pdl bb} hp =>
    ⟨hS, ⟨hus1, hkey, fun v hv => V.dints k hk v hv, hxz9, hp⟩, fun v => stored_new hu, fun e => absurd e (hN k hk), by omega⟩
  refine xs_cons (st := _) (rest := _) ?_
  walk_at "goS"
  refine nx ?_
  refine xs_cons (st := _) (rest := _) ?_
  walk_at "goS"
  rename_i c s6 H6 s7 H7
  have H8 : St knd g R L [("values", Value.ref c), ("forwardcheck", .bool fb), ("queue", .ref p.qa)] ((c, Kd.lst (D k).xs) :: (b, Kd.tup [Value.int a1 t1, Value.int a2 t2, key]) :: (p.c0, Kd.cell (some key)) :: (p.aa, Kd.dct kvs) :: (DL Y D Y.keys ++ GF Y p q ext)) s7 := by
    refine' St.vsub H7 ?hv (List.Sublist.cons_cons _ (List.sublist_cons_self ..))
    case hv => walk_at "vsub"
  have toC : ∀ {pl : Led K} {x y c0 aa : Addr × Kd K} {r : Led K}, ((c0 :: x :: (pl ++ (DL Y D us1 ++ (aa :: (DL Y D (AS Y us1) ++ r))))) ++ [y]).Perm (pl ++ (x :: y :: c0 :: aa :: (DL Y D Y.keys ++ r))) := fun {pl x y c0 aa r} => by
    have hsp := DL_split (D := D) LY.nd hn1 hsub1
    classical
    refine List.perm_iff_count.mpr fun e => ?_
    have := hsp.count_eq e
    simp only [List.count_append, List.count_cons, List.cons_append, List.count_nil] at this ⊢
    omega
  clear H H6 H7
  refine nx ?_
  refine xs_cons (st := _) (rest := _) ?_
  walk_at "go"
  cases fb with
  | false =>
    refine ifF rfl ?_
    walk_at "goS"
    rename_i s9 H9
    refine nx (wpAny_execs_nil (nx (xs_cons (st := _) (rest := _) (wpAny_Break (nx_brk (h us1 ⟨k, key, (D k).xs, c, 0, .none, [], false⟩ _ (hcur .none) rfl rfl ?_))))))
    refine' St.vsub (H9.perm (toC (pl := []))) ?hv (List.sublist_append_left ..)
    case hv => walk_at "vsub"
  | true =>
    refine ifT rfl ?_
    walk_at "go"
    have hVlen : (Y.keys.map fun k => (k, Value.ref (Y.dA k))).length = Y.keys.length := List.length_map ..
    obtain ⟨oda, hda, hkda⟩ := id LY.da
    refine' start_keys (by assumption) hr.handled LY.nda ((by assumption : St knd g _ L _ _ _).o hda) hkda ?_
    intro I s9 ep W H9
    refine' comp_bind (l := (c, Kd.lst (D k).xs) :: (b, Kd.tup [Value.int a1 t1, Value.int a2 t2, key]) :: (p.c0, Kd.cell (some key)) :: (p.aa, Kd.dct kvs) :: (DL Y D Y.keys ++ GF Y p q ext)) (X := Nat)
      (fun i => ((Y.keys.take i).filter fun x => decide (x ∈ us.erase k)).map fun x => Value.ref (Y.dA x)) (fun _ => []) (fun i x => x = i ∧ i ≤ Y.keys.length) 0 kt ?hy ?hr rfl W ?hcell ?hkind H9 ?hsrc ?h0 rfl rfl ?hfit ?turn ?fin
    case hy => walk_at "mem"
    case hr => walk_at "rm"
    case hcell => decide +kernel
    case hkind => rfl
    case hsrc => intro i x C' D' vq g₂ s' _ hk hS; exact hS.o (hk _ _ hda)
    case h0 => exact ⟨rfl, Nat.zero_le _⟩
    case hfit => rintro i x ⟨rfl, hx⟩; rw [List.length_map]; refine Nat.lt_of_le_of_lt (List.length_filter_le _ _) ?_; rw [List.length_take]; have := LY.z; omega
    case turn =>
      rintro i x xkey new C' D' g₂ s' E' hi ⟨rfl, hx2⟩ ⟨⟨k', x0, hkv, hkey'⟩, rfl⟩ hg2 H3
      rw [hVlen] at hi
      have hki : Y.keys[x]? = some k' := by
        rw [List.getElem?_map] at hkv
        obtain ⟨k'', e1, e2⟩ := Option.map_eq_some_iff.mp hkv
        cases e2; exact e1
      have hkm' : k' ∈ Y.keys := List.mem_of_getElem? hki
      replace H3 := show St knd g₂ (sideOf s9) C' [] ((I, keyIt "dict_keyiterator" Y.da (Y.keys.map fun k => (k, Value.ref (Y.dA k))).length ep (x + 1)) :: (D', .lst (((Y.keys.take x).filter fun x => decide (x ∈ us.erase k)).map fun x => Value.ref (Y.dA x))) :: (c, Kd.lst (D k).xs) :: (b, Kd.tup [Value.int a1 t1, Value.int a2 t2, key]) :: (p.c0, Kd.cell (some key)) :: (p.aa, Kd.dct kvs) :: (DL Y D Y.keys ++ GF Y p q ext)) s' from H3
      have LY2 := LY.keep hg2
      have B2 := B.keeps hg2
      have hda2 := LY2.da
      have hnda := LY.nda
      have hv2 : valueAt (Y.keys.map fun k => (k, Value.ref (Y.dA k))) k' = some (.ref (Y.dA k')) := value_map hkm'
      refine' withEv (tbl := [("x", .local), ("assignments", .cell), ("domains", .cell), ("variable", .cell)]) ?ev (fun ev => ?_)
      case ev => exact Ev.compK kt ⟨by decide +kernel, by decide +kernel⟩
      have hpe : decide (k' ∈ us.erase k) = (!(valueAt kvs k').isSome && decide (k' ≠ k)) := by
        have h1 := V.uass k' hkm'
        by_cases q : k' = k
        · subst q; simp [List.Nodup.not_mem_erase V.un]
        · by_cases q2 : k' ∈ us
          · rw [h1.mp q2]; simp [(List.mem_erase_of_ne q).mpr q2, q]
          · cases q3 : valueAt kvs k' with
            | none => exact absurd (h1.mpr q3) q2
            | some v => rw [decide_eq_false (fun h => q2 (List.mem_of_mem_erase h))]; rfl
      have hstep := take_filter_succ (fun x => decide (x ∈ us.erase k)) Y.keys hki
      rw [hpe] at hstep
      walk_at "go"
      cases hd : (valueAt kvs k').isSome with
      | true =>
        rw [hd, if_neg (by simp), List.append_nil] at hstep
        refine ifF rfl ?_
        walk_at "go"
        exact ⟨x + 1, _, _, ⟨⟨rfl, by omega⟩, by rw [hstep]⟩, List.Sublist.refl _, (by assumption)⟩
      | false =>
        refine ifT rfl ?_
        walk_at "go"
        rw [hd] at hstep
        cases hd2 : decide (k' ≠ k) with
        | true =>
          rw [hd2, if_pos (by rfl)] at hstep
          walk_at "go"
          exact ⟨x + 1, _, _, ⟨⟨rfl, by omega⟩, by rw [hstep, List.map_append]; rfl⟩, List.Sublist.refl _, (by assumption)⟩
        | false =>
          rw [hd2, if_neg (by simp), List.append_nil] at hstep
          walk_at "go"
          exact ⟨x + 1, _, _, ⟨⟨rfl, by omega⟩, by rw [hstep]⟩, List.Sublist.refl _, (by assumption)⟩
    case fin =>
      rintro x D' s' ⟨rfl, hx2⟩ H3
      rw [hVlen, List.take_length, hus1e, List.nil_append] at H3
      obtain ⟨opd, _, hopd, fx⟩ := H3.fix (.head _)
      have H4 := fx _ .head
      refine nx (wpAny_execs_nil (nx (xs_cons (st := _) (rest := _) (wpAny_Break (nx_brk (h us1 ⟨k, key, (D k).xs, c, 0, .ref D', [(D', .raw opd)], !us1.isEmpty⟩ _ (hcur (.lst hopd)) rfl rfl ?_))))))
      refine' St.vsub (H4.perm (toC (pl := [(D', .raw opd)]))) ?hv (List.sublist_append_left ..)
      case hv => walk_at "vsub"
end
end
section
open PySem PySem.W PySem.Calls PyProof.Rows
set_option Elab.async false
set_option maxRecDepth 100000
set_option maxHeartbeats 400000
set_option linter.unusedVariables false
set_option linter.unusedSectionVars false
theorem Room.func {A : Around} {n : Nat} (h : Room A (n + 1)) (body : List Stmt) (env : Env) : Room (A.over (.func body env) []) n := by
  refine ⟨h.1, ?_, ?_⟩
  · have := h.2
    show A.depth + 0 + 1 + 2 * n < _
    omega
  · have := h.3
    show A.units + 0 + 3 + 20 * n < _
    omega
theorem Room.whi {A : Around} {n : Nat} (h : Room A (n + 1)) {t : Expr} {b o : List Stmt} {env : Env} {K H gd lv p env' body} : Room (A.over (.whileLoop t b o env) [OwnF env K H gd lv (.func body env') p]) n := by
  refine ⟨h.1, ?_, ?_⟩
  · have := h.2
    show A.depth + (1 + 0) + 0 + 2 * n < _
    omega
  · have := h.3
    show A.units + (3 + 0) + 0 + 20 * n < _
    omega
theorem Room.forw {A : Around} {n : Nat} (h : Room A (n + 1)) {t : Expr} {it : Value} {b o : List Stmt} {env : Env} {K H gd lv p env' body K' H' gd' lv' p' t' b' o'} : Room (A.over (.forLoop t it b o env) [OwnF env K' H' gd' lv' (.whileLoop t' b' o' env) p', OwnF env K H gd lv (.func body env') p]) n := by
  refine ⟨h.1, ?_, ?_⟩
  · have := h.2
    show A.depth + (0 + (1 + 0)) + 0 + 2 * n < _
    omega
  · have := h.3
    show A.units + (0 + (3 + 0)) + 0 + 20 * n < _
    omega
theorem Room.blk {A : Around} {n : Nat} (h : Room A (n + 1)) {o : List Stmt} {env : Env} {K H gd lv p env' body K' H' gd' lv' p' t' b' o'} : Room (A.over (.block o env) [OwnF env K' H' gd' lv' (.whileLoop t' b' o' env) p', OwnF env K H gd lv (.func body env') p]) n := by
  refine ⟨h.1, ?_, ?_⟩
  · have := h.2
    show A.depth + (0 + (1 + 0)) + 0 + 2 * n < _
    omega
  · have := h.3
    show A.units + (0 + (3 + 0)) + 0 + 20 * n < _
    omega

local macro_rules | `(tactic| walk_at "isB") => `(tactic| first | (with_reducible exact b_len))
local macro_rules | `(tactic| walk_at "isG") => `(tactic| fail)
local macro_rules | `(tactic| walk_at "isD") => `(tactic| first | (with_reducible exact dm_push _) | (with_reducible exact dt_push _) | (with_reducible exact dm_pop _) | (with_reducible exact dt_pop _))
local macro_rules | `(tactic| walk_at "isF") => `(tactic| first | (with_reducible exact fn_push _) | (with_reducible exact fn_pop _))
local macro_rules | `(tactic| walk_at "isC") => `(tactic| first | (with_reducible exact cg_bt) | (with_reducible exact cga_bt) | (with_reducible exact no_fcb))
section
variable {prog : Program} {w : World} {K : Type} [DecidableEq K] {knd : KeyKind prog w K} {A : Around} {s : Shared} {g : Heap} {R : Side} {L : Addr} {vs : Vars} {l : Led K}
theorem start_lst2 {a : Addr} {items : List Value} {o : Obj} {Q : Value → Shared → Prop} {E : Value → Shared → Prop} (H : St knd g R L vs l s) (ho : s.heap.get? a = some o) (hk : (Kd.lst items).holds knd o)
    (h : ∀ I s', (∀ A', A'.handled = none → Iter prog w knd A' (.ref I) a o items.length (fun i v new => items[i]? = some v ∧ new = []) (oneIt I (seqIt "list_iterator" a))) → St knd g R L vs ((I, seqIt "list_iterator" a 0) :: l) s' → Q (.ref I) s') : wpAny (model prog w) A (pyIter (.ref a)) Q E s := by
  obtain ⟨n, rfl⟩ := id hk
  exact wpAny_pyIter_list (Has.list (knd := knd) ⟨_, ho, hk⟩) (h _ _ (fun A' hh => iter_seq hh rfl) (H.push rfl ⟨rfl, rfl⟩))
theorem St.regens (H : St knd g R L vs l s) (gens' : Array GenState) : St knd g ⟨gens', R.drawn, R.os⟩ L vs l { s with gens := gens' } := ⟨H.F, H.N, H.nd, rfl, H.drawn, H.os, H.low⟩

abbrev Outs (K : Type) := List (Addr × List (K × Value))
def refsOf (outs : Outs K) : List Value := outs.map fun o => .ref o.1
def ExtL (S I : Addr) (oI : Obj) (c : Nat) (outs : Outs K) : Led K := (S, .raw (GL (refsOf outs) c)) :: (I, .raw oI) :: outs.map fun o => (o.1, .dct o.2)
/-- what a yield hands on -/
def GYp (S I : Addr) (oI : Obj) : Protocol := fun _ s₀ v s' kap => ∃ acc c, s₀.heap.get? S = some (GL acc c) ∧ s'.heap.get? S = some (GL acc c) ∧ acc.length < 50000 ∧ s'.heap.get? I = some oI ∧ s'.heap.NoLimit ∧ s'.gens = s₀.gens ∧
  ∀ h' c' gens', h'.get? S = some (GL (acc ++ [v]) c') → Heap.SameBut S s'.heap h' → kap (.send .none) { s' with heap := h', gens := gens' }
/-- what the end hands on -/
def GEnd (knd : KeyKind prog w K) (g : Heap) (L : Addr) (p : Pl) (Y : Lay K) (fb : Bool) (dom : K → List Int) (cons : List (Con K)) (dr : Drawn) (os : OsState) (S I : Addr) (oI : Obj) (tot : List (List (K × Int))) (_ : Nat) (s₀ s₁ : Shared) : Prop :=
  ∃ D' us' cv' c outs, Stk knd Y dom cons [] [] us' D' [] ∧ St knd g ⟨s₀.gens, dr, os⟩ L (vsU fb p) (GU Y p [] (ExtL S I oI c outs) [] cv' D') s₁ ∧ (outs.map fun o => tupOf Y.keys o.2).Perm tot ∧ ∀ o ∈ outs, Full Y.keys o.2
abbrev GRp (P : Nat → Shared → Shared → Prop) : GenEnd := fun n s₀ r s₁ => r = .ok (.ret .none) ∧ P n s₀ s₁
abbrev wCode (env : Env) : Code := .whileLoop (whTest (nth (bdy 4 1) 3)) oBody (whElse (nth (bdy 4 1) 3)) env
structure RunI (knd : KeyKind prog w K) (Y : Lay K) (dom : K → List Int) (cons : List (Con K)) (S : Addr) (tot : List (List (K × Int))) (n : Nat) (s₀ : Shared) (c : Nat) (outs : Outs K) (rest : List (List (K × Int))) : Prop where
  len : rest.length ≤ n
  per : ((outs.map fun o => tupOf Y.keys o.2) ++ rest).Perm tot
  ful : ∀ o ∈ outs, Full Y.keys o.2
  acc : s₀.heap.get? S = some (GL (refsOf outs) c)
theorem RunI.perm {Y : Lay K} {dom cons S tot n s₀ c outs rest rest'} (h : RunI knd Y dom cons S tot n s₀ c outs rest) (p : rest.Perm rest') : RunI knd Y dom cons S tot n s₀ c outs rest' :=
  ⟨by rw [← p.length_eq]; exact h.len, (p.symm.append_left _).trans h.per, h.ful, h.acc⟩
theorem Stk.ta {Y : Lay K} {dom : K → List Int} {cons : List (Con K)} {q : List (Lev K)} {kvs : List (K × Value)} {us : List K} {D : K → DS} {rem : List (List (K × Int))} {lv : Lev K} (h : Stk knd Y dom cons (lv :: q) kvs us D rem) (ta : Addr) : Stk knd Y dom cons ({ lv with ta := ta } :: q) kvs us D rem := by
  cases h with
  | @cons _ _ _ _ _ _ _ _ v a b c d e => exact .cons (lv := { lv with ta := ta }) (v := v) a ⟨b.perm, b.key, b.V, b.z, b.pv⟩ ⟨c.mid, c.same, c.out⟩ d e
theorem nodeMu_ta {n : Nat} {q : List (Lev K)} {lv : Lev K} {ta : Addr} : nodeMu n ({ lv with ta := ta } :: q) = nodeMu n (lv :: q) := rfl
section
variable {p : Pl} {Y : Lay K} {fb : Bool} {dom : K → List Int} {cons : List (Con K)} {dr : Drawn} {os : OsState} {S I : Addr} {oI : Obj} {tot : List (List (K × Int))} {KK' : Flow → Sem Fin} {HH : Value → Sem Fin} {gd : Bool → Bool} {lvv : List Value → List Value} {pf : Pos} {body' : List Stmt} {env' : Env}
theorem toNode {Y : Lay K} {D : K → DS} {us1 : List K} {t c0 va aa c1 c2 c3 qq : Addr × Kd K} {pdl q e : Led K} (hk : Y.keys.Nodup) (hn : us1.Nodup) (hs : ∀ x ∈ us1, x ∈ Y.keys) :
    (c0 :: aa :: (DL Y D Y.keys ++ (c1 :: c2 :: c3 :: qq :: ((t :: va :: (pdl ++ q)) ++ e)))).Perm (t :: c0 :: va :: (pdl ++ (DL Y D us1 ++ (aa :: (DL Y D (AS Y us1) ++ (c1 :: c2 :: c3 :: qq :: (q ++ e))))))) := by
  have h := DL_split (D := D) hk hn hs
  classical
  refine List.perm_iff_count.mpr fun x => ?_
  have := h.count_eq x
  simp only [List.count_append, List.count_cons, List.cons_append] at this ⊢
  omega
set_option maxHeartbeats 4000000 in
/-- from the inner loop on -/
theorem gen_after {μ n : Nat} {s₀ : Shared} {q : List (Lev K)} {kvs kvsa : List (K × Value)} {us us1 : List K} {D : K → DS} {rem : List (List (K × Int))} {lv : Lev K} {c : Nat} {outs : Outs K}
    (hr : Room A 33) (B : Bs w g) (LY : LayAt knd g Y) (ko : KeyOrd knd) (T : Stat Y dom cons)
    (hK : ∀ m s₀ s', GEnd knd g L p Y fb dom cons dr os S I oI tot m s₀ s' → Seg (model prog w) A (GRp (GEnd knd g L p Y fb dom cons dr os S I oI tot)) (GYp S I oI) m s₀ (.func body' env') (KK' (.ret .none)) [] s')
    (IH : ∀ n s₀ s q kvs us D rem cv c outs, nodeMu Y.keys.length q < μ → Stk knd Y dom cons q kvs us D rem → RunI knd Y dom cons S tot n s₀ c outs (solsOf Y.keys dom cons kvs ++ rem) → St knd g ⟨s₀.gens, dr, os⟩ L (vsU fb p) (GU Y p q (ExtL S I oI c outs) kvs cv D) s →
      Seg (model prog w) A (GRp (GEnd knd g L p Y fb dom cons dr os S I oI tot)) (GYp S I oI) n s₀ (wCode (envG L p.c0 p.c1 p.c2 p.c3)) ((model prog w).den (wCode (envG L p.c0 p.c1 p.c2 p.c3))) [OwnF (envG L p.c0 p.c1 p.c2 p.c3) KK' HH gd lvv (.func body' env') pf] s)
    (hC : CurOk knd Y dom cons q kvs us us1 D rem lv kvsa) (hmu : curMu Y.keys.length lv.V q < μ) (hR : RunI knd Y dom cons S tot n s₀ c outs (lvSols Y dom cons kvs lv.k lv.V ++ rem))
    (H : St knd g ⟨s₀.gens, dr, os⟩ L (vsG fb p lv.va lv.pv) (GC Y p q (ExtL S I oI c outs) kvsa lv.key lv.va lv.V lv.pdl us1 (AS Y us1) D) s) :
    Seg (model prog w) A (GRp (GEnd knd g L p Y fb dom cons dr os S I oI tot)) (GYp S I oI) n s₀ (wCode (envG L p.c0 p.c1 p.c2 p.c3)) ((execs (oBody.drop 3) (envG L p.c0 p.c1 p.c2 p.c3)).wrap (KW (whTest (nth (bdy 4 1) 3)) oBody (whElse (nth (bdy 4 1) 3)) (envG L p.c0 p.c1 p.c2 p.c3)) (HW (envG L p.c0 p.c1 p.c2 p.c3)) id id) [OwnF (envG L p.c0 p.c1 p.c2 p.c3) KK' HH gd lvv (.func body' env') pf] s := by
  have kt := kt_iter
  have hr2 : Room (A.over (wCode (envG L p.c0 p.c1 p.c2 p.c3)) [OwnF (envG L p.c0 p.c1 p.c2 p.c3) KK' HH gd lvv (.func body' env') pf]) 32 := hr.whi
  refine seg_stmt (st := _) (rest := _) (gen_inner (hr2.less (by decide)) B LY ko.toKeyLt T hC H (fun D' us' cv' s' h1 h2 h3 => segq_ret (seg_own (hK _ _ _ ?_))) (fun lv' q' kvs' us1' D' rem' s' h1 h2 h3 h4 => segq ?_))
  · rw [h1] at hR
    exact ⟨D', us', cv', c, outs, h2, h3, by have := hR.per; rw [List.append_nil] at this; exact this, hR.ful⟩
  · refine seg_stmt (st := _) (rest := _) ?_
    have hqz : (qrefs q').length < 1000 := by rw [qrefs_len]; have := h1.klen; have := LY.z; rw [List.length_cons] at *; omega
    walk_at "goS"
    rename_i ta s6 H6 s7 H7
    refine segq (seg_execs_nil (seg_again rfl (IH n s₀ _ ({ lv' with ta := ta } :: q') kvs' us1' D' rem' (some lv'.key) c outs ?_ (h1.ta ta) (hR.perm h2) ?_)))
    · rw [nodeMu_ta]; exact Nat.lt_of_le_of_lt h3 hmu
    · rw [GU, GF, QL_cons, qrefs_cons]
      have hI := h1.inv.1
      refine St.sub (vs' := vsU fb p) (H7.perm (toNode (D := D') LY.nd hI.un hI.usub)) (fun r hr => .tail _ (.tail _ hr)) (List.Sublist.refl _)
end
end
end
section
open PySem PySem.W PySem.Calls PyProof.Rows
set_option Elab.async false
set_option maxRecDepth 100000
set_option maxHeartbeats 400000
set_option linter.unusedVariables false
set_option linter.unusedSectionVars false

local macro_rules | `(tactic| walk_at "isB") => `(tactic| first | (with_reducible exact b_len))
local macro_rules | `(tactic| walk_at "isG") => `(tactic| fail)
local macro_rules | `(tactic| walk_at "isD") => `(tactic| first | (with_reducible exact dm_push _) | (with_reducible exact dt_push _) | (with_reducible exact dm_pop _) | (with_reducible exact dt_pop _))
local macro_rules | `(tactic| walk_at "isF") => `(tactic| first | (with_reducible exact fn_push _) | (with_reducible exact fn_pop _))
local macro_rules | `(tactic| walk_at "isC") => `(tactic| first | (with_reducible exact cg_bt) | (with_reducible exact cga_bt) | (with_reducible exact no_fcb))
section
variable {prog : Program} {w : World} {K : Type} [DecidableEq K] {knd : KeyKind prog w K} {A : Around} {s : Shared} {g : Heap} {R : Side} {L : Addr} {vs : Vars} {l : Led K}
variable {p : Pl} {Y : Lay K} {fb : Bool} {dom : K → List Int} {cons : List (Con K)} {dr : Drawn} {os : OsState} {S I : Addr} {oI : Obj} {tot : List (List (K × Int))} {KK' : Flow → Sem Fin} {HH : Value → Sem Fin} {gd : Bool → Bool} {lvv : List Value → List Value} {pf p1 : Pos} {body' : List Stmt} {env' : Env}
theorem toPop {Y : Lay K} {D : K → DS} {us1 : List K} {x y c1 c2 c3 qq ta va : Addr × Kd K} {pl r : Led K} (hk : Y.keys.Nodup) (hn : us1.Nodup) (hs : ∀ x ∈ us1, x ∈ Y.keys) :
    (ta :: (DL Y D us1 ++ (x :: va :: y :: (pl ++ (DL Y D (AS Y us1) ++ (c1 :: c2 :: c3 :: qq :: r)))))).Perm (x :: y :: (DL Y D Y.keys ++ (c1 :: c2 :: c3 :: qq :: (ta :: va :: (pl ++ r))))) := by
  have hsp := DL_split (D := D) hk hn hs
  classical
  refine List.perm_iff_count.mpr fun e => ?_
  have := hsp.count_eq e
  simp only [List.count_append, List.count_cons] at this ⊢
  omega
theorem permEx {cc c0 aa c1 c2 c3 qq S I : Addr × Kd K} {d q o : Led K} : (c0 :: aa :: (d ++ (c1 :: c2 :: c3 :: qq :: (q ++ (S :: I :: (o ++ [cc])))))).Perm (cc :: c0 :: aa :: (d ++ (c1 :: c2 :: c3 :: qq :: (q ++ (S :: I :: o))))) := by
  classical
  refine List.perm_iff_count.mpr fun x => ?_
  simp only [List.count_append, List.count_cons, List.count_nil]
  omega
set_option maxHeartbeats 4000000 in
/-- a solution is yielded -/
theorem gen_yield {μ n : Nat} {s₀ : Shared} {q : List (Lev K)} {kvs : List (K × Value)} {us : List K} {D : K → DS} {rem : List (List (K × Int))} {c : Nat} {outs : Outs K} {cv : Option Value} {KF : Flow → Sem Fin} {HF : Value → Sem Fin}
    (hr : Room A 33) (hgd : gd false = false) (B : Bs w g) (LY : LayAt knd g Y) (ko : KeyOrd knd) (T : Stat Y dom cons) (htot : tot.length < 50000)
    (hafter : ∀ n s₀ s q kvs kvsa us us1 D rem lv c outs, CurOk knd Y dom cons q kvs us us1 D rem lv kvsa → curMu Y.keys.length lv.V q < μ → RunI knd Y dom cons S tot n s₀ c outs (lvSols Y dom cons kvs lv.k lv.V ++ rem) →
      St knd g ⟨s₀.gens, dr, os⟩ L (vsG fb p lv.va lv.pv) (GC Y p q (ExtL S I oI c outs) kvsa lv.key lv.va lv.V lv.pdl us1 (AS Y us1) D) s →
      Seg (model prog w) A (GRp (GEnd knd g L p Y fb dom cons dr os S I oI tot)) (GYp S I oI) n s₀ (wCode (envG L p.c0 p.c1 p.c2 p.c3)) (KF .next) [OwnF (envG L p.c0 p.c1 p.c2 p.c3) KK' HH gd lvv (.func body' env') pf] s)
    (hret : ∀ m s₀ s', GEnd knd g L p Y fb dom cons dr os S I oI tot m s₀ s' → Seg (model prog w) A (GRp (GEnd knd g L p Y fb dom cons dr os S I oI tot)) (GYp S I oI) m s₀ (wCode (envG L p.c0 p.c1 p.c2 p.c3)) (KF (.ret .none)) [OwnF (envG L p.c0 p.c1 p.c2 p.c3) KK' HH gd lvv (.func body' env') pf] s')
    (hS : Stk knd Y dom cons q kvs us D rem) (hmu : nodeMu Y.keys.length q ≤ μ) (hall : ∀ k ∈ Y.keys, (valueAt kvs k).isSome = true) (hR : RunI knd Y dom cons S tot n s₀ c outs (solsOf Y.keys dom cons kvs ++ rem))
    (H : St knd g ⟨s₀.gens, dr, os⟩ L (vsU fb p) (GU Y p q (ExtL S I oI c outs) kvs cv D) s) :
    Seg (model prog w) A (GRp (GEnd knd g L p Y fb dom cons dr os S I oI tot)) (GYp S I oI) n s₀ (.block (forElse (nth oBody 2)) (envG L p.c0 p.c1 p.c2 p.c3)) ((model prog w).den (.block (forElse (nth oBody 2)) (envG L p.c0 p.c1 p.c2 p.c3)))
      [OwnF (envG L p.c0 p.c1 p.c2 p.c3) KF HF id id (wCode (envG L p.c0 p.c1 p.c2 p.c3)) p1, OwnF (envG L p.c0 p.c1 p.c2 p.c3) KK' HH gd lvv (.func body' env') pf] s := by
  have kt := kt_iter
  obtain ⟨hl1, hl2, hl3⟩ := hS.inv.1.leaf T LY.nd hall
  have hkz : kvs.length ≤ 1000 := by have := hS.klen; have := LY.z; omega
  have hl := hl1.length_eq
  obtain ⟨m, rfl⟩ : ∃ m, n = m + 1 := ⟨n - 1, by have := hR.len; rw [List.length_append, hl, List.length_cons] at this; omega⟩
  have hoz : (refsOf outs).length < 50000 := by
    have := hR.per.length_eq
    unfold refsOf
    rw [List.length_map]
    rw [List.length_append, List.length_map] at this
    omega
  refine seg_block (seg_execs_cons ?_)
  refine seg_Expr_Yield rfl rfl (by show (false || (gd false || false)) = false; rw [hgd]; rfl) (noErr ?_)
  walk_at "go"
  rename_i cc s5 H5
  intro kap hkap
  have hSm : (S, Kd.raw (GL (refsOf outs) c)) ∈ (cc, Kd.dct kvs) :: GU Y p q (ExtL S I oI c outs) kvs cv D := .tail _ (.tail _ (.tail _ (List.mem_append_right _ (.tail _ (.tail _ (.tail _ (.tail _ (List.mem_append_right _ (.head _)))))))))
  have hIm : (I, Kd.raw oI) ∈ (cc, Kd.dct kvs) :: GU Y p q (ExtL S I oI c outs) kvs cv D := .tail _ (.tail _ (.tail _ (List.mem_append_right _ (.tail _ (.tail _ (.tail _ (.tail _ (List.mem_append_right _ (.tail _ (.head _))))))))))
  refine ⟨refsOf outs, c, hR.acc, (H5.has hSm).rawE, hoz, (H5.has hIm).rawE, (let ⟨m, F, _⟩ := H5.F; B.nolimit.keeps F.keep), H5.gens, fun h' c' gens' hS' hsb => hkap .none _ ?_⟩
  have e1 : refsOf (outs ++ [(cc, kvs)]) = refsOf outs ++ [.ref cc] := by unfold refsOf; rw [List.map_append]; rfl
  have H6 : St knd g ⟨gens', dr, os⟩ L (vsU fb p) (GU Y p q (ExtL S I oI c' (outs ++ [(cc, kvs)])) kvs cv D) { s5 with heap := h', gens := gens' } := by
    have U : Up S (Kd.raw (GL (refsOf outs) c)) (Kd.raw (GL (refsOf outs ++ [.ref cc]) c')) ((cc, Kd.dct kvs) :: GU Y p q (ExtL S I oI c outs) kvs cv D) ((cc, Kd.dct kvs) :: GU Y p q ((S, .raw (GL (refsOf outs ++ [.ref cc]) c')) :: (I, .raw oI) :: outs.map fun o => (o.1, .dct o.2)) kvs cv D) :=
      .tail (.tail (.tail (Up.left (.tail (.tail (.tail (.tail (Up.left .head _))))) _)))
    have h := (H5.put (t := s5.toks) U hsb ⟨_, hS', rfl⟩).regens gens'
    refine h.perm ?_
    unfold ExtL
    rw [e1, List.map_append]
    exact permEx
  have hR2 : RunI knd Y dom cons S tot m { s5 with heap := h', gens := gens' } c' (outs ++ [(cc, kvs)]) rem := by
    refine ⟨?_, ?_, ?_, ?_⟩
    · have := hR.len; rw [List.length_append, hl, List.length_cons, List.length_nil] at this; omega
    · rw [List.map_append, List.append_assoc]
      exact ((hl1.symm.append_right rem).append_left _).trans hR.per
    · intro o ho
      rcases List.mem_append.mp ho with h | h
      · exact hR.ful o h
      · rw [List.mem_singleton] at h; rw [h]; exact hl2
    · rw [e1]; exact hS'
  clear hkap H5 H hSm hIm hR
  have hqz : (qrefs q).length < 1000 := by rw [qrefs_len]; have := hS.klen; have := LY.z; omega
  have hr2 : Room (A.over (.block (forElse (nth oBody 2)) (envG L p.c0 p.c1 p.c2 p.c3)) [OwnF (envG L p.c0 p.c1 p.c2 p.c3) KF HF id id (wCode (envG L p.c0 p.c1 p.c2 p.c3)) p1, OwnF (envG L p.c0 p.c1 p.c2 p.c3) KK' HH gd lvv (.func body' env') pf]) 32 := hr.blk
  refine seg_stmt (st := _) (rest := _) ?_
  walk_at "go"
  rename_i s7 H7
  rw [qrefs_empty]
  cases q with
  | nil =>
    have hS0 := hS
    cases hS
    refine ifT rfl ?_
    refine xs_cons (st := _) (rest := _) (wpAny_Return_none (nx_ret (segq_ret (seg_own (hret _ _ _ ⟨D, us, cv, c', outs ++ [(cc, _)], hS0, H7, ?_, hR2.ful⟩)))))
    have := hR2.per; rw [List.append_nil] at this; exact this
  | cons lv q' =>
    cases hS with
    | @cons _ kvs0 us0 _ D0 _ rem0 _ v0 hS2 hL hRl hI hN =>
    have I2 := hS2.inv.1
    have hn1 := hI.un
    have hsub1 : ∀ x ∈ us, x ∈ Y.keys := hI.usub
    have hlen : us.length < 100 := by have := len_le hn1 hsub1; have := LY.z; omega
    rw [GU, GF, qrefs_cons, QL_cons, List.cons_append, List.cons_append, List.append_assoc] at H7
    refine ifF rfl (wpAny_execs_nil (segq ?_))
    refine seg_stmt (st := _) (rest := _) ?_
    refine Assign_Tuple ?_ rfl rfl
    have hqz2 : (qrefs q').length < 1000 := by rw [qrefs_cons, List.length_append] at hqz; omega
    clear hqz
    walk_at "go"
    refine' aTuple3 (v1 := lv.key) (v2 := .ref lv.va) (v3 := lv.pv) (by assumption) ?hT hr2.handled ?_
    case hT => walk_at "has"
    intro s8 H8
    walk_at "go"
    rename_i s9 H9
    have hpd := hL.pv
    have ev : Ev (envG L p.c0 p.c1 p.c2 p.c3) L [("variable", p.c0), ("assignments", p.c1), ("vconstraints", p.c2), ("domains", p.c3)] tb_iter := Ev.ofKt kt
    have H10 := H9.perm (toPop (D := D) (ta := (lv.ta, .tup [lv.key, .ref lv.va, lv.pv])) (va := (lv.va, .lst lv.V)) (pl := lv.pdl) LY.nd hn1 hsub1)
    have H11 := H10.sub (fun _ h => h) (List.sublist_cons_self ..)
    refine segq (seg_stmt (st := _) (rest := _) ?_)
    refine' pop_any (D0 := D0) (D := D) (us := us) (pdl := lv.pdl) (b := lv.b) (hr2.less (by omega)) ev ?p1 ?p2 ?p3 ?p4 B LY hn1 hsub1 (fun x hx => ⟨by have := I2.z1 x (hL.perm.mem_iff.mpr (.tail _ hx)); omega, by have := I2.z2 x (hL.perm.mem_iff.mpr (.tail _ hx)); omega⟩) hlen hpd ?p5 hRl.mid hRl.same H11 rfl rfl (fun D3 s12 hP H12 => ?_)
    case p1 => walk_at "mem"
    case p2 => walk_at "mem"
    case p3 => walk_at "mem"
    case p4 => walk_at "rm"
    case p5 => exact fun p hp => .tail _ (.tail _ (.tail _ (List.mem_append_left _ hp)))
    have hS3 := hS2.pop hRl hP
    refine segq (seg_execs_nil (seg_own (hafter _ _ _ q' kvs0 (kvs0 ++ [(lv.k, v0)]) us0 us (mixD us D3 D) rem0 lv c' _ (cur_of LY hS3 hL) (Nat.lt_of_lt_of_le mu_leaf hmu) hR2 ?_)))
    refine St.sub (vs' := vsG fb p lv.va lv.pv) (H12.perm toGC) ?_ (List.Sublist.refl _)
    intro r hr
    rcases List.mem_cons.mp hr with e | hr
    · exact e ▸ .tail _ (.head _)
    · rcases List.mem_cons.mp hr with e | hr
      · exact e ▸ .head _
      · exact .tail _ (.tail _ hr)
end
end
section
open PySem PySem.W PySem.Calls PyProof.Rows
set_option Elab.async false
set_option maxRecDepth 100000
set_option maxHeartbeats 400000
set_option linter.unusedVariables false
set_option linter.unusedSectionVars false

local macro_rules | `(tactic| walk_at "isB") => `(tactic| first | (with_reducible exact b_len))
local macro_rules | `(tactic| walk_at "isG") => `(tactic| fail)
local macro_rules | `(tactic| walk_at "isD") => `(tactic| first | (with_reducible exact dm_push _) | (with_reducible exact dt_push _) | (with_reducible exact dm_pop _) | (with_reducible exact dt_pop _))
local macro_rules | `(tactic| walk_at "isF") => `(tactic| first | (with_reducible exact fn_push _) | (with_reducible exact fn_pop _))
local macro_rules | `(tactic| walk_at "isC") => `(tactic| first | (with_reducible exact cg_bt) | (with_reducible exact cga_bt) | (with_reducible exact no_fcb))
section
variable {prog : Program} {w : World} {K : Type} [DecidableEq K] {knd : KeyKind prog w K} {A : Around} {s : Shared} {g : Heap} {R : Side} {L : Addr} {vs : Vars} {l : Led K}
variable {p : Pl} {Y : Lay K} {fb : Bool} {dom : K → List Int} {cons : List (Con K)} {dr : Drawn} {os : OsState} {S I : Addr} {oI : Obj} {tot : List (List (K × Int))} {KK' : Flow → Sem Fin} {HH : Value → Sem Fin} {gd : Bool → Bool} {lvv : List Value → List Value} {pf p1 : Pos} {body' : List Stmt} {env' : Env}
theorem isTrueC {e : Expr} {ps : Pos} {env : Env} {Q : Bool → Shared → Prop} {E : Value → Shared → Prop} (he : e = Expr.Constant (.bool true) 0 ps) (h : Q true s) : wpAny (model prog w) A (isTrue e env (eval e env)) Q E s := by
  subst he; walk_at "go"; exact h
set_option maxHeartbeats 8000000 in
/-- the outer loop -/
theorem gen_run (hr : Room A 33) (hgd : gd false = false) (B : Bs w g) (LY : LayAt knd g Y) (ko : KeyOrd knd) (T : Stat Y dom cons) (htot : tot.length < 50000)
    (hK : ∀ m s₀ s', GEnd knd g L p Y fb dom cons dr os S I oI tot m s₀ s' → Seg (model prog w) A (GRp (GEnd knd g L p Y fb dom cons dr os S I oI tot)) (GYp S I oI) m s₀ (.func body' env') (KK' (.ret .none)) [] s') :
    ∀ μ n s₀ s q kvs us D rem cv c outs, nodeMu Y.keys.length q ≤ μ → Stk knd Y dom cons q kvs us D rem → RunI knd Y dom cons S tot n s₀ c outs (solsOf Y.keys dom cons kvs ++ rem) → St knd g ⟨s₀.gens, dr, os⟩ L (vsU fb p) (GU Y p q (ExtL S I oI c outs) kvs cv D) s →
      Seg (model prog w) A (GRp (GEnd knd g L p Y fb dom cons dr os S I oI tot)) (GYp S I oI) n s₀ (wCode (envG L p.c0 p.c1 p.c2 p.c3)) ((model prog w).den (wCode (envG L p.c0 p.c1 p.c2 p.c3))) [OwnF (envG L p.c0 p.c1 p.c2 p.c3) KK' HH gd lvv (.func body' env') pf] s := by
  intro μ
  induction μ using Nat.strongRecOn with
  | ind μ ih =>
  intro n s₀ s q kvs us D rem cv c outs hmu hS hR H
  have kt := kt_iter
  have hr2 : Room (A.over (wCode (envG L p.c0 p.c1 p.c2 p.c3)) [OwnF (envG L p.c0 p.c1 p.c2 p.c3) KK' HH gd lvv (.func body' env') pf]) 32 := hr.whi
  have IH : ∀ n s₀ s q kvs us D rem cv c outs, nodeMu Y.keys.length q < μ → Stk knd Y dom cons q kvs us D rem → RunI knd Y dom cons S tot n s₀ c outs (solsOf Y.keys dom cons kvs ++ rem) → St knd g ⟨s₀.gens, dr, os⟩ L (vsU fb p) (GU Y p q (ExtL S I oI c outs) kvs cv D) s →
      Seg (model prog w) A (GRp (GEnd knd g L p Y fb dom cons dr os S I oI tot)) (GYp S I oI) n s₀ (wCode (envG L p.c0 p.c1 p.c2 p.c3)) ((model prog w).den (wCode (envG L p.c0 p.c1 p.c2 p.c3))) [OwnF (envG L p.c0 p.c1 p.c2 p.c3) KK' HH gd lvv (.func body' env') pf] s :=
    fun n s₀ s q kvs us D rem cv c outs h1 h2 h3 h4 => ih _ h1 n s₀ s q kvs us D rem cv c outs (Nat.le_refl _) h2 h3 h4
  refine seg_whiTurn ?_
  refine isTrueC (ps := _) rfl ⟨rfl, ?_⟩
  refine seg_stmt (st := _) (rest := _) (gen_lst (hr2.less (by decide)) B LY hS H fun D' x s1 hx H1 => segq ?_)
  refine seg_stmt (st := _) (rest := _) (gen_sort (hr2.less (by decide)) B LY ko.toKeyLt hx H1 fun ys s2 hperm H2 => segq ?_)
  have hys : ∀ v ∈ ys, ∃ p ∈ x, v = .ref p.1 := fun v hv => by
    have := hperm.mem_iff.mp hv
    rw [List.mem_reverse] at this
    obtain ⟨p, hp, e⟩ := List.mem_map.mp this
    exact ⟨p, hp, e.symm⟩
  refine seg_execs_cons (st := _) (rest := _) (seg_For ?_ (fun _ => rfl))
  walk_at "go"
  obtain ⟨oD, hoD, hkD, fx⟩ := H2.fix (List.mem_append_right x (.head _))
  have H3 := fx _ (Up.left .head _)
  refine start_lst2 H3 hoD hkD ?_
  intro I2 s3 W H4 pF
  refine seg_for_st (g := g) (R' := ⟨s₀.gens, dr, os⟩) (L := L) (X := Unit) (fun _ => ("lst", .ref D') :: vsU fb p) (fun _ => x ++ ((D', .raw oD) :: GU Y p q (ExtL S I oI c outs) kvs cv D))
    (fun i _ => ∀ j v, j < i → ys[j]? = some v → ∀ p ∈ x, v = .ref p.1 → ∀ a b t u k key, p.2 = Kd.tup [.int a t, .int b u, key] → knd.is k key = true → (valueAt kvs k).isSome = true) ()
    (QB := fun f s' => f = .next ∧ Seg (model prog w) A (GRp (GEnd knd g L p Y fb dom cons dr os S I oI tot)) (GYp S I oI) n s₀ (wCode (envG L p.c0 p.c1 p.c2 p.c3)) ((execs (oBody.drop 3) (envG L p.c0 p.c1 p.c2 p.c3)).wrap (KW (whTest (nth (bdy 4 1) 3)) oBody (whElse (nth (bdy 4 1) 3)) (envG L p.c0 p.c1 p.c2 p.c3)) (HW (envG L p.c0 p.c1 p.c2 p.c3)) id id) [OwnF (envG L p.c0 p.c1 p.c2 p.c3) KK' HH gd lvv (.func body' env') pf] s')
    (W _ hr.forw.handled) ?src ?h0 ?H0 ?hb ?turn ?done
  case src => intro i q s' _ hS; exact (hS.has (k := .raw oD) (.tail _ (List.mem_append_right x (List.mem_cons_self ..)))).rawE
  case h0 => exact fun j v h => absurd h (Nat.not_lt_zero _)
  case H0 => exact H4
  case hb => rintro f s' ⟨rfl, h⟩; exact seg_own h
  case turn =>
    rintro i ⟨⟩ v new s' hi hJ ⟨hv, rfl⟩ H6
    replace H6 := show St knd g ⟨s₀.gens, dr, os⟩ L (("lst", .ref D') :: vsU fb p) ((I2, seqIt "list_iterator" D' (i + 1)) :: (x ++ ((D', .raw oD) :: GU Y p q (ExtL S I oI c outs) kvs cv D))) s' from H6
    obtain ⟨r, hp, rfl⟩ := hys v (List.mem_of_getElem? hv)
    obtain ⟨a, b, t, u, k, key, e1, hkey, hkm⟩ := hx.2.1 r hp
    have hpm : (r.1, Kd.tup [.int a t, .int b u, key]) ∈ x := by rw [← e1]; exact hp
    walk_at "go"
    cases hass : (valueAt kvs k).isSome with
    | true =>
      refine ifF rfl ?_
      walk_at "go"
      refine for_next ⟨(), fun j v hj hv' p' hp' e' a' b' t' u' k' key' e1' hk' => ?_, ?_⟩
      · rcases Nat.lt_succ_iff_lt_or_eq.mp hj with q | q
        · exact hJ j v q hv' p' hp' e' a' b' t' u' k' key' e1' hk'
        · subst q
          rw [hv] at hv'
          have e2 : r.1 = p'.1 := by have := Option.some.inj hv'; rw [e'] at this; exact Value.ref.inj this
          have e3 : r = p' := by
            have hn := H6.nd
            have : ∀ {l : Led K}, (l.map (·.1)).Nodup → r ∈ l → p' ∈ l → r = p' := by
              intro l
              induction l with
              | nil => intro _ h; cases h
              | cons a l ih =>
                intro hn m m'
                rw [List.map_cons, List.nodup_cons] at hn
                rcases List.mem_cons.mp m with q | q <;> rcases List.mem_cons.mp m' with q' | q'
                · rw [q, q']
                · exact absurd (List.mem_map.mpr ⟨p', q', by rw [← e2, q]⟩) hn.1
                · exact absurd (List.mem_map.mpr ⟨r, q, by rw [e2, q']⟩) hn.1
                · exact ih hn.2 q q'
            exact this hn (.tail _ (List.mem_append_left _ hp)) (.tail _ (List.mem_append_left _ hp'))
          subst e3
          rw [e1] at e1'
          cases e1'
          rw [← knd.inj key k k' hkey hk']
          exact hass
      · walk_at "end"
    | false =>
      refine ifT rfl ?_
      have hku : k ∈ us := (hS.inv.1.uass k hkm).mpr (by cases q : valueAt kvs k with | none => rfl | some v => rw [q] at hass; cases hass)
      rename_i s8 H8
      have H9 : St knd g ⟨s₀.gens, dr, os⟩ L (("item", .ref r.1) :: vsU fb p) ((r.1, Kd.tup [.int a t, .int b u, key]) :: GU Y p q (ExtL S I oI c outs) kvs cv D) s8 := by
        refine' St.vsub H8 ?hv ((List.Sublist.append (List.singleton_sublist.mpr hpm) (List.sublist_cons_self ..)).cons _)
        case hv => walk_at "vsub"
      refine gen_pick (hr.forw.less (by decide)) B LY ko hS hkey hku H9 (fun us1 lv s9 hC hV hk2 H10 => nx_brk (for_brk ⟨rfl, ?_⟩))
      have hkl := hS.klen
      have hup := List.length_pos_of_mem hku
      refine gen_after hr B LY ko T hK IH hC (Nat.lt_of_lt_of_le (mu_first ?_ (by omega)) hmu) (hR.perm ?_) H10
      · exact hC.lok.z
      · have := sols_branch (cons := cons) (kvs := kvs) LY.nd T.dn hkm (hS.inv.1.dnd k hku) (hS.inv.1.rem k hku)
        rw [hV, hk2]
        exact this.append_right _
  case done =>
    rintro ⟨⟩ s' hJ H6
    have hall : ∀ k ∈ Y.keys, (valueAt kvs k).isSome = true := by
      intro k hk
      obtain ⟨p, hp, a, b, t, u, key, e1, e2⟩ := hx.2.2 k hk
      have hpy : Value.ref p.1 ∈ ys := hperm.mem_iff.mpr (by rw [List.mem_reverse]; exact List.mem_map.mpr ⟨p, hp, rfl⟩)
      obtain ⟨i, hi, e3⟩ := List.getElem_of_mem hpy
      exact hJ i _ hi (by rw [List.getElem?_eq_getElem hi, e3]) p hp rfl a b t u k key e1 e2
    have H7 : St knd g ⟨s₀.gens, dr, os⟩ L (vsU fb p) (GU Y p q (ExtL S I oI c outs) kvs cv D) s' := H6.sub (fun r hr => .tail _ hr) ((List.sublist_cons_self _ _).trans (List.sublist_append_right x _))
    refine gen_yield (μ := μ) hr hgd B LY ko T htot (fun n s₀ s q kvs kvsa us us1 D rem lv c outs h1 h2 h3 h4 => gen_after hr B LY ko T hK IH h1 h2 h3 h4) (fun m s₀ s' h => seg_own (hK _ _ _ h)) hS hmu hall hR H7
end
end
section
open PySem PySem.W PySem.Calls PyProof.Rows
set_option Elab.async false
set_option maxRecDepth 100000
set_option maxHeartbeats 400000
set_option linter.unusedVariables false
set_option linter.unusedSectionVars false

local macro_rules | `(tactic| walk_at "isB") => `(tactic| first | (with_reducible exact b_len))
local macro_rules | `(tactic| walk_at "isG") => `(tactic| fail)
local macro_rules | `(tactic| walk_at "isD") => `(tactic| first | (with_reducible exact dm_push _) | (with_reducible exact dt_push _) | (with_reducible exact dm_pop _) | (with_reducible exact dt_pop _))
local macro_rules | `(tactic| walk_at "isF") => `(tactic| first | (with_reducible exact fn_push _) | (with_reducible exact fn_pop _))
local macro_rules | `(tactic| walk_at "isC") => `(tactic| first | (with_reducible exact cg_bt) | (with_reducible exact cga_bt) | (with_reducible exact no_fcb))
section
variable {prog : Program} {w : World} {K : Type} [DecidableEq K] {knd : KeyKind prog w K} {A : Around} {s : Shared} {g : Heap} {R : Side} {L : Addr} {vs : Vars} {l : Led K}
variable {Y : Lay K} {fb : Bool} {dom : K → List Int} {cons : List (Con K)} {dr : Drawn} {os : OsState} {S I : Addr} {oI : Obj} {tot : List (List (K × Int))}
theorem seg_mono {M : Model} {Pa Pb : Nat → Shared → Shared → Prop} (h : ∀ m s₀ s', Pa m s₀ s' → Pb m s₀ s') : ∀ {n : Nat} {s₀ : Shared} {c : Code} {t : Sem Fin} {fs : List Frame} {s : Shared}, Seg M A (GRp Pa) (GYp S I oI) n s₀ c t fs s → Seg M A (GRp Pb) (GYp S I oI) n s₀ c t fs s
  | 0, s₀, c, t, fs, s, x => fun Γ p hc hw => by
    obtain ⟨e, s', hr, he⟩ := x Γ p hc hw
    refine ⟨e, s', hr, ?_⟩
    cases e with
    | ret r => exact ⟨he.1, h _ _ _ he.2⟩
    | susp v g l k c p fs => exact he
  | n + 1, s₀, c, t, fs, s, x => fun Γ p hc hw => by
    obtain ⟨e, s', hr, he⟩ := x Γ p hc hw
    refine ⟨e, s', hr, ?_⟩
    cases e with
    | ret r => exact ⟨he.1, h _ _ _ he.2⟩
    | susp v g l k c p fs =>
      obtain ⟨h1, acc, c', h2, h3, h4, h5, h6, h7, h8⟩ := he
      exact ⟨h1, acc, c', h2, h3, h4, h5, h6, h7, fun h' c' gens' a b => seg_mono h (h8 h' c' gens' a b)⟩
theorem toStart {qq aa c0 c1 c2 c3 : Addr × Kd K} {d e : Led K} : (c0 :: aa :: (d ++ (c1 :: c2 :: c3 :: qq :: ([] ++ e)))).Perm (qq :: aa :: c0 :: c1 :: c2 :: c3 :: (d ++ e)) := by
  classical
  refine List.perm_iff_count.mpr fun x => ?_
  simp only [List.count_append, List.count_cons, List.count_nil]
  omega
set_option maxHeartbeats 8000000 in
/-- the generator, from its first step on -/
theorem gen_start {n c : Nat} {c0 c1 c2 c3 sf sx : Addr} {cs : Value} {D : K → DS} {P : Nat → Shared → Shared → Prop}
    (hr : Room A 33) (B : Bs w g) (LY : LayAt knd g Y) (ko : KeyOrd knd) (T : Stat Y dom cons) (htot : (solsOf Y.keys dom cons []).length < 50000)
    (hself : Has knd g sf (.raw (instObj 186 sx))) (hsx : Has knd g sx (.att [("_forwardcheck", .bool fb)]))
    (V : Inv Y dom cons [] Y.keys D) (hN : NE Y.keys D) (hn : (solsOf Y.keys dom cons []).length ≤ n) (hP : ∀ p m s₀ s', GEnd knd g L p Y fb dom cons dr os S I oI (solsOf Y.keys dom cons []) m s₀ s' → P m s₀ s')
    (H : St knd g ⟨s.gens, dr, os⟩ L [("self", .ref sf), ("constraints", cs)] ((c0, .cell none) :: (c1, .cell none) :: (c2, .cell (some (.ref Y.vc))) :: (c3, .cell (some (.ref Y.da))) :: (DL Y D Y.keys ++ ExtL S I oI c [])) s) :
    Seg (model prog w) A (GRp P) (GYp S I oI) n s (.func (bdy 4 1) (envG L c0 c1 c2 c3)) ((model prog w).den (.func (bdy 4 1) (envG L c0 c1 c2 c3))) [] s := by
  have kt := kt_iter
  have hr2 : Room (A.over (.func (bdy 4 1) (envG L c0 c1 c2 c3)) []) 32 := hr.func _ _
  refine seg_func (seg_stmt (st := _) (rest := _) ?_)
  walk_at "go"
  refine segq (seg_stmt (st := _) (rest := _) ?_)
  walk_at "go"
  refine segq (seg_stmt (st := _) (rest := _) ?_)
  walk_at "go"
  refine segq ?_
  rename_i aa s6 H6 s7 H7 qa s8 H8 s9 H9
  have H10 : St knd g ⟨s.gens, dr, os⟩ L (vsU fb ⟨c0, c1, c2, c3, aa, qa⟩) (GU Y ⟨c0, c1, c2, c3, aa, qa⟩ [] (ExtL S I oI c []) [] none D) s9 := by
    refine' St.vsub (H9.perm toStart) ?hv (List.Sublist.refl _)
    case hv => walk_at "vsub"
  refine seg_execs_cons (st := _) (rest := _) (seg_Whi fun pf => seg_mono (hP ⟨c0, c1, c2, c3, aa, qa⟩) (gen_run hr rfl B LY ko T htot (fun m s₀ s' h => seg_end (.ok (.ret .none)) ⟨rfl, h⟩) _ n s s9 [] [] Y.keys D [] none c [] (Nat.le_refl _) (.nil (List.Perm.refl _) V hN) ⟨?_, ?_, ?_, ?_⟩ H10))
  · rw [List.append_nil]; exact hn
  · rw [List.append_nil]; exact List.Perm.refl _
  · exact fun o ho => nomatch ho
  · exact (H.has (.tail _ (.tail _ (.tail _ (.tail _ (List.mem_append_right _ (.head _))))))).rawE
end
end
section
open PySem PySem.W PySem.Calls PyProof.Rows
set_option Elab.async false
set_option maxRecDepth 100000
set_option maxHeartbeats 400000
set_option linter.unusedVariables false
set_option linter.unusedSectionVars false
section
variable {prog : Program} {w : World} {K : Type} [DecidableEq K] {knd : KeyKind prog w K} {A : Around} {E : Value → Shared → Prop} {s : Shared}
/-- a generator's def is called -/
theorem enterG {n : Nat} {R : Result → Shared → Prop} {name qual : Str} {params : Arguments} {body : List Stmt} {scope : Scope} {dV kV doc pm cdv ct : Value} {an : Option Addr} {fo : Obj} {f : Addr} {args : Args}
    {binds : List (Str × Value)} {vL : Vars} {cnames : List Str} {cv : List (Option Value)} {g₀ : Heap} {l : Led K} (X : At knd g₀ s l)
    (hr : Room A n) (ho : s.heap.get? f = some fo) (hd : fo.data = .func (fnX name qual params body scope [] dV kV doc pm an cdv ct)) (hcd : s.heap.CodeRec cdv qual)
    (hbind : BindsTo s (fnX name qual params body scope [] dV kV doc pm an cdv ct) args binds)
    (hkind' : ∀ x ∈ binds.map (·.1), scope.names.lookup x = some .local ∨ scope.names.lookup x = some .cell)
    (hnd : ((cellsFrom 0 scope.names []).map (·.1)).Nodup) (hcn : (cellsFrom 0 scope.names []).map (·.1) = cnames)
    (hL' : vL.map (fun p => bindL (fun x => scope.names.lookup x) binds (fun _ => none) p.1) = vL.map fun p => some p.2)
    (hC : cnames.map (bindC (fun x => scope.names.lookup x) binds (fun _ => none)) = cv)
    (h : ∀ g L s₁ cl o, cl.map (·.1) = cnames → (∀ b o, s.heap.get? b = some o → b ∉ l.map (·.1) → g.get? b = some o) → (∀ b o, g₀.get? b = some o → g.get? b = some o) → Bs w g →
      s₁.gens = s.gens.push (.fresh (.func body (envX qual scope L f cdv cl))) → s₁.drawn = s.drawn → s₁.os = s.os → (∃ nm qn, o = { cls := .type "generator", data := .fields #[.int s.gens.size 0, nm, qn] }) → (∀ b o, s.heap.get? b = some o → s₁.heap.get? b = some o) →
      ∀ I, St knd g (sideOf s₁) L vL ((I, .raw o) :: (cellLed cl cv ++ l)) s₁ → R (.ok (.ret (.ref I))) s₁)
    (hco : scope.isCoroutine = false := by rfl) (hgen : scope.isGenerator = true := by rfl) (hk : scope.kind = .function := by rfl) :
    codeAny (model prog w) A (.call (.ref f) args) R s := by
  have hL := List.map_inj_left.mp hL'
  have hkind : ∀ n, ∀ x ∈ binds, scope.names.lookup x.1 = some .local ∨ (scope.names.lookup x.1 = some .cell ∧ ((cellsFrom n scope.names []).lookup x.1).isSome = true) := fun n x hx =>
    (hkind' x.1 (List.mem_map_of_mem hx)).imp_right fun e => ⟨e, cells_isSome _ _ _ (.inl e)⟩
  refine codeAny_call_generator hr.d ho hd hco hgen rfl hcd (hbind _ _ _ _ ?_)
  refine wpAny_newFunctionEnv_cells hk (hkind _) fun env' he s' x => ?_
  subst he
  refine ⟨(X.B.nolimit.keeps X.k).keeps x.toInCall.keep, ?_⟩
  obtain ⟨h₁, tk, rfl, _⟩ := x.done
  have hk₁ := x.toInCall.keep
  have hg : ∀ b o, s.heap.get? b = some o → b ∉ l.map (·.1) → (hideAll s.heap (l.map (·.1))).get? b = some o := fun b o e n => hideAll_get _ e n
  have hg₀ : ∀ b o, g₀.get? b = some o → (hideAll s.heap (l.map (·.1))).get? b = some o := fun b o e => hg b o (X.k b o e) fun q => by
    obtain ⟨p, hp, rfl⟩ := List.mem_map.mp q
    rw [(X.l p hp).2.1] at e; cases e
  have hlow : sysModules < s.heap.objs.size := modules_low (X.B.nolimit.keeps X.k)
  have hnames : (cellsFrom (s.heap.objs.size + 1) scope.names []).map (·.1) = cnames := by rw [← hcn]; exact cellsFrom_names scope.names _ 0 [] [] rfl
  have hfresh : ∀ {b : Addr}, s.heap.objs.size ≤ b → (hideAll s.heap (l.map (·.1))).get? b = none := fun {b} hb => by
    cases q : (hideAll s.heap (l.map (·.1))).get? b with
    | none => rfl
    | some o => exact absurd (Heap.lt_size (of_hideAll _ q)) (Nat.not_lt.mpr hb)
  have hN : ∀ p ∈ (cellLed (cellsFrom (s.heap.objs.size + 1) scope.names []) cv ++ l : Led K), Has knd h₁ p.1 p.2 ∧ p.1 ≠ s.heap.objs.size ∧ (hideAll s.heap (l.map (·.1))).get? p.1 = none ∧ sysModules < p.1 := fun p hp => by
    rcases List.mem_append.mp hp with hp | hp
    · rw [cells_map (cm := bindC (fun x => scope.names.lookup x) binds (fun _ => none)) (by rw [← hC, ← hnames, List.map_map]; rfl)] at hp
      obtain ⟨⟨nm, c⟩, hm, rfl⟩ := List.mem_map.mp hp
      obtain ⟨o, ho', hd'⟩ := x.cell nm c (lookup_of_mem_nodup (hnames ▸ hcn ▸ hnd) hm)
      have hab : s.heap.objs.size < c := x.above nm c hm
      exact ⟨⟨o, ho', hd'⟩, Nat.ne_of_gt hab, hfresh (Nat.le_of_lt hab), Nat.lt_trans hlow hab⟩
    · exact ⟨(X.l p hp).1.keep fun o e => hk₁ _ o e, Nat.ne_of_lt (X.l p hp).1.lt, hideAll_none _ (List.mem_map_of_mem hp), (X.l p hp).2.2⟩
  have H₁ : St knd (hideAll s.heap (l.map (·.1))) (sideOf s) s.heap.objs.size vL (cellLed (cellsFrom (s.heap.objs.size + 1) scope.names []) cv ++ l) { s with heap := h₁, toks := tk } := by
    refine ⟨⟨_, ⟨x.toInCall.ns, fun b o e => hk₁ b o (of_hideAll _ e), Nat.le_of_eq (hideAll_size _ _)⟩, hL⟩, hN, ?_, rfl, rfl, rfl, hlow⟩
    rw [List.map_append, List.nodup_append]
    refine ⟨?_, X.nd, fun a ha b hb => ?_⟩
    · rw [cells_map (cm := bindC (fun x => scope.names.lookup x) binds (fun _ => none)) (by rw [← hC, ← hnames, List.map_map]; rfl), List.map_map]
      exact List.pairwise_map.mpr (x.apart.imp fun h => h)
    · rintro rfl
      rw [cells_map (cm := bindC (fun x => scope.names.lookup x) binds (fun _ => none)) (by rw [← hC, ← hnames, List.map_map]; rfl), List.map_map] at ha
      obtain ⟨⟨nm, c⟩, hm, rfl⟩ := List.mem_map.mp ha
      have hab : s.heap.objs.size < c := x.above nm c hm
      obtain ⟨p, hp, e⟩ := List.mem_map.mp hb
      have := (X.l p hp).1.lt
      rw [show p.1 = c from e] at this
      exact Nat.lt_irrefl _ (Nat.lt_trans hab this)
  have H₂ := (H₁.push (o := { cls := .type "generator", data := .fields #[.int s.gens.size 0, .str name tk, .str qual (tk + 1)] }) (t := tk + 1 + 1) (k := .raw _) rfl rfl).regens (s.gens.push (.fresh (.func body (envX qual scope s.heap.objs.size f cdv (cellsFrom (s.heap.objs.size + 1) scope.names [])))))
  exact h _ _ { s with gens := s.gens.push (.fresh (.func body (envX qual scope s.heap.objs.size f cdv (cellsFrom (s.heap.objs.size + 1) scope.names [])))), toks := tk + 1 + 1, heap := h₁.push { cls := .type "generator", data := .fields #[.int s.gens.size 0, .str name tk, .str qual (tk + 1)] } } _ _ hnames hg hg₀ (X.B.keeps hg₀) rfl rfl rfl ⟨_, _, rfl⟩ (fun b o e => Heap.get?_push_of_some _ (hk₁ b o e)) _ H₂
/-- the effect of a call that may leave a generator behind -/
structure EffG (knd : KeyKind prog w K) (s : Shared) (as : List Addr) (l' : Led K) (s' : Shared) : Prop where
  eff : Eff knd { s with gens := s'.gens } as l' s'
  bare : AllBare s.gens → AllBare s'.gens
theorem Eff.toG {as : List Addr} {l' : Led K} {s' : Shared} (e : Eff knd s as l' s') : EffG knd s as l' s' := ⟨⟨e.keep, e.has, e.new, e.low, e.nd, rfl, e.drawn, e.os⟩, fun h => by rw [e.gens]; exact h⟩
theorem St.effG {g : Heap} {R : Side} {L : Addr} {vs : Vars} {lc l rest l' : Led K} {s' : Shared} (H : St knd g R L vs lc s) (hp : lc.Perm (l ++ rest)) (e : EffG knd s (l.map (·.1)) l' s') :
    St knd g ⟨s'.gens, R.drawn, R.os⟩ L vs (l' ++ rest) s' := (H.regens s'.gens).eff hp e.eff
theorem St.toEffG {g : Heap} {L : Addr} {vs : Vars} {l' tmp : Led K} {s' : Shared} {as : List Addr} (H : St knd g ⟨s'.gens, s.drawn, s.os⟩ L vs tmp s') (hl : l'.Sublist tmp)
    (hk : ∀ b o, s.heap.get? b = some o → b ∉ as → g.get? b = some o) (hb : AllBare s.gens → AllBare s'.gens) : EffG knd s as l' s' := ⟨St.toEff (s := { s with gens := s'.gens }) H hl hk, hb⟩
end
end
section
open PySem PySem.W PySem.Calls PyProof.Rows
set_option Elab.async false
set_option maxRecDepth 100000
set_option maxHeartbeats 400000
set_option linter.unusedVariables false
set_option linter.unusedSectionVars false
theorem bare_set {gens : Array GenState} {g : Nat} {x : GenState} (h : AllBare gens) (hx : x.bare = true) : AllBare (gens.setIfInBounds g x) := fun y hy => by
  rcases Array.mem_or_eq_of_mem_setIfInBounds hy with h' | h'
  · exact h y h'
  · rw [h']; exact hx
theorem gl_inj {a b : List Value} {c d : Nat} (h : some (GL a c) = some (GL b d)) : a = b := by
  have h1 := Obj.mk.inj (Option.some.inj h)
  have h2 := Data.seq.inj h1.2.2.1
  simpa using congrArg Array.toList h2.1
theorem grow_S {h : Heap} {S : Addr} {acc : List Value} {c : Nat} (hS : h.get? S = some (GL acc c)) (v : Value) : ∃ h' c', h'.get? S = some (GL (acc ++ [v]) c') ∧ Heap.SameBut S h h' := by
  obtain ⟨c', ec⟩ : ∃ c', Obj.mapSeq (·.push v) (GL acc c) = GL (acc ++ [v]) c' := ⟨_, by simp [Obj.mapSeq]; rfl⟩
  have e := Heap.get?_update_self (Obj.mapSeq (·.push v)) hS rfl
  rw [ec] at e
  exact ⟨_, c', e, Heap.SameBut.update ..⟩
theorem permSt {α : Type} {i a b c d S : α} {l : List α} : (a :: b :: c :: d :: (l ++ [S, i])).Perm (S :: i :: a :: b :: c :: d :: l) := by
  classical
  refine List.perm_iff_count.mpr fun x => ?_
  simp only [List.count_append, List.count_cons, List.count_nil]
  omega
theorem permFin {α : Type} {c0 aa c1 c2 c3 qa i S : α} {d q o : List α} : ((S :: (d ++ o)) ++ (c0 :: aa :: c1 :: c2 :: c3 :: qa :: i :: q)).Perm (c0 :: aa :: (d ++ (c1 :: c2 :: c3 :: qa :: (q ++ (S :: i :: o))))) := by
  classical
  refine List.perm_iff_count.mpr fun x => ?_
  simp only [List.count_append, List.count_cons, List.count_nil, List.cons_append]
  omega
section
variable {prog : Program} {w : World} {K : Type} [DecidableEq K] {knd : KeyKind prog w K} {A : Around} {s : Shared}
set_option maxHeartbeats 4000000 in
/-- the generator is made and its solutions are put into a list -/
theorem gen_list {g₀ : Heap} {Y : Lay K} {D : K → DS} {dom : K → List Int} {cons : List (Con K)} {sf sx : Addr} {fb : Bool} {cs : Value} {Q : Value → Shared → Prop} {E : Value → Shared → Prop}
    (hr : Room A 60) (X : At knd g₀ s (DL Y D Y.keys)) (LY : LayAt knd g₀ Y) (ko : KeyOrd knd) (T : Stat Y dom cons) (htot : (solsOf Y.keys dom cons []).length < 50000)
    (hself : Has knd g₀ sf (.raw (instObj 186 sx))) (hsx : Has knd g₀ sx (.att [("_forwardcheck", .bool fb)])) (V : Inv Y dom cons [] Y.keys D) (hN : NE Y.keys D)
    (h : ∀ S D' (new : Outs K) s', EffG knd s ((DL Y D Y.keys).map (·.1)) ((S, .lst (new.map fun o => .ref o.1)) :: (DL Y D' Y.keys ++ new.map fun o => (o.1, .dct o.2))) s' → (new.map fun o => tupOf Y.keys o.2).Perm (solsOf Y.keys dom cons []) → (∀ o ∈ new, Full Y.keys o.2) → Q (.ref S) s') :
    codeAny (model prog w) A (.call (.ref 169) ⟨[.ref sf, .ref Y.da, cs, .ref Y.vc], []⟩) (RetQ (fun v s₁ => wpAny (model prog w) A (call (.type "list") [v]) Q E s₁) E) s := by
  refine enterG (knd := knd) (binds := [("self", .ref sf), ("domains", .ref Y.da), ("constraints", cs), ("vconstraints", .ref Y.vc)])
    (vL := [("self", .ref sf), ("constraints", cs)]) (cnames := ["variable", "assignments", "vconstraints", "domains"]) (cv := [none, none, some (.ref Y.vc), some (.ref Y.da)]) X hr (X.k _ _ (X.B.X _ _ (fn_iter _))) rfl ((codeRec_of X.B.X (cd_iter _)).keeps X.k)
    (BindsTo.of_eq (by kernel_rfl)) (show ∀ x ∈ (["self", "domains", "constraints", "vconstraints"] : List Str), _ from by decide +kernel) (by decide +kernel) (by decide +kernel) ?hL ?hC (fun g L s₁ cl o hcl hg hg' B hgens hdr hos hoe hk₁ I H => ?_) (by kernel_rfl) (by kernel_rfl) kt_iter.kind
  case hL => kernel_rfl
  case hC => kernel_rfl
  obtain ⟨c0, c1, c2, c3, rfl⟩ := cl_four hcl
  replace H : St knd g (sideOf s₁) L [("self", .ref sf), ("constraints", cs)] ((I, .raw o) :: (c0, .cell none) :: (c1, .cell none) :: (c2, .cell (some (.ref Y.vc))) :: (c3, .cell (some (.ref Y.da))) :: DL Y D Y.keys) s₁ := H
  obtain ⟨nm, qn, rfl⟩ := hoe
  have hI : s₁.heap.get? I = some ({ cls := .type "generator", data := .fields #[.int s.gens.size 0, nm, qn] } : Obj) := (H.has (.head _)).rawE
  have hgenI : ∀ {h : Heap}, h.get? I = some ({ cls := .type "generator", data := .fields #[.int s.gens.size 0, nm, qn] } : Obj) → h.IsGen I s.gens.size := fun {h} e => ⟨_, nm, qn, e, rfl, rfl, rfl⟩
  have hIS : I ≠ s₁.heap.objs.size := Nat.ne_of_lt (Heap.lt_size hI)
  have hgsz : s.gens.size < s₁.gens.size := by rw [hgens, Array.size_push]; exact Nat.lt_succ_self _
  have hNL : ∀ {h : Heap}, (∀ b o, g.get? b = some o → h.get? b = some o) → h.NoLimit := fun {h} k => B.nolimit.keeps k
  have hnl₁ : s₁.heap.NoLimit := hNL (let ⟨m, F, _⟩ := H.F; F.keep)
  have hcS : cStatics ≠ s₁.heap.objs.size := Nat.ne_of_lt (let ⟨mc, a, _⟩ := hnl₁; a.lt)
  refine retq ?_
  generalize hoI : ({ cls := .type "generator", data := .fields #[.int s.gens.size 0, nm, qn] } : Obj) = oI at H hI hgenI
  refine callListGen (gn := s.gens.size) (n := (solsOf Y.keys dom cons []).length)
    (GI := fun n acc s' => ∃ c gs, s'.heap.get? s₁.heap.objs.size = some (GL acc c) ∧ s'.heap.get? I = some oI ∧ s'.gens[s.gens.size]? = some gs ∧
      gs.Goes (model prog w) A.in1.in1.in1 (GRp fun m s₀ s' => ∃ p, GEnd knd g L p Y fb dom cons s.drawn s.os s₁.heap.objs.size I oI (solsOf Y.keys dom cons []) m s₀ s') (GYp s₁.heap.objs.size I oI) n (.send .none) (s'.setGen s.gens.size .running) ∧
      s'.heap.NoLimit ∧ (AllBare s.gens → AllBare s'.gens))
    (fun n acc s' hG => let ⟨c, _, h1, _⟩ := hG; ⟨c, h1⟩) ?next (hgenI hI) ?h0
  case h0 =>
    intro h' c hS' hk'
    refine ⟨c, .fresh _, hS', hk' _ _ hI, by show s₁.gens[s.gens.size]? = _; rw [hgens, Array.getElem?_push_size], ⟨rfl, ?_⟩, hNL fun b o e => ?_, fun hb => ?_⟩
    · have H2 := (H.new (h' := h') (t := s₁.toks) (a := s₁.heap.objs.size) (k := .raw (GL [] c)) hk' (Nat.le_refl _) ⟨_, hS', rfl⟩).regens (s₁.gens.setIfInBounds s.gens.size .running)
      have H3 : St knd g ⟨s₁.gens.setIfInBounds s.gens.size .running, s.drawn, s.os⟩ L [("self", .ref sf), ("constraints", cs)] ((c0, .cell none) :: (c1, .cell none) :: (c2, .cell (some (.ref Y.vc))) :: (c3, .cell (some (.ref Y.da))) :: (DL Y D Y.keys ++ ExtL s₁.heap.objs.size I oI c []))
          (Shared.setGen { s₁ with heap := h' } s.gens.size .running) := by
        rw [← hdr, ← hos]
        exact H2.perm permSt
      exact gen_start (hr.in1.in1.in1.less (by decide)) B (LY.keep hg') ko T htot (hself.keep fun o e => hg' _ o e) (hsx.keep fun o e => hg' _ o e) V hN (Nat.le_refl _) (fun p m s₀ s' h => ⟨p, h⟩) H3
    · obtain ⟨m, F, _⟩ := H.F
      exact hk' _ _ (F.keep _ _ e)
    · show AllBare s₁.gens
      rw [hgens]; exact hb.push rfl
  case next =>
    rintro n acc s' E' ⟨c, gs, hS', hI', hgs, hgo, hnl, hbare⟩
    refine pyNextB (n := n) hr.in1.in1.handled hnl hr.in1.in1.d (hgenI hI') hgs hgo (fun v s₂ gs' hb hY => ?_) (fun s₂ hP h' hk' => ?_)
    · obtain ⟨acc', c', h1, h2, h3, h4, h5, h6, h7⟩ := hY
      obtain rfl := gl_inj (hS'.symm.trans h1)
      have hgz : s.gens.size < s'.gens.size := (Array.getElem?_eq_some_iff.mp hgs).1
      have hgz2 : s.gens.size < s₂.gens.size := by rw [h6]; show _ < (s'.gens.setIfInBounds _ _).size; rw [Array.size_setIfInBounds]; exact hgz
      cases n with
      | zero =>
        obtain ⟨h', c'', e1, e2⟩ := grow_S h2 v
        exact (h7 h' c'' s₂.gens e1 e2).elim
      | succ m =>
        refine ⟨h3, ⟨c', h2⟩, m, Nat.lt_succ_self _, fun h'' c'' e1 e2 => ⟨c'', gs', e1, (e2.2 I hIS).trans h4, ?_, h7 h'' c'' _ e1 e2, h5.sameBut e2 hcS, fun hb0 => ?_⟩⟩
        · show (s₂.gens.setIfInBounds _ _)[_]? = _
          rw [Array.getElem?_setIfInBounds, if_pos rfl, if_pos hgz2]
        · refine bare_set ?_ hb
          rw [h6]; exact bare_set (hbare hb0) rfl
    · obtain ⟨p, D', us', cv', c', outs, hS0, H4, hper, hful⟩ := hP
      refine h _ D' outs _ ?_ hper hful
      have H5 := (H4.grow (t := s₂.toks) hk').regens (s₂.gens.setIfInBounds s.gens.size .finished)
      have U : Up s₁.heap.objs.size (Kd.raw (GL (refsOf outs) c')) (Kd.lst (refsOf outs)) (GU Y p [] (ExtL s₁.heap.objs.size I oI c' outs) [] cv' D') (GU Y p [] ((s₁.heap.objs.size, .lst (refsOf outs)) :: (I, .raw oI) :: outs.map fun o => (o.1, .dct o.2)) [] cv' D') :=
        .tail (.tail (Up.left (.tail (.tail (.tail (.tail (Up.left .head _))))) _))
      have H6 := (H5.recast U fun o _ e => ⟨c', e⟩).perm (permFin (q := QL []))
      refine St.toEffG (s' := { Shared.setGen s₂ s.gens.size .finished with heap := h' }) H6 (List.sublist_append_left _ _) hg fun hb0 => ?_
      refine bare_set ?_ rfl
      rw [H4.gens]; exact bare_set (hbare hb0) rfl
end
end
section
open PySem PySem.W PySem.Calls PyProof.Rows Builtin.ObjectAttr Builtin.Getset_descriptor
set_option Elab.async false
set_option maxRecDepth 100000
set_option maxHeartbeats 4000000
set_option linter.unusedVariables false
set_option linter.unusedSectionVars false
section
variable {prog : Program} {w : World} {A : Around} {K' : Frag} {C x dx : Addr} {s : Shared} {R : Result → Shared → Prop}
structure Over (K' : Frag) (C : Addr) (ml : List Value) : Prop where
  mro : (clsIn K' C).map (·.mro) = some ml
  obj : ml.contains (.type "object") = true
  pass : ∀ self, refuseLoop self "__setattr__" ml = pure ()
theorem osa_open2 {ml : List Value} {ox : Obj} {od : Option Obj} {name : Str} {tk : Tok} {v : Value} {r : Option Value} (X : K'.In s.heap) (I : InstAt s.heap x ox C od) (hp : Over K' C ml) (ht : takerIn K' C name = some r)
    (h : ∀ b, wpAny (model prog w) A.in1 (match r with | some a => setByDescriptor a (.ref x) v | none => storeInOwnDict (.ref x) (.ref C) (.str name tk) name v b)
      (fun fin s' => match fin with | .done f => R (.ok f) s' | .again c' => c'.quiet = true ∧ codeAny (model prog w) A c' R s') (fun e s' => R (.error e) s') s) :
    codeAny (model prog w) A (.call (.builtin "object.__setattr__") ⟨[.ref x, .str name tk, v], []⟩) R s := by
  have SF := PySem.F.store_object
  obtain ⟨cd, hc, hmr⟩ := Option.map_eq_some_iff.mp hp.mro
  have hob : cd.mro.contains (.type "object") = true := by rw [hmr]; exact hp.obj
  have ne : cd.mro.isEmpty = false := by cases q : cd.mro with | nil => rw [q] at hob; cases hob | cons _ _ => rfl
  have sub : Looks (model prog w) s.heap (isInstance (.ref x) (.type "object")) true := I.type.andThen (looks_mroIn X (by unfold mroIn; rw [hc, Option.bind_some, if_neg (by rw [ne]; decide), hob]))
  refine codeAny_call_builtin SF.slot.plain SF.entry (@check_slot (model prog w) _ _ s "object.__setattr__" "object" "__setattr__" (.ref x) [.str name tk, v] [] _ SF.kind SF.split sub (SF.args (.ref x) (.str name tk) v) ?_)
  obtain ⟨attr, ha, hr⟩ := Option.bind_eq_some_iff.mp ht
  have hm : Looks (model prog w) s.heap (mroOf (.ref C)) cd.mro := (looks_clsIn X hc).andThen .now
  have L3 : Looks (model prog w) s.heap (storeTaker? attr) r := by
    cases attr with
    | none => cases hr; exact .now
    | some a =>
      obtain ⟨b, hb, rfl⟩ := Option.map_eq_some_iff.mp hr
      refine (looks_takesIn X hb).andThen ?_
      cases b <;> exact .now
  rw [osa_eq, refuse_eq]
  refine wpAny_bind (wpAny_bind (I.type.here (wpAny_bind (hm.here ?_))))
  rw [hmr, hp.pass]
  refine wpAny_pure (wpAny_bind (I.type.here (wpAny_bind ((looks_findIn X ha).here (wpAny_bind (L3.here ?_))))))
  exact h _
theorem osa_own {ml : List Value} {ox od od' : Obj} {name : Str} {tk : Tok} {v : Value} {es : List DictEntry} {n : Nat} (D : s.heap.get? dx = some od) (X : K'.In s.heap)
    (I : InstAt s.heap x ox C (some od)) (hd : ox.dict = some dx) (hp : Over K' C ml) (ht : takerIn K' C name = some none) (hh : (clsIn K' C).any (·.hasDict) = true)
    (hl : (lookIn name od).isSome = true)
    (e : Obj.putName name (PyData.keyHash w.params name) (.str name s.toks) v od = od') (e' : od'.data = .dict es.toArray n) (hz : es.length ≤ 1000)
    (h : ∀ h', h'.get? dx = some od' → Heap.SameBut dx s.heap h' → R (.ok (.ret .none)) { s with heap := h', toks := s.toks + 1 }) :
    codeAny (model prog w) A (.call (.builtin "object.__setattr__") ⟨[.ref x, .str name tk, v], []⟩) R s := by
  refine osa_open2 X I hp ht fun b => ?_
  obtain ⟨cd, hc, hd'⟩ := any_some hh
  have D' := Heap.get?_update_self (Obj.putName name (PyData.keyHash w.params name) (.str name s.toks) v) D (by rw [e]; obtain ⟨_, _, dd, _⟩ := od'; cases e'; rfl)
  rw [e] at D'
  have S := Heap.SameBut.update s.heap dx (Obj.putName name (PyData.keyHash w.params name) (.str name s.toks) v)
  obtain ⟨hx, hcl, hn, -⟩ := I
  obtain ⟨oc, odi, oda, osl⟩ := ox
  dsimp only at hcl hd
  subst hcl hd
  refine wpAny_bind (wpAny_pure (wpAny_bind (wpAny_bind (wpAny_loadPart hx (wpAny_bind ((looks_clsIn X hc).here ?_))))))
  rw [hd']
  refine wpAny_pure (a := some dx) (wpAny_bind (wpAny_pure (wpAny_bind ?_)))
  unfold nsSet
  refine wpAny_bind (wpAny_bind (wpAny_askSetting (wpAny_pure (wpAny_bind (wpAny_mkText (wpAny_bind (wpAny_loadPart D ?_)))))))
  unfold lookIn at hl
  split at hl
  · rename_i es₀ n₀ q
    rw [q]
    dsimp only
    have c : (!es₀.any (·.key.isStr name) && es₀.any (·.refKey)) = false := by
      rw [← Array.any_toList, ← Array.any_toList]
      split at hl
      · rename_i en he
        rw [List.any_eq_true.mpr ⟨en, List.mem_of_find?_eq_some he, List.find?_some he⟩]; rfl
      · split at hl
        · cases hl
        · rename_i z; rw [Bool.not_eq_true] at z; rw [z, Bool.and_false]
    rw [aRefKeyMayBeTheName_at, c]
    refine wpAny_updatePart D ?_
    refine wpAny_bind (wpAny_lookBehind D' (by rw [e']; exact pastItsLine_dict (by rw [List.size_toArray, sizeLine_eq]; omega)) ?_)
    exact wpAny_pure (h _ D' S)
  · cases hl
end
theorem Atts.put {P : Params} {name : Str} {t : Tok} {v : Value} : ∀ {es : List DictEntry} {l : List (Str × Value)}, Atts P es l → Atts P (es ++ [⟨PyData.keyHash P name, .str name t, v⟩]) (l ++ [(name, v)])
  | _, _, .nil => .cons .nil
  | _, _, .cons a => .cons a.put
theorem noIdx {P : Params} {x : Str} {es : List DictEntry} {l : List (Str × Value)} (a : Atts P es l) (h : l.lookup x = none) : es.toArray.findIdx? (·.key.isStr x) = none := by
  rw [Array.findIdx?_eq_none_iff]
  intro e he
  have := a.none h
  unfold getL at this
  have he' : e ∈ es := by simpa using he
  cases q : e.key.isStr x with
  | false => rfl
  | true =>
    exfalso
    split at this
    · cases this
    · rename_i hn
      rw [List.find?_eq_none] at hn
      exact hn e he' q
theorem putNameOf {P : Params} {x : Str} {t : Tok} {v : Value} {es : List DictEntry} {l : List (Str × Value)} {n : Nat} (a : Atts P es l) (h : l.lookup x = none) :
    Obj.putName x (PyData.keyHash P x) (.str x t) v (dictOf es n) = dictOf (es ++ [⟨PyData.keyHash P x, .str x t, v⟩]) (n + 1) := by
  rw [Obj.putName_eq]
  show Obj.putNameByArray x _ _ v ⟨_, _, .dict es.toArray n, _⟩ = _
  unfold Obj.putNameByArray
  simp only [noIdx a h]
  show _ = dictOf _ _
  unfold dictOf
  simp
section
variable {prog : Program} {w : World} {K : Type} [DecidableEq K] {knd : KeyKind prog w K} {A : Around} {E : Value → Shared → Prop} {s : Shared}
  {g : Heap} {R : Side} {L : Addr} {vs : Vars} {l l' : Led K} {x dx C : Addr} {al : List (Str × Value)} {name : Str} {v : Value}
/-- what a class must be for its objects' attributes to be set -/
structure CSet (C : Addr) : Prop where
  set : ∀ P, findIn (KK P) (.ref C) "__setattr__" = some (some (.builtin "object.__setattr__"))
  over : ∃ ml, ∀ P, Over (KK P) C ml
  dict : ∀ P, (clsIn (KK P) C).any (·.hasDict) = true
def NoTaker (C : Addr) (name : Str) : Prop := ∀ P, takerIn (KK P) C name = some none
theorem uSetObj {ox : Obj} {Q : Unit → Shared → Prop} (H : St knd g R L vs l s) (B : Bs w g) (hx : s.heap.get? x = some ox) (hcl : ox.cls = .ref C) (hno : notCls ox = true) (hd : ox.dict = some dx) (c : CSet C) (ht : NoTaker C name) (hn : al.lookup name = none) (hz : al.length ≤ 900)
    (U : Up dx (.att al) (.att (al ++ [(name, v)])) l l') (h : ∀ s', St knd g R L vs l' s' → Q () s') : wpAny (model prog w) A (setAttr (.ref x) name v) Q E s := by
  obtain ⟨od, ho, es, n, rfl, a⟩ := H.has U.mem
  have I : InstAt s.heap x ox C (some (dictOf es n)) := ⟨hx, hcl, hno, by rw [hd]; exact ho⟩
  have hlen : ∀ {es : List DictEntry} {al : List (Str × Value)}, Atts w.params es al → es.length = al.length := by
    intro es al a
    induction a with
    | nil => rfl
    | cons _ ih => rw [List.length_cons, List.length_cons, ih]
  refine set_plain (H.X B) I (c.set _) ?_
  have H1 := H.tok (s.toks + 1)
  refine osa_own (s := { s with toks := s.toks + 1 }) ho (H1.X B) I hd (c.over.choose_spec _) (ht _) (c.dict _) (by rw [lookIn_dict, a.none hn]; rfl) (putNameOf a hn) rfl (by rw [List.length_append, hlen a, List.length_cons, List.length_nil]; omega) fun h' hg hs => ?_
  exact h _ (H.put (t := s.toks + 1 + 1) U hs ⟨_, hg, _, _, rfl, a.put⟩)
theorem uSetInst {Q : Unit → Shared → Prop} (H : St knd g R L vs l s) (B : Bs w g) (hx : Has knd s.heap x (.raw (instObj C dx))) (c : CSet C) (ht : NoTaker C name) (hn : al.lookup name = none) (hz : al.length ≤ 900)
    (U : Up dx (.att al) (.att (al ++ [(name, v)])) l l') (h : ∀ s', St knd g R L vs l' s' → Q () s') : wpAny (model prog w) A (setAttr (.ref x) name v) Q E s :=
  uSetObj H B hx.rawE rfl rfl rfl c ht hn hz U h
theorem uSetDom {xs : List Value} {Q : Unit → Shared → Prop} (H : St knd g R L vs l s) (B : Bs w g) (hx : Has knd s.heap x (.dom dx xs)) (c : CSet 303) (ht : NoTaker 303 name) (hn : al.lookup name = none) (hz : al.length ≤ 900)
    (U : Up dx (.att al) (.att (al ++ [(name, v)])) l l') (h : ∀ s', St knd g R L vs l' s' → Q () s') : wpAny (model prog w) A (setAttr (.ref x) name v) Q E s := by
  obtain ⟨o, ho, n, rfl⟩ := hx
  exact uSetObj H B ho rfl rfl rfl c ht hn hz U h
theorem Room.make {n : Nat} {C : Addr} {rest : List Value} {kw : List (Str × Value)} (h : Room A (n + 1)) : Room (A.under (.builtin "type.__call__" ⟨.ref C :: rest, kw⟩)) n := by
  refine ⟨h.1, ?_, ?_⟩
  · have := h.2
    show A.depth + 1 + 2 * n < _
    omega
  · have := h.3
    show A.units + 1 + 20 * n < _
    omega
structure Mk (C f : Addr) : Prop where
  made : ∀ P, makesIn (KK P) C = true
  init : ∀ P, findIn (KK P) (.ref C) "__init__" = some (some (.ref f))
  fn : ∀ P, typeIn (KK P) (.ref f) = some (.type "function")
/-- an object is made -/
theorem mkInst {f : Addr} {rest : List Value} {Q : Value → Shared → Prop} (H : St knd g R L vs l s) (B : Bs w g) (m : Mk C f)
    (h : ∀ x dx s', St knd g R L vs ((x, .raw (instObj C dx)) :: (dx, .att []) :: l) s' → codeAny (model prog w) (A.under (.builtin "type.__call__" ⟨.ref C :: rest, []⟩)) (.call (.ref f) ⟨.ref x :: rest, []⟩) (InitBack x (RetQ Q E)) s') :
    wpAny (model prog w) A (call (.ref C) rest) Q E s := by
  refine callRet ?_
  have X := H.X B
  have H1 := H.push (o := emptyDict) (t := s.toks) (k := .att []) rfl ⟨[], 0, rfl, .nil⟩
  have H2 := H1.push (o := instObj C s.heap.objs.size) (t := s.toks) (k := .raw (instObj C s.heap.objs.size)) rfl rfl
  have e : (s.heap.push emptyDict).objs.size = s.heap.objs.size + 1 := Heap.size_push ..
  obtain ⟨hh, gg, d, t, os⟩ := s
  refine make_core (makes_of X (m.made _)) (looks_findIn X (m.init _)) (fun self => bind_fn X self (m.fn _)) (.inl rfl) (h _ hh.objs.size _ ?_)
  dsimp only at H2 e
  rw [e] at H2
  exact H2
end
end
section
open PySem PySem.W PySem.Calls PyProof.Rows Builtin Builtin.ObjectAttr Builtin.Getset_descriptor
set_option Elab.async false
set_option maxRecDepth 100000
set_option maxHeartbeats 4000000
set_option linter.unusedVariables false
set_option linter.unusedSectionVars false
def makesL (K : Frag) (C : Addr) : Bool := match K.lookup C with
  | some ⟨_, _, .cls cd, sl⟩ => !cd.abstract && !cd.hasDel && (sl.toList[4]?).join == some (.builtin "list.__new__") && !cd.mro.isEmpty && cd.mro.contains (.ref C) && cd.mro.contains (.type "list") &&
      specialIn K (.ref C) "__call__" == some (some (.builtin "type.__call__")) && instIn K (.ref C) (.type "type") == some true
  | _ => false
structure MakesL (M : Model) (h : Heap) (C : Addr) : Prop where
  obj : ∃ oc od cd sl, h.get? C = some ⟨oc, od, .cls cd, sl⟩ ∧ cd.abstract = false ∧ cd.hasDel = false ∧ cd.mro.isEmpty = false
  made : Looks M h (Bind.madeBy (.ref C)) (some "list.__new__")
  base : Looks M h (Bind.staticBase (.ref C)) (.ref C)
  self : Looks M h (isSubtype (.ref C) (.ref C)) true
  top : Looks M h (isSubtype (.ref C) (.type "list")) true
  call : Looks M h (specialOf (.ref C) "__call__") (some (.builtin "type.__call__"))
  typ : Looks M h (isInstance (.ref C) (.type "type")) true
theorem makesL_of {K : Frag} {M : Model} {h : Heap} (X : K.In h) {C : Addr} (e : makesL K C = true) : MakesL M h C := by
  unfold makesL at e
  split at e
  · rename_i oc od cd sl ho
    simp only [Bool.and_eq_true, Bool.not_eq_true', beq_iff_eq] at e
    obtain ⟨⟨⟨⟨⟨⟨⟨e1, e2⟩, e3⟩, e4⟩, e5⟩, e6⟩, e7⟩, e8⟩ := e
    have hc : clsIn K C = some cd := by unfold clsIn; rw [ho]
    have hm : Looks M h (mroOf (.ref C)) cd.mro := (looks_clsIn X hc).andThen .now
    obtain ⟨c, l, hl⟩ : ∃ c l, cd.mro = c :: l := by cases q : cd.mro with | nil => rw [q] at e4; cases e4 | cons c l => exact ⟨c, l, rfl⟩
    have made : Looks M h (Bind.madeBy (.ref C)) (some "list.__new__") := by
      intro A Q E s k q
      unfold Bind.madeBy
      refine wpAny_bind (hm A _ E s k ?_)
      rw [hl, List.forIn_cons]
      refine wpAny_bind (wpAny_bind (wpAny_bind (wpAny_bind (wpAny_loadPart (k _ _ (X _ _ ho)) (wpAny_pure ?_)))))
      dsimp only
      rw [← Array.getElem?_toList, e3]
      exact wpAny_pure (wpAny_pure (wpAny_pure q))
    refine ⟨⟨oc, od, cd, sl, X _ _ ho, e1, e2, e4⟩, made, ?_, looks_mroIn X ?_, looks_mroIn X ?_, looks_specialIn X e7, looks_instIn X e8⟩
    · intro A Q E s k q
      unfold Bind.staticBase
      refine wpAny_bind (hm A _ E s k ?_)
      rw [hl, List.forIn_cons]
      exact wpAny_bind (wpAny_bind (wpAny_bind (made A _ E s k (wpAny_pure (wpAny_pure (wpAny_pure q))))))
    · unfold mroIn; rw [hc, Option.bind_some, if_neg (by rw [e4]; decide), e5]
    · unfold mroIn; rw [hc, Option.bind_some, if_neg (by rw [e4]; decide), e6]
  · cases e
section
variable {prog : Program} {w : World} {A : Around} {K : Frag} {C : Addr} {R : Result → Shared → Prop} {h : Heap} {g : Array GenState} {d : Drawn} {t : Nat} {os : OsState}
theorem kind_ln : builtinKind "list.__new__" = some .builtinFn := by decide +kernel
theorem split_ln : splitId "list.__new__" = some ("list", "__new__") := by decide +kernel
theorem new_L {rest : List Value} (Y : MakesL (model prog w) h C)
    (hq : R (.ok (.ret (.ref (h.objs.size + 1)))) ⟨(h.push emptyDict).push { cls := .ref C, dict := some h.objs.size, data := .seq #[] }, g, d, t, os⟩) :
    codeAny (model prog w) A (.call (.builtin "list.__new__") ⟨.ref C :: rest, []⟩) R ⟨h, g, d, t, os⟩ := by
  obtain ⟨⟨oc, od, cd, sl, hC, e1, e2, e4⟩, made, base, self, top, call, typ⟩ := Y
  refine codeAny_call_builtin_code (Code.quiet_builtin _ (by decide +kernel)) ?_
  simp only [checkBuiltinCall, kind_ln, split_ln]
  have here : Looks (model prog w) h (Bind.madeHere "list.__new__" (.ref C)) () := base.andThen (made.andThen (Looks.of_pure (by simp only [Option.map_some, bne_self_eq_false, Bool.false_eq_true, if_false])))
  repeat (first | simp only [bne_self_eq_false, Bool.false_eq_true, if_false, beq_self_eq_true, if_true, Bool.not_true] | lk)
  refine codeAny_builtin_stack F.entry_list_new rfl fun p st => ?_
  rw [Around.under_plainId F.plain_list_new _]
  have hown := owner_list_new
  simp only [hown]
  repeat (first | simp only [bne_self_eq_false, Bool.false_eq_true, if_false, beq_self_eq_true, if_true, Bool.not_true] | lk)
  refine nd_load (Heap.get?_push_of_some _ (Heap.get?_push_of_some _ hC)) (wpAny_pure ?_)
  dsimp only
  rw [e2]
  refine wpAny_pure (wpAny_pure ?_)
  show wpAny _ _ (ret _) _ _ _
  refine wpAny_pure ?_
  have e : (h.push emptyDict).objs.size = h.objs.size + 1 := Heap.size_push ..
  show R (.ok (.ret (.ref (h.push emptyDict).objs.size))) _
  rw [e]
  exact hq
theorem make_L {rest : List Value} {fI : Addr} (Y : MakesL (model prog w) h C) (hi : Looks (model prog w) h (typeLookup (.ref C) "__init__") (some (.ref fI)))
    (hb : ∀ self, Looks (model prog w) h (bindSpecial (.ref fI) self) (.ref fI, [self]))
    (hq : codeAny (model prog w) (A.under (.builtin "type.__call__" ⟨.ref C :: rest, []⟩)) (.call (.ref fI) ⟨.ref (h.objs.size + 1) :: rest, []⟩) (InitBack (h.objs.size + 1) R) ⟨(h.push emptyDict).push { cls := .ref C, dict := some h.objs.size, data := .seq #[] }, g, d, t, os⟩) :
    codeAny (model prog w) A (.call (.ref C) ⟨rest, []⟩) R ⟨h, g, d, t, os⟩ := by
  have Y' := Y
  obtain ⟨⟨oc, od, cd, sl, hC, e1, e2, e4⟩, made, base, self, top, call, typ⟩ := Y
  refine codeAny_of_tree ?_
  show wpAny _ _ (callAny (.ref C) _) _ _ _
  refine nd_load hC ?_
  show wpAny _ _ (callAny.viaDunder (.ref C) _) _ _ _
  unfold callAny.viaDunder
  refine wpAny_bind (call.at ?_)
  dsimp only
  rw [tc_bind]
  refine wpAny_bind (wpAny_pure (wpAny_bind (wpAny_pure ?_)))
  refine wpAny_pure (a := Fin.again (.call (.builtin "type.__call__") ⟨.ref C :: rest, []⟩)) (And.intro rfl ?_)
  refine codeAny_call_builtin_at (Code.quiet_builtin _ (by decide +kernel)) entry_typeCall ?_
  with_reducible refine check_slot tc_kind tc_split typ (tc_args _ _ _) ?_
  unfold Builtin.«type.__call__»
  have hm : Looks (model prog w) h (mroOf (.ref C)) cd.mro := ((Looks.ld (part := none) hC).andThen .now).andThen .now
  repeat (first | simp only [e4, Bool.false_eq_true, if_false] | with_reducible refine wpAny_call ?_ | lk)
  refine new_L Y' ?_
  have k : ∀ b o, h.get? b = some o → ((h.push emptyDict).push { cls := .ref C, dict := some h.objs.size, data := .seq #[] }).get? b = some o := fun b o e => Heap.get?_push_of_some _ (Heap.get?_push_of_some _ e)
  have hx : ((h.push emptyDict).push { cls := .ref C, dict := some h.objs.size, data := .seq #[] }).get? (h.objs.size + 1) = some { cls := .ref C, dict := some h.objs.size, data := .seq #[] } := by heap_get
  have t1 : Looks (model prog w) ((h.push emptyDict).push { cls := .ref C, dict := some h.objs.size, data := .seq #[] }) (typeOf (.ref (h.objs.size + 1))) (.ref C) := (Looks.ld hx).andThen .now
  have s1 := self.keeps k
  have i1 := hi.keeps k
  have b1 := (hb (.ref (h.objs.size + 1))).keeps k
  unfold isInstance callSpecial? specialOf
  repeat (first | with_reducible refine wpAny_call ?_ | lk)
  refine codeAny_mono hq fun r s' z => ?_
  rcases r with e | (v | _ | _ | _) <;> first | exact z | exact z.elim | skip
  obtain ⟨rfl, z⟩ := z
  exact wpAny_pure (wpAny_pure z)
end
section
variable {prog : Program} {w : World} {K : Type} [DecidableEq K] {knd : KeyKind prog w K} {A : Around} {E : Value → Shared → Prop} {s : Shared}
  {g : Heap} {R : Side} {L : Addr} {vs : Vars} {l l' : Led K}
theorem mkl_dom (P : Params) : makesL (KK P) 303 = true := by kernel_rfl
theorem init_dom (P : Params) : findIn (KK P) (.ref 303) "__init__" = some (some (.ref 272)) := by kernel_rfl
theorem fn_dom (P : Params) : typeIn (KK P) (.ref 272) = some (.type "function") := by kernel_rfl
/-- a domain is made -/
theorem mkDom {rest : List Value} {Q : Value → Shared → Prop} (H : St knd g R L vs l s) (B : Bs w g)
    (h : ∀ x dx s', St knd g R L vs ((x, .dom dx []) :: (dx, .att []) :: l) s' → codeAny (model prog w) (A.under (.builtin "type.__call__" ⟨.ref 303 :: rest, []⟩)) (.call (.ref 272) ⟨.ref x :: rest, []⟩) (InitBack x (RetQ Q E)) s') :
    wpAny (model prog w) A (call (.ref 303) rest) Q E s := by
  refine callRet ?_
  have X := H.X B
  have H1 := H.push (o := emptyDict) (t := s.toks) (k := .att []) rfl ⟨[], 0, rfl, .nil⟩
  have H2 := H1.push (o := domO s.heap.objs.size [] 0) (t := s.toks) (k := .dom s.heap.objs.size []) rfl ⟨0, rfl⟩
  have e : (s.heap.push emptyDict).objs.size = s.heap.objs.size + 1 := Heap.size_push ..
  obtain ⟨hh, gg, d, t, os⟩ := s
  refine make_L (makesL_of X (mkl_dom _)) (looks_findIn X (init_dom _)) (fun self => bind_fn X self (fn_dom _)) (h _ hh.objs.size _ ?_)
  dsimp only at H2 e
  rw [e] at H2
  exact H2
end
end
section
open PySem PySem.W PySem.Calls PyProof.Rows
set_option Elab.async false
set_option maxRecDepth 100000
set_option maxHeartbeats 1000000
set_option linter.unusedVariables false
set_option linter.unusedSectionVars false
theorem cs110 : CSet 110 := ⟨fun P => by kernel_rfl, ⟨[.ref 110, .type "object"], fun P => ⟨by kernel_rfl, by decide +kernel, fun self => by kernel_rfl⟩⟩, fun P => by kernel_rfl⟩
theorem cs303 : CSet 303 := ⟨fun P => by kernel_rfl, ⟨[.ref 303, .type "list", .type "object"], fun P => ⟨by kernel_rfl, by decide +kernel, fun self => by kernel_rfl⟩⟩, fun P => by kernel_rfl⟩
theorem cs375 : CSet 375 := ⟨fun P => by kernel_rfl, ⟨[.ref 375, .ref 347, .type "object"], fun P => ⟨by kernel_rfl, by decide +kernel, fun self => by kernel_rfl⟩⟩, fun P => by kernel_rfl⟩
theorem cs186 : CSet 186 := ⟨fun P => by kernel_rfl, ⟨[.ref 186, .ref 145, .type "object"], fun P => ⟨by kernel_rfl, by decide +kernel, fun self => by kernel_rfl⟩⟩, fun P => by kernel_rfl⟩
theorem cs225 : CSet 225 := ⟨fun P => by kernel_rfl, ⟨[.ref 225, .ref 145, .type "object"], fun P => ⟨by kernel_rfl, by decide +kernel, fun self => by kernel_rfl⟩⟩, fun P => by kernel_rfl⟩
theorem nt_solver : NoTaker 110 "_solver" := fun P => by kernel_rfl
theorem nt_cons : NoTaker 110 "_constraints" := fun P => by kernel_rfl
theorem nt_vars : NoTaker 110 "_variables" := fun P => by kernel_rfl
theorem nt_hidden : NoTaker 303 "_hidden" := fun P => by kernel_rfl
theorem nt_states : NoTaker 303 "_states" := fun P => by kernel_rfl
theorem nt_func : NoTaker 375 "_func" := fun P => by kernel_rfl
theorem nt_assigned : NoTaker 375 "_assigned" := fun P => by kernel_rfl
theorem nt_fcb : NoTaker 186 "_forwardcheck" := fun P => by kernel_rfl
theorem nt_fcr : NoTaker 225 "_forwardcheck" := fun P => by kernel_rfl
theorem mk110 : Mk 110 36 := ⟨fun P => by kernel_rfl, fun P => by kernel_rfl, fun P => by kernel_rfl⟩
theorem mk186 : Mk 186 164 := ⟨fun P => by kernel_rfl, fun P => by kernel_rfl, fun P => by kernel_rfl⟩
theorem mk225 : Mk 225 203 := ⟨fun P => by kernel_rfl, fun P => by kernel_rfl, fun P => by kernel_rfl⟩
theorem mk375 : Mk 375 366 := ⟨fun P => by kernel_rfl, fun P => by kernel_rfl, fun P => by kernel_rfl⟩
theorem fn_ib (P : Params) : (KK P).lookup 164 = some (methO "__init__" "BacktrackingSolver.__init__" 4 0 164 (.ref 157)) := by kernel_rfl
theorem cd_ib (P : Params) : codeIn (KK P) (.ref 163) "BacktrackingSolver.__init__" = true := by kernel_rfl
theorem df_ib (P : Params) : (KK P).lookup 157 = some (tupO [.bool true]) := by kernel_rfl
theorem fn_ir (P : Params) : (KK P).lookup 203 = some (methO "__init__" "RecursiveBacktrackingSolver.__init__" 5 0 203 (.ref 196)) := by kernel_rfl
theorem cd_ir (P : Params) : codeIn (KK P) (.ref 202) "RecursiveBacktrackingSolver.__init__" = true := by kernel_rfl
theorem df_ir (P : Params) : (KK P).lookup 196 = some (tupO [.bool true]) := by kernel_rfl
theorem fn_if (P : Params) : (KK P).lookup 366 = some (methO "__init__" "FunctionConstraint.__init__" 10 0 366 (.ref 359)) := by kernel_rfl
theorem cd_if (P : Params) : codeIn (KK P) (.ref 365) "FunctionConstraint.__init__" = true := by kernel_rfl
theorem df_if (P : Params) : (KK P).lookup 359 = some (tupO [.bool true]) := by kernel_rfl
theorem fn_ip (P : Params) : (KK P).lookup 36 = some (methO "__init__" "Problem.__init__" 2 0 36 (.ref 29)) := by kernel_rfl
theorem cd_ip (P : Params) : codeIn (KK P) (.ref 35) "Problem.__init__" = true := by kernel_rfl
theorem df_ip (P : Params) : (KK P).lookup 29 = some (tupO [.none]) := by kernel_rfl
theorem fn_id (P : Params) : (KK P).lookup 272 = some (methO "__init__" "Domain.__init__" 8 0 272 .none) := by kernel_rfl
theorem cd_id (P : Params) : codeIn (KK P) (.ref 271) "Domain.__init__" = true := by kernel_rfl
abbrev tb_is : List (Str × NameKind) := [("self", .local), ("forwardcheck", .local)]
theorem kt_ib : Kt (scp 4 0) tb_is := ⟨by decide +kernel, by decide +kernel⟩
theorem kt_ir : Kt (scp 5 0) tb_is := ⟨by decide +kernel, by decide +kernel⟩
abbrev tb_if : List (Str × NameKind) := [("self", .local), ("func", .local), ("assigned", .local)]
theorem kt_if : Kt (scp 10 0) tb_if := ⟨by decide +kernel, by decide +kernel⟩
abbrev tb_ip : List (Str × NameKind) := [("self", .local), ("solver", .local), ("BacktrackingSolver", .globalImplicit)]
theorem kt_ip : Kt (scp 2 0) tb_ip := ⟨by decide +kernel, by decide +kernel⟩
abbrev tb_id : List (Str × NameKind) := [("self", .local), ("values", .local), ("list", .globalImplicit)]
theorem kt_id : Kt (scp 8 0) tb_id := ⟨by decide +kernel, by decide +kernel⟩

local macro_rules | `(tactic| walk_at "isB") => `(tactic| first | (with_reducible exact b_len))
local macro_rules | `(tactic| walk_at "isG") => `(tactic| fail)
local macro_rules | `(tactic| walk_at "isD") => `(tactic| fail)
local macro_rules | `(tactic| walk_at "isF") => `(tactic| fail)
local macro_rules | `(tactic| walk_at "isC") => `(tactic| first | (with_reducible exact cs110) | (with_reducible exact cs303) | (with_reducible exact cs375) | (with_reducible exact cs186) | (with_reducible exact cs225) | (with_reducible exact nt_solver) | (with_reducible exact nt_cons) | (with_reducible exact nt_vars) | (with_reducible exact nt_hidden) | (with_reducible exact nt_states) | (with_reducible exact nt_func) | (with_reducible exact nt_assigned) | (with_reducible exact nt_fcb) | (with_reducible exact nt_fcr))
local macro_rules | `(tactic| walk_at "op") => `(tactic| first
  | ((with_reducible refine' uSetInst (by assumption) (by assumption) ?hx ?c ?ht ?hn ?hz ?U ?_); (case hx => walk_at "has"); (case c => walk_at "isC"); (case ht => walk_at "isC"); (case U => walk_at "up"); (case hn => rfl); (case hz => (exact Nat.le_of_ble_eq_true rfl)); (try dsimp only [List.nil_append, List.cons_append]); intro _ _)
  | ((with_reducible refine' uSetDom (by assumption) (by assumption) ?hx ?c ?ht ?hn ?hz ?U ?_); (case hx => walk_at "has"); (case c => walk_at "isC"); (case ht => walk_at "isC"); (case U => walk_at "up"); (case hn => rfl); (case hz => (exact Nat.le_of_ble_eq_true rfl)); (try dsimp only [List.nil_append, List.cons_append]); intro _ _))
section
variable {prog : Program} {w : World} {K : Type} [DecidableEq K] {knd : KeyKind prog w K} {A : Around} {s : Shared}
theorem init_bt {R : Result → Shared → Prop} {g₀ : Heap} {x dx : Addr} {b : Bool} (hr : Room A 10) (X : At knd g₀ s [(x, .raw (instObj 186 dx)), (dx, .att [])])
    (h : ∀ s', Eff knd s [x, dx] [(x, .raw (instObj 186 dx)), (dx, .att [("_forwardcheck", .bool b)])] s' → R (.ok (.ret .none)) s') : codeAny (model prog w) A (.call (.ref 164) ⟨[.ref x, .bool b], []⟩) R s := by
  refine enter (knd := knd) (names := ["self", "forwardcheck"]) (vals := [.ref x, .bool b]) X hr (X.k _ _ (X.B.X _ _ (fn_ib _))) rfl ((codeRec_of X.B.X (cd_ib _)).keeps X.k) (binds_K (X.B.X.keeps X.k) rfl (df_ib _) rfl rfl rfl) (by decide +kernel) (by decide +kernel)
    (fun g L s₁ hg hg' B H => ?_) (by decide +kernel)
  have kt := kt_ib
  replace H : St knd g (sideOf s) L [("self", .ref x), ("forwardcheck", .bool b)] [(x, .raw (instObj 186 dx)), (dx, .att [])] s₁ := H
  refine xs_cons (st := _) (rest := _) ?_
  walk_at "go"
  exact fn_next (h _ (St.toEff (by assumption) (List.Sublist.refl _) hg))
theorem init_rb {R : Result → Shared → Prop} {g₀ : Heap} {x dx : Addr} {b : Bool} (hr : Room A 10) (X : At knd g₀ s [(x, .raw (instObj 225 dx)), (dx, .att [])])
    (h : ∀ s', Eff knd s [x, dx] [(x, .raw (instObj 225 dx)), (dx, .att [("_forwardcheck", .bool b)])] s' → R (.ok (.ret .none)) s') : codeAny (model prog w) A (.call (.ref 203) ⟨[.ref x, .bool b], []⟩) R s := by
  refine enter (knd := knd) (names := ["self", "forwardcheck"]) (vals := [.ref x, .bool b]) X hr (X.k _ _ (X.B.X _ _ (fn_ir _))) rfl ((codeRec_of X.B.X (cd_ir _)).keeps X.k) (binds_K (X.B.X.keeps X.k) rfl (df_ir _) rfl rfl rfl) (by decide +kernel) (by decide +kernel)
    (fun g L s₁ hg hg' B H => ?_) (by decide +kernel)
  have kt := kt_ir
  replace H : St knd g (sideOf s) L [("self", .ref x), ("forwardcheck", .bool b)] [(x, .raw (instObj 225 dx)), (dx, .att [])] s₁ := H
  refine xs_cons (st := _) (rest := _) ?_
  walk_at "go"
  exact fn_next (h _ (St.toEff (by assumption) (List.Sublist.refl _) hg))
/-- the same, by their defaults -/
theorem init_bt0 {R : Result → Shared → Prop} {g₀ : Heap} {x dx : Addr} (hr : Room A 10) (X : At knd g₀ s [(x, .raw (instObj 186 dx)), (dx, .att [])])
    (h : ∀ s', Eff knd s [x, dx] [(x, .raw (instObj 186 dx)), (dx, .att [("_forwardcheck", .bool true)])] s' → R (.ok (.ret .none)) s') : codeAny (model prog w) A (.call (.ref 164) ⟨[.ref x], []⟩) R s := by
  refine enter (knd := knd) (names := ["self", "forwardcheck"]) (vals := [.ref x, .bool true]) X hr (X.k _ _ (X.B.X _ _ (fn_ib _))) rfl ((codeRec_of X.B.X (cd_ib _)).keeps X.k) (binds_K (X.B.X.keeps X.k) rfl (df_ib _) rfl rfl rfl) (by decide +kernel) (by decide +kernel)
    (fun g L s₁ hg hg' B H => ?_) (by decide +kernel)
  have kt := kt_ib
  replace H : St knd g (sideOf s) L [("self", .ref x), ("forwardcheck", .bool true)] [(x, .raw (instObj 186 dx)), (dx, .att [])] s₁ := H
  refine xs_cons (st := _) (rest := _) ?_
  walk_at "go"
  exact fn_next (h _ (St.toEff (by assumption) (List.Sublist.refl _) hg))
theorem init_rb0 {R : Result → Shared → Prop} {g₀ : Heap} {x dx : Addr} (hr : Room A 10) (X : At knd g₀ s [(x, .raw (instObj 225 dx)), (dx, .att [])])
    (h : ∀ s', Eff knd s [x, dx] [(x, .raw (instObj 225 dx)), (dx, .att [("_forwardcheck", .bool true)])] s' → R (.ok (.ret .none)) s') : codeAny (model prog w) A (.call (.ref 203) ⟨[.ref x], []⟩) R s := by
  refine enter (knd := knd) (names := ["self", "forwardcheck"]) (vals := [.ref x, .bool true]) X hr (X.k _ _ (X.B.X _ _ (fn_ir _))) rfl ((codeRec_of X.B.X (cd_ir _)).keeps X.k) (binds_K (X.B.X.keeps X.k) rfl (df_ir _) rfl rfl rfl) (by decide +kernel) (by decide +kernel)
    (fun g L s₁ hg hg' B H => ?_) (by decide +kernel)
  have kt := kt_ir
  replace H : St knd g (sideOf s) L [("self", .ref x), ("forwardcheck", .bool true)] [(x, .raw (instObj 225 dx)), (dx, .att [])] s₁ := H
  refine xs_cons (st := _) (rest := _) ?_
  walk_at "go"
  exact fn_next (h _ (St.toEff (by assumption) (List.Sublist.refl _) hg))
/-- a function as a constraint -/
theorem init_fc0 {R : Result → Shared → Prop} {g₀ : Heap} {x dx : Addr} {f : Value} (hr : Room A 10) (X : At knd g₀ s [(x, .raw (instObj 375 dx)), (dx, .att [])])
    (h : ∀ s', Eff knd s [x, dx] [(x, .raw (instObj 375 dx)), (dx, .att [("_func", f), ("_assigned", .bool true)])] s' → R (.ok (.ret .none)) s') : codeAny (model prog w) A (.call (.ref 366) ⟨[.ref x, f], []⟩) R s := by
  refine enter (knd := knd) (names := ["self", "func", "assigned"]) (vals := [.ref x, f, .bool true]) X hr (X.k _ _ (X.B.X _ _ (fn_if _))) rfl ((codeRec_of X.B.X (cd_if _)).keeps X.k) (binds_K (X.B.X.keeps X.k) rfl (df_if _) rfl rfl rfl) (by decide +kernel) (by decide +kernel)
    (fun g L s₁ hg hg' B H => ?_) (by decide +kernel)
  have kt := kt_if
  replace H : St knd g (sideOf s) L [("self", .ref x), ("func", f), ("assigned", .bool true)] [(x, .raw (instObj 375 dx)), (dx, .att [])] s₁ := H
  refine xs_cons (st := _) (rest := _) ?_
  walk_at "go"
  exact fn_next (h _ (St.toEff (by assumption) (List.Sublist.refl _) hg))
structure Plain0 (C : Addr) : Prop where
  b : ∀ P, findIn (KK P) (.ref C) "__bool__" = some none
  l : ∀ P, findIn (KK P) (.ref C) "__len__" = some none
theorem pl186 : Plain0 186 := ⟨fun P => by kernel_rfl, fun P => by kernel_rfl⟩
theorem pl225 : Plain0 225 := ⟨fun P => by kernel_rfl, fun P => by kernel_rfl⟩
theorem iInst {g : Heap} {R : Side} {L : Addr} {vs : Vars} {l : Led K} {x dx C : Addr} {E : Value → Shared → Prop} {Q : Bool → Shared → Prop} (H : St knd g R L vs l s) (B : Bs w g) (hx : Has knd s.heap x (.raw (instObj C dx))) (hp : Plain0 C) (h : ∀ s', St knd g R L vs l s' → Q true s') : wpAny (model prog w) A (truthy (.ref x)) Q E s := by
  have X := H.X B
  have lb := looks_findIn (M := model prog w) X (hp.b _)
  have ll := looks_findIn (M := model prog w) X (hp.l _)
  have t1 : Looks (model prog w) s.heap (typeOf (.ref x)) (.ref C) := (Looks.ld hx.rawE).andThen .now
  obtain ⟨hh, gg, d, t, os⟩ := s
  unfold truthy
  dsimp only
  refine wpAny_bind (wpAny_bind (wpAny_bind (t1.here (lb.here (wpAny_pure ?_)))))
  dsimp only
  refine wpAny_bind (wpAny_bind (t1.here (ll.here ?_)))
  rw [if_pos (show (none : Option Value).isNone = true from rfl)]
  exact wpAny_pure (h _ H)
local macro_rules | `(tactic| walk_at "op") => `(tactic| ((with_reducible refine' iInst (by assumption) (by assumption) ?hx (by assumption) ?_); (case hx => walk_at "has"); intro _ _))
/-- a problem with its solver -/
theorem init_pr {R : Result → Shared → Prop} {g₀ : Heap} {x dx sv C sx : Addr} (hr : Room A 10) (X : At knd g₀ s [(x, .raw (instObj 110 dx)), (dx, .att [])]) (hsv : Has knd g₀ sv (.raw (instObj C sx)))
    (hpl : Plain0 C)
    (h : ∀ cl vd s', Eff knd s [x, dx] [(x, .raw (instObj 110 dx)), (dx, .att [("_solver", .ref sv), ("_constraints", .ref cl), ("_variables", .ref vd)]), (cl, .lst []), (vd, .dct [])] s' → R (.ok (.ret .none)) s') : codeAny (model prog w) A (.call (.ref 36) ⟨[.ref x, .ref sv], []⟩) R s := by
  refine enter (knd := knd) (names := ["self", "solver"]) (vals := [.ref x, .ref sv]) X hr (X.k _ _ (X.B.X _ _ (fn_ip _))) rfl ((codeRec_of X.B.X (cd_ip _)).keeps X.k) (binds_K (X.B.X.keeps X.k) rfl (df_ip _) rfl rfl rfl) (by decide +kernel) (by decide +kernel)
    (fun g L s₁ hg hg' B H => ?_) (by decide +kernel)
  have kt := kt_ip
  replace H : St knd g (sideOf s) L [("self", .ref x), ("solver", .ref sv)] [(x, .raw (instObj 110 dx)), (dx, .att [])] s₁ := H
  refine xs_cons (st := _) (rest := _) ?_
  have hsv2 := hsv.keep fun o e => hg' _ o e
  walk_at "go"
  rename_i cl s6 H6 s7 H7 vd s8 H8 s9 H9
  have H10 := H9.perm (l' := [(x, .raw (instObj 110 dx)), (dx, .att [("_solver", .ref sv), ("_constraints", .ref cl), ("_variables", .ref vd)]), (cl, .lst []), (vd, .dct [])]) (by
    classical
    refine List.perm_iff_count.mpr fun x => ?_
    simp only [List.count_cons, List.count_nil]
    omega)
  exact fn_next (h cl vd _ (St.toEff H10 (List.Sublist.refl _) hg))
end
end
section
open PySem PySem.W PySem.Calls PyProof.Rows
set_option Elab.async false
set_option maxRecDepth 100000
set_option maxHeartbeats 400000
set_option linter.unusedVariables false
set_option linter.unusedSectionVars false
theorem b_list : IsB "list" (.type "list") := ⟨fun P => by kernel_rfl, by kernel_rfl, by decide +kernel⟩

local macro_rules | `(tactic| walk_at "isB") => `(tactic| first | (with_reducible exact b_len) | (with_reducible exact b_list))
local macro_rules | `(tactic| walk_at "isG") => `(tactic| fail)
local macro_rules | `(tactic| walk_at "isD") => `(tactic| fail)
local macro_rules | `(tactic| walk_at "isF") => `(tactic| fail)
local macro_rules | `(tactic| walk_at "isC") => `(tactic| first | (with_reducible exact cs303) | (with_reducible exact nt_hidden) | (with_reducible exact nt_states))
local macro_rules | `(tactic| walk_at "op") => `(tactic| first
  | ((with_reducible refine' uSetDom (by assumption) (by assumption) ?hx ?c ?ht ?hn ?hz ?U ?_); (case hx => walk_at "has"); (case c => walk_at "isC"); (case ht => walk_at "isC"); (case U => walk_at "up"); (case hn => rfl); (case hz => (exact Nat.le_of_ble_eq_true rfl)); (try dsimp only [List.nil_append, List.cons_append]); intro _ _))
section
variable {prog : Program} {w : World} {K : Type} [DecidableEq K] {knd : KeyKind prog w K} {A : Around} {E : Value → Shared → Prop} {s : Shared} {d dx : Addr}
  {g : Heap} {R : Side} {L : Addr} {vs : Vars} {l l' : Led K}
theorem dom_init {a : Addr} {ys : List Value} {Q : Value → Shared → Prop} (X : (KK w.params).In s.heap) (D : Has knd s.heap d (.dom dx [])) (Y : Has knd s.heap a (.lst ys)) (hz : ys.length < 100000) (hda : a ≠ d)
    (h : ∀ h', Heap.SameBut d s.heap h' → Has knd h' d (.dom dx ys) → Q .none { s with heap := h' }) : wpAny (model prog w) A (call (.builtin "list.__init__") [.ref d, .ref a]) Q E s := by
  refine dom_call (knd := knd) X D (n := "__init__") (by decide +kernel) (.inl (by decide +kernel)) (by decide +kernel) F.entry_list_init (F.args_list_init_2 _ _) ?_
  show wpAny _ A.in1 (do let old ← Builtin.List.listItems (.ref d); Builtin.List.listUpdate (.ref d) (fun _ => #[]); letGo old.toList.reverse; Builtin.List.listExtendWith (.ref d) (.ref a) .none) _ _ s
  refine wpAny_bind (dom_items D ?_)
  refine wpAny_bind (dom_update (f := fun _ => []) (fun l => rfl) D (fun h' hs hd => ?_) (by simp) (by simp))
  refine wpAny_bind (wpAny_letGo ?_)
  have Y' : Has knd h' a (.lst ys) := Y.same hs hda
  unfold Builtin.List.listExtendWith
  refine wpAny_bind (m := typeOf (.ref a)) ?_
  obtain ⟨oa, hoa, na, rfl⟩ := id Y'
  refine wpAny_bind (wpAny_load hoa (wpAny_pure ?_))
  dsimp only
  rw [if_pos (by simp)]
  refine wpAny_bind (lst_items (s := { s with heap := h' }) Y' (wpAny_bind (dom_items (s := { s with heap := h' }) hd ?_)))
  rw [if_neg (by simp [Builtin.List.listTooLong, sizeLine_eq] <;> (intro _; omega))]
  refine wpAny_bind (dom_update (s := { s with heap := h' }) (f := fun l => l ++ ys) (fun l => by simp) hd (fun h'' hs' hd' => ?_) (by simp) (by simp only [List.length_append, List.length_nil] <;> omega))
  exact wpAny_pure (h h'' (hs.trans hs') hd')
theorem uDomInit {a : Addr} {ys : List Value} {Q : Value → Shared → Prop} (H : St knd g R L vs l s) (B : Bs w g) (U : Up d (.dom dx []) (.dom dx ys) l l') (Y : Has knd g a (.lst ys)) (hz : ys.length < 100000)
    (h : ∀ s', St knd g R L vs l' s' → Q .none s') : wpAny (model prog w) A (call (.builtin "list.__init__") [.ref d, .ref a]) Q E s := by
  refine dom_init (H.X B) (H.has U.mem) (H.base Y) hz (fun e => ?_) fun h' hs hd => h _ (H.put U hs hd)
  have := (H.N _ U.mem).2.2.1
  obtain ⟨o, ho, _⟩ := Y
  dsimp only at this
  rw [← e, ho] at this; cases this
theorem mTypeM {T : String} {pl : Sem Bool} {name : Str} {v : Value} {Q : Value × List Value → Shared → Prop} (H : St knd g R L vs l s) (B : Bs w g) (ht : typeOf (.type T) = pure (.type "type")) (hs : Manifest.isStub T = false)
    (e : ∀ P, findCls (KK P) (.type T) (.type "type") name = some (.val v)) (hh : handedIn v = true) (h : ∀ s', St knd g R L vs l s' → Q (v, []) s') : wpAny (model prog w) A (getMethod (.type T) name pl) Q E s := by
  obtain ⟨m, F, _⟩ := H.F
  exact method_type F B.X ht hs (e _) hh (h _ (H.tok _))
theorem mt_init (P : Params) : findCls (KK P) (.type "list") (.type "type") "__init__" = some (.val (.builtin "list.__init__")) := by kernel_rfl
end
local macro_rules | `(tactic| walk_at "op") => `(tactic| first
  | ((with_reducible refine' mTypeM (by assumption) (by assumption) ?ht ?hs mt_init rfl ?_); (case ht => first | rfl | kernel_rfl); (case hs => decide +kernel); intro _ _)
  | ((with_reducible refine' uDomInit (by assumption) (by assumption) ?U (by assumption) ?hz ?_); (case U => walk_at "up"); (case hz => walk_at "size"); intro _ _))
section
variable {prog : Program} {w : World} {K : Type} [DecidableEq K] {knd : KeyKind prog w K} {A : Around} {s : Shared}
theorem init_dm {R : Result → Shared → Prop} {g₀ : Heap} {x dx v : Addr} {xs : List Value} (hr : Room A 10) (X : At knd g₀ s [(x, .dom dx []), (dx, .att [])]) (hv : Has knd g₀ v (.lst xs)) (hz : xs.length < 1000)
    (h : ∀ hl sl s', Eff knd s [x, dx] [(x, .dom dx xs), (dx, .att (domAtt hl sl)), (hl, .lst []), (sl, .lst [])] s' → R (.ok (.ret .none)) s') : codeAny (model prog w) A (.call (.ref 272) ⟨[.ref x, .ref v], []⟩) R s := by
  refine enter (knd := knd) (names := ["self", "values"]) (vals := [.ref x, .ref v]) X hr (X.k _ _ (X.B.X _ _ (fn_id _))) rfl ((codeRec_of X.B.X (cd_id _)).keeps X.k) (BindsTo.of_eq (by kernel_rfl)) (by decide +kernel) (by decide +kernel)
    (fun g L s₁ hg hg' B H => ?_) (by decide +kernel)
  have kt := kt_id
  replace H : St knd g (sideOf s) L [("self", .ref x), ("values", .ref v)] [(x, .dom dx []), (dx, .att [])] s₁ := H
  have hv2 := hv.keep fun o e => hg' _ o e
  refine xs_cons (st := _) (rest := _) ?_
  walk_at "go"
  rename_i s5 H5 hl s6 H6 s7 H7 sl s8 H8 s9 H9
  have H10 := H9.perm (l' := [(x, .dom dx xs), (dx, .att [("_hidden", .ref hl), ("_states", .ref sl)]), (hl, .lst []), (sl, .lst [])]) (by walk_at "pc")
  exact fn_next (h hl sl _ (St.toEff H10 (List.Sublist.refl _) hg))
end
end
section
open PySem PySem.W PySem.Calls PyProof.Rows Builtin
set_option Elab.async false
set_option maxRecDepth 100000
set_option maxHeartbeats 4000000
local macro_rules | `(tactic| walk_at "ws") => `(tactic| repeat (any_goals (first
  | assumption
  | (with_reducible refine wpAny_bind ?_)
  | (with_reducible refine wpAny_pure ?_)
  | (with_reducible refine wpAny_rule ?_)
  | (with_reducible refine wpAny_point ?_)
  | (with_reducible refine wpAny_standAt ?_)
  | (with_reducible refine wpAny_holding ?_)
  | (with_reducible refine wpAny_of_eq (by assumption) ?_)
  | (with_reducible refine wpAny_typeOf (by assumption) ?_)
  | ((with_reducible apply wpAny_ite_true); (focus (first | (rfl; done) | (simp [*]; done))))
  | ((with_reducible apply wpAny_ite_false); (focus (first | (rfl; done) | (simp [*]; done))))
  | ((guard_target = wpAny _ _ (load _) _ _ _); (with_reducible apply wpAny_load'); (focus (heap_get; done)))
  | ((guard_target = wpAny _ _ (loadPart _) _ _ _); (with_reducible apply wpAny_loadPart'); (focus (heap_get; done)))
  | ((guard_target = wpAny _ _ fresh _ _ _); (with_reducible refine wpAny_fresh' ?_))
  | ((guard_target = wpAny _ _ (alloc _) _ _ _); (with_reducible refine wpAny_alloc' ?_))
  | ((guard_target = wpAny _ _ (specialOf _ _) _ _ _); first | (with_reducible refine wpAny_specialOf_val (by assumption) (by assumption) ?_) | (with_reducible refine wpAny_specialOf (by assumption) (by assumption) ?_))
  | ((guard_target = wpAny _ _ (isInstance _ _) _ _ _); first | (with_reducible refine wpAny_isInstance_val (by assumption) (by assumption) ?_) | (with_reducible refine wpAny_isInstance (by assumption) (by assumption) ?_))
  | (with_reducible refine wpAny_attempt ?_)
  | (with_reducible refine wpAny_throw ?_)
  | (with_reducible refine wpAny_call ?_)
  | (with_reducible refine wpAny_runValue ?_)
  | (with_reducible refine wpAny_run ?_)
  | wp_delta
  | wp_step)))
section
variable {prog : Program} {w : World} {A : Around} {E : Value → Shared → Prop} {h : Heap} {g : Array GenState} {d : Drawn} {t : Nat} {os : OsState} {a : Addr} {o : Obj}
theorem e_hasattr : entryFor table "hasattr" = some Builtin.«hasattr» := entryFor_of_tree (by kernel_rfl)
theorem a_hasattr (x y : Value) : argsOk "hasattr" ⟨[x, y], []⟩ := by unfold argsOk; kernel_rfl
theorem e_callable : entryFor table "callable" = some Builtin.«callable» := entryFor_of_tree (by kernel_rfl)
theorem a_callable (x : Value) : argsOk "callable" ⟨[x], []⟩ := by unfold argsOk; kernel_rfl
theorem slot_mdget : Slot "method_descriptor" "__get__" "method_descriptor.__get__" :=
  .of (owner := "method_descriptor") (n := "__get__") (by rw [typeLookup_type, builtinLookup_eq_fast]; kernel_rfl) (by decide +kernel) (by decide +kernel) (by decide +kernel)
    (by first | exact .inl (by decide +kernel) | exact .inr (by decide +kernel)) (by rw [isSubtype_type]; kernel_rfl)
theorem entry_mdget : entryFor table "method_descriptor.__get__" = some Builtin.«method_descriptor.__get__» := entryFor_of_tree (by kernel_rfl)
theorem args_mdget (a b c : Value) : argsOk "method_descriptor.__get__" ⟨[a, b, c], []⟩ := by unfold argsOk; kernel_rfl
theorem hasattr_list {tk : Tok} {Q : Value → Shared → Prop} {xs : List Value} {n : Nat} (hx : h.get? a = some (lstO xs n)) (hq : ∀ o', Q (.bool true) ⟨h.push o', g, d, t, os⟩) :
    wpAny (model prog w) A (call (.builtin "hasattr") [.ref a, .str "__getitem__" tk]) Q E ⟨h, g, d, t, os⟩ := by
  have hT : (⟨h, g, d, t, os⟩ : Shared).TypeIs (.ref a) "list" := ⟨_, hx, rfl⟩
  have f2 := F.slot_list_getattribute.lookup
  have f3 := F.slot_list_getattribute.bind (.ref a)
  have f4 : typeLookup (.type "list") "__getitem__" = pure (some (.builtin "list.__getitem__")) := by rw [typeLookup_type, builtinLookup_eq_fast]; kernel_rfl
  have f5 : isSubtype (.type "list") (.type "module") = pure false := by rw [isSubtype_type]; kernel_rfl
  refine call_function_tree (by decide +kernel) (by decide +kernel) e_hasattr (a_hasattr _ _) ?_
  unfold Builtin.«hasattr»
  walk_at "ws"
  refine codeAny_call_builtin F.slot_list_getattribute.plain F.entry_list_ga (F.slot_list_getattribute.check _ _ _ _ _ _ _ _ (show (⟨h, g, d, t, os⟩ : Shared).TypeIs (.ref a) "list" from ⟨_, hx, rfl⟩) (F.args_list_getattribute_2 _ _) ?_)
  unfold Builtin.«object.__getattribute__»
  have f6 : typeOf (.builtin "list.__getitem__") = pure (.type "method_descriptor") := by kernel_rfl
  have f7 : typeLookup (.type "method_descriptor") "__get__" = pure (some (.builtin "method_descriptor.__get__")) := by rw [typeLookup_type, builtinLookup_eq_fast]; kernel_rfl
  have f8 : typeLookup (.type "method_descriptor") "__set__" = pure none := by rw [typeLookup_type, builtinLookup_eq_fast]; kernel_rfl
  have f9 : typeLookup (.type "method_descriptor") "__delete__" = pure none := by rw [typeLookup_type, builtinLookup_eq_fast]; kernel_rfl
  have hT6 : (⟨h, g, d, t, os⟩ : Shared).TypeIs (.builtin "list.__getitem__") "method_descriptor" := f6
  walk_at "ws"
  refine codeAny_call_builtin slot_mdget.plain entry_mdget (slot_mdget.check _ _ _ _ _ _ _ _ hT6 (args_mdget _ _ _) ?_)
  unfold Builtin.«method_descriptor.__get__»
  have f10 : Manifest.toldItsClass.contains "list.__getitem__" = false := by decide +kernel
  have fo : ".".intercalate ("list.__getitem__".cutAt '.').dropLast = "list" := by first | decide +kernel | kernel_rfl
  have f11 : isSubtype (.type "list") (.type (".".intercalate ("list.__getitem__".cutAt '.').dropLast)) = pure true := by rw [fo]; exact sub_list_self
  walk_at "ws"
  exact hq _
theorem lk_fn_ga : typeLookup (.type "function") "__getattribute__" = pure (some (.builtin "object.__getattribute__")) := by rw [typeLookup_type, builtinLookup_eq_fast]; kernel_rfl
theorem lk_fn_class : typeLookup (.type "function") "__class__" = pure (some (.builtin "object.__class__")) := by rw [typeLookup_type, builtinLookup_eq_fast]; kernel_rfl
theorem lk_fn_call : typeLookup (.type "function") "__call__" = pure (some (.builtin "function.__call__")) := by rw [typeLookup_type, builtinLookup_eq_fast]; kernel_rfl
theorem call_fnobj {n : Nat} {s : Shared} {fo : Obj} (hx : s.heap.get? a = some fo) (hc : fo.cls = .type "function") {Q : Value → Shared → Prop} (hq : Q (.bool true) s) : wpAny (model prog w) A (call (.builtin "callable") [.ref a]) Q E s := by
  have hT : s.TypeIs (.ref a) "function" := ⟨_, hx, hc⟩
  have f1 := lk_fn_call
  refine call_function_tree (by decide +kernel) (by decide +kernel) e_callable (a_callable _) ?_
  unfold Builtin.«callable»
  walk_at "ws"
end
end
section
open PySem PySem.W PySem.Calls PyProof.Rows Builtin
set_option Elab.async false
set_option maxRecDepth 100000
set_option maxHeartbeats 4000000
local macro_rules | `(tactic| walk_at "ws") => `(tactic| repeat (any_goals (first
  | assumption
  | (with_reducible refine wpAny_bind ?_)
  | (with_reducible refine wpAny_pure ?_)
  | (with_reducible refine wpAny_rule ?_)
  | (with_reducible refine wpAny_point ?_)
  | (with_reducible refine wpAny_standAt ?_)
  | (with_reducible refine wpAny_holding ?_)
  | (with_reducible refine wpAny_of_eq (by assumption) ?_)
  | (with_reducible refine wpAny_typeOf (by assumption) ?_)
  | ((with_reducible apply wpAny_ite_true); (focus (first | (rfl; done) | (simp [*]; done))))
  | ((with_reducible apply wpAny_ite_false); (focus (first | (rfl; done) | (simp [*]; done))))
  | ((guard_target = wpAny _ _ (load _) _ _ _); (with_reducible apply wpAny_load'); (focus (heap_get; done)))
  | ((guard_target = wpAny _ _ (loadPart _) _ _ _); (with_reducible apply wpAny_loadPart'); (focus (heap_get; done)))
  | ((guard_target = wpAny _ _ fresh _ _ _); (with_reducible refine wpAny_fresh' ?_))
  | ((guard_target = wpAny _ _ (alloc _) _ _ _); (with_reducible refine wpAny_alloc' ?_))
  | ((guard_target = wpAny _ _ (specialOf _ _) _ _ _); first | (with_reducible refine wpAny_specialOf_val (by assumption) (by assumption) ?_) | (with_reducible refine wpAny_specialOf (by assumption) (by assumption) ?_))
  | ((guard_target = wpAny _ _ (isInstance _ _) _ _ _); first | (with_reducible refine wpAny_isInstance_val (by assumption) (by assumption) ?_) | (with_reducible refine wpAny_isInstance (by assumption) (by assumption) ?_))
  | (with_reducible refine wpAny_attempt ?_)
  | (with_reducible refine wpAny_throw ?_)
  | (with_reducible refine wpAny_call ?_)
  | (with_reducible refine wpAny_runValue ?_)
  | (with_reducible refine wpAny_run ?_)
  | wp_delta
  | wp_step)))
theorem slot_fn_ga : Slot "function" "__getattribute__" "object.__getattribute__" :=
  .of (owner := "object") (n := "__getattribute__") (by rw [typeLookup_type, builtinLookup_eq_fast]; kernel_rfl) (by decide +kernel) (by decide +kernel) (by decide +kernel)
    (by first | exact .inl (by decide +kernel) | exact .inr (by decide +kernel)) (by rw [isSubtype_type]; kernel_rfl)
theorem entry_oga : entryFor table "object.__getattribute__" = some Builtin.«object.__getattribute__» := entryFor_of_tree (by kernel_rfl)
theorem args_oga (a b : Value) : argsOk "object.__getattribute__" ⟨[a, b], []⟩ := by unfold argsOk; kernel_rfl
theorem sub_fn_owner : isSubtype (.type "function") (.type (".".intercalate ("object.__class__".cutAt '.').dropLast)) = pure true := by
  rw [F.owner_object_class, isSubtype_type]; kernel_rfl
section
variable {prog : Program} {w : World} {A : Around} {E : Value → Shared → Prop} {h : Heap} {g : Array GenState} {d : Drawn} {t : Nat} {os : OsState} {a : Addr} {fd : FuncData} {sl : Array (Option Value)}
theorem class_get_fn {R : Result → Shared → Prop} (hx : h.get? a = some ⟨.type "function", none, .func fd, sl⟩) (hq : R (.ok (.ret (.type "function"))) ⟨h, g, d, t, os⟩) :
    codeAny (model prog w) A (.call (.builtin "getset_descriptor.__get__") ⟨[.builtin "object.__class__", .ref a, .type "function"], []⟩) R ⟨h, g, d, t, os⟩ := by
  have hT : (⟨h, g, d, t, os⟩ : Shared).TypeIs (.ref a) "function" := ⟨_, hx, rfl⟩
  have hT5 : (⟨h, g, d, t, os⟩ : Shared).TypeIs (.builtin "object.__class__") "getset_descriptor" := F.typeOf_object_class
  have f8 := sub_fn_owner
  refine codeAny_call_builtin F.slot_gs_get.plain F.entry_gs_get (F.slot_gs_get.check _ _ _ _ _ _ _ _ hT5 (F.args_gs_get _ _ _) ?_)
  walk_at "ws"
  refine ⟨Code.quiet_builtin _ (by decide +kernel), codeAny_builtin F.entry_object_class ?_⟩
  walk_at "ws"
theorem class_attr_fn {Q : Option Value → Shared → Prop} (hx : h.get? a = some ⟨.type "function", none, .func fd, sl⟩) (hq : Q (some (.type "function")) ⟨h, g, d, t + 1, os⟩) : wpAny (model prog w) A (getAttr? (.ref a) "__class__") Q E ⟨h, g, d, t, os⟩ := by
  have hT : (⟨h, g, d, t, os⟩ : Shared).TypeIs (.ref a) "function" := ⟨_, hx, rfl⟩
  have f1 := lk_fn_ga
  have f2 := lk_fn_class
  have f3 := slot_fn_ga.bind (.ref a)
  unfold getAttr? getAttrBy?
  walk_at "ws"
  refine codeAny_call_builtin slot_fn_ga.plain entry_oga (slot_fn_ga.check _ _ _ _ _ _ _ _ (show (⟨h, g, d, t + 1, os⟩ : Shared).TypeIs (.ref a) "function" from ⟨_, hx, rfl⟩) (args_oga _ _) ?_)
  have hT5 : (⟨h, g, d, t + 1, os⟩ : Shared).TypeIs (.builtin "object.__class__") "getset_descriptor" := F.typeOf_object_class
  have f5 := F.typeOf_object_class
  have f6 := F.slot_gs_get.lookup
  have f7 := F.slot_gs_set.lookup
  walk_at "ws"
  refine class_get_fn hx ?_
  walk_at "ws"
theorem isi_fn_nested {C : Addr} {K : Frag} {dep : Int} {tk : Tok} {Q : Fin → Shared → Prop} (X : K.In h) (hx : h.get? a = some ⟨.type "function", none, .func fd, sl⟩) (hC : typeIn K (.ref C) = some (.type "type")) (hT : instIn K (.ref C) (.type "type") = some true) (e0 : (clsIn K C).isSome = true)
    (hq : Q (.done (.ret (.bool false))) ⟨h, g, d, t + 1, os⟩) : wpAny (model prog w) A (Builtin.«isinstance.nested» ⟨[.ref a, .ref C, .int dep tk], []⟩) Q E ⟨h, g, d, t, os⟩ := by
  have hTf : Looks (model prog w) h (typeOf (.ref a)) (.type "function") := (Looks.ld hx).andThen .now
  have L1 := looks_typeIn (M := model prog w) X hC
  have L2 := looks_instIn (M := model prog w) X hT
  have L3 : Looks (model prog w) h (isInstance (.ref a) (.ref C)) false := hTf.andThen (Looks.of_pure (by rw [isSubtype_type]; kernel_rfl))
  unfold Builtin.«isinstance.nested»
  refine wpAny_bind (hTf.at ?_)
  rw [if_neg (by simp)]
  refine wpAny_bind (L1.at ?_)
  rw [if_pos (by decide)]
  k_delta "plainIsInstance"
  unfold isType
  repeat lk
  unfold clsIn at e0
  split at e0
  · rename_i ho
    refine nd_load (X _ _ ho) (nd_pure (wpAny_pure ?_))
    simp only [Bool.not_true, Bool.false_eq_true, if_false]
    refine wpAny_bind (L3.at ?_)
    simp only [Bool.false_eq_true, if_false]
    refine wpAny_bind (class_attr_fn hx ?_)
    have hs : isSubtype (.type "function") (.ref C) = pure false := by rw [isSubtype_type]; kernel_rfl
    refine wpAny_bind (wpAny_pure ?_)
    simp only [Bool.not_true, Bool.false_eq_true, if_false]
    exact wpAny_bind (wpAny_rule (wpAny_of_eq hs (wpAny_pure hq)))
  · cases e0
theorem isi_fn {C : Addr} {K : Frag} {Q : Value → Shared → Prop} (X : K.In h) (hx : h.get? a = some ⟨.type "function", none, .func fd, sl⟩) (hC : typeIn K (.ref C) = some (.type "type")) (hT : instIn K (.ref C) (.type "type") = some true) (e0 : (clsIn K C).isSome = true)
    (hq : Q (.bool false) ⟨h, g, d, t + 1, os⟩) : wpAny (model prog w) A (call (.builtin "isinstance") [.ref a, .ref C]) Q E ⟨h, g, d, t, os⟩ :=
  call_isinstance_of (isi_fn_nested X hx hC hT e0 hq) (by intro e; cases e)
end
end
section
open PySem PySem.W PySem.Calls PyProof.Rows
set_option Elab.async false
set_option maxRecDepth 100000
set_option maxHeartbeats 1000000
set_option linter.unusedVariables false
set_option linter.unusedSectionVars false
theorem fn_av (P : Params) : (KK P).lookup 64 = some (methO "addVariable" "Problem.addVariable" 2 4 64 .none) := by kernel_rfl
theorem cd_av (P : Params) : codeIn (KK P) (.ref 63) "Problem.addVariable" = true := by kernel_rfl
theorem fn_avs (P : Params) : (KK P).lookup 71 = some (methO "addVariables" "Problem.addVariables" 2 5 71 .none) := by kernel_rfl
theorem cd_avs (P : Params) : codeIn (KK P) (.ref 70) "Problem.addVariables" = true := by kernel_rfl
theorem fn_ac (P : Params) : (KK P).lookup 79 = some (methO "addConstraint" "Problem.addConstraint" 2 6 79 (.ref 72)) := by kernel_rfl
theorem cd_ac (P : Params) : codeIn (KK P) (.ref 78) "Problem.addConstraint" = true := by kernel_rfl
theorem df_ac (P : Params) : (KK P).lookup 72 = some (tupO [.none]) := by kernel_rfl
theorem cg_pr : CG 110 := ⟨fun P => by kernel_rfl, fun P => by kernel_rfl⟩
theorem cga_pr : CGa 110 := fun P => by kernel_rfl
theorem no_vars : NoCls 110 "_variables" := fun P => by kernel_rfl
theorem no_cons : NoCls 110 "_constraints" := fun P => by kernel_rfl
theorem no_solver : NoCls 110 "_solver" := fun P => by kernel_rfl
theorem hf_av : HasFn 110 "addVariable" 64 := ⟨fun P => by kernel_rfl, fun P => by kernel_rfl⟩
theorem hf_avs : HasFn 110 "addVariables" 71 := ⟨fun P => by kernel_rfl, fun P => by kernel_rfl⟩
theorem hf_ac : HasFn 110 "addConstraint" 79 := ⟨fun P => by kernel_rfl, fun P => by kernel_rfl⟩
theorem b_hasattr : IsB "hasattr" (.builtin "hasattr") := ⟨fun P => by kernel_rfl, by kernel_rfl, by decide +kernel⟩
theorem b_isinst : IsB "isinstance" (.builtin "isinstance") := ⟨fun P => by kernel_rfl, by kernel_rfl, by decide +kernel⟩
theorem b_callable : IsB "callable" (.builtin "callable") := ⟨fun P => by kernel_rfl, by kernel_rfl, by decide +kernel⟩
theorem g_domain : IsG "Domain" (.ref 303) := fun P => by kernel_rfl
theorem g_con : IsG "Constraint" (.ref 347) := fun P => by kernel_rfl
theorem g_fc : IsG "FunctionConstraint" (.ref 375) := fun P => by kernel_rfl
abbrev tb_av : List (Str × NameKind) := [("self", .local), ("variable", .local), ("domain", .local), ("hasattr", .globalImplicit), ("Domain", .globalImplicit)]
theorem kt_av : Kt (scp 2 4) tb_av := ⟨by decide +kernel, by decide +kernel⟩
abbrev tb_avs : List (Str × NameKind) := [("self", .local), ("variables", .local), ("domain", .local), ("variable", .local)]
theorem kt_avs : Kt (scp 2 5) tb_avs := ⟨by decide +kernel, by decide +kernel⟩
abbrev tb_ac : List (Str × NameKind) := [("self", .local), ("constraint", .local), ("variables", .local), ("isinstance", .globalImplicit), ("callable", .globalImplicit), ("Constraint", .globalImplicit), ("FunctionConstraint", .globalImplicit)]
theorem kt_ac : Kt (scp 2 6) tb_ac := ⟨by decide +kernel, by decide +kernel⟩

local macro_rules | `(tactic| walk_at "isB") => `(tactic| first | (with_reducible exact b_hasattr) | (with_reducible exact b_isinst) | (with_reducible exact b_callable))
local macro_rules | `(tactic| walk_at "isG") => `(tactic| first | (with_reducible exact g_domain) | (with_reducible exact g_con) | (with_reducible exact g_fc))
local macro_rules | `(tactic| walk_at "isD") => `(tactic| fail)
local macro_rules | `(tactic| walk_at "isF") => `(tactic| (with_reducible exact fn_av _))
local macro_rules | `(tactic| walk_at "isC") => `(tactic| first | (with_reducible exact cg_pr) | (with_reducible exact cga_pr) | (with_reducible exact no_vars) | (with_reducible exact no_cons) | (with_reducible exact no_solver) | (with_reducible exact hf_av))
section
variable {prog : Program} {w : World} {K : Type} [DecidableEq K] {knd : KeyKind prog w K} {A : Around} {s : Shared} {E : Value → Shared → Prop}
  {g : Heap} {R : Side} {L : Addr} {vs : Vars} {l : Led K}
theorem cHasGet {a : Addr} {tk : Tok} {xs : List Value} {Q : Value → Shared → Prop} (H : St knd g R L vs l s) (T : Has knd s.heap a (.lst xs)) (h : ∀ s', St knd g R L vs l s' → Q (.bool true) s') : wpAny (model prog w) A (call (.builtin "hasattr") [.ref a, .str "__getitem__" tk]) Q E s := by
  obtain ⟨o, ho, n, rfl⟩ := T
  exact hasattr_list ho fun o' => h _ (H.grow (t := s.toks) fun b o e => Heap.get?_push_of_some _ e)
theorem callCl {pos : Pos} {env : Env} {C : Addr} {e : Expr} {rest : List Expr} {Q : Value → Shared → Prop} (hk : ∀ P, keepIn (KK P) (.ref C) = true)
    (h : wpAny (model prog w) A (spliced (backTo pos (starEach (e :: rest) env))) (fun ws s₁ => (KK w.params).In s₁.heap ∧ wpAny (model prog w) A (call (.ref C) ws) Q E s₁) E s)
    (he : starEach (e :: rest) env = (false, eval e env) :: starEach rest env) (hp : (backTo pos (starEach rest env)).any (·.1) = false) : wpAny (model prog w) A (callWith pos (.ref C) [] (backTo pos (starEach (e :: rest) env)) []) Q E s := by
  rw [he] at h ⊢
  exact callWith_of (P := fun h => (KK w.params).In h) (by show ((false || (backTo pos (starEach rest env)).any (·.1)) || false) = false; rw [hp]; rfl) (keeps_K (hk _)) (evalArgs_plain (wpAny_mono h (fun ws s' h' => ⟨h'.1, h'.2⟩) fun _ _ z => z))
theorem callCl0 {pos : Pos} {env : Env} {C : Addr} {Q : Value → Shared → Prop} (hk : ∀ P, keepIn (KK P) (.ref C) = true) (H : St knd g R L vs l s) (B : Bs w g)
    (h : wpAny (model prog w) A (call (.ref C) []) Q E s) : wpAny (model prog w) A (callWith pos (.ref C) [] (backTo pos (starEach [] env)) []) Q E s :=
  callWith_of (P := fun h => (KK w.params).In h) rfl (keeps_K (hk _)) (evalArgs_nil3 ⟨H.X B, h⟩)
theorem kp303 (P : Params) : keepIn (KK P) (.ref 303) = true := by kernel_rfl
theorem kp375 (P : Params) : keepIn (KK P) (.ref 375) = true := by kernel_rfl
theorem kp110 (P : Params) : keepIn (KK P) (.ref 110) = true := by kernel_rfl
theorem kp186 (P : Params) : keepIn (KK P) (.ref 186) = true := by kernel_rfl
theorem kp225 (P : Params) : keepIn (KK P) (.ref 225) = true := by kernel_rfl
theorem newDom {v : Addr} {xs : List Value} {Q : Value → Shared → Prop} (H : St knd g R L vs l s) (B : Bs w g) (hr : Room A 12) (hv : Has knd g v (.lst xs)) (hz : xs.length < 1000)
    (h : ∀ d dx hl sl s', St knd g R L vs ((d, .dom dx xs) :: (dx, .att (domAtt hl sl)) :: (hl, .lst []) :: (sl, .lst []) :: l) s' → Q (.ref d) s') : wpAny (model prog w) A (call (.ref 303) [.ref v]) Q E s := by
  refine mkDom H B fun x dx s' H' => ?_
  have pm : ((x, Kd.dom dx []) :: (dx, Kd.att []) :: l).Perm ([(x, Kd.dom dx []), (dx, Kd.att [])] ++ l) := List.Perm.refl _
  refine init_dm (hr.make.less (by decide)) (H'.at B pm) hv hz fun hl sl s₂ e => ?_
  exact ⟨rfl, retq (h _ _ hl sl _ (H'.eff pm e))⟩
theorem newFc0 {f : Value} {Q : Value → Shared → Prop} (H : St knd g R L vs l s) (B : Bs w g) (hr : Room A 12)
    (h : ∀ c cx s', St knd g R L vs ((c, .raw (instObj 375 cx)) :: (cx, .att [("_func", f), ("_assigned", .bool true)]) :: l) s' → Q (.ref c) s') : wpAny (model prog w) A (call (.ref 375) [f]) Q E s := by
  refine mkInst H B mk375 fun x dx s' H' => ?_
  have pm : ((x, Kd.raw (instObj 375 dx)) :: (dx, Kd.att []) :: l).Perm ([(x, Kd.raw (instObj 375 dx)), (dx, Kd.att [])] ++ l) := List.Perm.refl _
  exact init_fc0 (hr.make.less (by decide)) (H'.at B pm) fun s₂ e => ⟨rfl, retq (h _ _ _ (H'.eff pm e))⟩
theorem newBt0 {Q : Value → Shared → Prop} (H : St knd g R L vs l s) (B : Bs w g) (hr : Room A 12)
    (h : ∀ c cx s', St knd g R L vs ((c, .raw (instObj 186 cx)) :: (cx, .att [("_forwardcheck", .bool true)]) :: l) s' → Q (.ref c) s') : wpAny (model prog w) A (call (.ref 186) []) Q E s := by
  refine mkInst H B mk186 fun x dx s' H' => ?_
  have pm : ((x, Kd.raw (instObj 186 dx)) :: (dx, Kd.att []) :: l).Perm ([(x, Kd.raw (instObj 186 dx)), (dx, Kd.att [])] ++ l) := List.Perm.refl _
  exact init_bt0 (hr.make.less (by decide)) (H'.at B pm) fun s₂ e => ⟨rfl, retq (h _ _ _ (H'.eff pm e))⟩
theorem newBt {b : Bool} {Q : Value → Shared → Prop} (H : St knd g R L vs l s) (B : Bs w g) (hr : Room A 12)
    (h : ∀ c cx s', St knd g R L vs ((c, .raw (instObj 186 cx)) :: (cx, .att [("_forwardcheck", .bool b)]) :: l) s' → Q (.ref c) s') : wpAny (model prog w) A (call (.ref 186) [.bool b]) Q E s := by
  refine mkInst H B mk186 fun x dx s' H' => ?_
  have pm : ((x, Kd.raw (instObj 186 dx)) :: (dx, Kd.att []) :: l).Perm ([(x, Kd.raw (instObj 186 dx)), (dx, Kd.att [])] ++ l) := List.Perm.refl _
  exact init_bt (hr.make.less (by decide)) (H'.at B pm) fun s₂ e => ⟨rfl, retq (h _ _ _ (H'.eff pm e))⟩
theorem newRb0 {Q : Value → Shared → Prop} (H : St knd g R L vs l s) (B : Bs w g) (hr : Room A 12)
    (h : ∀ c cx s', St knd g R L vs ((c, .raw (instObj 225 cx)) :: (cx, .att [("_forwardcheck", .bool true)]) :: l) s' → Q (.ref c) s') : wpAny (model prog w) A (call (.ref 225) []) Q E s := by
  refine mkInst H B mk225 fun x dx s' H' => ?_
  have pm : ((x, Kd.raw (instObj 225 dx)) :: (dx, Kd.att []) :: l).Perm ([(x, Kd.raw (instObj 225 dx)), (dx, Kd.att [])] ++ l) := List.Perm.refl _
  exact init_rb0 (hr.make.less (by decide)) (H'.at B pm) fun s₂ e => ⟨rfl, retq (h _ _ _ (H'.eff pm e))⟩
theorem newRb {b : Bool} {Q : Value → Shared → Prop} (H : St knd g R L vs l s) (B : Bs w g) (hr : Room A 12)
    (h : ∀ c cx s', St knd g R L vs ((c, .raw (instObj 225 cx)) :: (cx, .att [("_forwardcheck", .bool b)]) :: l) s' → Q (.ref c) s') : wpAny (model prog w) A (call (.ref 225) [.bool b]) Q E s := by
  refine mkInst H B mk225 fun x dx s' H' => ?_
  have pm : ((x, Kd.raw (instObj 225 dx)) :: (dx, Kd.att []) :: l).Perm ([(x, Kd.raw (instObj 225 dx)), (dx, Kd.att [])] ++ l) := List.Perm.refl _
  exact init_rb (hr.make.less (by decide)) (H'.at B pm) fun s₂ e => ⟨rfl, retq (h _ _ _ (H'.eff pm e))⟩
theorem newPr {sv C sx : Addr} {Q : Value → Shared → Prop} (H : St knd g R L vs l s) (B : Bs w g) (hr : Room A 12) (hsv : (sv, Kd.raw (instObj C sx)) ∈ l) (hpl : Plain0 C)
    (h : ∀ x dx cl vd s', St knd g R L vs ((x, .raw (instObj 110 dx)) :: (dx, .att [("_solver", .ref sv), ("_constraints", .ref cl), ("_variables", .ref vd)]) :: (cl, .lst []) :: (vd, .dct []) :: l) s' → Q (.ref x) s') : wpAny (model prog w) A (call (.ref 110) [.ref sv]) Q E s := by
  refine mkInst H B mk110 fun x dx s' H' => ?_
  have pm : ((x, Kd.raw (instObj 110 dx)) :: (dx, Kd.att []) :: l).Perm ([(x, Kd.raw (instObj 110 dx)), (dx, Kd.att [])] ++ l) := List.Perm.refl _
  have X := H'.atAll B pm
  exact init_pr (hr.make.less (by decide)) X.at_ (X.rest _ hsv) hpl fun cl vd s₂ e => ⟨rfl, retq (h _ _ cl vd _ (H'.eff pm e))⟩
local macro_rules | `(tactic| walk_at "op") => `(tactic| first
  | ((with_reducible refine' callCl ?hk ?h ?he ?hp); (case hk => first | (with_reducible exact kp303) | (with_reducible exact kp375)); (case he => rfl); (case hp => rfl))
  | ((with_reducible refine' newDom (by assumption) (by assumption) ?hr (by assumption) ?hz ?_); (case hr => (exact (Room.less (Room.deeper (by assumption) _) (by decide)))); (case hz => walk_at "size"); intro _ _ _ _ _ _)
  | ((with_reducible refine' newFc0 (by assumption) (by assumption) ?hr ?_); (case hr => (exact (Room.less (Room.deeper (by assumption) _) (by decide)))); intro _ _ _ _))
local macro_rules | `(tactic| walk_at "op") => `(tactic| ((with_reducible refine' cHasGet (by assumption) ?T ?_); (case T => walk_at "has"); intro _ _))
set_option maxHeartbeats 4000000 in
/-- a variable is added -/
theorem av_spec {R : Result → Shared → Prop} {g₀ : Heap} {pr px vd v cl : Addr} {sv : Value} {kvs : List (K × Value)} {xs : List Value} {k : K} {key : Value} (hr : Room A 16) (X : At knd g₀ s [(vd, .dct kvs)]) (hpr : Has knd g₀ pr (.raw (instObj 110 px)))
    (hpx : Has knd g₀ px (.att [("_solver", sv), ("_constraints", .ref cl), ("_variables", .ref vd)])) (hv : Has knd g₀ v (.lst xs)) (hz : xs.length < 1000) (hne : xs ≠ []) (hk : knd.is k key = true) (hkn : valueAt kvs k = none) (hkz : kvs.length ≤ 900)
    (h : ∀ d dx hl sl s', Eff knd s [vd] [(vd, .dct (kvs ++ [(k, .ref d)])), (d, .dom dx xs), (dx, .att (domAtt hl sl)), (hl, .lst []), (sl, .lst [])] s' → R (.ok (.ret .none)) s') :
    codeAny (model prog w) A (.call (.ref 64) ⟨[.ref pr, key, .ref v], []⟩) R s := by
  refine enter (knd := knd) (names := ["self", "variable", "domain"]) (vals := [.ref pr, key, .ref v]) X hr (X.k _ _ (X.B.X _ _ (fn_av _))) rfl ((codeRec_of X.B.X (cd_av _)).keeps X.k) (BindsTo.of_eq (by kernel_rfl)) (by decide +kernel) (by decide +kernel)
    (fun g L s₁ hg hg' B H => ?_) (by decide +kernel)
  have kt := kt_av
  replace H : St knd g (sideOf s) L [("self", .ref pr), ("variable", key), ("domain", .ref v)] [(vd, .dct kvs)] s₁ := H
  have hv2 := hv.keep fun o e => hg' _ o e
  have hpr2 := hpr.keep fun o e => hg' _ o e
  have hpx2 := hpx.keep fun o e => hg' _ o e
  refine xs_cons (st := _) (rest := _) ?_
  walk_at "go"
  rw [hkn]
  refine ifF rfl ?_
  walk_at "go"
  have e1 : (!!xs.isEmpty) = false := by cases xs with | nil => exact absurd rfl hne | cons _ _ => rfl
  refine ifF e1 ?_
  clear e1
  walk_at "go"
  rename_i d dx hl sl s6 H6 s7 H7 s8 H8 s9 H9 s10 H10
  rw [stored_new hkn] at H10
  have H11 := H10.perm (l' := [(vd, .dct (kvs ++ [(k, .ref d)])), (d, .dom dx xs), (dx, .att (domAtt hl sl)), (hl, .lst []), (sl, .lst [])]) (by walk_at "pc")
  exact fn_next (h d dx hl sl _ (St.toEff H11 (List.Sublist.refl _) hg))
abbrev DF (K : Type) := K → Addr × Addr × Addr × Addr
/-- the domains that are made -/
def DM (f : DF K) (xs : List Value) (ks : List K) : Led K := ks.flatMap fun k => [((f k).1, .dom (f k).2.1 xs), ((f k).2.1, .att (domAtt (f k).2.2.1 (f k).2.2.2)), ((f k).2.2.1, .lst []), ((f k).2.2.2, .lst [])]
theorem DM_congr {f f' : DF K} {xs : List Value} {ks : List K} (h : ∀ k ∈ ks, f k = f' k) : DM f xs ks = DM f' xs ks := by
  unfold DM
  induction ks with
  | nil => rfl
  | cons k ks ih => rw [List.flatMap_cons, List.flatMap_cons, h k (.head _), ih fun k hk => h k (.tail _ hk)]
theorem DM_snoc {f : DF K} {xs : List Value} {ks : List K} {k : K} : DM f xs (ks ++ [k]) = DM f xs ks ++ [((f k).1, .dom (f k).2.1 xs), ((f k).2.1, .att (domAtt (f k).2.2.1 (f k).2.2.2)), ((f k).2.2.1, .lst []), ((f k).2.2.2, .lst [])] := by
  unfold DM; rw [List.flatMap_append, List.flatMap_cons, List.flatMap_nil, List.append_nil]
def updF (f : DF K) (k : K) (a : Addr × Addr × Addr × Addr) : DF K := fun x => if x = k then a else f x
set_option maxHeartbeats 4000000 in
/-- variables are added -/
theorem avs_spec {R : Result → Shared → Prop} {g₀ : Heap} {pr px vd v cl vl : Addr} {sv : Value} {xs kvals : List Value} {ks : List K} (hr : Room A 20) (X : At knd g₀ s [(vd, .dct [])]) (hpr : Has knd g₀ pr (.raw (instObj 110 px)))
    (hpx : Has knd g₀ px (.att [("_solver", sv), ("_constraints", .ref cl), ("_variables", .ref vd)])) (hv : Has knd g₀ v (.lst xs)) (hz : xs.length < 1000) (hne : xs ≠ []) (hvl : Has knd g₀ vl (.lst kvals))
    (hks : ∀ (i : Nat) (u : Value), kvals[i]? = some u → ∃ k, ks[i]? = some k ∧ knd.is k u = true) (hlen : ks.length = kvals.length) (hnd : ks.Nodup) (hkz : ks.length ≤ 100)
    (h : ∀ f s', Eff knd s [vd] ((vd, .dct (ks.map fun k => (k, .ref (f k).1))) :: DM f xs ks) s' → R (.ok (.ret .none)) s') :
    codeAny (model prog w) A (.call (.ref 71) ⟨[.ref pr, .ref vl, .ref v], []⟩) R s := by
  refine enter (knd := knd) (names := ["self", "variables", "domain"]) (vals := [.ref pr, .ref vl, .ref v]) X hr (X.k _ _ (X.B.X _ _ (fn_avs _))) rfl ((codeRec_of X.B.X (cd_avs _)).keeps X.k) (BindsTo.of_eq (by kernel_rfl)) (by decide +kernel) (by decide +kernel)
    (fun g L s₁ hg hg' B H => ?_) (by decide +kernel)
  have kt := kt_avs
  replace H : St knd g (sideOf s) L [("self", .ref pr), ("variables", .ref vl), ("domain", .ref v)] [(vd, .dct [])] s₁ := H
  have hv2 := hv.keep fun o e => hg' _ o e
  have hvl2 := hvl.keep fun o e => hg' _ o e
  have hpr2 := hpr.keep fun o e => hg' _ o e
  have hpx2 := hpx.keep fun o e => hg' _ o e
  refine xs_cons (st := _) (rest := _) ?_
  walk_at "go"
  obtain ⟨ov, hov, hkv⟩ := id hvl2
  refine' start_lst (by assumption) (hr.deeper _).handled ((by assumption : St knd g _ L _ _ _).o hov) hkv ?_
  intro I s2 W H2
  refine' for_st (g := g) (R := sideOf s) (L := L) (X := List K × DF K) (fun _ => [("self", .ref pr), ("variables", .ref vl), ("domain", .ref v)]) (fun q => (vd, .dct (q.1.map fun k => (k, .ref (q.2 k).1))) :: DM q.2 xs q.1)
    (fun i q => q.1 = ks.take i) ([], fun _ => (0, 0, 0, 0)) W ?src ?h0 H2 ?turn ?done
  case src => intro i q s' _ hS; exact hS.o hov
  case h0 => exact (List.take_zero).symm
  case turn =>
    rintro i ⟨ks1, f⟩ u nw s' E' hi hJ ⟨hu, rfl⟩ H3
    dsimp only at hJ H3
    obtain ⟨k, hki, hkey⟩ := hks i u hu
    replace H3 := show St knd g (sideOf s) L [("self", .ref pr), ("variables", .ref vl), ("domain", .ref v)] ((I, seqIt "list_iterator" vl (i + 1)) :: (vd, .dct (ks1.map fun k => (k, .ref (f k).1))) :: DM f xs ks1) s' from H3
    have hk1 : k ∉ ks1 := by
      intro hm
      rw [hJ] at hm
      obtain ⟨j, hj, e⟩ := List.getElem_of_mem hm
      rw [List.length_take] at hj
      rw [List.getElem_take] at e
      obtain ⟨hi2, e2⟩ := List.getElem?_eq_some_iff.mp hki
      have := (List.getElem_inj hnd).mp (e.trans e2.symm)
      omega
    have hvn : valueAt (ks1.map fun k => (k, Value.ref (f k).1)) k = none := by
      cases q : valueAt (ks1.map fun k => (k, Value.ref (f k).1)) k with
      | none => rfl
      | some z =>
        have := valueAt_some.mp (show (valueAt (ks1.map fun k => (k, Value.ref (f k).1)) k).isSome = true by rw [q]; rfl)
        rw [List.map_map] at this
        obtain ⟨k', hk', e⟩ := List.mem_map.mp this
        exact absurd ((show k' = k from e) ▸ hk') hk1
    have hz1 : (ks1.map fun k => (k, Value.ref (f k).1)).length ≤ 900 := by rw [List.length_map, hJ, List.length_take]; omega
    walk_at "go"
    rename_i s4 H4
    have pm : ((I, seqIt "list_iterator" vl (i + 1)) :: (vd, Kd.dct (ks1.map fun k => (k, Value.ref (f k).1))) :: DM f xs ks1).Perm ([(vd, Kd.dct (ks1.map fun k => (k, Value.ref (f k).1)))] ++ ((I, seqIt "list_iterator" vl (i + 1)) :: DM f xs ks1)) := by walk_at "pc"
    refine callRet (av_spec (Room.less (hr.deeper _) (by decide)) (H4.at B pm) hpr2 hpx2 hv2 hz hne hkey hvn hz1 fun d dx hl sl s5 e => retq ?_)
    have H5 := H4.eff pm e
    have hu1 : ∀ x ∈ ks1, updF f k (d, dx, hl, sl) x = f x := fun x hx => by unfold updF; rw [if_neg]; rintro rfl; exact hk1 hx
    have hu2 : updF f k (d, dx, hl, sl) k = (d, dx, hl, sl) := by unfold updF; rw [if_pos rfl]
    walk_at "go"
    refine for_next ⟨(ks1 ++ [k], updF f k (d, dx, hl, sl)), ?_, ?_⟩
    · dsimp only
      rw [List.take_add_one, hki, hJ]; rfl
    · dsimp only
      rw [DM_snoc, DM_congr hu1, hu2, List.map_append, List.map_congr_left (g := fun k => (k, Value.ref (f k).1)) fun x hx => by rw [hu1 x hx]]
      rw [List.map_cons, List.map_nil, hu2]
      dsimp only [oneIt]
      exact (H5.perm (by walk_at "pc")).sub (fun p hp => .tail _ hp) (List.Sublist.refl _)
  case done =>
    rintro ⟨ks1, f⟩ s' E' hJ H3
    dsimp only at hJ H3
    have e : ks1 = ks := by rw [hJ, ← hlen, List.take_length]
    subst e
    exact wpAny_execs_nil (nx (wpAny_execs_nil (fn_next (h f _ (St.toEff H3 (List.Sublist.refl _) hg)))))
end
end
section
open PySem PySem.W PySem.Calls PyProof.Rows
set_option Elab.async false
set_option maxRecDepth 100000
set_option maxHeartbeats 400000
set_option linter.unusedVariables false
set_option linter.unusedSectionVars false

local macro_rules | `(tactic| walk_at "isB") => `(tactic| first | (with_reducible exact b_hasattr) | (with_reducible exact b_isinst) | (with_reducible exact b_callable))
local macro_rules | `(tactic| walk_at "isG") => `(tactic| first | (with_reducible exact g_domain) | (with_reducible exact g_con) | (with_reducible exact g_fc))
local macro_rules | `(tactic| walk_at "isD") => `(tactic| fail)
local macro_rules | `(tactic| walk_at "isF") => `(tactic| (with_reducible exact fn_av _))
local macro_rules | `(tactic| walk_at "isC") => `(tactic| first | (with_reducible exact cg_pr) | (with_reducible exact cga_pr) | (with_reducible exact no_vars) | (with_reducible exact no_cons) | (with_reducible exact no_solver) | (with_reducible exact hf_av))
theorem con_t (P : Params) : typeIn (KK P) (.ref 347) = some (.type "type") := by kernel_rfl
theorem con_i (P : Params) : instIn (KK P) (.ref 347) (.type "type") = some true := by kernel_rfl
theorem con_c (P : Params) : (clsIn (KK P) 347).isSome = true := by kernel_rfl
theorem con_is (P : Params) : isIn (KK P) (.ref 375) 347 = true := by kernel_rfl
section
variable {prog : Program} {w : World} {K : Type} [DecidableEq K] {knd : KeyKind prog w K} {A : Around} {s : Shared} {E : Value → Shared → Prop}
  {g : Heap} {R : Side} {L : Addr} {vs : Vars} {l : Led K}
theorem cIsiFn {a : Addr} {fd : FuncData} {sl : Array (Option Value)} {Q : Value → Shared → Prop} (H : St knd g R L vs l s) (B : Bs w g) (T : Has knd s.heap a (.raw ⟨.type "function", none, .func fd, sl⟩)) (h : ∀ s', St knd g R L vs l s' → Q (.bool false) s') :
    wpAny (model prog w) A (call (.builtin "isinstance") [.ref a, .ref 347]) Q E s := by
  have H1 := H.tok (s.toks + 1)
  have X := H.X B
  have hx := T.rawE
  obtain ⟨hh, gg, d, t, os⟩ := s
  exact isi_fn X hx (con_t _) (con_i _) (con_c _) (h _ H1)
theorem cIsiCon {a ax : Addr} {Q : Value → Shared → Prop} (H : St knd g R L vs l s) (B : Bs w g) (T : Has knd s.heap a (.raw (instObj 375 ax))) (h : ∀ s', St knd g R L vs l s' → Q (.bool true) s') :
    wpAny (model prog w) A (call (.builtin "isinstance") [.ref a, .ref 347]) Q E s :=
  isi_call (H.X B) (t := .ref 375) (fun M => (Looks.ld T.rawE).andThen .now) (con_is _) (by intro e; cases e) (h _ H)
theorem cCallFn {a : Addr} {fd : FuncData} {sl : Array (Option Value)} {Q : Value → Shared → Prop} (H : St knd g R L vs l s) (T : Has knd s.heap a (.raw ⟨.type "function", none, .func fd, sl⟩)) (h : ∀ s', St knd g R L vs l s' → Q (.bool true) s') :
    wpAny (model prog w) A (call (.builtin "callable") [.ref a]) Q E s := call_fnobj (n := 0) T.rawE rfl (h _ H)
local macro_rules | `(tactic| walk_at "op") => `(tactic| first
  | ((with_reducible refine' callCl ?hk ?h ?he ?hp); (case hk => first | (with_reducible exact kp303) | (with_reducible exact kp375)); (case he => rfl); (case hp => rfl))
  | ((with_reducible refine' cIsiFn (by assumption) (by assumption) ?T ?_); (case T => walk_at "has"); intro _ _)
  | ((with_reducible refine' cIsiCon (by assumption) (by assumption) ?T ?_); (case T => walk_at "has"); intro _ _)
  | ((with_reducible refine' cCallFn (by assumption) ?T ?_); (case T => walk_at "has"); intro _ _)
  | ((with_reducible refine' newFc0 (by assumption) (by assumption) ?hr ?_); (case hr => (exact (Room.less (Room.deeper (by assumption) _) (by decide)))); intro _ _ _ _))
set_option maxHeartbeats 4000000 in
/-- a constraint is added, a bare function -/
theorem ac_fn {R : Result → Shared → Prop} {g₀ : Heap} {pr px vd cl f : Addr} {sv va : Value} {cs : List Value} {fd : FuncData} {sl : Array (Option Value)} (hr : Room A 16) (X : At knd g₀ s [(cl, .lst cs)]) (hpr : Has knd g₀ pr (.raw (instObj 110 px)))
    (hpx : Has knd g₀ px (.att [("_solver", sv), ("_constraints", .ref cl), ("_variables", .ref vd)])) (hf : Has knd g₀ f (.raw ⟨.type "function", none, .func fd, sl⟩)) (hz : cs.length ≤ 900)
    (h : ∀ t c cx s', Eff knd s [cl] [(cl, .lst (cs ++ [.ref t])), (t, .tup [.ref c, va]), (c, .raw (instObj 375 cx)), (cx, .att [("_func", .ref f), ("_assigned", .bool true)])] s' → R (.ok (.ret .none)) s') :
    codeAny (model prog w) A (.call (.ref 79) ⟨[.ref pr, .ref f, va], []⟩) R s := by
  refine enter (knd := knd) (names := ["self", "constraint", "variables"]) (vals := [.ref pr, .ref f, va]) X hr (X.k _ _ (X.B.X _ _ (fn_ac _))) rfl ((codeRec_of X.B.X (cd_ac _)).keeps X.k) (binds_K (X.B.X.keeps X.k) rfl (df_ac _) rfl rfl rfl) (by decide +kernel) (by decide +kernel)
    (fun g L s₁ hg hg' B H => ?_) (by decide +kernel)
  have kt := kt_ac
  replace H : St knd g (sideOf s) L [("self", .ref pr), ("constraint", .ref f), ("variables", va)] [(cl, .lst cs)] s₁ := H
  have hf2 := hf.keep fun o e => hg' _ o e
  have hpr2 := hpr.keep fun o e => hg' _ o e
  have hpx2 := hpx.keep fun o e => hg' _ o e
  refine xs_cons (st := _) (rest := _) ?_
  walk_at "go"
  refine ifT rfl ?_
  walk_at "go"
  rename_i c cx s5 H5 s6 H6 s7 H7 t s8 H8 s9 H9
  have H10 := H9.perm (l' := [(cl, .lst (cs ++ [.ref t])), (t, .tup [.ref c, va]), (c, .raw (instObj 375 cx)), (cx, .att [("_func", .ref f), ("_assigned", .bool true)])]) (by walk_at "pc")
  exact fn_next (h t c cx _ (St.toEff H10 (List.Sublist.refl _) hg))
set_option maxHeartbeats 4000000 in
/-- a constraint is added -/
theorem ac_fc {R : Result → Shared → Prop} {g₀ : Heap} {pr px vd cl c cx : Addr} {sv va : Value} {cs : List Value} (hr : Room A 16) (X : At knd g₀ s [(cl, .lst cs)]) (hpr : Has knd g₀ pr (.raw (instObj 110 px)))
    (hpx : Has knd g₀ px (.att [("_solver", sv), ("_constraints", .ref cl), ("_variables", .ref vd)])) (hc : Has knd g₀ c (.raw (instObj 375 cx))) (hz : cs.length ≤ 900)
    (h : ∀ t s', Eff knd s [cl] [(cl, .lst (cs ++ [.ref t])), (t, .tup [.ref c, va])] s' → R (.ok (.ret .none)) s') :
    codeAny (model prog w) A (.call (.ref 79) ⟨[.ref pr, .ref c, va], []⟩) R s := by
  refine enter (knd := knd) (names := ["self", "constraint", "variables"]) (vals := [.ref pr, .ref c, va]) X hr (X.k _ _ (X.B.X _ _ (fn_ac _))) rfl ((codeRec_of X.B.X (cd_ac _)).keeps X.k) (binds_K (X.B.X.keeps X.k) rfl (df_ac _) rfl rfl rfl) (by decide +kernel) (by decide +kernel)
    (fun g L s₁ hg hg' B H => ?_) (by decide +kernel)
  have kt := kt_ac
  replace H : St knd g (sideOf s) L [("self", .ref pr), ("constraint", .ref c), ("variables", va)] [(cl, .lst cs)] s₁ := H
  have hc2 := hc.keep fun o e => hg' _ o e
  have hpr2 := hpr.keep fun o e => hg' _ o e
  have hpx2 := hpx.keep fun o e => hg' _ o e
  refine xs_cons (st := _) (rest := _) ?_
  walk_at "go"
  refine ifF rfl ?_
  walk_at "go"
  rename_i t s8 H8 s9 H9
  have H10 := H9.perm (l' := [(cl, .lst (cs ++ [.ref t])), (t, .tup [.ref c, va])]) (by walk_at "pc")
  exact fn_next (h t _ (St.toEff H10 (List.Sublist.refl _) hg))
end
end
section
open PySem PySem.W PySem.Calls PyProof.Rows
set_option Elab.async false
set_option maxRecDepth 100000
set_option maxHeartbeats 400000
set_option linter.unusedVariables false
set_option linter.unusedSectionVars false
theorem fn_gsb (P : Params) : (KK P).lookup 183 = some (methO "getSolutions" "BacktrackingSolver.getSolutions" 4 3 183 .none) := by kernel_rfl
theorem cd_gsb (P : Params) : codeIn (KK P) (.ref 182) "BacktrackingSolver.getSolutions" = true := by kernel_rfl
theorem fn_gsr (P : Params) : (KK P).lookup 222 = some (methO "getSolutions" "RecursiveBacktrackingSolver.getSolutions" 5 3 222 .none) := by kernel_rfl
theorem cd_gsr (P : Params) : codeIn (KK P) (.ref 221) "RecursiveBacktrackingSolver.getSolutions" = true := by kernel_rfl
theorem hf_iter : HasFn 186 "getSolutionIter" 169 := ⟨fun P => by kernel_rfl, fun P => by kernel_rfl⟩
theorem hf_gsb : HasFn 186 "getSolutions" 183 := ⟨fun P => by kernel_rfl, fun P => by kernel_rfl⟩
theorem hf_gsr : HasFn 225 "getSolutions" 222 := ⟨fun P => by kernel_rfl, fun P => by kernel_rfl⟩
abbrev tb_gsb : List (Str × NameKind) := [("self", .local), ("domains", .local), ("constraints", .local), ("vconstraints", .local), ("list", .globalImplicit)]
theorem kt_gsb : Kt (scp 4 3) tb_gsb := ⟨by decide +kernel, by decide +kernel⟩
abbrev tb_gsr : List (Str × NameKind) := [("self", .local), ("domains", .local), ("constraints", .local), ("vconstraints", .local)]
theorem kt_gsr : Kt (scp 5 3) tb_gsr := ⟨by decide +kernel, by decide +kernel⟩

local macro_rules | `(tactic| walk_at "isB") => `(tactic| first | (with_reducible exact b_list))
local macro_rules | `(tactic| walk_at "isG") => `(tactic| fail)
local macro_rules | `(tactic| walk_at "isD") => `(tactic| fail)
local macro_rules | `(tactic| walk_at "isF") => `(tactic| first | (with_reducible exact fn_iter _) | (with_reducible exact fn_rec _))
local macro_rules | `(tactic| walk_at "isC") => `(tactic| first | (with_reducible exact cg_bt) | (with_reducible exact cga_bt) | (with_reducible exact no_fcb) | (with_reducible exact hf_iter) | (with_reducible exact cg_rs) | (with_reducible exact cga_rs) | (with_reducible exact no_fc) | (with_reducible exact hf_rec))
section
variable {prog : Program} {w : World} {K : Type} [DecidableEq K] {knd : KeyKind prog w K} {A : Around} {s : Shared} {E : Value → Shared → Prop}
/-- the end of a search for all solutions -/
def SolPost (knd : KeyKind prog w K) (Y : Lay K) (dom : K → List Int) (cons : List (Con K)) (s : Shared) (D : K → DS) (S : Addr) (s' : Shared) : Prop :=
  ∃ (D' : K → DS) (new : Outs K), EffG knd s ((DL Y D Y.keys).map (·.1)) ((S, .lst (new.map fun o => .ref o.1)) :: (DL Y D' Y.keys ++ new.map fun o => (o.1, .dct o.2))) s' ∧
    (new.map fun o => tupOf Y.keys o.2).Perm (solsOf Y.keys dom cons []) ∧ ∀ o ∈ new, Full Y.keys o.2
set_option maxHeartbeats 4000000 in
theorem gsb_spec {R : Result → Shared → Prop} {g₀ : Heap} {Y : Lay K} {D : K → DS} {dom : K → List Int} {cons : List (Con K)} {sf sx : Addr} {fb : Bool} {cs : Value}
    (hr : Room A 62) (X : At knd g₀ s (DL Y D Y.keys)) (LY : LayAt knd g₀ Y) (ko : KeyOrd knd) (T : Stat Y dom cons) (htot : (solsOf Y.keys dom cons []).length < 50000)
    (hself : Has knd g₀ sf (.raw (instObj 186 sx))) (hsx : Has knd g₀ sx (.att [("_forwardcheck", .bool fb)])) (V : Inv Y dom cons [] Y.keys D) (hN : NE Y.keys D)
    (h : ∀ S s', SolPost knd Y dom cons s D S s' → R (.ok (.ret (.ref S))) s') :
    codeAny (model prog w) A (.call (.ref 183) ⟨[.ref sf, .ref Y.da, cs, .ref Y.vc], []⟩) R s := by
  refine enter (knd := knd) (names := ["self", "domains", "constraints", "vconstraints"]) (vals := [.ref sf, .ref Y.da, cs, .ref Y.vc]) X hr (X.k _ _ (X.B.X _ _ (fn_gsb _))) rfl ((codeRec_of X.B.X (cd_gsb _)).keeps X.k) (BindsTo.of_eq (by kernel_rfl)) (by decide +kernel) (by decide +kernel)
    (fun g L s₁ hg hg' B H => ?_) (by decide +kernel)
  have kt := kt_gsb
  replace H : St knd g (sideOf s) L [("self", .ref sf), ("domains", .ref Y.da), ("constraints", cs), ("vconstraints", .ref Y.vc)] (DL Y D Y.keys) s₁ := H
  have hself2 := hself.keep fun o e => hg' _ o e
  have hsx2 := hsx.keep fun o e => hg' _ o e
  refine xs_cons (st := _) (rest := _) ?_
  walk_at "go"
  have H4 := H
  have pm : (DL Y D Y.keys).Perm (DL Y D Y.keys ++ []) := by rw [List.append_nil]
  refine callRet (codeAny_mono (gen_list (Q := fun v s' => FnQ R (.ret v) s') (E := fun _ _ => False) (fb := fb) (sx := sx) (Room.less (hr.deeper _) (by decide)) (H4.at B pm) (LY.keep hg') ko T htot hself2 hsx2 V hN fun S D' new s5 e hper hful => ?_) (fun r s5 z => ?_))
  · have H6 := H4.effG pm e
    refine fn_ret (h S s5 ⟨D', new, St.toEffG H6 (List.sublist_append_left ..) hg fun hb => e.bare (by rw [H4.gens]; exact hb), hper, hful⟩)
  · cases r with
    | error e => exact z
    | ok f =>
      cases f with
      | ret v =>
        refine retq ?_
        walk_at "go1"
        exact z
      | _ => exact z.elim
set_option maxHeartbeats 4000000 in
theorem gsr_spec {R : Result → Shared → Prop} {g₀ : Heap} {Y : Lay K} {D : K → DS} {dom : K → List Int} {cons : List (Con K)} {sf sx : Addr} {fb : Bool} {cs : Value}
    (hr : Room A 160) (X : At knd g₀ s (DL Y D Y.keys)) (LY : LayAt knd g₀ Y) (ko : KeyOrd knd) (T : Stat Y dom cons) (htot : (solsOf Y.keys dom cons []).length < 50000)
    (hself : Has knd g₀ sf (.raw (instObj 225 sx))) (hsx : Has knd g₀ sx (.att [("_forwardcheck", .bool fb)])) (V : Inv Y dom cons [] Y.keys D)
    (h : ∀ S s', SolPost knd Y dom cons s D S s' → R (.ok (.ret (.ref S))) s') :
    codeAny (model prog w) A (.call (.ref 222) ⟨[.ref sf, .ref Y.da, cs, .ref Y.vc], []⟩) R s := by
  refine enter (knd := knd) (names := ["self", "domains", "constraints", "vconstraints"]) (vals := [.ref sf, .ref Y.da, cs, .ref Y.vc]) X hr (X.k _ _ (X.B.X _ _ (fn_gsr _))) rfl ((codeRec_of X.B.X (cd_gsr _)).keeps X.k) (BindsTo.of_eq (by kernel_rfl)) (by decide +kernel) (by decide +kernel)
    (fun g L s₁ hg hg' B H => ?_) (by decide +kernel)
  have kt := kt_gsr
  replace H : St knd g (sideOf s) L [("self", .ref sf), ("domains", .ref Y.da), ("constraints", cs), ("vconstraints", .ref Y.vc)] (DL Y D Y.keys) s₁ := H
  have hself2 := hself.keep fun o e => hg' _ o e
  have hsx2 := hsx.keep fun o e => hg' _ o e
  refine xs_cons (st := _) (rest := _) ?_
  walk_at "go"
  rename_i so s4 H4 aa s5 H5
  have hz := LY.z
  have pm : ((aa, Kd.dct []) :: (so, Kd.lst []) :: DL Y D Y.keys).Perm (((aa, Kd.dct []) :: (so, Kd.lst []) :: DL Y D Y.keys) ++ []) := by rw [List.append_nil]
  refine callRet (rec_ok (knd := knd) (dom := dom) (cons := cons) (fb := fb) ko.toKeyLt T Y.keys.length rfl (Room.less (hr.deeper _) (by omega)) (H5.at B pm) (LY.keep hg') hself2 hsx2 V (by simpa using htot) (fun k hk hn => absurd hk hn) fun s6 hpost => ?_)
  obtain ⟨D', new, e, _, hper, hful⟩ := hpost
  have H6 := H5.eff pm e
  refine retq (nx_ret (fn_ret (h so s6 ⟨D', new, (St.toEff H6 ?_ hg).toG, hper, hful⟩)))
  rw [List.append_nil]
  exact List.sublist_cons_self ..
end
end
section
open PySem PySem.W PySem.Calls PyProof.Rows
set_option Elab.async false
set_option maxRecDepth 100000
set_option maxHeartbeats 400000
set_option linter.unusedVariables false
set_option linter.unusedSectionVars false
theorem fn_rs (P : Params) : (KK P).lookup 279 = some (methO "resetState" "Domain.resetState" 8 1 279 .none) := by kernel_rfl
theorem cd_rs (P : Params) : codeIn (KK P) (.ref 278) "Domain.resetState" = true := by kernel_rfl
abbrev tb_rs : List (Str × NameKind) := [("self", .local)]
theorem kt_rs : Kt (scp 8 1) tb_rs := ⟨by decide +kernel, by decide +kernel⟩
theorem fn_pp (P : Params) : (KK P).lookup 336 = some (methO "preProcess" "Constraint.preProcess" 9 2 336 .none) := by kernel_rfl
theorem cd_pp (P : Params) : codeIn (KK P) (.ref 335) "Constraint.preProcess" = true := by kernel_rfl
abbrev tb_pp : List (Str × NameKind) := [("self", .local), ("variables", .local), ("domains", .local), ("constraints", .local), ("vconstraints", .local), ("variable", .local), ("domain", .local), ("value", .local), ("len", .globalImplicit)]
theorem kt_pp : Kt (scp 9 2) tb_pp := ⟨by decide +kernel, by decide +kernel⟩
theorem dm_reset (P : Params) : findIn (KK P) (.ref 303) "resetState" = some (some (.ref 279)) := by kernel_rfl
theorem dt_reset (P : Params) : typeIn (KK P) (.ref 279) = some (.type "function") := by kernel_rfl

local macro_rules | `(tactic| walk_at "isB") => `(tactic| first | (with_reducible exact b_len))
local macro_rules | `(tactic| walk_at "isG") => `(tactic| fail)
local macro_rules | `(tactic| walk_at "isD") => `(tactic| first | (with_reducible exact dm_states _) | (with_reducible exact dm_hidden _) | (with_reducible exact dm_extend _) | (with_reducible exact dt_extend _))
local macro_rules | `(tactic| walk_at "isF") => `(tactic| fail)
local macro_rules | `(tactic| walk_at "isC") => `(tactic| fail)
section
variable {prog : Program} {w : World} {K : Type} [DecidableEq K] {knd : KeyKind prog w K} {A : Around} {s : Shared} {E : Value → Shared → Prop}
section
variable {g : Heap} {R : Side} {L : Addr} {vs : Vars} {l : Led K} {a : Addr} {vals : List Value}
theorem cVarsLen {Q : Value → Shared → Prop} (H : St knd g R L vs l s) (D : VarsAt knd s.heap a vals) (hz : vals.length < 1000) (h : ∀ t s', St knd g R L vs l s' → Q (.int vals.length t) s') : wpAny (model prog w) A (call (.builtin "len") [.ref a]) Q E s := by
  rcases D with D | D
  · exact cListLen H D (by omega) h
  · obtain ⟨o, ho, rfl⟩ := D
    refine PySem.P.len_tuple (n := 0) (items := vals.toArray) ho (by rw [List.size_toArray]; omega) ?_
    rw [List.size_toArray]
    exact h _ _ (H.tok _)
theorem iVars {Q : Bool → Shared → Prop} (H : St knd g R L vs l s) (D : VarsAt knd s.heap a vals) (hz : vals.length < 1000) (h : ∀ s', St knd g R L vs l s' → Q (!vals.isEmpty) s') : wpAny (model prog w) A (truthy (.ref a)) Q E s := by
  rcases D with D | D
  · exact iList H D (by omega) h
  · refine truthy_tuple D.tupI (by rw [List.size_toArray]; omega) ?_
    simpa using h _ (H.tok _)
end
theorem reset_spec {R : Result → Shared → Prop} {g₀ : Heap} {d dx hl sl : Addr} {xs hs st : List Value} (hr : Room A 3) (X : At knd g₀ s [(d, .dom dx xs), (hl, .lst hs), (sl, .lst st)]) (D : Has knd g₀ dx (.att (domAtt hl sl)))
    (hx : xs.length < 500) (hh : hs.length < 500) (hs2 : st.length < 500)
    (h : ∀ s', Eff knd s [d, hl, sl] [(d, .dom dx (xs ++ hs)), (hl, .lst []), (sl, .lst [])] s' → R (.ok (.ret .none)) s') : codeAny (model prog w) A (.call (.ref 279) ⟨[.ref d], []⟩) R s := by
  refine enter (knd := knd) (names := ["self"]) (vals := [.ref d]) X hr (X.k _ _ (X.B.X _ _ (fn_rs _))) rfl ((codeRec_of X.B.X (cd_rs _)).keeps X.k) (BindsTo.of_eq (by kernel_rfl)) (by decide +kernel) (by decide +kernel)
    (fun g L s₁ hg hg' B H => ?_) (by decide +kernel) (by kernel_rfl) (by kernel_rfl) kt_rs.kind
  have kt := kt_rs
  have Dg := D.keep fun o e => hg' _ o e
  replace H : St knd g (sideOf s) L [("self", .ref d)] [(d, .dom dx xs), (hl, .lst hs), (sl, .lst st)] s₁ := H
  refine xs_cons (st := _) (rest := _) ?_
  walk_at "go"
  refine' fn_next (h _ (St.toEff (by assumption) ?sub hg))
  case sub => walk_at "sub"
/-- a constraint on other than one variable -/
theorem pp_skip {R : Result → Shared → Prop} {g₀ : Heap} {c va da cn vc : Addr} {vals : List Value} (hr : Room A 3) (X : At knd g₀ s []) (hv : VarsAt knd g₀ va vals) (hn : vals.length ≠ 1) (hz : vals.length < 1000)
    (h : ∀ s', Eff knd s [] [] s' → R (.ok (.ret .none)) s') : codeAny (model prog w) A (.call (.ref 336) ⟨[.ref c, .ref va, .ref da, .ref cn, .ref vc], []⟩) R s := by
  refine enter (knd := knd) (names := ["self", "variables", "domains", "constraints", "vconstraints"]) (vals := [.ref c, .ref va, .ref da, .ref cn, .ref vc]) X hr (X.k _ _ (X.B.X _ _ (fn_pp _))) rfl ((codeRec_of X.B.X (cd_pp _)).keeps X.k) (BindsTo.of_eq (by kernel_rfl)) (by decide +kernel) (by decide +kernel)
    (fun g L s₁ hg hg' B H => ?_) (by decide +kernel) (by kernel_rfl) (by kernel_rfl) kt_pp.kind
  have kt := kt_pp
  replace H : St knd g (sideOf s) L [("self", .ref c), ("variables", .ref va), ("domains", .ref da), ("constraints", .ref cn), ("vconstraints", .ref vc)] [] s₁ := H
  have hv2 := hv.keep fun o e => hg' _ o e
  refine xs_cons (st := _) (rest := _) ?_
  walk_at "go"
  have H2 := H
  refine cVarsLen H2 (hv2.keep fun o e => (let ⟨m, F, _⟩ := H2.F; F.keep _ _ e)) hz fun t s3 H3 => ?_
  walk_at "go"
  refine ifF (by simp; omega) ?_
  exact wpAny_execs_nil (nx (wpAny_execs_nil (fn_next (h _ (St.toEff (by assumption) (List.Sublist.refl _) hg)))))
end
end
section
open PySem PySem.W PySem.Calls PyProof.Rows
set_option Elab.async false
set_option maxRecDepth 100000
set_option maxHeartbeats 400000
set_option linter.unusedVariables false
set_option linter.unusedSectionVars false
theorem fn_ga (P : Params) : (KK P).lookup 107 = some (methO "_getArgs" "Problem._getArgs" 2 10 107 .none) := by kernel_rfl
theorem cd_ga (P : Params) : codeIn (KK P) (.ref 106) "Problem._getArgs" = true := by kernel_rfl
abbrev tb_ga : List (Str × NameKind) := [("self", .local), ("domains", .local), ("allvariables", .local), ("constraints", .local), ("constraint", .local), ("variables", .local), ("vconstraints", .local), ("variable", .local), ("domain", .local), ("list", .globalImplicit)]
theorem kt_ga : Kt (scp 2 10) tb_ga := ⟨by decide +kernel, by decide +kernel⟩
theorem hf_pp : HasFn 375 "preProcess" 336 := ⟨fun P => by kernel_rfl, fun P => by kernel_rfl⟩

local macro_rules | `(tactic| walk_at "isB") => `(tactic| first | (with_reducible exact b_list))
local macro_rules | `(tactic| walk_at "isG") => `(tactic| fail)
local macro_rules | `(tactic| walk_at "isD") => `(tactic| first | (with_reducible exact dm_reset _) | (with_reducible exact dt_reset _))
local macro_rules | `(tactic| walk_at "isF") => `(tactic| first | (with_reducible exact fn_rs _) | (with_reducible exact fn_pp _))
local macro_rules | `(tactic| walk_at "isC") => `(tactic| first | (with_reducible exact cg_pr) | (with_reducible exact cga_pr) | (with_reducible exact no_vars) | (with_reducible exact no_cons) | (with_reducible exact cg_fc) | (with_reducible exact cga_fc) | (with_reducible exact hf_pp))
section
variable {prog : Program} {w : World} {K : Type} [DecidableEq K] {knd : KeyKind prog w K} {A : Around} {s : Shared} {E : Value → Shared → Prop} {g : Heap} {R : Side} {L : Addr}
abbrev envA (L : Addr) : Env := envX "Problem._getArgs" (scp 2 10) L 107 (.ref (107 - 1)) []
abbrev vsA (da cn vc : Addr) : Vars := [("domains", .ref da), ("constraints", .ref cn), ("vconstraints", .ref vc)]
theorem setD_self {D : K → DS} {x : K} : setD D x (D x) = D := by
  funext y; unfold setD; split
  · rename_i h; rw [h]
  · rfl
set_option maxHeartbeats 4000000 in
/-- the domains are reset -/
theorem ga5 {RR : Result → Shared → Prop} {da cn vc : Addr} {oda : Obj} {Y : Lay K} {D : K → DS} {rest : Led K} (hr : Room A 8) (B : Bs w g) (hnk : Y.keys.Nodup) (hkz : Y.keys.length < 60) (hnda : (da == sysModules) = false)
    (hda : (Kd.dct (Y.keys.map fun k => (k, Value.ref (Y.dA k)))).holds knd oda) (hdx : ∀ k ∈ Y.keys, Has knd g (Y.dxA k) (.att (domAtt (Y.hlA k) (Y.slA k))))
    (hD : ∀ k ∈ Y.keys, (D k).hs = [] ∧ (D k).st = [] ∧ (D k).xs ≠ [] ∧ (D k).xs.length < 400)
    (H : St knd g R L (vsA da cn vc) (DL Y D Y.keys ++ ((da, .raw oda) :: rest)) s)
    (h : ∀ rt s', St knd g R L (vsA da cn vc) ((rt, .tup [.ref da, .ref cn, .ref vc]) :: (DL Y D Y.keys ++ ((da, .raw oda) :: rest))) s' → RR (.ok (.ret (.ref rt))) s') :
    wpAny (model prog w) A (execs ((bdy 2 10).drop 8) (envA L)) (FnQ RR) E s := by
  have kt := kt_ga
  have hkzz : (Y.keys.map fun k => (k, Value.ref (Y.dA k))).length = Y.keys.length := List.length_map ..
  refine xs_cons (st := _) (rest := _) ?_
  walk_at "go"
  rename_i c s1 H1
  have hmd : ∀ {l : Led K}, (da, Kd.raw oda) ∈ l ++ (DL Y D Y.keys ++ ((da, .raw oda) :: rest)) := fun {l} => List.mem_append_right _ (List.mem_append_right _ (.head _))
  refine start_vals H1 hr.handled (H1.has (.head _)) (H1.has (hmd (l := [(c, valsV da)]))).rawE hda ?_
  intro I s2 ep W H2
  have H3 : St knd g R L (vsA da cn vc) (oneIt I (keyIt "dict_valueiterator" da (Y.keys.map fun k => (k, Value.ref (Y.dA k))).length ep) 0 ++ (DL Y D Y.keys ++ ((da, .raw oda) :: rest))) s2 := H2.sub (fun _ h => h) (List.Sublist.cons_cons _ (List.sublist_cons_self ..))
  refine' for_st (g := g) (R := R) (L := L) (X := Unit) (fun _ => vsA da cn vc) (fun _ => DL Y D Y.keys ++ ((da, .raw oda) :: rest)) (fun i _ => True) () W ?src trivial H3 ?turn ?done
  case src => intro i q s' _ hS; exact (hS.has (List.mem_append_right (oneIt I _ i) (List.mem_append_right _ (.head _)))).rawE
  case turn =>
    rintro i ⟨⟩ v new s' E' hi _ ⟨⟨k, hkv⟩, rfl⟩ H4
    rw [hkzz] at hi
    have hki : Y.keys[i]? = some k ∧ v = .ref (Y.dA k) := by
      rw [List.getElem?_map] at hkv
      obtain ⟨k', e1, e2⟩ := Option.map_eq_some_iff.mp hkv
      cases e2; exact ⟨e1, rfl⟩
    obtain ⟨hki, rfl⟩ := hki
    have hxm : k ∈ Y.keys := List.mem_of_getElem? hki
    obtain ⟨d1, d2, d3, d4⟩ := hD k hxm
    have hdxk := hdx k hxm
    have H5 := St.atDom (pre := oneIt I (keyIt "dict_valueiterator" da (Y.keys.map fun k => (k, Value.ref (Y.dA k))).length ep) (i + 1)) H4 hxm
    replace H5 := show St knd g R L (vsA da cn vc) ((Y.dA k, .dom (Y.dxA k) (D k).xs) :: (Y.hlA k, .lst (D k).hs) :: (Y.slA k, .lst (D k).st) :: (I, keyIt "dict_valueiterator" da (Y.keys.map fun k => (k, Value.ref (Y.dA k))).length ep (i + 1)) :: (DL Y D (Y.keys.erase k) ++ ((da, .raw oda) :: rest))) s' from H5
    have hxz : (D k).xs.length < 1000 := by omega
    walk_at "go"
    rename_i s6 H6
    have pm : ∀ {p1 p2 p3 : Addr × Kd K} {t : Led K}, (p1 :: p2 :: p3 :: t).Perm ([p1, p2, p3] ++ t) := fun {p1 p2 p3 t} => List.Perm.refl _
    refine callRet (reset_spec (hr.less (by decide)) (H6.at B pm) hdxk (by omega) (by rw [d1]; decide) (by rw [d2]; decide) fun s7 e7 => retq ?_)
    have H7 := H6.eff pm e7
    rw [d1, List.append_nil] at H7
    replace H7 := show St knd g R L (("domain", .ref (Y.dA k)) :: vsA da cn vc) ((Y.dA k, .dom (Y.dxA k) (D k).xs) :: (Y.hlA k, .lst []) :: (Y.slA k, .lst []) :: (I, keyIt "dict_valueiterator" da (Y.keys.map fun k => (k, Value.ref (Y.dA k))).length ep (i + 1)) :: (DL Y D (Y.keys.erase k) ++ ((da, .raw oda) :: rest))) s7 from H7
    walk_at "go"
    have e1 : (!!(D k).xs.isEmpty) = false := by cases q : (D k).xs with | nil => exact absurd q d3 | cons _ _ => rfl
    refine ifF e1 ?_
    clear e1
    walk_at "go"
    rename_i s8 H8
    refine for_next ⟨(), trivial, ?_⟩
    have H9 : St knd g R L (("domain", .ref (Y.dA k)) :: vsA da cn vc) (ents Y k (D k) ++ (oneIt I (keyIt "dict_valueiterator" da (Y.keys.map fun k => (k, Value.ref (Y.dA k))).length ep) (i + 1) ++ (DL Y D (Y.keys.erase k) ++ ((da, .raw oda) :: rest)))) s8 := by
      unfold ents; rw [d1, d2]; exact H8
    have H10 := St.backDom (d := D k) hnk hxm H9
    rw [setD_self] at H10
    exact H10.sub (fun p hp => .tail _ hp) (List.Sublist.refl _)
  case done =>
    rintro ⟨⟩ s' E' _ H4
    walk_at "go"
    rename_i rt s9 H9
    exact fn_ret (h rt _ H9)
end
end
section
open PySem PySem.W PySem.Calls PyProof.Rows
set_option Elab.async false
set_option maxRecDepth 100000
set_option maxHeartbeats 400000
set_option linter.unusedVariables false
set_option linter.unusedSectionVars false

local macro_rules | `(tactic| walk_at "isB") => `(tactic| first | (with_reducible exact b_list))
local macro_rules | `(tactic| walk_at "isG") => `(tactic| fail)
local macro_rules | `(tactic| walk_at "isD") => `(tactic| first | (with_reducible exact dm_reset _) | (with_reducible exact dt_reset _))
local macro_rules | `(tactic| walk_at "isF") => `(tactic| first | (with_reducible exact fn_rs _) | (with_reducible exact fn_pp _))
local macro_rules | `(tactic| walk_at "isC") => `(tactic| first | (with_reducible exact cg_pr) | (with_reducible exact cga_pr) | (with_reducible exact no_vars) | (with_reducible exact no_cons) | (with_reducible exact cg_fc) | (with_reducible exact cga_fc) | (with_reducible exact hf_pp))
section
variable {prog : Program} {w : World} {K : Type} [DecidableEq K] {knd : KeyKind prog w K} {A : Around} {s : Shared} {E : Value → Shared → Prop} {g : Heap} {R : Side} {L : Addr}
/-- the tuples of constraints -/
def TL (q : List (CData K)) : Led K := q.map fun C => (C.t, .tup [.ref C.c, .ref C.va])
structure ItemOk (knd : KeyKind prog w K) (h : Heap) (keys : List K) (C : CData K) : Prop where
  c : Has knd h C.c (.raw (instObj 375 C.cx))
  cx : Has knd h C.cx (.att (conAtt C.f))
  v : VarsAt knd h C.va C.vals
  k : KeyVals knd C.vals C.ks
  z : C.vals.length < 100
  n1 : C.vals.length ≠ 1
  n0 : C.vals ≠ []
  nd : C.ks.Nodup
  sub : ∀ x ∈ C.ks, x ∈ keys
set_option maxHeartbeats 4000000 in
/-- the constraints are asked beforehand -/
theorem ga4 {RR : Result → Shared → Prop} {da cn vc : Addr} {oda : Obj} {Y : Lay K} {D : K → DS} {rest : Led K} {q : List (CData K)} (hr : Room A 8) (B : Bs w g) (hnk : Y.keys.Nodup) (hkz : Y.keys.length < 60) (hnda : (da == sysModules) = false)
    (hda : (Kd.dct (Y.keys.map fun k => (k, Value.ref (Y.dA k)))).holds knd oda) (hdx : ∀ k ∈ Y.keys, Has knd g (Y.dxA k) (.att (domAtt (Y.hlA k) (Y.slA k))))
    (hD : ∀ k ∈ Y.keys, (D k).hs = [] ∧ (D k).st = [] ∧ (D k).xs ≠ [] ∧ (D k).xs.length < 400) (hq : ∀ C ∈ q, ItemOk knd g Y.keys C) (hqz : q.length < 500)
    (H : St knd g R L (vsA da cn vc) ((cn, .lst (q.map fun C => .ref C.t)) :: (TL q ++ (DL Y D Y.keys ++ ((da, .raw oda) :: rest)))) s)
    (h : ∀ rt s', St knd g R L (vsA da cn vc) ((rt, .tup [.ref da, .ref cn, .ref vc]) :: (DL Y D Y.keys ++ ((da, .raw oda) :: ((cn, .lst (q.map fun C => .ref C.t)) :: (TL q ++ rest))))) s' → RR (.ok (.ret (.ref rt))) s') :
    wpAny (model prog w) A (execs ((bdy 2 10).drop 7) (envA L)) (FnQ RR) E s := by
  have kt := kt_ga
  have hqzz : (q.map fun C => Value.ref C.t).length < 100000 := by rw [List.length_map]; omega
  refine xs_cons (st := _) (rest := _) ?_
  walk_at "go"
  rename_i sl s1 H1 c s2 H2
  obtain ⟨oc, hoc, hkc, fx⟩ := H2.fix (.head _)
  have H3 := fx _ .head
  refine start_lst H3 hr.handled hoc hkc ?_
  intro I s3 W H4
  have H5 : St knd g R L (vsA da cn vc) (oneIt I (seqIt "list_iterator" c) 0 ++ ((c, .raw oc) :: (cn, .lst (q.map fun C => .ref C.t)) :: (TL q ++ (DL Y D Y.keys ++ ((da, .raw oda) :: rest))))) s3 := H4.sub (fun _ h => h) (List.Sublist.cons_cons _ (List.Sublist.cons_cons _ (List.sublist_cons_self ..)))
  refine' for_st (g := g) (R := R) (L := L) (X := Unit) (fun _ => vsA da cn vc) (fun _ => (c, .raw oc) :: (cn, .lst (q.map fun C => .ref C.t)) :: (TL q ++ (DL Y D Y.keys ++ ((da, .raw oda) :: rest)))) (fun i _ => True) () W ?src trivial H5 ?turn ?done
  case src => intro i q s' _ hS; exact (hS.has (List.mem_append_right (oneIt I _ i) (.head _))).rawE
  case turn =>
    rintro i ⟨⟩ v new s' E' hi _ ⟨hv, rfl⟩ H6
    rw [List.length_map] at hi
    rw [List.getElem?_map, List.getElem?_eq_getElem hi] at hv
    generalize hCe : q[i] = C at *
    have hCm : C ∈ q := hCe ▸ List.getElem_mem hi
    obtain rfl : Value.ref C.t = v := Option.some.inj hv
    obtain ⟨c1, c2, c3, c4, c5, c6, c7, c8, c9⟩ := hq C hCm
    have hCt : (C.t, Kd.tup [.ref C.c, .ref C.va]) ∈ [] ++ (oneIt I (seqIt "list_iterator" c) (i + 1) ++ ((c, .raw oc) :: (cn, Kd.lst (q.map fun C => .ref C.t)) :: (TL q ++ (DL Y D Y.keys ++ ((da, .raw oda) :: rest))))) :=
      List.mem_append_right _ (List.mem_append_right _ (.tail _ (.tail _ (List.mem_append_left _ (List.mem_map.mpr ⟨C, hCm, rfl⟩)))))
    refine aTuple2 H6 (H6.has hCt) hr.handled fun s7 H7 => ?_
    walk_at "go"
    rename_i s8 H8
    refine callRet (pp_skip (hr.less (by decide)) (H8.at B (l := []) (List.Perm.refl _)) c3 c6 (by omega) fun s9 e9 => retq ?_)
    have H9 := H8.eff (l := []) (List.Perm.refl _) e9
    walk_at "go"
    exact for_next ⟨(), trivial, H9.sub (fun p hp => .tail _ (.tail _ hp)) (List.Sublist.refl _)⟩
  case done =>
    rintro ⟨⟩ s' E' _ H6
    refine wpAny_execs_nil (nx (ga5 hr B hnk hkz hnda hda hdx hD (rest := (cn, .lst (q.map fun C => .ref C.t)) :: (TL q ++ rest)) ?_ h))
    exact (H6.sub (fun _ h => h) (List.sublist_cons_self ..)).perm (by walk_at "pc")
end
end
section
open PySem PySem.W PySem.Calls PyProof.Rows
set_option Elab.async false
set_option maxRecDepth 100000
set_option maxHeartbeats 400000
set_option linter.unusedVariables false
set_option linter.unusedSectionVars false

local macro_rules | `(tactic| walk_at "isB") => `(tactic| first | (with_reducible exact b_list))
local macro_rules | `(tactic| walk_at "isG") => `(tactic| fail)
local macro_rules | `(tactic| walk_at "isD") => `(tactic| first | (with_reducible exact dm_reset _) | (with_reducible exact dt_reset _))
local macro_rules | `(tactic| walk_at "isF") => `(tactic| first | (with_reducible exact fn_rs _) | (with_reducible exact fn_pp _))
local macro_rules | `(tactic| walk_at "isC") => `(tactic| first | (with_reducible exact cg_pr) | (with_reducible exact cga_pr) | (with_reducible exact no_vars) | (with_reducible exact no_cons) | (with_reducible exact cg_fc) | (with_reducible exact cga_fc) | (with_reducible exact hf_pp))
section
variable {prog : Program} {w : World} {K : Type} [DecidableEq K] {knd : KeyKind prog w K} {A : Around} {s : Shared} {E : Value → Shared → Prop} {g : Heap} {R : Side} {L : Addr}
abbrev vent (vA : K → Addr) (k : K) (Ws : List (CData K)) : Led K := (vA k, .lst (Ws.map fun C => .ref C.t)) :: TL Ws
def VL (vA : K → Addr) (W : K → List (CData K)) (us : List K) : Led K := us.flatMap fun k => vent vA k (W k)
theorem VL_congr {vA : K → Addr} {W W' : K → List (CData K)} {us : List K} (h : ∀ k ∈ us, W k = W' k) : VL vA W us = VL vA W' us := by
  unfold VL
  induction us with
  | nil => rfl
  | cons k us ih => rw [List.flatMap_cons, List.flatMap_cons, h k (.head _), ih fun k hk => h k (.tail _ hk)]
theorem VL_erase {vA : K → Addr} {W : K → List (CData K)} {us : List K} {x : K} (hx : x ∈ us) : (VL vA W us).Perm (vent vA x (W x) ++ VL vA W (us.erase x)) := (List.perm_cons_erase hx).flatMap_right _
def updW (W : K → List (CData K)) (x : K) (d : List (CData K)) : K → List (CData K) := fun y => if y = x then d else W y
theorem VL_set {vA : K → Addr} {W : K → List (CData K)} {us : List K} {x : K} {d : List (CData K)} (hx : x ∈ us) (hn : us.Nodup) : (VL vA (updW W x d) us).Perm (vent vA x d ++ VL vA W (us.erase x)) := by
  refine (VL_erase hx).trans ?_
  have e1 : updW W x d x = d := by unfold updW; rw [if_pos rfl]
  have e2 : VL vA (updW W x d) (us.erase x) = VL vA W (us.erase x) := VL_congr fun k hk => by
    unfold updW
    rw [if_neg]
    rintro rfl
    exact (List.Nodup.not_mem_erase hn) hk
  rw [e1, e2]
def clr (C : CData K) : CData K := { C with t := 0 }
theorem TL_snoc {q : List (CData K)} {C : CData K} : TL (q ++ [C]) = TL q ++ [(C.t, .tup [.ref C.c, .ref C.va])] := by unfold TL; rw [List.map_append]; rfl
set_option maxHeartbeats 4000000 in
/-- each variable's constraints are listed -/
theorem ga3 {RR : Result → Shared → Prop} {da cn vc : Addr} {keys : List K} {vA : K → Addr} {rest : Led K} {q : List (CData K)} (hr : Room A 8) (B : Bs w g) (hnk : keys.Nodup) (hkz : keys.length < 60)
    (hq : ∀ C ∈ q, ItemOk knd g keys C) (hqz : q.length < 90)
    (H : St knd g R L (vsA da cn vc) ((cn, .lst (q.map fun C => .ref C.t)) :: (vc, .dct (keys.map fun k => (k, .ref (vA k)))) :: (TL q ++ (VL vA (fun _ => []) keys ++ rest))) s)
    (h : ∀ W s', (∀ k ∈ keys, (W k).map clr = (q.filter fun C => decide (k ∈ C.ks)).map clr) →
      St knd g R L (vsA da cn vc) ((cn, .lst (q.map fun C => .ref C.t)) :: (vc, .dct (keys.map fun k => (k, .ref (vA k)))) :: (TL q ++ (VL vA W keys ++ rest))) s' → wpAny (model prog w) A (execs ((bdy 2 10).drop 7) (envA L)) (FnQ RR) E s') :
    wpAny (model prog w) A (execs ((bdy 2 10).drop 6) (envA L)) (FnQ RR) E s := by
  have kt := kt_ga
  refine xs_cons (st := _) (rest := _) ?_
  walk_at "go"
  obtain ⟨oc, hoc, hkc, fx⟩ := H.fix (.head _)
  have H3 := fx _ .head
  refine start_lst H3 hr.handled hoc hkc ?_
  intro I s3 W0 H4
  refine' for_st (g := g) (R := R) (L := L) (X := K → List (CData K)) (fun _ => vsA da cn vc) (fun W => (cn, .raw oc) :: (vc, .dct (keys.map fun k => (k, .ref (vA k)))) :: (TL q ++ (VL vA W keys ++ rest)))
    (fun i W => ∀ k ∈ keys, (W k).map clr = ((q.take i).filter fun C => decide (k ∈ C.ks)).map clr) (fun _ => []) W0 ?src ?h0 H4 ?turn ?done
  case src => intro i q s' _ hS; exact (hS.has (List.mem_append_right (oneIt I _ i) (.head _))).rawE
  case h0 => intro k _; rw [List.take_zero]; rfl
  case turn =>
    rintro i W v new s' E' hi hJ ⟨hv, rfl⟩ H6
    rw [List.length_map] at hi
    rw [List.getElem?_map, List.getElem?_eq_getElem hi] at hv
    generalize hCe : q[i] = C at *
    have hCm : C ∈ q := hCe ▸ List.getElem_mem hi
    obtain rfl : Value.ref C.t = v := Option.some.inj hv
    obtain ⟨c1, c2, c3, c4, c5, c6, c7, c8, c9⟩ := hq C hCm
    replace H6 := show St knd g R L (vsA da cn vc) ((I, seqIt "list_iterator" cn (i + 1)) :: (cn, .raw oc) :: (vc, .dct (keys.map fun k => (k, .ref (vA k)))) :: (TL q ++ (VL vA W keys ++ rest))) s' from H6
    have hCt : (C.t, Kd.tup [.ref C.c, .ref C.va]) ∈ (I, seqIt "list_iterator" cn (i + 1)) :: (cn, .raw oc) :: (vc, Kd.dct (keys.map fun k => (k, .ref (vA k)))) :: (TL q ++ (VL vA W keys ++ rest)) :=
      .tail _ (.tail _ (.tail _ (List.mem_append_left _ (List.mem_map.mpr ⟨C, hCm, rfl⟩))))
    refine aTuple2 H6 (H6.has hCt) hr.handled fun s7 H7 => ?_
    walk_at "go"
    rename_i s8 H8
    obtain ⟨ova, hova, hkv⟩ := c3.obj
    refine start_vars H8 hr.handled (H8.o hova) hkv ?_
    intro I2 kI s9 W2 H9
    refine' for_st (g := g) (R := R) (L := L) (X := K → List (CData K)) (fun _ => [("variables", .ref C.va), ("constraint", .ref C.c), ("domains", .ref da), ("constraints", .ref cn), ("vconstraints", .ref vc)])
      (fun W => (I, seqIt "list_iterator" cn (i + 1)) :: (cn, .raw oc) :: (vc, .dct (keys.map fun k => (k, .ref (vA k)))) :: (TL q ++ (VL vA W keys ++ rest)))
      (fun j W => ∀ k ∈ keys, (W k).map clr = ((q.take i).filter fun C => decide (k ∈ C.ks)).map clr ++ (if k ∈ C.ks.take j then [clr C] else [])) W W2 ?src2 ?h02 H9 ?turn2 ?done2
    case src2 => intro i q s' _ hS; exact hS.o hova
    case h02 => intro k hk; rw [List.take_zero, if_neg (by intro h; cases h), List.append_nil]; exact hJ k hk
    case turn2 =>
      rintro j W1 u new s10 E2 hj hJ1 ⟨hu, rfl⟩ H10
      have hjk : j < C.ks.length := by rw [← c4.1]; exact hj
      have hkj : C.ks[j]? = some C.ks[j] := List.getElem?_eq_getElem hjk
      generalize hxe : C.ks[j] = x at hkj
      have hxm : x ∈ C.ks := List.mem_of_getElem? hkj
      have hxk := c9 x hxm
      have hkey := c4.2 j u x hu hkj
      have hv1 : valueAt (keys.map fun k => (k, Value.ref (vA k))) x = some (.ref (vA x)) := value_map hxk
      have pm : ∀ {W : K → List (CData K)} {d : List (CData K)} {p1 p2 p3 p4 : Addr × Kd K} {t r u : Led K}, u.Perm (vent vA x d ++ VL vA W (keys.erase x)) → (p1 :: p2 :: p3 :: p4 :: (t ++ (u ++ r))).Perm ((vA x, .lst (d.map fun C => .ref C.t)) :: p1 :: p2 :: p3 :: p4 :: (t ++ (TL d ++ (VL vA W (keys.erase x) ++ r)))) := fun {W d p1 p2 p3 p4 t r u} hu => by
        classical
        refine List.perm_iff_count.mpr fun e => ?_
        have := hu.count_eq e
        simp only [List.count_append, List.count_cons, vent] at this ⊢
        omega
      have H11 := H10.perm (pm (d := W1 x) (VL_erase hxk)).symm
      have hWz : ((W1 x).map fun C => Value.ref C.t).length < 1000 := by
        have := congrArg List.length (hJ1 x hxk)
        rw [List.length_map, List.length_append, List.length_map] at this
        have h1 := List.length_filter_le (fun C => decide (x ∈ C.ks)) (q.take i)
        rw [List.length_take] at h1
        have h2 : (if x ∈ C.ks.take j then [clr C] else []).length ≤ 1 := by split <;> simp
        rw [List.length_map]; omega
      walk_at "go"
      rename_i t s12 H12 s13 H13
      have hxt : x ∉ C.ks.take j := by
        intro hm
        obtain ⟨m, hm', e⟩ := List.getElem_of_mem hm
        rw [List.length_take] at hm'
        rw [List.getElem_take, ← hxe] at e
        have := (List.getElem_inj c8).mp e
        omega
      have htk : ∀ k, k ∈ C.ks.take (j + 1) ↔ k ∈ C.ks.take j ∨ k = x := fun k => by
        rw [List.take_add_one, hkj, List.mem_append]; simp
      refine for_next ⟨updW W1 x (W1 x ++ [{ C with t := t }]), fun k hk => ?_, ?_⟩
      · by_cases e : k = x
        · subst e
          have e1 : updW W1 k (W1 k ++ [{ C with t := t }]) k = W1 k ++ [{ C with t := t }] := by unfold updW; rw [if_pos rfl]
          rw [e1, List.map_append, hJ1 k hk, if_neg hxt, List.append_nil, if_pos ((htk k).mpr (.inr rfl))]; rfl
        · have e1 : updW W1 x (W1 x ++ [{ C with t := t }]) k = W1 k := by unfold updW; rw [if_neg e]
          rw [e1, hJ1 k hk]
          congr 1
          by_cases m : k ∈ C.ks.take j
          · rw [if_pos m, if_pos ((htk k).mpr (.inl m))]
          · rw [if_neg m, if_neg fun h => ((htk k).mp h).elim m e]
      · have H14 := H13.perm ((pm (W := W1) (d := W1 x ++ [{ C with t := t }]) (t := TL q) (r := rest) (p1 := (I2, kI (j + 1))) (p2 := (I, seqIt "list_iterator" cn (i + 1))) (p3 := (cn, .raw oc)) (p4 := (vc, .dct (keys.map fun k => (k, .ref (vA k))))) (VL_set hxk hnk)).trans (by
          rw [TL_snoc, List.map_append, List.map_cons, List.map_nil]
          walk_at "pc"))
        exact H14.sub (fun p hp => .tail _ hp) (List.Sublist.refl _)
    case done2 =>
      rintro W1 s10 E2 hJ1 H10
      refine wpAny_execs_nil (nx (wpAny_execs_nil (for_next ⟨W1, fun k hk => ?_, H10.sub (fun p hp => .tail _ (.tail _ hp)) (List.Sublist.refl _)⟩)))
      rw [hJ1 k hk, c4.1, List.take_length, List.take_add_one, List.getElem?_eq_getElem hi, hCe, List.filter_append, List.map_append]
      congr 1
      by_cases m : k ∈ C.ks
      · rw [if_pos m]; simp [m]
      · rw [if_neg m]; simp [m]
  case done =>
    rintro W s' E' hJ H6
    rw [List.length_map, List.take_length] at hJ
    refine wpAny_execs_nil (nx (h W _ hJ ?_))
    exact H6.unfix hkc .head
end
end
section
open PySem PySem.W PySem.Calls PyProof.Rows
set_option Elab.async false
set_option maxRecDepth 100000
set_option maxHeartbeats 400000
set_option linter.unusedVariables false
set_option linter.unusedSectionVars false

local macro_rules | `(tactic| walk_at "isB") => `(tactic| first | (with_reducible exact b_list))
local macro_rules | `(tactic| walk_at "isG") => `(tactic| fail)
local macro_rules | `(tactic| walk_at "isD") => `(tactic| fail)
local macro_rules | `(tactic| walk_at "isF") => `(tactic| fail)
local macro_rules | `(tactic| walk_at "isC") => `(tactic| first | (with_reducible exact cg_pr) | (with_reducible exact cga_pr) | (with_reducible exact no_vars) | (with_reducible exact no_cons))
section
variable {prog : Program} {w : World} {K : Type} [DecidableEq K] {knd : KeyKind prog w K} {A : Around} {s : Shared} {E : Value → Shared → Prop} {g : Heap} {R : Side} {L : Addr}
section
variable {vs : Vars} {l : Led K}
theorem cListDict {d : Addr} {kvs : List (K × Value)} {Q : Value → Shared → Prop} (H : St knd g R L vs l s) (hh : A.handled = none) (D : Has knd s.heap d (.dct kvs)) (hd : (d == sysModules) = false) (hz : kvs.length ≤ 1000)
    (h : ∀ b ws s', ws.length = kvs.length → (∀ (i : Nat) (v : Value), ws[i]? = some v → ∃ k x, kvs[i]? = some (k, x) ∧ knd.is k v = true) → St knd g R L vs ((b, .lst ws) :: l) s' → Q (.ref b) s') : wpAny (model prog w) A (call (.type "list") [.ref d]) Q E s := by
  obtain ⟨ep, hat⟩ := D.dict.dictAt
  refine kdl_call (kdl_dict (knd := knd) (kvs := kvs) (ep := ep) hd) hh hat (by rw [sizeLine_eq]; omega) fun h' tk acc' c' hk hD hacc => ?_
  exact h _ acc'.toList _ (by rw [Array.length_toList]; exact hacc.1) (fun i v e => hacc.2 i v (by rw [← Array.getElem?_toList]; exact e)) (H.new hk (Nat.le_refl _) ⟨_, hD, c', by simp⟩)
theorem cListSeq {a : Addr} {xs : List Value} {Q : Value → Shared → Prop} (H : St knd g R L vs l s) (D : VarsAt knd s.heap a xs) (hz : xs.length ≤ 1000)
    (h : ∀ b s', St knd g R L vs ((b, .lst xs) :: l) s' → Q (.ref b) s') : wpAny (model prog w) A (call (.type "list") [.ref a]) Q E s := by
  have key : ∀ {T : String} {o : Obj} {n : Nat}, (T = "list" ∨ T = "tuple") → s.heap.get? a = some o → o.cls = .type T → o.data = .seq xs.toArray n → wpAny (model prog w) A (call (.type "list") [.ref a]) Q E s := fun {T o n} hT ho hc hd =>
    call_list_seq a hT ho hc hd (fun h' c' hk hS => h _ _ (H.new (t := s.toks) hk (Nat.le_refl _) ⟨_, hS, c', rfl⟩)) (by rw [List.size_toArray, sizeLine_eq]; omega)
  rcases D with ⟨o, ho, n, rfl⟩ | ⟨o, ho, rfl⟩
  · exact key (.inl rfl) ho rfl rfl
  · exact key (.inr rfl) ho rfl rfl
end
local macro_rules | `(tactic| walk_at "op") => `(tactic| ((with_reducible refine' cListDict (by assumption) ?hh ?D ?hd ?hz ?_); (case hh => (exact Room.handled (by assumption))); (case D => walk_at "has"); (case hd => walk_at "nmod"); (case hz => walk_at "size"); intro _ _ _ _ _ _))
def updA (vA : K → Addr) (k : K) (a : Addr) : K → Addr := fun x => if x = k then a else vA x
theorem VL_vA {vA vA' : K → Addr} {W : K → List (CData K)} {us : List K} (h : ∀ k ∈ us, vA k = vA' k) : VL vA W us = VL vA' W us := by
  unfold VL
  induction us with
  | nil => rfl
  | cons k us ih => rw [List.flatMap_cons, List.flatMap_cons, vent, vent, h k (.head _), ih fun k hk => h k (.tail _ hk)]
theorem VL_snoc0 {vA : K → Addr} {ks : List K} {k : K} : VL vA (fun _ => []) (ks ++ [k]) = VL vA (fun _ => []) ks ++ [(vA k, .lst [])] := by
  unfold VL; rw [List.flatMap_append, List.flatMap_cons, List.flatMap_nil, List.append_nil]; rfl
set_option maxHeartbeats 4000000 in
/-- the empty lists -/
theorem ga2 {RR : Result → Shared → Prop} {da cn : Addr} {oda : Obj} {kd : List (K × Value)} {rest : Led K} (hr : Room A 8) (B : Bs w g) (hnk : (kd.map (·.1)).Nodup) (hkz : kd.length < 60) (hnda : (da == sysModules) = false)
    (hda : (Kd.dct kd).holds knd oda)
    (H : St knd g R L [("domains", .ref da), ("constraints", .ref cn)] ((da, .raw oda) :: rest) s)
    (h : ∀ vc vA s', St knd g R L (vsA da cn vc) ((vc, .dct ((kd.map (·.1)).map fun k => (k, .ref (vA k)))) :: (da, .raw oda) :: (VL vA (fun _ => []) (kd.map (·.1)) ++ rest)) s' → wpAny (model prog w) A (execs ((bdy 2 10).drop 6) (envA L)) (FnQ RR) E s') :
    wpAny (model prog w) A (execs ((bdy 2 10).drop 4) (envA L)) (FnQ RR) E s := by
  have kt := kt_ga
  refine xs_cons (st := _) (rest := _) ?_
  walk_at "goS"
  rename_i vc s1 H1 s2 H2
  refine nx (xs_cons (st := _) (rest := _) ?_)
  walk_at "go"
  refine' start_keys H2 hr.handled hnda (H2.has (.tail _ (.head _))).rawE hda ?_
  intro I s3 ep W H3
  refine' for_st (g := g) (R := R) (L := L) (X := List K × (K → Addr)) (fun _ => vsA da cn vc) (fun x => (vc, .dct (x.1.map fun k => (k, .ref (x.2 k)))) :: (da, .raw oda) :: (VL x.2 (fun _ => []) x.1 ++ rest))
    (fun i x => x.1 = (kd.map (·.1)).take i) ([], fun _ => 0) W ?src ?h0 ?H0 ?turn ?done
  case src => intro i q s' _ hS; exact (hS.has (List.mem_append_right (oneIt I _ i) (.tail _ (.head _)))).rawE
  case h0 => exact (List.take_zero).symm
  case H0 =>
    refine' St.vsub H3 ?hv (List.Sublist.refl _)
    case hv => walk_at "vsub"
  case turn =>
    rintro i ⟨ks1, vA⟩ v new s' E' hi hJ ⟨⟨k, x, hkv, hkey⟩, rfl⟩ H6
    dsimp only at hJ H6
    have hki : (kd.map (·.1))[i]? = some k := by rw [List.getElem?_map, hkv]; rfl
    have hk1 : k ∉ ks1 := by
      intro hm
      rw [hJ] at hm
      obtain ⟨j, hj, e⟩ := List.getElem_of_mem hm
      rw [List.length_take] at hj
      rw [List.getElem_take] at e
      obtain ⟨hi2, e2⟩ := List.getElem?_eq_some_iff.mp hki
      have := (List.getElem_inj hnk).mp (e.trans e2.symm)
      omega
    have hvn : valueAt (ks1.map fun k => (k, Value.ref (vA k))) k = none := by
      cases q : valueAt (ks1.map fun k => (k, Value.ref (vA k))) k with
      | none => rfl
      | some z =>
        have := valueAt_some.mp (show (valueAt (ks1.map fun k => (k, Value.ref (vA k))) k).isSome = true by rw [q]; rfl)
        rw [List.map_map] at this
        obtain ⟨k', hk', e⟩ := List.mem_map.mp this
        exact absurd ((show k' = k from e) ▸ hk') hk1
    have hz1 : (ks1.map fun k => (k, Value.ref (vA k))).length ≤ 900 := by rw [List.length_map, hJ, List.length_take, List.length_map]; omega
    replace H6 := show St knd g R L (vsA da cn vc) ((I, keyIt "dict_keyiterator" da kd.length ep (i + 1)) :: (vc, .dct (ks1.map fun k => (k, .ref (vA k)))) :: (da, .raw oda) :: (VL vA (fun _ => []) ks1 ++ rest)) s' from H6
    walk_at "go"
    rename_i c s8 H8 s9 H9
    rw [stored_new hvn] at H9
    have hu1 : ∀ y ∈ ks1, updA vA k c y = vA y := fun y hy => by unfold updA; rw [if_neg]; rintro rfl; exact hk1 hy
    have hu2 : updA vA k c k = c := by unfold updA; rw [if_pos rfl]
    refine for_next ⟨(ks1 ++ [k], updA vA k c), ?_, ?_⟩
    · dsimp only
      rw [List.take_add_one, hki, hJ]; rfl
    · dsimp only
      rw [VL_snoc0, VL_vA hu1, hu2, List.map_append, List.map_congr_left (g := fun k => (k, Value.ref (vA k))) fun y hy => by rw [hu1 y hy]]
      rw [List.map_cons, List.map_nil, hu2]
      dsimp only [oneIt]
      exact (H9.perm (by walk_at "pc")).sub (fun p hp => .tail _ hp) (List.Sublist.refl _)
  case done =>
    rintro ⟨ks1, vA⟩ s' E' hJ H6
    dsimp only at hJ H6
    have e : ks1 = kd.map (·.1) := by rw [hJ, List.take_of_length_le (by rw [List.length_map]; omega)]
    subst e
    exact wpAny_execs_nil (nx (h vc vA _ H6))
end
end
section
open PySem PySem.W PySem.Calls PyProof.Rows
set_option Elab.async false
set_option maxRecDepth 100000
set_option maxHeartbeats 400000
set_option linter.unusedVariables false
set_option linter.unusedSectionVars false

local macro_rules | `(tactic| walk_at "isB") => `(tactic| first | (with_reducible exact b_list))
local macro_rules | `(tactic| walk_at "isG") => `(tactic| fail)
local macro_rules | `(tactic| walk_at "isD") => `(tactic| fail)
local macro_rules | `(tactic| walk_at "isF") => `(tactic| fail)
local macro_rules | `(tactic| walk_at "isC") => `(tactic| first | (with_reducible exact cg_pr) | (with_reducible exact cga_pr) | (with_reducible exact no_vars) | (with_reducible exact no_cons))
section
variable {prog : Program} {w : World} {K : Type} [DecidableEq K] {knd : KeyKind prog w K} {A : Around} {s : Shared} {E : Value → Shared → Prop} {g : Heap} {R : Side} {L : Addr}
theorem ItemOk.clr {h : Heap} {keys : List K} {C C' : CData K} (e : clr C = clr C') (x : ItemOk knd h keys C') : ItemOk knd h keys C := by
  obtain ⟨c, cx, f, va, t, vals, ks, P⟩ := C
  obtain ⟨c', cx', f', va', t', vals', ks', P'⟩ := C'
  unfold Csp.clr at e
  cases e
  exact ⟨x.c, x.cx, x.v, x.k, x.z, x.n1, x.n0, x.nd, x.sub⟩
theorem ItemOk.keep {h h' : Heap} {keys : List K} {C : CData K} (x : ItemOk knd h keys C) (e : ∀ b o, h.get? b = some o → h'.get? b = some o) : ItemOk knd h' keys C :=
  ⟨x.c.keep fun o => e _ o, x.cx.keep fun o => e _ o, x.v.keep fun o => e _ o, x.k, x.z, x.n1, x.n0, x.nd, x.sub⟩
local macro_rules | `(tactic| walk_at "op") => `(tactic| ((with_reducible refine' cListDict (by assumption) ?hh ?D ?hd ?hz ?_); (case hh => (exact Room.handled (Room.deeper (by assumption) _))); (case D => walk_at "has"); (case hd => walk_at "nmod"); (case hz => walk_at "size"); intro _ _ _ _ _ _))
theorem filter_clr {q items : List (CData K)} (h : q.map clr = items.map clr) (k : K) : (q.filter fun C => decide (k ∈ C.ks)).map clr = (items.filter fun C => decide (k ∈ C.ks)).map clr := by
  have e : ∀ l : List (CData K), (l.filter fun C => decide (k ∈ C.ks)).map clr = (l.map clr).filter fun C => decide (k ∈ C.ks) := fun l => by
    rw [List.filter_map]; rfl
  rw [e, e, h]
theorem iVarsB {vs : Vars} {l : Led K} {a : Addr} {vals : List Value} {Q : Bool → Shared → Prop} (H : St knd g R L vs l s) (D : VarsAt knd g a vals) (hz : vals.length < 1000) (h : ∀ s', St knd g R L vs l s' → Q (!vals.isEmpty) s') : wpAny (model prog w) A (truthy (.ref a)) Q E s :=
  iVars H (D.keep fun o e => H.o e) hz h
local macro_rules | `(tactic| walk_at "op") => `(tactic| ((with_reducible refine' iVarsB (by assumption) (by assumption) ?hz ?_); (case hz => walk_at "size"); intro _ _))
set_option maxHeartbeats 4000000 in
theorem ga_spec {RR : Result → Shared → Prop} {g₀ : Heap} {pr px vd cl : Addr} {sv : Value} {Y : Lay K} {D : K → DS} {items : List (CData K)} (hr : Room A 12) (X : At knd g₀ s (DL Y D Y.keys)) (hpr : Has knd g₀ pr (.raw (instObj 110 px)))
    (hpx : Has knd g₀ px (.att [("_solver", sv), ("_constraints", .ref cl), ("_variables", .ref vd)])) (hvd : Has knd g₀ vd (.dct (Y.keys.map fun k => (k, .ref (Y.dA k))))) (hnvd : (vd == sysModules) = false)
    (hcl : Has knd g₀ cl (.lst (items.map fun C => .ref C.t))) (hit : ∀ C ∈ items, Has knd g₀ C.t (.tup [.ref C.c, .ref C.va]) ∧ ItemOk knd g₀ Y.keys C) (hiz : items.length < 90) (hnk : Y.keys.Nodup) (hkz : Y.keys.length < 60)
    (hdx : ∀ k ∈ Y.keys, Has knd g₀ (Y.dxA k) (.att (domAtt (Y.hlA k) (Y.slA k)))) (hD : ∀ k ∈ Y.keys, (D k).hs = [] ∧ (D k).st = [] ∧ (D k).xs ≠ [] ∧ (D k).xs.length < 400)
    (h : ∀ rt da cn vc vA W cs s', (∀ k ∈ Y.keys, (W k).map clr = (items.filter fun C => decide (k ∈ C.ks)).map clr) →
      Eff knd s ((DL Y D Y.keys).map (·.1)) ((rt, .tup [.ref da, .ref cn, .ref vc]) :: (da, .dct (Y.keys.map fun k => (k, .ref (Y.dA k)))) :: (cn, .lst cs) :: (vc, .dct (Y.keys.map fun k => (k, .ref (vA k)))) :: (VL vA W Y.keys ++ DL Y D Y.keys)) s' → RR (.ok (.ret (.ref rt))) s') :
    codeAny (model prog w) A (.call (.ref 107) ⟨[.ref pr], []⟩) RR s := by
  refine enter (knd := knd) (names := ["self"]) (vals := [.ref pr]) X hr (X.k _ _ (X.B.X _ _ (fn_ga _))) rfl ((codeRec_of X.B.X (cd_ga _)).keeps X.k) (BindsTo.of_eq (by kernel_rfl)) (by decide +kernel) (by decide +kernel)
    (fun g L s₁ hg hg' B H => ?_) (by decide +kernel)
  have kt := kt_ga
  replace H : St knd g (sideOf s) L [("self", .ref pr)] (DL Y D Y.keys) s₁ := H
  have hpr2 := hpr.keep fun o e => hg' _ o e
  have hpx2 := hpx.keep fun o e => hg' _ o e
  have hvd2 := hvd.keep fun o e => hg' _ o e
  have hcl2 := hcl.keep fun o e => hg' _ o e
  have hkd : (Y.keys.map fun k => (k, Value.ref (Y.dA k))).length ≤ 900 := by rw [List.length_map]; omega
  refine xs_cons (st := _) (rest := _) ?_
  walk_at "goS"
  refine nx (xs_cons (st := _) (rest := _) ?_)
  walk_at "goS"
  refine nx (xs_cons (st := _) (rest := _) ?_)
  walk_at "goS"
  refine nx (xs_cons (st := _) (rest := _) ?_)
  walk_at "go"
  rename_i da sA HA sB HB b ws sC hws hwi HC sD HD cn sE HE sF HF sG HG
  obtain ⟨ocl, hocl, hkcl⟩ := id hcl2
  refine start_lst HG (hr.deeper _).handled (HG.o hocl) hkcl ?_
  intro I s3 W0 H3
  have H4 : St knd g (sideOf s) L [("domains", .ref da), ("constraints", .ref cn)] (oneIt I (seqIt "list_iterator" cl) 0 ++ ((cn, .lst (([] : List (CData K)).map fun C => .ref C.t)) :: (da, .dct (Y.keys.map fun k => (k, .ref (Y.dA k)))) :: (TL [] ++ DL Y D Y.keys))) s3 := by
    refine' St.vsub H3 ?hv (List.Sublist.cons_cons _ (List.Sublist.cons_cons _ (List.sublist_cons_self ..)))
    case hv => walk_at "vsub"
  refine' for_st (g := g) (R := sideOf s) (L := L) (X := List (CData K)) (fun _ => [("domains", .ref da), ("constraints", .ref cn)]) (fun q => (cn, .lst (q.map fun C => .ref C.t)) :: (da, .dct (Y.keys.map fun k => (k, .ref (Y.dA k)))) :: (TL q ++ DL Y D Y.keys))
    (fun i q => q.map clr = (items.take i).map clr) [] W0 ?src ?h0 H4 ?turn ?done
  case src => intro i q s' _ hS; exact hS.o hocl
  case h0 => rw [List.take_zero]
  case turn =>
    rintro i q v new s' E' hi hJ ⟨hv, rfl⟩ H6
    rw [List.length_map] at hi
    rw [List.getElem?_map, List.getElem?_eq_getElem hi] at hv
    generalize hCe : items[i] = C at *
    have hCm : C ∈ items := hCe ▸ List.getElem_mem hi
    obtain rfl : Value.ref C.t = v := Option.some.inj hv
    obtain ⟨hCt, hCo⟩ := hit C hCm
    obtain ⟨c1, c2, c3, c4, c5, c6, c7, c8, c9⟩ := hCo.keep hg'
    have hqz : (q.map fun C => Value.ref C.t).length < 1000 := by
      have := congrArg List.length hJ
      rw [List.length_map, List.length_map, List.length_take] at this
      rw [List.length_map]; omega
    replace H6 := show St knd g (sideOf s) L [("domains", .ref da), ("constraints", .ref cn)] ((I, seqIt "list_iterator" cl (i + 1)) :: (cn, .lst (q.map fun C => .ref C.t)) :: (da, .dct (Y.keys.map fun k => (k, .ref (Y.dA k)))) :: (TL q ++ DL Y D Y.keys)) s' from H6
    refine aTuple2 H6 (H6.base (hCt.keep fun o e => hg' _ o e)) (hr.deeper _).handled fun s7 H7 => ?_
    walk_at "go"
    have e1 : (!!C.vals.isEmpty) = false := by cases q : C.vals with | nil => exact absurd q c7 | cons _ _ => rfl
    refine ifF e1 ?_
    clear e1
    walk_at "go"
    rename_i t s12 H12 s13 H13
    refine for_next ⟨q ++ [{ C with t := t }], ?_, ?_⟩
    · rw [List.map_append, hJ, List.take_add_one, List.getElem?_eq_getElem hi, hCe, List.map_append]; rfl
    · rw [TL_snoc, List.map_append, List.map_cons, List.map_nil]
      dsimp only [oneIt]
      exact (H13.perm (by walk_at "pc")).sub (fun p hp => .tail _ (.tail _ hp)) (List.Sublist.refl _)
  case done =>
    rintro q s' E' hJ H6
    rw [List.length_map, List.take_length] at hJ
    have hqo : ∀ C ∈ q, ItemOk knd g Y.keys C := fun C hC => by
      have : clr C ∈ items.map clr := hJ ▸ List.mem_map_of_mem hC
      obtain ⟨C', hC', e⟩ := List.mem_map.mp this
      exact ((hit C' hC').2.keep hg').clr e.symm
    have hqz : q.length < 90 := by
      have := congrArg List.length hJ
      rw [List.length_map, List.length_map] at this; omega
    have hkk : (Y.keys.map fun k => (k, Value.ref (Y.dA k))).map (·.1) = Y.keys := by rw [List.map_map]; exact List.map_id _
    have hnda := H6.notMod (.tail _ (.head _))
    obtain ⟨oda, hoda, hkda, fx⟩ := H6.fix (.tail _ (.head _))
    have H7 := (fx _ (.tail .head)).perm (l' := (da, .raw oda) :: ((cn, .lst (q.map fun C => .ref C.t)) :: (TL q ++ DL Y D Y.keys))) (List.Perm.swap _ _ _)
    refine wpAny_execs_nil (nx (ga2 (Room.less (hr.deeper _) (by decide)) B (by rw [hkk]; exact hnk) (by rw [List.length_map]; exact hkz) hnda hkda H7 fun vc vA s8 H8 => ?_))
    rw [hkk] at H8
    have H9 := H8.perm (l' := (cn, .lst (q.map fun C => .ref C.t)) :: (vc, .dct (Y.keys.map fun k => (k, .ref (vA k)))) :: (TL q ++ (VL vA (fun _ => []) Y.keys ++ ((da, .raw oda) :: DL Y D Y.keys)))) (by walk_at "pc")
    refine ga3 (Room.less (hr.deeper _) (by decide)) B hnk hkz hqo hqz H9 fun W s10 hW H10 => ?_
    have H11 := H10.perm (l' := (cn, .lst (q.map fun C => .ref C.t)) :: (TL q ++ (DL Y D Y.keys ++ ((da, .raw oda) :: ((vc, .dct (Y.keys.map fun k => (k, .ref (vA k)))) :: VL vA W Y.keys))))) (by walk_at "pc")
    refine ga4 (Room.less (hr.deeper _) (by decide)) B hnk hkz hnda hkda (fun k hk => (hdx k hk).keep fun o e => hg' _ o e) hD hqo (by omega) H11 fun rt s12 H12 => ?_
    have H13 := H12.unfix (l' := (rt, .tup [.ref da, .ref cn, .ref vc]) :: (DL Y D Y.keys ++ ((da, .dct (Y.keys.map fun k => (k, .ref (Y.dA k)))) :: ((cn, .lst (q.map fun C => .ref C.t)) :: (TL q ++ ((vc, .dct (Y.keys.map fun k => (k, .ref (vA k)))) :: VL vA W Y.keys)))))) hkda (.tail (Up.left .head _))
    have H14 := H13.perm (l' := ((rt, .tup [.ref da, .ref cn, .ref vc]) :: (da, .dct (Y.keys.map fun k => (k, .ref (Y.dA k)))) :: (cn, .lst (q.map fun C => .ref C.t)) :: (vc, .dct (Y.keys.map fun k => (k, .ref (vA k)))) :: (VL vA W Y.keys ++ DL Y D Y.keys)) ++ TL q) (by walk_at "pc")
    refine h rt da cn vc vA W _ s12 (fun k hk => ?_) (St.toEff H14 (List.sublist_append_left ..) hg)
    rw [hW k hk]
    exact filter_clr hJ k
end
end
section
open PySem PySem.W PySem.Calls PyProof.Rows
set_option Elab.async false
set_option maxRecDepth 100000
set_option maxHeartbeats 400000
set_option linter.unusedVariables false
set_option linter.unusedSectionVars false
theorem fn_ps (P : Params) : (KK P).lookup 93 = some (methO "getSolutions" "Problem.getSolutions" 2 8 93 .none) := by kernel_rfl
theorem cd_ps (P : Params) : codeIn (KK P) (.ref 92) "Problem.getSolutions" = true := by kernel_rfl
abbrev tb_ps : List (Str × NameKind) := [("self", .local), ("domains", .local), ("constraints", .local), ("vconstraints", .local)]
theorem kt_ps : Kt (scp 2 8) tb_ps := ⟨by decide +kernel, by decide +kernel⟩
theorem hf_ga : HasFn 110 "_getArgs" 107 := ⟨fun P => by kernel_rfl, fun P => by kernel_rfl⟩

local macro_rules | `(tactic| walk_at "isB") => `(tactic| fail)
local macro_rules | `(tactic| walk_at "isG") => `(tactic| fail)
local macro_rules | `(tactic| walk_at "isD") => `(tactic| fail)
local macro_rules | `(tactic| walk_at "isF") => `(tactic| first | (with_reducible exact fn_ga _) | (with_reducible exact fn_gsb _) | (with_reducible exact fn_gsr _))
local macro_rules | `(tactic| walk_at "isC") => `(tactic| first | (with_reducible exact cg_pr) | (with_reducible exact cga_pr) | (with_reducible exact no_solver) | (with_reducible exact hf_ga) | (with_reducible exact cg_bt) | (with_reducible exact cga_bt) | (with_reducible exact hf_gsb) | (with_reducible exact cg_rs) | (with_reducible exact cga_rs) | (with_reducible exact hf_gsr))
section
variable {prog : Program} {w : World} {K : Type} [DecidableEq K] {knd : KeyKind prog w K} {A : Around} {s : Shared} {E : Value → Shared → Prop} {g : Heap} {R : Side} {L : Addr}
theorem VL_mem {vA : K → Addr} {W : K → List (CData K)} {us : List K} {k : K} (hk : k ∈ us) : ∀ p ∈ vent vA k (W k), p ∈ VL vA W us := fun p hp => List.mem_flatMap.mpr ⟨k, hk, hp⟩
theorem clr_mem {l l' : List (CData K)} (h : l.map clr = l'.map clr) {C : CData K} (hC : C ∈ l) : ∃ C' ∈ l', clr C = clr C' := by
  have : clr C ∈ l'.map clr := h ▸ List.mem_map_of_mem hC
  obtain ⟨C', hC', e⟩ := List.mem_map.mp this
  exact ⟨C', hC', e.symm⟩
theorem clr_eq {C C' : CData K} (h : clr C = clr C') : C.c = C'.c ∧ C.cx = C'.cx ∧ C.f = C'.f ∧ C.va = C'.va ∧ C.vals = C'.vals ∧ C.ks = C'.ks ∧ C.P = C'.P := by
  obtain ⟨c, cx, f, va, t, vals, ks, P⟩ := C
  obtain ⟨c', cx', f', va', t', vals', ks', P'⟩ := C'
  unfold clr at h
  cases h
  exact ⟨rfl, rfl, rfl, rfl, rfl, rfl, rfl⟩
abbrev mkY (Y : Lay K) (da vc : Addr) (vA : K → Addr) (W : K → List (CData K)) : Lay K := { Y with da := da, vc := vc, vA := vA, vcons := W }
set_option maxHeartbeats 4000000 in
/-- all solutions of a problem -/
theorem ps_spec {RR : Result → Shared → Prop} {g₀ : Heap} {pr px vd cl sf sx C₀ : Addr} {fb : Bool} {Y : Lay K} {D : K → DS} {items : List (CData K)} {dom : K → List Int} (hr : Room A 164) (X : At knd g₀ s (DL Y D Y.keys)) (hpr : Has knd g₀ pr (.raw (instObj 110 px)))
    (hpx : Has knd g₀ px (.att [("_solver", .ref sf), ("_constraints", .ref cl), ("_variables", .ref vd)])) (hvd : Has knd g₀ vd (.dct (Y.keys.map fun k => (k, .ref (Y.dA k))))) (hnvd : (vd == sysModules) = false)
    (hcl : Has knd g₀ cl (.lst (items.map fun C => .ref C.t))) (hit : ∀ C ∈ items, Has knd g₀ C.t (.tup [.ref C.c, .ref C.va]) ∧ ItemOk knd g₀ Y.keys C) (hfn : ∀ C ∈ items, FnOk knd g₀ C.f C.ks.length C.P) (hiz : items.length < 90) (hnk : Y.keys.Nodup) (hkz : Y.keys.length < 60) (hk2 : 2 ≤ Y.keys.length)
    (hdx : ∀ k ∈ Y.keys, Has knd g₀ (Y.dxA k) (.att (domAtt (Y.hlA k) (Y.slA k)))) (hD : ∀ k ∈ Y.keys, (D k).hs = [] ∧ (D k).st = [] ∧ (D k).xs ≠ [] ∧ (D k).xs.length ≤ 90)
    (hdn : ∀ k, (dom k).Nodup) (hdom : ∀ k ∈ Y.keys, dom k = (D k).xs.map vInt ∧ ∀ v ∈ (D k).xs, ∃ i t, v = Value.int i t) (ko : KeyOrd knd)
    (hsf : Has knd g₀ sf (.raw (instObj C₀ sx))) (hsx : Has knd g₀ sx (.att [("_forwardcheck", .bool fb)])) (hC₀ : C₀ = 186 ∨ C₀ = 225) (htot : (solsOf Y.keys dom (items.map fun C => (C.ks, C.P)) []).length < 50000)
    (h : ∀ S s', SolPost knd Y dom (items.map fun C => (C.ks, C.P)) s D S s' → RR (.ok (.ret (.ref S))) s') :
    codeAny (model prog w) A (.call (.ref 93) ⟨[.ref pr], []⟩) RR s := by
  refine enter (knd := knd) (names := ["self"]) (vals := [.ref pr]) X hr (X.k _ _ (X.B.X _ _ (fn_ps _))) rfl ((codeRec_of X.B.X (cd_ps _)).keeps X.k) (BindsTo.of_eq (by kernel_rfl)) (by decide +kernel) (by decide +kernel)
    (fun g L s₁ hg hg' B H => ?_) (by decide +kernel)
  have kt := kt_ps
  replace H : St knd g (sideOf s) L [("self", .ref pr)] (DL Y D Y.keys) s₁ := H
  have hpr2 := hpr.keep fun o e => hg' _ o e
  have hpx2 := hpx.keep fun o e => hg' _ o e
  have hsf2 := hsf.keep fun o e => hg' _ o e
  have hsx2 := hsx.keep fun o e => hg' _ o e
  refine xs_cons (st := _) (rest := _) ?_
  refine Assign_Tuple ?_ rfl rfl
  walk_at "go"
  have pm : (DL Y D Y.keys).Perm (DL Y D Y.keys ++ []) := by rw [List.append_nil]
  refine callRet (ga_spec (items := items) (Room.less (hr.deeper _) (by decide)) (H.at B pm) hpr2 hpx2 (hvd.keep fun o e => hg' _ o e) hnvd (hcl.keep fun o e => hg' _ o e) (fun C hC => ⟨(hit C hC).1.keep fun o e => hg' _ o e, (hit C hC).2.keep hg'⟩) hiz hnk hkz (fun k hk => (hdx k hk).keep fun o e => hg' _ o e)
    (fun k hk => ⟨(hD k hk).1, (hD k hk).2.1, (hD k hk).2.2.1, by have := (hD k hk).2.2.2; omega⟩) fun rt da cn vc vA W cs s2 hW e2 => retq ?_)
  have H2 := H.eff pm e2
  rw [List.append_nil] at H2
  refine' aTuple3 (v1 := .ref da) (v2 := .ref cn) (v3 := .ref vc) H2 (H2.has (.head _)) (hr.deeper _).handled ?_
  intro s3 H3
  have hkzz : (Y.keys.map fun k => (k, Value.ref (Y.dA k))).length ≤ 900 := by rw [List.length_map]; omega
  walk_at "go"
  have e1 : (!!(Y.keys.map fun k => (k, Value.ref (Y.dA k))).isEmpty) = false := by cases q : Y.keys with | nil => rw [q] at hk2; simp at hk2 | cons _ _ => rfl
  refine ifF e1 (wpAny_execs_nil (nx ?_))
  clear e1
  rename_i s4 H4
  have hWz : ∀ k ∈ Y.keys, (W k).length < 90 := fun k hk => by
    have := congrArg List.length (hW k hk)
    rw [List.length_map, List.length_map] at this
    have h1 := List.length_filter_le (fun C => decide (k ∈ C.ks)) items
    omega
  have hWC : ∀ k ∈ Y.keys, ∀ C ∈ W k, ∃ C' ∈ items, clr C = clr C' ∧ k ∈ C.ks := fun k hk C hC => by
    obtain ⟨C', hC', e⟩ := clr_mem (hW k hk) hC
    obtain ⟨h1, h2⟩ := List.mem_filter.mp hC'
    exact ⟨C', h1, e, by rw [(clr_eq e).2.2.2.2.2.1]; simpa using h2⟩
  have fin : ∀ {s6 : Shared} {vs : Vars}, St knd g (sideOf s) L vs ((rt, .tup [.ref da, .ref cn, .ref vc]) :: (da, .dct (Y.keys.map fun k => (k, .ref (Y.dA k)))) :: (cn, .lst cs) :: (vc, .dct (Y.keys.map fun k => (k, .ref (vA k)))) :: (VL vA W Y.keys ++ DL Y D Y.keys)) s6 →
      ∃ g₁, At knd g₁ s6 (DL (mkY Y da vc vA W) D Y.keys) ∧ LayAt knd g₁ (mkY Y da vc vA W) ∧ (∀ b o, g.get? b = some o → g₁.get? b = some o) ∧ ∀ S s7, SolPost knd (mkY Y da vc vA W) dom (items.map fun C => (C.ks, C.P)) s6 D S s7 → SolPost knd Y dom (items.map fun C => (C.ks, C.P)) s D S s7 := by
    intro s6 vs H6
    have pm5 : ((rt, Kd.tup [.ref da, .ref cn, .ref vc]) :: (da, Kd.dct (Y.keys.map fun k => (k, .ref (Y.dA k)))) :: (cn, .lst cs) :: (vc, .dct (Y.keys.map fun k => (k, .ref (vA k)))) :: (VL vA W Y.keys ++ DL Y D Y.keys)).Perm (DL Y D Y.keys ++ ((rt, .tup [.ref da, .ref cn, .ref vc]) :: (da, .dct (Y.keys.map fun k => (k, .ref (Y.dA k)))) :: (cn, .lst cs) :: (vc, .dct (Y.keys.map fun k => (k, .ref (vA k)))) :: VL vA W Y.keys)) := by walk_at "pc"
    have X5 := H6.atAll B pm5
    refine ⟨_, X5.at_, ⟨X5.rest _ (.tail _ (.head _)), X5.rest _ (.tail _ (.tail _ (.tail _ (.head _)))), H6.notMod (.tail _ (.head _)), H6.notMod (.tail _ (.tail _ (.tail _ (.head _)))), fun k hk => ?_, fun k hk => ⟨?_, ?_⟩, fun k hk C hC => ?_, hnk, hk2, hkz⟩, X5.sub, fun S s7 hp => ?_⟩
    · exact ((hdx k hk).keep fun o e => hg' _ o e).keep fun o e => X5.sub _ o e
    · exact X5.rest _ (.tail _ (.tail _ (.tail _ (.tail _ (VL_mem hk _ (.head _))))))
    · have := hWz k hk; show (W k).length < 100; omega
    · obtain ⟨C', hC', e, hkC⟩ := hWC k hk C hC
      have hi := ((hit C' hC').2.clr e).keep fun b o q => X5.sub b o (hg' b o q)
      obtain ⟨f1, f2, f3, f4, f5, f6, f7⟩ := clr_eq e
      have hf := (hfn C' hC').keep fun b o q => X5.sub b o (hg' b o q)
      rw [← f3, ← f6, ← f7] at hf
      exact ⟨X5.rest _ (.tail _ (.tail _ (.tail _ (.tail _ (VL_mem hk _ (.tail _ (List.mem_map.mpr ⟨C, hC, rfl⟩))))))), ⟨hi.c, hi.cx, hi.v, hi.k, hf⟩, by have := hi.z; have := hi.k.1; omega⟩
    · obtain ⟨D', new, e, h1, h2⟩ := hp
      have H7 := H6.effG pm5 e
      refine ⟨D', new, St.toEffG H7 ?_ hg fun hb => e.bare (by rw [H6.gens]; exact hb), h1, h2⟩
      exact List.sublist_append_left _ _
  have T : Stat (mkY Y da vc vA W) dom (items.map fun C => (C.ks, C.P)) := by
    refine ⟨hdn, fun k hk C hC => ?_, fun c hc k hk => ?_, fun c hc => ?_⟩
    · obtain ⟨C', hC', e, _⟩ := hWC k hk C hC
      obtain ⟨f1, f2, f3, f4, f5, f6, f7⟩ := clr_eq e
      exact List.mem_map.mpr ⟨C', hC', by rw [f6, f7]⟩
    · obtain ⟨C, hC, rfl⟩ := List.mem_map.mp hc
      have hkY := (hit C hC).2.sub k hk
      obtain ⟨C', hC', e⟩ := clr_mem (hW k hkY).symm (List.mem_filter.mpr ⟨hC, by simpa using hk⟩)
      obtain ⟨f1, f2, f3, f4, f5, f6, f7⟩ := clr_eq e
      exact ⟨C', hC', by rw [f6, f7]⟩
    · obtain ⟨C, hC, rfl⟩ := List.mem_map.mp hc
      exact ⟨(hit C hC).2.nd, (hit C hC).2.sub⟩
  have V : Inv (mkY Y da vc vA W) dom (items.map fun C => (C.ks, C.P)) [] Y.keys D := by
    refine ⟨⟨List.nodup_nil, (fun p hp => nomatch hp), (fun p hp => nomatch hp), hnk, fun k hk => hk, fun k hk => ⟨fun _ => rfl, fun _ => hk⟩, fun k hk v hv => ?_, fun k hk => ?_, fun k hk x hx hnx => ?_, fun k hk => ?_, fun k hk => ?_⟩, fun c hc hall => ?_⟩
    · obtain ⟨i, t, rfl⟩ := (hdom k hk).2 v hv
      exact ⟨i, t, rfl, by rw [(hdom k hk).1]; exact List.mem_map.mpr ⟨_, hv, rfl⟩⟩
    · have := hdn k; rw [(hdom k hk).1] at this; exact this
    · rw [(hdom k hk).1] at hx; exact absurd hx hnx
    · rw [(hD k hk).1]; have := (hD k hk).2.2.2; simpa using this
    · rw [(hD k hk).2.1]; simp; omega
    · obtain ⟨C, hC, rfl⟩ := List.mem_map.mp hc
      have hi := (hit C hC).2
      cases q : C.ks with
      | nil => have := hi.k.1; rw [q] at this; exact absurd (List.length_eq_zero_iff.mp this) hi.n0
      | cons k ks => have := hall k (by dsimp only; rw [q]; exact .head _); cases this
  have hN : NE Y.keys D := fun k hk => (hD k hk).2.2.1
  rcases hC₀ with rfl | rfl
  · refine xs_cons (st := _) (rest := _) ?_
    walk_at "go"
    rename_i s6 H6
    obtain ⟨g₁, X1, LY1, hg1, hpost⟩ := fin H6
    exact callRet (gsb_spec (Y := mkY Y da vc vA W) (Room.less (hr.deeper _) (by decide)) X1 LY1 ko T htot (hsf2.keep fun o e => hg1 _ o e) (hsx2.keep fun o e => hg1 _ o e) V hN fun S s7 hp => retq (nx_ret (fn_ret (h S s7 (hpost S s7 hp)))))
  · refine xs_cons (st := _) (rest := _) ?_
    walk_at "go"
    rename_i s6 H6
    obtain ⟨g₁, X1, LY1, hg1, hpost⟩ := fin H6
    exact callRet (gsr_spec (Y := mkY Y da vc vA W) (Room.less (hr.deeper _) (by decide)) X1 LY1 ko T htot (hsf2.keep fun o e => hg1 _ o e) (hsx2.keep fun o e => hg1 _ o e) V fun S s7 hp => retq (nx_ret (fn_ret (h S s7 (hpost S s7 hp)))))
end
end
section
open PySem PySem.W PySem.Calls PyProof.Rows
set_option Elab.async false
set_option maxRecDepth 100000
set_option maxHeartbeats 400000
set_option linter.unusedVariables false
set_option linter.unusedSectionVars false
section
variable {prog : Program} {w : World} {K : Type} [DecidableEq K] {knd : KeyKind prog w K} {A : Around} {E : Value → Shared → Prop} {s : Shared}
  {g : Heap} {R : Side} {L : Addr} {vs vs' : Vars} {l l' : Led K} {a : Addr} {env : Env}
/-- an iterator, for targets of a shape -/
structure IterT (prog : Program) (w : World) (knd : KeyKind prog w K) (A : Around) (it : Value) (a : Addr) (o : Obj) (n : Nat) (P : Nat → Value → Led K → Prop) (io : Nat → Led K) (T : Expr → Prop) : Prop where
  item : ∀ {g R L vs l s i} {target : Expr} {Q : Value → Shared → Prop} {E E' : Value → Shared → Prop}, T target → i < n → St knd g R L vs (io i ++ l) s → s.heap.get? a = some o →
    (∀ v new s', P i v new → St knd g R L vs (new ++ (io (i + 1) ++ l)) s' → Q v s') →
    wpAny (model prog w) A (pyNext it) (fun r s₁ => ∃ v, r = some v ∧ wpAny (model prog w) A (letOwnedTupleGo target it v) (fun _ s₂ => Q v s₂) E' s₁) E s
  done : ∀ {g R L vs l s} {Q : Option Value → Shared → Prop} {E : Value → Shared → Prop}, St knd g R L vs (io n ++ l) s → s.heap.get? a = some o →
    (∀ s', St knd g R L vs l s' → Q none s') → wpAny (model prog w) A (pyNext it) Q E s
  again : ∀ {g R L vs l s i} {Q : Value → Shared → Prop} {E : Value → Shared → Prop}, St knd g R L vs (io i ++ l) s → Q it s → wpAny (model prog w) A (pyIter it) Q E s
theorem forLoop_stT {X : Type} {vs : X → Vars} {l : X → Led K} {J : Nat → X → Prop} {it : Value} {o : Obj} {n : Nat} {P : Nat → Value → Led K → Prop} {io : Nat → Led K} {target : Expr} {body orelse : List Stmt} {RR : Result → Shared → Prop} {Q : Flow → Shared → Prop}
    {T : Expr → Prop} (W : IterT prog w knd A it a o n P io T) (hT : T target) (hsrc : ∀ i x s, J i x → St knd g R L (vs x) (io i ++ l x) s → s.heap.get? a = some o) {x₀ : X} (h0 : J 0 x₀) (H : St knd g R L (vs x₀) (io 0 ++ l x₀) s)
    (hQ : ∀ f s, Q f s → RR (.ok f) s)
    (turn : ∀ i x v new s' E', i < n → J i x → P i v new → St knd g R L (vs x) (new ++ (io (i + 1) ++ l x)) s' →
      wpAny (model prog w) A (assign target env v) (fun _ s₂ => wpAny (model prog w) A (execs body env) (ForQ (fun s₃ => ∃ y, J (i + 1) y ∧ St knd g R L (vs y) (io (i + 1) ++ l y) s₃) Q) E' s₂) E' s')
    (done : ∀ x s' E', J n x → St knd g R L (vs x) (l x) s' → wpAny (model prog w) A (execs orelse env) Q E' s') : codeAny (model prog w) A (.forLoop target it body orelse env) RR s := by
  refine codeAny_forLoop_any (fun k s' => ∃ i x, k + i = n ∧ J i x ∧ St knd g R L (vs x) (io i ++ l x) s') ?_ n ⟨0, x₀, rfl, h0, H⟩
  rintro k s' ⟨i, x, hki, hJ, hS⟩
  by_cases hlt : i < n
  · refine wpAny_mono (W.item (target := target) hT hlt hS (hsrc i x s' hJ hS) (E' := notedBy (model prog w) A env fun e s' => RR (.error e) s') (fun v new s₁ hP hS₁ => turn i x v new s₁ (notedBy (model prog w) A env fun e s' => RR (.error e) s') hlt hJ hP hS₁)) (fun r s₁ h₁ => ?_) fun _ _ e => e
    obtain ⟨v, rfl, h₁⟩ := h₁
    refine wpAny_mono h₁ (fun _ s₂ h₂ => wpAny_mono h₂ (fun _ s₃ h₃ => wpAny_mono h₃ (fun f s₄ h₄ => ?_) fun _ _ e => e) fun _ _ e => e) fun _ _ e => e
    cases f with
    | next => obtain ⟨y, hy, hS'⟩ := h₄; exact ⟨k - 1, by omega, i + 1, y, by omega, hy, hS'⟩
    | cont => obtain ⟨y, hy, hS'⟩ := h₄; exact ⟨k - 1, by omega, i + 1, y, by omega, hy, hS'⟩
    | brk => exact hQ _ _ h₄
    | ret v => exact hQ _ _ h₄
  · obtain rfl : i = n := by omega
    exact W.done hS (hsrc i x s' hJ hS) fun s₁ hS₁ => wpAny_mono (done x s₁ _ hJ hS₁) (fun f s₂ h => hQ f s₂ h) fun _ _ e => e
theorem for_stT {X : Type} (vs : X → Vars) (l : X → Led K) (J : Nat → X → Prop) (x₀ : X) {it : Value} {o : Obj} {n : Nat} {P : Nat → Value → Led K → Prop} {io : Nat → Led K} {target : Expr} {body orelse : List Stmt} {Q : Flow → Shared → Prop}
    {T : Expr → Prop} (W : IterT prog w knd A it a o n P io T) (hT : T target) (hsrc : ∀ i x s, J i x → St knd g R L (vs x) (io i ++ l x) s → s.heap.get? a = some o) (h0 : J 0 x₀) (H : St knd g R L (vs x₀) (io 0 ++ l x₀) s)
    (turn : ∀ i x v new s' E', i < n → J i x → P i v new → St knd g R L (vs x) (new ++ (io (i + 1) ++ l x)) s' →
      wpAny (model prog w) A (assign target env v) (fun _ s₂ => wpAny (model prog w) A (execs body env) (ForQ (fun s₃ => ∃ y, J (i + 1) y ∧ St knd g R L (vs y) (io (i + 1) ++ l y) s₃) Q) E' s₂) E' s')
    (done : ∀ x s' E', J n x → St knd g R L (vs x) (l x) s' → wpAny (model prog w) A (execs orelse env) Q E' s') :
    codeAny (model prog w) A (.forLoop target it body orelse env) (fun r s' => match r with | .ok f => Q f s' | .error e => cameBackBy (model prog w) A env E e s') s :=
  forLoop_stT W hT hsrc h0 H (fun _ _ h => h) turn done
theorem compLoop_stT {X : Type} {ys : X → List Value} {ex : X → Led K} {J : Nat → X → Prop} {it : Value} {o : Obj} {n : Nat} {P : Nat → Value → Led K → Prop} {io : Nat → Led K} {elt target iter : Expr} {ifs : List Expr} {scope : Scope} {pos : Pos} {cenv : Env}
    {C D : Addr} {RR : Result → Shared → Prop} {T : Expr → Prop} (W : IterT prog w knd A it a o n P io T) (hT : T target)
    (hsrc : ∀ i x vq s, J i x → St knd g R C vq (ex x ++ (io i ++ (D, Kd.lst (ys x)) :: l)) s → s.heap.get? a = some o) {x₀ : X} {vq₀ : Vars} (h0 : J 0 x₀)
    (H : St knd g R C vq₀ (ex x₀ ++ (io 0 ++ (D, Kd.lst (ys x₀)) :: l)) s) (hfit : ∀ i x, J i x → (ys x).length < 100000)
    (turn : ∀ i x v new s' E', i < n → J i x → P i v new → St knd g R C [] (new ++ (ex x ++ (io (i + 1) ++ (D, Kd.lst (ys x)) :: l))) s' →
      wpAny (model prog w) A (assign target cenv v) (fun _ s₂ =>
        wpAny (model prog w) A (forIn ifs true fun c r => if r = true then do let ok ← isTrue c cenv (eval c cenv); pure (ForInStep.yield ok) else pure (ForInStep.yield r)) (fun ok s₃ =>
          if ok = true then wpAny (model prog w) A (eval elt cenv) (fun v s₄ => CompQ knd g R C (fun y => ex y ++ (io (i + 1) ++ (D, Kd.lst (ys x)) :: l)) (fun y => J (i + 1) y ∧ ys y = ys x ++ [v]) s₄) E' s₃
          else CompQ knd g R C (fun y => ex y ++ (io (i + 1) ++ (D, Kd.lst (ys x)) :: l)) (fun y => J (i + 1) y ∧ ys y = ys x) s₃) E' s₂) E' s')
    (done : ∀ x vq s', J n x → St knd g R C vq (ex x ++ ((D, Kd.lst (ys x)) :: l)) s' → RR (.ok .next) s')
    (hw : ∀ {i x l' vq s} , St knd g R C vq (ex x ++ (io i ++ l')) s → St knd g R C vq (io i ++ (ex x ++ l')) s := by
      intro i x l' vq s h; exact h.perm (by rw [← List.append_assoc, ← List.append_assoc]; exact List.perm_append_comm.append_right _)) :
    codeAny (model prog w) A (.compLoop (.ListComp elt [⟨target, iter, ifs, 0⟩] scope pos) 0 it (.ref D) cenv) RR s := by
  refine codeAny_loop rfl (fun k s' => ∃ i x vq, k + i = n ∧ J i x ∧ St knd g R C vq (ex x ++ (io i ++ (D, Kd.lst (ys x)) :: l)) s') (fun k s' hI => ?_) n ⟨0, x₀, vq₀, rfl, h0, H⟩
  obtain ⟨i, x, vq, hki, hJ, hS⟩ := hI
  show wpAny _ A ((compTurn (.ListComp elt [⟨target, iter, ifs, 0⟩] scope pos) 0 it (.ref D) cenv).onRaise (fun x => do noteFrame x cenv; theTreesLotGoes x)) _ _ s'
  refine wpAny_noted ?_
  rw [compTurn_list]
  refine wpAny_bind (wpAny_standAt (wpAny_bind ?_))
  by_cases hlt : i < n
  · refine wpAny_mono (W.item (target := target) hT hlt (hw (hS.sub (vs' := []) (by simp) (List.Sublist.refl _))) (hsrc i x vq s' hJ hS) (E' := notedBy (model prog w) A cenv fun e s' => RR (.error e) s')
      (fun v new s₁ hP hS₁ => turn i x v new s₁ (notedBy (model prog w) A cenv fun e s' => RR (.error e) s') hlt hJ hP (hS₁.perm (by
        refine List.Perm.append_left _ ?_
        rw [← List.append_assoc, ← List.append_assoc]; exact List.perm_append_comm.append_right _)))) (fun r s₁ h₁ => ?_) fun _ _ e => e
    obtain ⟨v, rfl, h₁⟩ := h₁
    refine wpAny_bind (wpAny_mono h₁ (fun _ s₂ h₂ => ?_) fun _ _ h' => h')
    refine wpAny_bind (wpAny_mono h₂ (fun _ s₃ h₃ => wpAny_bind (wpAny_mono h₃ (fun ok s₄ h₄ => ?_) fun _ _ h' => h')) fun _ _ h' => h')
    cases ok with
    | false =>
      obtain ⟨y, lq, vq', ⟨hy, e⟩, hsub, hS'⟩ := h₄
      exact wpAny_pure ⟨rfl, k - 1, by omega, i + 1, y, vq', by omega, hy, by rw [e]; exact hS'.sub (fun _ h => h) hsub⟩
    | true =>
      refine wpAny_bind (wpAny_bind (wpAny_mono h₄ (fun u s₅ h₅ => ?_) fun _ _ h' => h'))
      obtain ⟨y, lq, vq', ⟨hy, e⟩, hsub, hS'⟩ := h₅
      refine wpAny_bind (uAppend (l := ex y ++ (io (i + 1) ++ (D, Kd.lst (ys x)) :: l)) (hS'.sub (fun _ h => h) hsub) (Up.left (Up.left .head _) _) (hfit _ _ hJ) (fun s₆ hS₆ => wpAny_pure (wpAny_pure ⟨rfl, k - 1, by omega, i + 1, y, vq', by omega, hy, by rw [e]; exact hS₆⟩)))
  · obtain rfl : i = n := by omega
    refine W.done (hw hS) (hsrc i x vq s' hJ hS) fun s₁ hS₁ => wpAny_pure (done x vq s₁ hJ hS₁)
section
variable {X : Type} (ys : X → List Value) (ex : X → Led K) (J : Nat → X → Prop) (x₀ : X) {it : Value} {o : Obj} {n : Nat} {P : Nat → Value → Led K → Prop} {io : Nat → Led K} {elt target iter : Expr} {ifs : List Expr} {scope : Scope} {pos : Pos} {cl : List (Str × Addr)}
theorem comp_runT {Q : Value → Addr → Result → Shared → Prop} {T : Expr → Prop} (W : IterT prog w knd A it a o n P io T) (hT : T target) (hcell : ∀ y ∈ scope.names, y.2 ≠ .cell) (hkind : scope.kind = .function) (H : St knd g R L vs (io 0 ++ l) s)
    (hsrc : ∀ i x C D vq g₂ s', J i x → (∀ b o, g.get? b = some o → g₂.get? b = some o) → St knd g₂ (sideOf s) C vq (ex x ++ (io i ++ (D, Kd.lst (ys x)) :: l)) s' → s'.heap.get? a = some o) (h0 : J 0 x₀) (hx₀ : ys x₀ = []) (hex₀ : ex x₀ = []) (hfit : ∀ i x, J i x → (ys x).length < 100000)
    (turn : ∀ i x v new C D g₂ s' E', i < n → J i x → P i v new → (∀ b o, g.get? b = some o → g₂.get? b = some o) → St knd g₂ (sideOf s) C [] (new ++ (ex x ++ (io (i + 1) ++ (D, Kd.lst (ys x)) :: l))) s' →
      wpAny (model prog w) A (assign target (compEnvC scope cl C env) v) (fun _ s₂ =>
        wpAny (model prog w) A (forIn ifs true fun c r => if r = true then do let ok ← isTrue c (compEnvC scope cl C env) (eval c (compEnvC scope cl C env)); pure (ForInStep.yield ok) else pure (ForInStep.yield r)) (fun ok s₃ =>
          if ok = true then wpAny (model prog w) A (eval elt (compEnvC scope cl C env)) (fun v s₄ => CompQ knd g₂ (sideOf s) C (fun y => ex y ++ (io (i + 1) ++ (D, Kd.lst (ys x)) :: l)) (fun y => J (i + 1) y ∧ ys y = ys x ++ [v]) s₄) E' s₃
          else CompQ knd g₂ (sideOf s) C (fun y => ex y ++ (io (i + 1) ++ (D, Kd.lst (ys x)) :: l)) (fun y => J (i + 1) y ∧ ys y = ys x) s₃) E' s₂) E' s')
    (fin : ∀ x C D s', J n x → (∃ m, s'.heap.Ns C m) → C ≠ L → g.get? C = none → (∀ p ∈ ex x ++ ((D, Kd.lst (ys x)) :: l), p.1 ≠ C) → St knd g R L vs (ex x ++ ((D, Kd.lst (ys x)) :: l)) s' → Q (.ref D) C (.ok .next) s') :
    wpAny (model prog w) A (newList []) (fun acc s₃ => wpAny (model prog w) A (newFunctionEnv scope env.globals cl [] env.qual none .none (some env)) (fun cenv s₄ =>
      codeAny (model prog w) A (.compStart (.ListComp elt [⟨target, iter, ifs, 0⟩] scope pos) 0 it acc { cenv with scope := relabel scope env }) (fun r s' => Q acc cenv.locals r s') s₄) E s₃) E s := by
  refine wpAny_mono (comp_open (n := n) (E := E) (env := env) (cl := cl) (Q := fun acc cenv s₄ => codeAny (model prog w) A (.compStart (.ListComp elt [⟨target, iter, ifs, 0⟩] scope pos) 0 it acc cenv) (fun r s' => Q acc cenv.locals r s') s₄) H hcell hkind
    (fun C D s₁ hDC hCL hgC H₁ => ?_)) (fun _ _ h => h) fun _ _ h => h
  have hg : ∀ b o, g.get? b = some o → (hideAll s.heap ((io 0 ++ l).map (·.1))).get? b = some o := fr_sub H
  have H₁' : St knd (hideAll s.heap ((io 0 ++ l).map (·.1))) (sideOf s) C [] (ex x₀ ++ (io 0 ++ (D, Kd.lst (ys x₀)) :: l)) s₁ := H₁.perm (by
    rw [hx₀, hex₀, List.nil_append]; exact List.perm_middle)
  have run : codeAny (model prog w) A (.compLoop (.ListComp elt [⟨target, iter, ifs, 0⟩] scope pos) 0 it (.ref D) (compEnvC scope cl C env)) (fun r s' => Q (.ref D) C r s') s₁ := by
    refine compLoop_stT (ys := ys) (ex := ex) (J := J) W hT (fun i x vq s' hJ hS => hsrc i x C D vq _ s' hJ hg hS) h0 H₁' hfit (fun i x v new s' E' hi hJ hP hS => turn i x v new C D _ s' E' hi hJ hP hg hS) (fun x vq s' hJ hS => ?_)
    obtain ⟨m, F, _⟩ := hS.F
    exact fin x C D s' hJ ⟨m, F.ns⟩ hCL hgC (fun p hp => (hS.N p hp).2.1) (H.leave hS)
  refine codeAny_compStart_list run ?_
  exact W.again (i := 0) (l := (D, Kd.lst (ys x₀)) :: l) (H₁.perm (l' := io 0 ++ (D, Kd.lst (ys x₀)) :: l) (by rw [hx₀]; exact List.perm_middle)) run
theorem comp_exprT {Q : Value → Shared → Prop} {T : Expr → Prop} (W : IterT prog w knd A it a o n P io T) (hT : T target) (hcell : ∀ y ∈ scope.names, y.2 ≠ .cell) (hkind : scope.kind = .function) (H : St knd g R L vs (io 0 ++ l) s)
    (hsrc : ∀ i x C D vq g₂ s', J i x → (∀ b o, g.get? b = some o → g₂.get? b = some o) → St knd g₂ (sideOf s) C vq (ex x ++ (io i ++ (D, Kd.lst (ys x)) :: l)) s' → s'.heap.get? a = some o) (h0 : J 0 x₀) (hx₀ : ys x₀ = []) (hex₀ : ex x₀ = []) (hfit : ∀ i x, J i x → (ys x).length < 100000)
    (turn : ∀ i x v new C D g₂ s' E', i < n → J i x → P i v new → (∀ b o, g.get? b = some o → g₂.get? b = some o) → St knd g₂ (sideOf s) C [] (new ++ (ex x ++ (io (i + 1) ++ (D, Kd.lst (ys x)) :: l))) s' →
      wpAny (model prog w) A (assign target (compEnvC scope cl C env) v) (fun _ s₂ =>
        wpAny (model prog w) A (forIn ifs true fun c r => if r = true then do let ok ← isTrue c (compEnvC scope cl C env) (eval c (compEnvC scope cl C env)); pure (ForInStep.yield ok) else pure (ForInStep.yield r)) (fun ok s₃ =>
          if ok = true then wpAny (model prog w) A (eval elt (compEnvC scope cl C env)) (fun v s₄ => CompQ knd g₂ (sideOf s) C (fun y => ex y ++ (io (i + 1) ++ (D, Kd.lst (ys x)) :: l)) (fun y => J (i + 1) y ∧ ys y = ys x ++ [v]) s₄) E' s₃
          else CompQ knd g₂ (sideOf s) C (fun y => ex y ++ (io (i + 1) ++ (D, Kd.lst (ys x)) :: l)) (fun y => J (i + 1) y ∧ ys y = ys x) s₃) E' s₂) E' s')
    (fin : ∀ x D s', J n x → St knd g R L vs (ex x ++ ((D, Kd.lst (ys x)) :: l)) s' → Q (.ref D) s') :
    wpAny (model prog w) A (newList []) (fun acc s₃ => wpAny (model prog w) A (newFunctionEnv scope env.globals cl [] env.qual none .none (some env)) (fun cenv s₄ =>
      codeAny (model prog w) A (.compStart (.ListComp elt [⟨target, iter, ifs, 0⟩] scope pos) 0 it acc { cenv with scope := relabel scope env }) (compPost (model prog w) A E none Q acc cenv.locals) s₄) E s₃) E s :=
  comp_runT ys ex J x₀ (Q := fun acc C => compPost (model prog w) A E none Q acc C) W hT hcell hkind H hsrc h0 hx₀ hex₀ hfit turn fun x C D s' hJ hm hCL hgC hp hS => by
    obtain ⟨m, hm⟩ := hm
    exact ⟨m, hm, fun h' hs => fin x D _ hJ (hS.sameBut (t := s'.toks) hs hCL hgC hp)⟩
theorem comp_bindT {Q : Flow → Shared → Prop} {cn : Str} {cs : Scope} {fa : Addr} {ccd : Value} {cl' : List (Str × Addr)} {y : Str} {py : Pos} {vs' : Vars} {tbl : List (Str × NameKind)} (kt : Kt cs tbl) (hy : (y, NameKind.local) ∈ tbl) (hr : Rm y vs vs') (henv : env = envX cn cs L fa ccd cl')
    {T : Expr → Prop} (W : IterT prog w knd A it a o n P io T) (hT : T target) (hcell : ∀ y ∈ scope.names, y.2 ≠ .cell) (hkind : scope.kind = .function) (H : St knd g R L vs (io 0 ++ l) s)
    (hsrc : ∀ i x C D vq g₂ s', J i x → (∀ b o, g.get? b = some o → g₂.get? b = some o) → St knd g₂ (sideOf s) C vq (ex x ++ (io i ++ (D, Kd.lst (ys x)) :: l)) s' → s'.heap.get? a = some o) (h0 : J 0 x₀) (hx₀ : ys x₀ = []) (hex₀ : ex x₀ = []) (hfit : ∀ i x, J i x → (ys x).length < 100000)
    (turn : ∀ i x v new C D g₂ s' E', i < n → J i x → P i v new → (∀ b o, g.get? b = some o → g₂.get? b = some o) → St knd g₂ (sideOf s) C [] (new ++ (ex x ++ (io (i + 1) ++ (D, Kd.lst (ys x)) :: l))) s' →
      wpAny (model prog w) A (assign target (compEnvC scope cl C env) v) (fun _ s₂ =>
        wpAny (model prog w) A (forIn ifs true fun c r => if r = true then do let ok ← isTrue c (compEnvC scope cl C env) (eval c (compEnvC scope cl C env)); pure (ForInStep.yield ok) else pure (ForInStep.yield r)) (fun ok s₃ =>
          if ok = true then wpAny (model prog w) A (eval elt (compEnvC scope cl C env)) (fun v s₄ => CompQ knd g₂ (sideOf s) C (fun y => ex y ++ (io (i + 1) ++ (D, Kd.lst (ys x)) :: l)) (fun y => J (i + 1) y ∧ ys y = ys x ++ [v]) s₄) E' s₃
          else CompQ knd g₂ (sideOf s) C (fun y => ex y ++ (io (i + 1) ++ (D, Kd.lst (ys x)) :: l)) (fun y => J (i + 1) y ∧ ys y = ys x) s₃) E' s₂) E' s')
    (fin : ∀ x D s', J n x → St knd g R L ((y, .ref D) :: vs') (ex x ++ ((D, Kd.lst (ys x)) :: l)) s' → Q .next s') :
    wpAny (model prog w) A (newList []) (fun acc s₃ => wpAny (model prog w) A (newFunctionEnv scope env.globals cl [] env.qual none .none (some env)) (fun cenv s₄ =>
      codeAny (model prog w) A (.compStart (.ListComp elt [⟨target, iter, ifs, 0⟩] scope pos) 0 it acc { cenv with scope := relabel scope env }) (compPost (model prog w) A E (some (assign (.Name y py) env)) (fun _ s' => Q .next s') acc cenv.locals) s₄) E s₃) E s :=
  comp_runT ys ex J x₀ (Q := fun acc C => compPost (model prog w) A E (some (assign (.Name y py) env)) (fun _ s' => Q .next s') acc C) W hT hcell hkind H hsrc h0 hx₀ hex₀ hfit turn fun x C D s' hJ hm hCL hgC hp hS => by
    obtain ⟨m, hm⟩ := hm
    show wpAny _ A (assign (.Name y py) env (.ref D)) _ _ _
    refine wpAny_assign_Name ?_
    obtain ⟨mL, F, k⟩ := hS.F
    subst henv
    refine wpAny_storeName_local (env := envX cn cs L fa ccd cl') (kt.names _ hy).1 F.ns (fun h₂ hn₂ hs₂ => ?_) (by show (cs.kind == .class || (cs.kind == .module && L != mainGlobals)) = false; rw [kt.kind]; rfl)
    exact ⟨m, hm.sameBut hs₂ hCL, fun h₃ hs₃ => fin x D _ hJ ((hS.stored hr F k hn₂ hs₂).sameBut hs₃ hCL hgC hp)⟩
end
abbrev isTupT (t : Expr) : Prop := ∃ elts x1 pos, t = Expr.Tuple elts x1 pos
abbrev enumAt (it : Addr) (i : Nat) : Kd K := .obs fun o => ∃ old, o = { cls := .type "enumerate", dict := none, data := .fields #[.none, .bool false, .ref it, rawInt (i : Int), .none, old], slots := #[] }
abbrev enumIo (e it a : Addr) (i : Nat) : Led K := [(e, enumAt it i), (it, seqIt "list_iterator" a i)]
theorem iter_enum {e it : Addr} {items : List Value} {o : Obj} {n : Nat} (hh : A.handled = none) (hcl : o.cls = .type "list") (hd : o.data = .seq items.toArray n) :
    IterT prog w knd A (.ref e) a o items.length (fun i v new => ∃ T t x, v = .ref T ∧ items[i]? = some x ∧ new = [(T, .tup [.int i t, x])]) (enumIo e it a) isTupT where
  item := fun {g R L vs l s i target Q E E'} hT hi H ho h => by
    obtain ⟨elts, x1, pos, rfl⟩ := hT
    obtain ⟨oe, hoe, old, rfl⟩ := H.has (.head _)
    obtain ⟨oi, hoi, hci, hdi⟩ := H.has (.tail _ (.head _))
    have hl : s.heap.IsList a items.toArray := ⟨_, ho, hcl, n, hd⟩
    have hnd := H.nd
    have hne : e ≠ it := by
      intro q; subst q
      simp [enumIo] at hnd
    have hea : (e, enumAt it i) ∈ enumIo e it a i ++ l := .head _
    have hia : (it, seqIt "list_iterator" a i) ∈ enumIo e it a i ++ l := .tail _ (.head _)
    refine wpAny_pyNext_enum_item (l := a) (i := i) hoe ⟨oi, hoi, hci, hdi⟩ hl (x := items[i]) (by simp [hi]) hne fun h₁ heo hit₁ ht₁ hz₁ hk₁ => ⟨.ref s.heap.objs.size, rfl, ?_⟩
    refine wpAny_letOwnedTupleGo_enum heo fun h₂ he₂ hs₂ => ?_
    replace hs₂ : Heap.SameBut e h₁ h₂ := hs₂
    have heH : e < s.heap.objs.size := Heap.lt_size hoe
    have hiH : it < s.heap.objs.size := Heap.lt_size hoi
    have ht₂ := (hs₂.2 _ (Nat.ne_of_gt heH)).trans ht₁
    have hit₂ : h₂.IsListIter it a (i + 1) := hit₁.extBut hs₂.extBut (Ne.symm hne)
    have kp : ∀ b o, b ≠ e → b ≠ it → s.heap.get? b = some o → h₂.get? b = some o := fun b o h1 h2 q => hs₂.extBut b o h1 (hk₁ b o h1 h2 q)
    have z := H.N _ hea
    have zi := H.N _ hia
    obtain ⟨m, F, kn⟩ := H.F
    have hLs := F.ns.lt
    refine h (.ref s.heap.objs.size) [(s.heap.objs.size, .tup [.int i s.toks, items[i]])] _ ⟨s.heap.objs.size, s.toks, items[i], rfl, by simp [hi], rfl⟩ ⟨⟨m, ⟨?_, fun b o q => ?_, F.above⟩, kn⟩, fun p hp => ?_, ?_, H.gens, H.drawn, H.os, H.low⟩
    · obtain ⟨oL, es, ep, hLo, r⟩ := F.ns
      exact ⟨oL, es, ep, kp L oL (Ne.symm z.2.1) (Ne.symm zi.2.1) hLo, r⟩
    · refine kp b o (fun q' => ?_) (fun q' => ?_) (F.keep b o q)
      · subst q'; rw [z.2.2.1] at q; cases q
      · subst q'; rw [zi.2.2.1] at q; cases q
    · rcases List.mem_cons.mp hp with rfl | hp
      · refine ⟨⟨_, ht₂, rfl⟩, Nat.ne_of_gt hLs, ?_, Nat.lt_trans H.low hLs⟩
        cases q : g.get? s.heap.objs.size with
        | none => rfl
        | some o => exact absurd (Heap.lt_size (F.keep _ _ q)) (Nat.lt_irrefl _)
      · rcases List.mem_cons.mp hp with rfl | hp
        · refine ⟨⟨_, he₂, items[i], ?_⟩, z.2⟩
          rfl
        · rcases List.mem_cons.mp hp with rfl | hp
          · obtain ⟨oj, hoj, hcj, hdj⟩ := hit₂
            exact ⟨⟨oj, hoj, hcj, hdj⟩, zi.2⟩
          · have zp := H.N p (.tail _ (.tail _ hp))
            refine ⟨zp.1.keep fun o q => kp p.1 o (fun (q' : p.1 = e) => ?_) (fun (q' : p.1 = it) => ?_) q, zp.2⟩
            · have : p.1 ∈ l.map (·.1) := List.mem_map_of_mem hp
              rw [q'] at this
              simp only [enumIo, List.cons_append, List.nil_append, List.map_cons, List.nodup_cons] at hnd
              exact hnd.1 (.tail _ this)
            · have : p.1 ∈ l.map (·.1) := List.mem_map_of_mem hp
              rw [q'] at this
              simp only [enumIo, List.cons_append, List.nil_append, List.map_cons, List.nodup_cons] at hnd
              exact hnd.2.1 this
    · have hnd2 : ((enumIo e it a i ++ l : Led K).map (·.1)).Nodup := hnd
      show (s.heap.objs.size :: (enumIo e it a i ++ l : Led K).map (·.1)).Nodup
      rw [List.nodup_cons]
      refine ⟨fun q => ?_, hnd2⟩
      obtain ⟨p, hp, e'⟩ := List.mem_map.mp q
      have hlt := (H.N p hp).1.lt
      rw [e'] at hlt
      exact Nat.lt_irrefl _ hlt
  done := fun {g R L vs l s Q E} H ho h => by
    obtain ⟨oe, hoe, old, rfl⟩ := H.has (.head _)
    obtain ⟨oi, hoi, hci, hdi⟩ := H.has (.tail _ (.head _))
    have hl : s.heap.IsList a items.toArray := ⟨_, ho, hcl, n, hd⟩
    refine wpAny_pyNext_enum_end hh (l := a) (i := items.length) hoe ⟨oi, hoi, hci, hdi⟩ hl (by simp) fun h' he => h _ ?_
    exact (St.drop (l := (e, enumAt it items.length) :: l) (H.perm (List.Perm.swap ..)) he).sub (fun p hp => hp) (List.Sublist.cons _ (List.Sublist.refl _))
  again := fun {g R L vs l s i Q E} H h => by
    obtain ⟨oe, hoe, old, rfl⟩ := H.has (.head _)
    exact wpAny_pyIter_enum hoe h
/-- enumerate is called on a list -/
theorem cEnum {items : List Value} {Q : Value → Shared → Prop} (H : St knd g R L vs l s) (hl : Has knd s.heap a (.lst items)) (h : ∀ e it s', St knd g R L vs (enumIo e it a 0 ++ l) s' → Q (.ref e) s') :
    wpAny (model prog w) A (call (.type "enumerate") [.ref a]) Q E s := by
  refine call_enumerate_list hl.list fun h' he hit hz hk => ?_
  obtain ⟨oj, hoj, hcj, hdj⟩ := hit
  have H1 : St knd g R L vs ((s.heap.objs.size, seqIt "list_iterator" a 0) :: l) { s with heap := h' } := H.new hk (Nat.le_refl _) ⟨oj, hoj, hcj, hdj⟩
  refine h (s.heap.objs.size + 1) s.heap.objs.size { s with heap := h' } ⟨H1.F, fun p hp => ?_, ?_, H1.gens, H1.drawn, H1.os, H1.low⟩
  · rcases List.mem_cons.mp hp with rfl | hp
    · obtain ⟨m, F, k⟩ := H.F
      have hLs := F.ns.lt
      refine ⟨⟨_, he, _, rfl⟩, Nat.ne_of_gt (Nat.lt_succ_of_lt hLs), ?_, Nat.lt_succ_of_lt (Nat.lt_trans H.low hLs)⟩
      cases q : g.get? (s.heap.objs.size + 1) with
      | none => rfl
      | some o => exact absurd (Heap.lt_size (F.keep _ _ q)) (Nat.not_lt.mpr (Nat.le_succ _))
    · exact H1.N p hp
  · have hnd := H1.nd
    show ((s.heap.objs.size + 1) :: ((s.heap.objs.size, seqIt "list_iterator" a 0) :: l : Led K).map (·.1)).Nodup
    rw [List.nodup_cons]
    refine ⟨fun q => ?_, hnd⟩
    obtain ⟨p, hp, e'⟩ := List.mem_map.mp q
    rcases List.mem_cons.mp hp with rfl | hp
    · exact absurd e' (Nat.ne_of_lt (Nat.lt_succ_self _))
    · have := (H.N p hp).1.lt
      rw [e'] at this; exact absurd this (Nat.not_lt.mpr (Nat.le_succ _))
theorem iEnum {e it : Addr} {i : Nat} {Q : Value → Shared → Prop} (H : Has knd s.heap e (enumAt it i)) (h : Q (.ref e) s) : wpAny (model prog w) A (pyIter (.ref e)) Q E s := by
  obtain ⟨oe, hoe, old, rfl⟩ := H
  exact wpAny_pyIter_enum hoe h
end
end
section
open PySem PySem.W PySem.Calls PyProof.Rows
set_option Elab.async false
set_option maxRecDepth 100000
set_option maxHeartbeats 400000
set_option linter.unusedVariables false
set_option linter.unusedSectionVars false
def topDef (i : Nat) : Arguments × List Stmt × Scope := match PW.main.body[i]? with
  | some (.FunctionDef _ a b _ _ _ s _ _ _) => (a, b, s)
  | _ => default
abbrev tprm (i : Nat) : Arguments := (topDef i).1
abbrev tbdy (i : Nat) : List Stmt := (topDef i).2.1
abbrev tscp (i : Nat) : Scope := (topDef i).2.2
abbrev pmL : Value := .str "law_ww0026_02" 685
/-- a function of the law's text -/
abbrev topO (name : Str) (i : Nat) (f : Addr) : Obj := ⟨.type "function", none, .func (fnX name name (tprm i) (tbdy i) (tscp i) [] .none .none .none pmL none (.ref (f - 1)) .none), #[]⟩
theorem fn_draw (P : Params) : (KK P).lookup 384 = some (topO "_law_draw" 12 384) := by kernel_rfl
theorem cd_draw (P : Params) : codeIn (KK P) (.ref 383) "_law_draw" = true := by kernel_rfl
theorem g_draw : IsG "_law_draw" (.ref 384) := fun P => by kernel_rfl
abbrev tb_draw : List (Str × NameKind) := [("row", .local), ("place", .local), ("span", .local), ("len", .globalImplicit)]
theorem kt_draw : Kt (tscp 12) tb_draw := ⟨by decide +kernel, by decide +kernel⟩
section
variable {prog : Program} {w : World} {K : Type} [DecidableEq K] {knd : KeyKind prog w K} {A : Around} {s : Shared} {E : Value → Shared → Prop} {g : Heap} {R : Side} {L : Addr} {vs : Vars} {l : Led K} {a : Addr}
theorem iMod {i j : Int} {t u : Tok} {Q : Value → Shared → Prop} (H : St knd g R L vs l s) (hj : j ≠ 0) (h : ∀ t s', St knd g R L vs l s' → Q (.int (i.fmod j) t) s') : wpAny (model prog w) A (binaryOp .Mod (.int i t) (.int j u)) Q E s :=
  AutoIntOps.mod_1 (by simpa using hj) (h _ _ (H.tok _))
theorem iFloor {i j : Int} {t u : Tok} {Q : Value → Shared → Prop} (H : St knd g R L vs l s) (hj : j ≠ 0) (hp : Builtin.divisionGoesByPylong i j = false) (h : ∀ t s', St knd g R L vs l s' → Q (.int (i.fdiv j) t) s') : wpAny (model prog w) A (binaryOp .FloorDiv (.int i t) (.int j u)) Q E s :=
  AutoIntOps.floordiv_1 (by simpa using hj) (by rw [hp]; decide) (h _ _ (H.tok _))
theorem iAdd {i j : Int} {t u : Tok} {Q : Value → Shared → Prop} (H : St knd g R L vs l s) (h : ∀ t s', St knd g R L vs l s' → Q (.int (i + j) t) s') : wpAny (model prog w) A (binaryOp .Add (.int i t) (.int j u)) Q E s := PySem.P.add_int (h _ _ (H.tok _))
theorem iMul7 {i j : Int} {t u : Tok} {Q : Value → Shared → Prop} (H : St knd g R L vs l s) (h0 : 0 ≤ j) (h1 : j < 1000) (h : ∀ t s', St knd g R L vs l s' → Q (.int (i * j) t) s') : wpAny (model prog w) A (binaryOp .Mult (.int i t) (.int j u)) Q E s :=
  PySem.P.mul_int (h _ _ (H.tok _)) (IntMulOk.of_right (intBits_le_64 (by omega) (by omega)))
theorem tLst {value slice : Expr} {items : List Value} {i : Int} {t : Tok} {v : Value} {Q : Value → Shared → Prop} (T : Has knd s.heap a (.lst items)) (hlo : 0 ≤ i) (hhi : i < 1000) (hv : items[i.toNat]? = some v) (h : Q v s) :
    wpAny (model prog w) A (subscriptTail value slice (.ref a) (.int i t)) Q E s :=
  tailOf T.list.typeIs slot_list_getitem.lookup (wpAny_getItem_list T.list hlo (by omega) (by simpa using hv) h)
end

local macro_rules | `(tactic| walk_at "isB") => `(tactic| first | (with_reducible exact b_len))
local macro_rules | `(tactic| walk_at "isG") => `(tactic| fail)
local macro_rules | `(tactic| walk_at "isD") => `(tactic| fail)
local macro_rules | `(tactic| walk_at "isF") => `(tactic| fail)
local macro_rules | `(tactic| walk_at "isC") => `(tactic| fail)
section
variable {prog : Program} {w : World} {K : Type} [DecidableEq K] {knd : KeyKind prog w K} {A : Around} {s : Shared} {E : Value → Shared → Prop} {g : Heap} {R : Side} {L : Addr} {vs : Vars} {l : Led K} {a : Addr}
def Ints (vs : List Value) : Prop := ∀ v ∈ vs, ∃ i t, v = Value.int i t
theorem pylong_small {i j : Int} (h0 : 0 < j) (h1 : j < 100) : Builtin.divisionGoesByPylong i j = false := by
  unfold Builtin.divisionGoesByPylong
  have : j.natAbs < 100 := by omega
  have hl : j.natAbs.log2 < 7 := (Nat.log2_lt (by omega)).mpr (by omega)
  have : (if (j == 0) = true then 0 else j.natAbs.log2 / 30 + 1) ≤ 300 := by split <;> omega
  simp only [Bool.and_eq_false_imp, decide_eq_true_eq]
  intro h; omega
/-- a number is drawn -/
theorem draw_spec {RR : Result → Shared → Prop} {g₀ : Heap} {row : Addr} {xs : List Value} {p sp : Int} {tp ts : Tok} (hr : Room A 3) (X : At knd g₀ s []) (hrow : Has knd g₀ row (.lst xs)) (hx : Ints xs) (h1 : xs ≠ []) (h8 : xs.length ≤ 8) (hp0 : 0 ≤ p) (hp : p < 64) (hs0 : 0 < sp)
    (h : ∀ d t s', 0 ≤ d → d < sp → Eff knd s [] [] s' → RR (.ok (.ret (.int d t))) s') :
    codeAny (model prog w) A (.call (.ref 384) ⟨[.ref row, .int p tp, .int sp ts], []⟩) RR s := by
  refine enter (knd := knd) (names := ["row", "place", "span"]) (vals := [.ref row, .int p tp, .int sp ts]) X hr (X.k _ _ (X.B.X _ _ (fn_draw _))) rfl ((codeRec_of X.B.X (cd_draw _)).keeps X.k) (BindsTo.of_eq (by kernel_rfl)) (by decide +kernel) (by decide +kernel)
    (fun g L s₁ hg hg' B H => ?_) (by decide +kernel)
  have kt := kt_draw
  replace H : St knd g (sideOf s) L [("row", .ref row), ("place", .int p tp), ("span", .int sp ts)] [] s₁ := H
  have hrow2 := hrow.keep fun o e => hg' _ o e
  have hlen : 0 < xs.length := List.length_pos_iff.mpr h1
  have hxz : xs.length < 1000 := by omega
  have hm0 := Int.fmod_nonneg_of_pos (b := (xs.length : Int)) p (by omega)
  have hm1 := Int.fmod_lt_of_pos (b := (xs.length : Int)) p (by omega)
  have hi : (p.fmod (xs.length : Int)).toNat < xs.length := by omega
  obtain ⟨x, tx, hxv⟩ := hx (xs[(p.fmod (xs.length : Int)).toNat]) (List.getElem_mem hi)
  refine xs_cons (st := _) (rest := _) ?_
  walk_at "go"
  refine iMod (by assumption) (by omega) ?_
  intro t1 s2 H2
  refine tLst (H2.base hrow2) hm0 (by omega) (by rw [List.getElem?_eq_getElem hi, hxv]) ?_
  walk_at "go"
  refine iFloor (by assumption) (by omega) (pylong_small (by omega) (by omega)) ?_
  intro t1 s3 H3
  walk_at "go"
  refine' iMul7 (by assumption) ?h0 ?h1 ?_
  case h0 => decide
  case h1 => decide
  intro t1 s4 H4
  refine iAdd (by assumption) ?_
  intro t1 s5 H5
  walk_at "go"
  refine iMod (by assumption) (by omega) ?_
  intro t1 s6 H6
  refine nx_ret (fn_ret (h _ _ _ (Int.fmod_nonneg_of_pos _ hs0) (Int.fmod_lt_of_pos _ hs0) (H6.toEff (List.Sublist.refl _) hg)))
end
end
section
open PySem PySem.W PySem.Calls PyProof.Rows
set_option Elab.async false
set_option maxRecDepth 100000
set_option maxHeartbeats 400000
set_option linter.unusedVariables false
set_option linter.unusedSectionVars false
theorem fn_solver (P : Params) : (KK P).lookup 391 = some (topO "_law_solver" 13 391) := by kernel_rfl
theorem cd_solver (P : Params) : codeIn (KK P) (.ref 390) "_law_solver" = true := by kernel_rfl
theorem g_solver : IsG "_law_solver" (.ref 391) := fun P => by kernel_rfl
theorem g_bt : IsG "BacktrackingSolver" (.ref 186) := fun P => by kernel_rfl
theorem g_rb : IsG "RecursiveBacktrackingSolver" (.ref 225) := fun P => by kernel_rfl
abbrev tb_solver : List (Str × NameKind) := [("pick", .local), ("BacktrackingSolver", .globalImplicit), ("RecursiveBacktrackingSolver", .globalImplicit)]
theorem kt_solver : Kt (tscp 13) tb_solver := ⟨by decide +kernel, by decide +kernel⟩

local macro_rules | `(tactic| walk_at "isB") => `(tactic| fail)
local macro_rules | `(tactic| walk_at "isG") => `(tactic| first | (with_reducible exact g_bt) | (with_reducible exact g_rb))
local macro_rules | `(tactic| walk_at "isD") => `(tactic| fail)
local macro_rules | `(tactic| walk_at "isF") => `(tactic| fail)
local macro_rules | `(tactic| walk_at "isC") => `(tactic| fail)
local macro_rules | `(tactic| walk_at "op") => `(tactic| first
  | ((with_reducible refine' callCl ?hk ?h ?he ?hp); (case hk => first | (with_reducible exact kp186) | (with_reducible exact kp225)); (case he => rfl); (case hp => rfl))
  | ((with_reducible refine' callCl0 ?hk (by assumption) (by assumption) ?h); (case hk => first | (with_reducible exact kp186) | (with_reducible exact kp225)))
  | ((with_reducible refine' newBt0 (by assumption) (by assumption) ?hr ?_); (case hr => (exact (Room.less (Room.deeper (by assumption) _) (by decide)))); intro _ _ _ _)
  | ((with_reducible refine' newBt (by assumption) (by assumption) ?hr ?_); (case hr => (exact (Room.less (Room.deeper (by assumption) _) (by decide)))); intro _ _ _ _)
  | ((with_reducible refine' newRb0 (by assumption) (by assumption) ?hr ?_); (case hr => (exact (Room.less (Room.deeper (by assumption) _) (by decide)))); intro _ _ _ _)
  | ((with_reducible refine' newRb (by assumption) (by assumption) ?hr ?_); (case hr => (exact (Room.less (Room.deeper (by assumption) _) (by decide)))); intro _ _ _ _))
section
variable {prog : Program} {w : World} {K : Type} [DecidableEq K] {knd : KeyKind prog w K} {A : Around} {s : Shared} {E : Value → Shared → Prop} {g : Heap} {R : Side} {L : Addr} {vs : Vars} {l : Led K} {a : Addr}
set_option maxHeartbeats 4000000 in
/-- a solver is made -/
theorem solver_spec {RR : Result → Shared → Prop} {g₀ : Heap} {p : Int} {tp : Tok} (hr : Room A 14) (X : At knd g₀ s [])
    (h : ∀ C fb sf sx s', C = 186 ∨ C = 225 → Eff knd s [] [(sf, .raw (instObj C sx)), (sx, .att [("_forwardcheck", .bool fb)])] s' → RR (.ok (.ret (.ref sf))) s') :
    codeAny (model prog w) A (.call (.ref 391) ⟨[.int p tp], []⟩) RR s := by
  refine enter (knd := knd) (names := ["pick"]) (vals := [.int p tp]) X hr (X.k _ _ (X.B.X _ _ (fn_solver _))) rfl ((codeRec_of X.B.X (cd_solver _)).keeps X.k) (BindsTo.of_eq (by kernel_rfl)) (by decide +kernel) (by decide +kernel)
    (fun g L s₁ hg hg' B H => ?_) (by decide +kernel)
  have kt := kt_solver
  replace H : St knd g (sideOf s) L [("pick", .int p tp)] [] s₁ := H
  refine xs_cons (st := _) (rest := _) ?_
  walk_at "go"
  cases e0 : (p == 0) with
  | true =>
    refine ifT rfl ?_
    walk_at "go"
    exact fn_ret (h 186 _ _ _ _ (.inl rfl) (St.toEff (by assumption) (List.Sublist.refl _) hg))
  | false =>
    refine ifF rfl (wpAny_execs_nil (nx ?_))
    refine xs_cons (st := _) (rest := _) ?_
    walk_at "go"
    cases e1 : (p == 1) with
    | true =>
      refine ifT rfl ?_
      walk_at "go"
      exact fn_ret (h 186 _ _ _ _ (.inl rfl) (St.toEff (by assumption) (List.Sublist.refl _) hg))
    | false =>
      refine ifF rfl (wpAny_execs_nil (nx ?_))
      refine xs_cons (st := _) (rest := _) ?_
      walk_at "go"
      cases e2 : (p == 2) with
      | true =>
        refine ifT rfl ?_
        walk_at "go"
        exact fn_ret (h 225 _ _ _ _ (.inr rfl) (St.toEff (by assumption) (List.Sublist.refl _) hg))
      | false =>
        refine ifF rfl (wpAny_execs_nil (nx ?_))
        refine xs_cons (st := _) (rest := _) ?_
        walk_at "go"
        exact fn_ret (h 225 _ _ _ _ (.inr rfl) (St.toEff (by assumption) (List.Sublist.refl _) hg))
end
end
section
open PySem PySem.W PySem.Calls PyProof.Rows
set_option Elab.async false
set_option maxRecDepth 100000
set_option maxHeartbeats 400000
set_option linter.unusedVariables false
set_option linter.unusedSectionVars false
section
variable {prog : Program} {w : World} {K : Type} [DecidableEq K] {knd : KeyKind prog w K} {A : Around} {s : Shared} {E : Value → Shared → Prop} {g : Heap} {R : Side} {L : Addr} {vs : Vars} {l : Led K} {a : Addr}
/-- the builtins' module, as a function that is made needs it -/
def LB (g : Heap) : Prop := ∃ mg, g.Ns mainGlobals mg ∧ ∃ bm ob, mg "__builtins__" = some (.ref bm) ∧ bm ≠ builtinsNs ∧ g.get? bm = some ob ∧ ob.cls = .type "module" ∧ ob.dict = some builtinsNs ∧ ob.data = .plain
theorem LB.keeps {g h : Heap} (B : LB g) (k : ∀ b o, g.get? b = some o → h.get? b = some o) : LB h :=
  let ⟨mg, n, bm, ob, b1, b2, b3, r⟩ := B; ⟨mg, n.keeps k, bm, ob, b1, b2, k _ _ b3, r⟩
def tabK (cs : List Addr) : Kd K := .obs fun o => ∃ ps, o = tabObj ps ∧ TriplesOk ps.toList ∧ ∀ pos cv, codeAmong pos ps.toList = some cv → ∃ c' ∈ cs, cv = .ref c'
def codeK (qual : Str) : Kd K := .obs fun o => ∃ vs t, o.data = .fields vs ∧ vs[1]? = some (.str qual t)
/-- a table of code, with the code that was made -/
def Tb (P : Addr) (qual : Str) (cs : List Addr) : Led K := (P, tabK cs) :: cs.map fun c => (c, codeK qual)
theorem codeAmong_more {pos q : Pos} {c cv : Value} (l : List Value) (h : TriplesOk l) (e : codeAmong q (l ++ [rawInt pos.line, rawInt pos.col, c]) = some cv) : codeAmong q l = some cv ∨ cv = c := by
  fun_induction TriplesOk l with
  | case1 =>
    simp only [List.nil_append, codeAmong, rawInt] at e
    split at e
    · right; exact (Option.some.inj e).symm
    · cases e
  | case2 a t b u x rest ih =>
    simp only [List.cons_append, codeAmong] at e ⊢
    split at e
    · rename_i hc; rw [if_pos hc]; exact .inl e
    · rename_i hc; rw [if_neg hc]; exact ih h e
  | case3 l h1 h2 => exact h.elim
theorem codeRec_at {h : Heap} {c : Addr} {qual : Str} (x : Has knd h c (codeK qual)) : h.CodeRec (.ref c) qual := by
  obtain ⟨o, ho, vs, t, hd, hv⟩ := x
  exact ⟨c, o, vs, t, rfl, ho, hd, hv⟩
/-- a lambda is made -/
theorem eLam {params : Arguments} {body : Expr} {scope : Scope} {pos : Pos} {cn : Str} {sc : Scope} {ccd : Value} {cl clos : List (Str × Addr)} {c P : Addr} {cs : List Addr} {qual : Str} {Q : Value → Shared → Prop} (H : St knd g R L vs (Tb P qual cs ++ l) s) (B : LB g) (C : CodeHd g c P) (hcd : ccd = .ref c)
    (hq : (envX cn sc L a ccd cl).qual ++ "<lambda>" = qual) (hcl : closureFor scope (envX cn sc L a ccd cl) = pure clos) (hdef : defaultsOf params (envX cn sc L a ccd cl) = ([], []))
    (h : ∀ f c' pm ct cs' s', c' ∈ cs' → (∀ b ∈ cs, b ∈ cs') → St knd g R L vs ((f, .raw (kla_obj "<lambda>" qual params body scope clos pm c' ct)) :: (Tb P qual cs' ++ l)) s' → Q (.ref f) s') :
    wpAny (model prog w) A (eval (.Lambda params body scope pos) (envX cn sc L a ccd cl)) Q E s := by
  refine kla_eval hdef ?_
  rw [hq]
  obtain ⟨mg, hns, bm, ob, b1, b2, b3, b4, b5, b6⟩ := B
  obtain ⟨m, F, kn⟩ := H.F
  have hP := H.N (P, tabK cs) (List.mem_append_left _ (.head _))
  obtain ⟨⟨o, ho, ps, rfl, ht, hall⟩, hPL, hPg, hPl⟩ := hP
  dsimp only at ho hPL hPg hPl
  have hbP : bm ≠ P := fun q => by rw [q, hPg] at b3; cases b3
  have hbG : bm ≠ mainGlobals := fun q => by
    obtain ⟨o, es, ep, e, hd, _⟩ := hns
    rw [q, e] at b3; cases b3; rw [hd] at b6; cases b6
  have hgP : mainGlobals ≠ P := fun q => by
    obtain ⟨o, es, ep, e, hd, _⟩ := hns
    rw [q, hPg] at e; cases e
  have hLs := F.ns.lt
  have hB : s.heap.BuiltinsAt mg P := ⟨bm, ob, b1, b2, hbG, hbP, F.keep _ _ b3, b4, b5, b6⟩
  cases hf : codeAmong pos ps.toList with
  | some cv =>
    obtain ⟨c', hc', rfl⟩ := hall _ _ hf
    refine kla_makeFunctionHit (mg := mg) hcl rfl (hns.keeps F.keep) hcd (C.keeps F.keep) ho ht hf hB fun ctv h' tk hk hsz => ?_
    refine h _ c' ((mg "__name__").getD .none) ctv cs _ hc' (fun _ h => h) ?_
    exact H.new (h' := h'.push _) (a := h'.objs.size) (fun b o e => Heap.get?_push_of_some _ (hk b o e)) hsz ⟨_, Heap.get?_push_size _ rfl, rfl⟩
  | none =>
    refine kla_makeFunction (mg := mg) hcl rfl (hns.keeps F.keep) hcd (C.keeps F.keep) ho ht hf hgP hB fun c' ctv h' tk hx hge hlt hrec htb => ?_
    obtain ⟨c₂, oc, vs', t, e2, hoc, hd, hv⟩ := hrec
    cases e2
    refine h h'.objs.size c' ((mg "__name__").getD .none) ctv (c' :: cs) _ (.head _) (fun _ h => .tail _ h) ?_
    have hk : ∀ b o, b ≠ P → s.heap.get? b = some o → (h'.push (kla_obj "<lambda>" qual params body scope clos ((mg "__name__").getD .none) c' ctv)).get? b = some o := fun b o hb e => Heap.get?_push_of_some _ (hx b o hb e)
    have hsz : s.heap.objs.size < h'.objs.size := Nat.lt_of_le_of_lt hge hlt
    have gnone : ∀ b, s.heap.objs.size ≤ b → g.get? b = none := fun b hb => by
      cases q : g.get? b with
      | none => rfl
      | some o => exact absurd (Heap.lt_size (F.keep _ _ q)) (Nat.not_lt.mpr hb)
    have old : ∀ p ∈ l, p.1 ≠ P := fun p hp q => by
      have hnd := H.nd
      simp only [Tb, List.cons_append, List.map_cons, List.nodup_cons] at hnd
      exact hnd.1 (List.mem_map.mpr ⟨p, List.mem_append_right _ hp, q⟩)
    have oldc : ∀ b ∈ cs, b ≠ P := fun b hb q => by
      have hnd := H.nd
      simp only [Tb, List.cons_append, List.map_cons, List.nodup_cons] at hnd
      exact hnd.1 (List.mem_map.mpr ⟨(b, codeK qual), List.mem_append_left _ (List.mem_map.mpr ⟨b, hb, rfl⟩), q⟩)
    refine H.heap ⟨m, ⟨(F.ns.extBut hx (Ne.symm hPL)).push _, fun b o e => hk b o (fun q => by rw [q, hPg] at e; cases e) (F.keep b o e), F.above⟩, kn⟩ (fun p hp => ?_) ?_
    · rcases List.mem_cons.mp hp with rfl | hp
      · exact ⟨⟨_, Heap.get?_push_size _ rfl, rfl⟩, Nat.ne_of_gt (Nat.lt_trans hLs hsz), gnone _ (Nat.le_of_lt hsz), Nat.lt_trans H.low (Nat.lt_trans hLs hsz)⟩
      · rcases List.mem_append.mp hp with hp | hp
        · rcases List.mem_cons.mp hp with rfl | hp
          · refine ⟨⟨_, Heap.get?_push_of_some _ htb, _, rfl, ?_, fun pos' cv e => ?_⟩, hPL, hPg, hPl⟩
            · rw [Array.toList_append]; exact TriplesOk_snoc _ _ _ _ ht
            · rw [Array.toList_append] at e
              rcases codeAmong_more _ ht e with e | e
              · obtain ⟨c'', h1, h2⟩ := hall _ _ e; exact ⟨c'', .tail _ h1, h2⟩
              · exact ⟨c', .head _, e⟩
          · obtain ⟨b, hb, rfl⟩ := List.mem_map.mp hp
            rcases List.mem_cons.mp hb with rfl | hb
            · exact ⟨⟨_, Heap.get?_push_of_some _ hoc, _, _, hd, hv⟩, Nat.ne_of_gt (Nat.lt_of_lt_of_le hLs hge), gnone _ hge, Nat.lt_of_lt_of_le (Nat.lt_trans H.low hLs) hge⟩
            · have z := H.N (b, codeK qual) (List.mem_append_left _ (.tail _ (List.mem_map.mpr ⟨b, hb, rfl⟩)))
              exact ⟨z.1.keep fun o e => hk _ o (oldc b hb) e, z.2⟩
        · have z := H.N p (List.mem_append_right _ hp)
          exact ⟨z.1.keep fun o e => hk _ o (old p hp) e, z.2⟩
    · have hnd := H.nd
      have nin : ∀ b, s.heap.objs.size ≤ b → b ∉ (Tb P qual cs ++ l : Led K).map (·.1) := fun b hb q => by
        obtain ⟨p, hp, e⟩ := List.mem_map.mp q
        have hlt := (H.N p hp).1.lt
        rw [e] at hlt
        exact absurd hlt (Nat.not_lt.mpr hb)
      have e1 := nin c' hge
      have e2 := nin h'.objs.size (Nat.le_of_lt hsz)
      have e3 : c' ≠ h'.objs.size := Nat.ne_of_lt hlt
      simp only [Tb, List.cons_append, List.map_cons, List.nodup_cons, List.mem_cons, not_or] at hnd e1 e2 ⊢
      exact ⟨⟨e2.1, Ne.symm e3, e2.2⟩, ⟨Ne.symm e1.1, hnd.1⟩, e1.2, hnd.2⟩
/-- a lambda without cells is entered -/
theorem enterE {n : Nat} {RR : Result → Shared → Prop} {name qual : Str} {params : Arguments} {body : Expr} {scope : Scope} {cl : List (Str × Addr)} {pm cdv ct : Value} {fo : Obj} {f : Addr} {args : Args}
    {names : List Str} {vals : List Value} {g₀ : Heap} {l : Led K} (X : At knd g₀ s l)
    (hr : Room A n) (ho : s.heap.get? f = some fo) (hd : fo.data = .func (kla_fn name qual params body scope cl pm cdv ct)) (hcd : s.heap.CodeRec cdv qual)
    (hbind : bindArgs (kla_fn name qual params body scope cl pm cdv ct) args = pure (names.zip vals)) (hnames : names.Nodup) (hloc : ∀ x ∈ names, scope.names.lookup x = some .local)
    (h : ∀ g L s₁, (∀ b o, s.heap.get? b = some o → b ∉ l.map (·.1) → g.get? b = some o) → (∀ b o, g₀.get? b = some o → g.get? b = some o) → Bs w g → St knd g (sideOf s) L (names.zip vals) l s₁ →
      wpAny (model prog w) (A.deeper (envX qual scope L f cdv cl)) (eval body (envX qual scope L f cdv cl)) (fun v s' => RR (.ok (.ret v)) s') (fun _ _ => False) s₁)
    (hcell : ∀ x ∈ scope.names, x.2 ≠ .cell) (hco : scope.isCoroutine = false := by rfl) (hgen : scope.isGenerator = false := by rfl) (hk : scope.kind = .function := by rfl) :
    codeAny (model prog w) A (.call (.ref f) args) RR s := by
  refine kla_callFunE hr.d ho hd hco hgen rfl hcd ?_
  rw [hbind]
  refine wpAny_pure (wpAny_newFunctionEnv hcell (fun x hx => hloc _ (List.of_mem_zip hx).1) (fun h₁ hns hsb => ⟨(X.B.nolimit.keeps X.k).fresh _ hsb, ?_⟩) hk)
  have hk₁ : ∀ b o, s.heap.get? b = some o → h₁.get? b = some o := fun b o e => hsb.extBut b o (Nat.ne_of_lt (Heap.lt_size e)) (Heap.get?_push_of_some _ e)
  have hg : ∀ b o, s.heap.get? b = some o → b ∉ l.map (·.1) → (hideAll s.heap (l.map (·.1))).get? b = some o := fun b o e n => hideAll_get _ e n
  have hg₀ : ∀ b o, g₀.get? b = some o → (hideAll s.heap (l.map (·.1))).get? b = some o := fun b o e => hg b o (X.k b o e) fun q => by
    obtain ⟨p, hp, rfl⟩ := List.mem_map.mp q
    rw [(X.l p hp).2.1] at e; cases e
  refine kla_codeExpr (wpAny_mono (h (hideAll s.heap (l.map (·.1))) s.heap.objs.size { s with heap := h₁, toks := s.toks + (names.zip vals).length } hg hg₀ (X.B.keeps hg₀) ⟨⟨_, ⟨hns, fun b o e => hk₁ b o (of_hideAll _ e), Nat.le_of_eq (hideAll_size _ _)⟩, lookup_zip hnames⟩,
    fun p hp => ⟨(X.l p hp).1.keep fun o e => hk₁ _ o e, Nat.ne_of_lt (X.l p hp).1.lt, hideAll_none _ (List.mem_map_of_mem hp), (X.l p hp).2.2⟩, X.nd, rfl, rfl, rfl, modules_low (X.B.nolimit.keeps X.k)⟩) (fun _ _ y => y) fun _ _ y => y.elim)
end
end
section
open PySem
set_option Elab.async false
set_option maxRecDepth 100000
set_option maxHeartbeats 400000
set_option linter.unusedVariables false
def lcg (M i : Nat) : Nat := (i * 5 + 1) % M
def lcgN (M : Nat) : Nat → Nat → Nat
  | 0, i => i
  | k + 1, i => lcgN M k (lcg M i)
theorem lcgN_add {M : Nat} : ∀ (a b i : Nat), lcgN M (a + b) i = lcgN M b (lcgN M a i)
  | 0, b, i => by rw [Nat.zero_add]; rfl
  | a + 1, b, i => by rw [Nat.add_right_comm]; exact lcgN_add a b (lcg M i)
def orbit (M : Nat) : Nat → Nat → List Nat
  | 0, _ => []
  | k + 1, i => i :: orbit M k (lcg M i)
theorem orbit_mem {M r : Nat} : ∀ {n i : Nat}, r ∈ orbit M n i → ∃ k, k < n ∧ lcgN M k i = r
  | n + 1, i, h => by
    rcases List.mem_cons.mp h with rfl | h
    · exact ⟨0, Nat.succ_pos _, rfl⟩
    · obtain ⟨k, hk, e⟩ := orbit_mem h
      exact ⟨k + 1, Nat.succ_lt_succ hk, e⟩
def OkM (m : Nat) : Prop := m = 7 ∨ m = 31 ∨ m = 127 ∨ m = 511
def bitsOf (l : List Nat) : Nat := l.foldl (fun acc i => acc ||| (1 <<< i)) 0
theorem bitsOf_mem {l : List Nat} {r : Nat} : ∀ {a : Nat}, (l.foldl (fun acc i => acc ||| (1 <<< i)) a).testBit r = true → a.testBit r = true ∨ r ∈ l := by
  induction l with
  | nil => intro a h; exact .inl h
  | cons i l ih =>
    intro a h
    rw [List.foldl_cons] at h
    rcases ih h with h | h
    · rw [Nat.testBit_or, Nat.testBit_shiftLeft] at h
      simp only [Bool.or_eq_true, Bool.and_eq_true, decide_eq_true_eq] at h
      rcases h with h | ⟨h1, h2⟩
      · exact .inl h
      · right
        have : r - i = 0 := by
          cases q : r - i with
          | zero => rfl
          | succ n => rw [q] at h2; rw [Nat.testBit_succ] at h2; simp at h2
        have : r = i := by omega
        subst this; exact .head _
    · exact .inr (.tail _ h)
theorem all_bits {n r : Nat} (h : r < n) : (2 ^ n - 1).testBit r = true := by
  rw [Nat.testBit_two_pow_sub_one]; simpa using h
theorem lcg_full {m r : Nat} (hm : OkM m) (hr : r < m + 1) : ∃ k, k < m + 1 ∧ lcgN (m + 1) k 0 = r := by
  have key : ∀ M, bitsOf (orbit M M 0) = 2 ^ M - 1 → r < M → ∃ k, k < M ∧ lcgN M k 0 = r := fun M e hr => by
    refine orbit_mem ?_
    have h := all_bits hr
    rw [← e] at h
    rcases bitsOf_mem h with h | h
    · simp at h
    · exact h
  rcases hm with rfl | rfl | rfl | rfl
  · exact key 8 (by decide +kernel) hr
  · exact key 32 (by decide +kernel) hr
  · exact key 128 (by decide +kernel) hr
  · exact key 512 (by decide +kernel) hr
theorem lcg_back {m : Nat} (hm : OkM m) : lcgN (m + 1) (m + 1) 0 = 0 := by
  rcases hm with rfl | rfl | rfl | rfl <;> decide +kernel
theorem lcg_reach {m i r : Nat} (hm : OkM m) (hi : i < m + 1) (hr : r < m + 1) : ∃ k, k < m + 1 ∧ lcgN (m + 1) k i = r := by
  obtain ⟨a, ha, rfl⟩ := lcg_full hm hi
  obtain ⟨b, hb, rfl⟩ := lcg_full hm hr
  by_cases h : a ≤ b
  · exact ⟨b - a, by omega, by rw [← lcgN_add]; congr 1; omega⟩
  · refine ⟨m + 1 - a + b, by omega, ?_⟩
    rw [← lcgN_add, show a + (m + 1 - a + b) = (m + 1) + b by omega, lcgN_add, lcg_back hm]

def leapN (m : Nat) : Nat → Nat × Nat → Nat × Nat
  | 0, q => q
  | k + 1, q => leapN m k (SetTable.leap m q.1 q.2)
theorem leapN_add {m : Nat} : ∀ (a b : Nat) (q : Nat × Nat), leapN m (a + b) q = leapN m b (leapN m a q)
  | 0, b, q => by rw [Nat.zero_add]; rfl
  | a + 1, b, q => by rw [Nat.add_right_comm]; exact leapN_add a b _
theorem leapN_snd {m : Nat} : ∀ (k : Nat) (q : Nat × Nat), (leapN m k q).2 = q.2 / 32 ^ k
  | 0, q => by simp [leapN]
  | k + 1, q => by
    show (leapN m k (SetTable.leap m q.1 q.2)).2 = _
    rw [leapN_snd k]
    show q.2 / 32 / 32 ^ k = _
    rw [Nat.div_div_eq_div_mul, Nat.pow_succ, Nat.mul_comm]
theorem leapN_lt {m : Nat} : ∀ (k : Nat) (q : Nat × Nat), q.1 < m + 1 → (leapN m k q).1 < m + 1
  | 0, q, h => h
  | k + 1, q, h => leapN_lt k _ (Nat.mod_lt _ (Nat.succ_pos _))
theorem leapN_zero {m : Nat} : ∀ (k i : Nat), leapN m k (i, 0) = (lcgN (m + 1) k i, 0)
  | 0, i => rfl
  | k + 1, i => by
    show leapN m k (SetTable.leap m i 0) = _
    have : SetTable.leap m i 0 = (lcg (m + 1) i, 0) := by unfold SetTable.leap lcg; simp
    rw [this, leapN_zero k]; rfl
theorem leap_reach {m i p r : Nat} (hm : OkM m) (hi : i < m + 1) (hp : p < 2 ^ 64) (hr : r < m + 1) : ∃ k, k ≤ 13 + m ∧ (leapN m k (i, p)).1 = r := by
  have h13 : (leapN m 13 (i, p)).2 = 0 := by
    rw [leapN_snd]
    exact Nat.div_eq_of_lt (Nat.lt_of_lt_of_le hp (by decide))
  have hl := leapN_lt 13 (i, p) hi
  obtain ⟨k, hk, e⟩ := lcg_reach hm hl hr
  refine ⟨13 + k, by omega, ?_⟩
  rw [leapN_add, show leapN m 13 (i, p) = ((leapN m 13 (i, p)).1, 0) from Prod.ext rfl h13, leapN_zero]
  exact e

theorem has_nil (j : Nat) : SetTable.has #[] j = false := by unfold SetTable.has; simp
theorem slot_cases {t : SetTable} (hd : t.dummies = #[]) (j : Nat) : t.slot j = .empty ∨ ∃ i, t.slot j = .live i ∧ t.place[i]? = some j := by
  unfold SetTable.slot
  dsimp only
  rw [hd, has_nil]
  split
  · rename_i h; exact .inr ⟨_, rfl, by simpa using h⟩
  · exact .inl rfl
theorem slot_empty {t : SetTable} (hd : t.dummies = #[]) {j : Nat} (h : j ∉ t.place.toList) : t.slot j = .empty := by
  rcases slot_cases hd j with e | ⟨i, _, e⟩
  · exact e
  · exact absurd (Array.mem_toList_iff.mpr (Array.mem_of_getElem? e)) h
section
variable {t : SetTable} {hashAt : Nat → Int} {h : Int}
theorem go_run (hd : t.dummies = #[]) (hne : ∀ i, i < t.place.size → (hashAt i == h) = false) (i p : Nat) : ∀ (more j N : Nat),
    (∃ j', SetTable.probe.go t hashAt h (more + 1 + N) ⟨j, more, i, p, none⟩ = some (.empty j' none) ∧ t.slot j' = .empty) ∨
      SetTable.probe.go t hashAt h (more + 1 + N) ⟨j, more, i, p, none⟩ = SetTable.probe.go t hashAt h N ⟨(SetTable.leap t.mask i p).1, SetTable.runEnd t.mask (SetTable.leap t.mask i p).1 - (SetTable.leap t.mask i p).1, (SetTable.leap t.mask i p).1, (SetTable.leap t.mask i p).2, none⟩ := by
  intro more
  induction more with
  | zero =>
    intro j N
    rw [show 0 + 1 + N = N + 1 by omega]
    rcases slot_cases hd j with e | ⟨k, e, hk⟩
    · left; unfold SetTable.probe.go; dsimp only; rw [e]; exact ⟨j, rfl, e⟩
    · right
      conv => lhs; unfold SetTable.probe.go
      dsimp only; rw [e]; dsimp only
      rw [hne k (Array.getElem?_eq_some_iff.mp hk).1]
      simp only [Bool.false_eq_true, if_false]
      rfl
  | succ more ih =>
    intro j N
    rw [show more + 1 + 1 + N = (more + 1 + N) + 1 by omega]
    rcases slot_cases hd j with e | ⟨k, e, hk⟩
    · left; unfold SetTable.probe.go; dsimp only; rw [e]; exact ⟨j, rfl, e⟩
    · have : SetTable.probe.go t hashAt h (more + 1 + N + 1) ⟨j, more + 1, i, p, none⟩ = SetTable.probe.go t hashAt h (more + 1 + N) ⟨j + 1, more, i, p, none⟩ := by
        conv => lhs; unfold SetTable.probe.go
        dsimp only; rw [e]; dsimp only
        rw [hne k (Array.getElem?_eq_some_iff.mp hk).1]
        simp only [Bool.false_eq_true, if_false]
        congr 1
      rw [this]
      exact ih (j + 1) N
theorem runEnd_le (m i : Nat) : SetTable.runEnd m i - i ≤ 9 := by unfold SetTable.runEnd; split <;> omega
theorem go_reach (hd : t.dummies = #[]) (hne : ∀ i, i < t.place.size → (hashAt i == h) = false) : ∀ (k fuel i p : Nat), 10 * k + 1 ≤ fuel → t.slot (leapN t.mask k (i, p)).1 = .empty →
    ∃ j, SetTable.probe.go t hashAt h fuel ⟨i, SetTable.runEnd t.mask i - i, i, p, none⟩ = some (.empty j none) ∧ t.slot j = .empty := by
  intro k
  induction k with
  | zero =>
    intro fuel i p hf he
    obtain ⟨f, rfl⟩ : ∃ f, fuel = f + 1 := ⟨fuel - 1, by omega⟩
    unfold SetTable.probe.go
    dsimp only
    have he' : t.slot i = .empty := he
    rw [he']
    exact ⟨i, rfl, he'⟩
  | succ k ih =>
    intro fuel i p hf he
    have h9 := runEnd_le t.mask i
    obtain ⟨N, rfl⟩ : ∃ N, fuel = (SetTable.runEnd t.mask i - i) + 1 + N := ⟨fuel - ((SetTable.runEnd t.mask i - i) + 1), by omega⟩
    rcases go_run hd hne i p (SetTable.runEnd t.mask i - i) i N with r | r
    · exact r
    · rw [r]
      exact ih N _ _ (by omega) he
/-- places enough: one is free -/
theorem free_place {xs : List Nat} {m : Nat} (h : xs.length ≤ m) : ∃ r, r < m + 1 ∧ r ∉ xs := by
  refine Classical.byContradiction fun hc => ?_
  have hall : ∀ r ∈ List.range (m + 1), r ∈ xs := fun r hr => Classical.byContradiction fun hx => hc ⟨r, List.mem_range.mp hr, hx⟩
  have : (List.range (m + 1)).length ≤ xs.length := by
    have key : ∀ (l ys : List Nat), l.Nodup → (∀ r ∈ l, r ∈ ys) → l.length ≤ ys.length := by
      intro l
      induction l with
      | nil => intro ys _ _; exact Nat.zero_le _
      | cons a l ih =>
        intro ys hn hs
        rw [List.nodup_cons] at hn
        have ha := hs a (.head _)
        have := ih (ys.erase a) hn.2 fun r hr => (List.mem_erase_of_ne (fun (e : r = a) => hn.1 (by rw [← e]; exact hr))).mpr (hs r (.tail _ hr))
        rw [List.length_erase_of_mem ha] at this
        have := List.length_pos_of_mem ha
        rw [List.length_cons]; omega
    exact key _ _ List.nodup_range hall
  rw [List.length_range] at this; omega
/-- a table of a set to which elements were only added -/
structure TabOk (t : SetTable) (n : Nat) : Prop where
  d : t.dummies = #[]
  m : OkM t.mask
  p : t.place.size = n
  r : n * 5 < t.mask * 3
theorem TabOk.fits {n : Nat} (T : TabOk t n) : t.fits n = true := by
  have := T.r; have := T.p
  simp only [SetTable.fits, SetTable.fill, T.d, Bool.and_eq_true, beq_iff_eq, decide_eq_true_eq]
  exact ⟨T.p, by simp; omega⟩
theorem TabOk.way {n : Nat} (T : TabOk t n) : t.gaveWay = false := by
  have := T.m
  unfold SetTable.gaveWay
  rcases this with e | e | e | e <;> rw [e] <;> decide
theorem probe_ok {n : Nat} (T : TabOk t n) (hne : ∀ i, i < n → (hashAt i == h) = false) : ∃ j, t.probe hashAt h (t.probeStart h) = some (.empty j none) ∧ t.slot j = .empty := by
  have hr := T.r; have hp := T.p
  obtain ⟨r, hr1, hr2⟩ := free_place (xs := t.place.toList) (m := t.mask) (by rw [Array.length_toList]; omega)
  have hb : SetTable.bits h < 2 ^ 64 := by unfold SetTable.bits; omega
  obtain ⟨k, hk, e⟩ := leap_reach (i := SetTable.bits h % (t.mask + 1)) (p := SetTable.bits h) T.m (Nat.mod_lt _ (Nat.succ_pos _)) hb hr1
  unfold SetTable.probe SetTable.probeStart
  exact go_reach T.d (by rw [hp]; exact hne) k _ _ _ (by unfold SetTable.turns; omega) (by rw [e]; exact slot_empty T.d hr2)
end

section
variable {m : Nat} {owner : Array (Option Nat)}
theorem getD_none {j : Nat} (h : (owner.getD j (some 0)).isNone = true) : owner[j]? = some none := by
  rw [Array.getD_eq_getD_getElem?] at h
  cases q : owner[j]? with
  | none => rw [q] at h; simp at h
  | some o => rw [q] at h; cases o with
    | none => rfl
    | some _ => simp at h
theorem free_reach : ∀ (k fuel i p : Nat), k + 1 ≤ fuel → i < m + 1 → owner[(leapN m k (i, p)).1]? = some none → ∃ j, SetTable.layClean.free m owner fuel i p = some j ∧ owner[j]? = some none := by
  intro k
  induction k with
  | zero =>
    intro fuel i p hf hi he
    obtain ⟨f, rfl⟩ : ∃ f, fuel = f + 1 := ⟨fuel - 1, by omega⟩
    unfold SetTable.layClean.free
    have he' : owner[i]? = some none := he
    cases q : (List.range (SetTable.runEnd m i + 1 - i)).find? (fun k => (owner.getD (i + k) (some 0)).isNone) with
    | some k => exact ⟨_, rfl, getD_none (by simpa using List.find?_some q)⟩
    | none =>
      rw [List.find?_eq_none] at q
      have := q 0 (List.mem_range.mpr (by unfold SetTable.runEnd; split <;> omega))
      rw [Nat.add_zero, Array.getD_eq_getD_getElem?, he'] at this
      simp at this
  | succ k ih =>
    intro fuel i p hf hi he
    obtain ⟨f, rfl⟩ : ∃ f, fuel = f + 1 := ⟨fuel - 1, by omega⟩
    unfold SetTable.layClean.free
    cases q : (List.range (SetTable.runEnd m i + 1 - i)).find? (fun k => (owner.getD (i + k) (some 0)).isNone) with
    | some k => exact ⟨_, rfl, getD_none (by simpa using List.find?_some q)⟩
    | none => exact ih f _ _ (by omega) (Nat.mod_lt _ (Nat.succ_pos _)) he
structure OwnOk (m : Nat) (owner : Array (Option Nat)) (k : Nat) : Prop where
  z : owner.size = m + 1
  p : (owner.toList.filterMap id).Perm (List.range k)
theorem filterMap_full {α : Type} : ∀ {l : List (Option α)}, (∀ x ∈ l, x.isSome = true) → (l.filterMap id).length = l.length
  | [], _ => rfl
  | none :: l, h => by have := h none (.head _); simp at this
  | some a :: l, h => by show (a :: l.filterMap id).length = _; rw [List.length_cons, List.length_cons, filterMap_full fun x hx => h x (.tail _ hx)]
theorem OwnOk.free {k : Nat} (O : OwnOk m owner k) (hk : k ≤ m) : ∃ r, r < m + 1 ∧ owner[r]? = some none := by
  refine Classical.byContradiction fun hc => ?_
  have hall : ∀ x ∈ owner.toList, x.isSome = true := fun x hx => by
    obtain ⟨r, hr, e⟩ := List.getElem_of_mem hx
    rw [Array.length_toList, O.z] at hr
    cases x with
    | some _ => rfl
    | none => exact absurd ⟨r, hr, by rw [← Array.getElem?_toList, List.getElem?_eq_getElem (by rw [Array.length_toList, O.z]; exact hr), e]⟩ hc
  have := filterMap_full hall
  rw [O.p.length_eq, List.length_range, Array.length_toList, O.z] at this
  omega
theorem OwnOk.put {k j : Nat} (O : OwnOk m owner k) (hj : owner[j]? = some none) : OwnOk m (owner.setIfInBounds j (some k)) (k + 1) := by
  refine ⟨by rw [Array.size_setIfInBounds]; exact O.z, ?_⟩
  rw [Array.toList_setIfInBounds]
  have hj' : owner.toList[j]? = some none := by rw [Array.getElem?_toList]; exact hj
  obtain ⟨hlt, he⟩ := List.getElem?_eq_some_iff.mp hj'
  have e1 : owner.toList = owner.toList.take j ++ none :: owner.toList.drop (j + 1) := by
    conv => lhs; rw [← List.take_append_drop j owner.toList, List.drop_eq_getElem_cons hlt, he]
  have e2 : owner.toList.set j (some k) = owner.toList.take j ++ some k :: owner.toList.drop (j + 1) := List.set_eq_take_append_cons_drop (l := owner.toList) (i := j) (a := some k) |>.trans (by rw [if_pos hlt])
  have hp := O.p
  rw [e1, List.filterMap_append, List.filterMap_cons_none rfl] at hp
  rw [e2, List.filterMap_append, List.range_succ]
  show ((owner.toList.take j).filterMap id ++ k :: (owner.toList.drop (j + 1)).filterMap id).Perm _
  exact List.perm_middle.trans ((List.Perm.cons k hp).trans (List.perm_append_singleton k (List.range k)).symm)
theorem layFold (hm : OkM m) : ∀ (hs : List Int) (owner : Array (Option Nat)) (k : Nat), OwnOk m owner k → k + hs.length ≤ m →
    ∃ owner', OwnOk m owner' (k + hs.length) ∧ hs.foldl (fun acc h => do
      let (owner, k) ← acc
      let j ← SetTable.layClean.free m owner (SetTable.turns m) (SetTable.bits h % (m + 1)) (SetTable.bits h)
      pure (owner.setIfInBounds j (some k), k + 1)) (some (owner, k)) = some (owner', k + hs.length)
  | [], owner, k, O, _ => ⟨owner, O, rfl⟩
  | h :: hs, owner, k, O, hz => by
    rw [List.length_cons] at hz
    obtain ⟨r, hr, er⟩ := O.free (by omega)
    have hb : SetTable.bits h < 2 ^ 64 := by unfold SetTable.bits; omega
    obtain ⟨n, hn, e⟩ := leap_reach (i := SetTable.bits h % (m + 1)) (p := SetTable.bits h) hm (Nat.mod_lt _ (Nat.succ_pos _)) hb hr
    obtain ⟨j, hj1, hj2⟩ := free_reach (owner := owner) n (SetTable.turns m) (SetTable.bits h % (m + 1)) (SetTable.bits h) (by unfold SetTable.turns; omega) (Nat.mod_lt _ (Nat.succ_pos _)) (by rw [e]; exact er)
    obtain ⟨o', O', e'⟩ := layFold hm hs _ _ (O.put hj2) (by omega)
    refine ⟨o', by rw [List.length_cons, show k + (hs.length + 1) = k + 1 + hs.length by omega]; exact O', ?_⟩
    rw [List.foldl_cons, List.length_cons, show k + (hs.length + 1) = k + 1 + hs.length by omega, ← e']
    congr 1
    show (SetTable.layClean.free m owner (SetTable.turns m) (SetTable.bits h % (m + 1)) (SetTable.bits h)).bind _ = _
    rw [hj1]; rfl
theorem own0 : OwnOk m (Array.replicate (m + 1) none) 0 := ⟨by simp, by simp⟩
theorem toList_range {α : Type} (o : Array (Option α)) : o.toList = (List.range o.size).map fun j => o.getD j none := by
  apply List.ext_getElem?
  intro i
  rw [Array.getElem?_toList, List.getElem?_map]
  by_cases h : i < o.size
  · rw [List.getElem?_range h, Option.map_some, Array.getD_eq_getD_getElem?, Array.getElem?_eq_getElem h]; rfl
  · rw [Array.getElem?_eq_none (Nat.not_lt.mp h), List.getElem?_eq_none (by rw [List.length_range]; exact Nat.not_lt.mp h)]; rfl
theorem laid_ok {fg mv : Nat} {ld pl : Bool} (hm : OkM m) (hs : Array Int) (hz : hs.size ≤ m) : ∃ t order, SetTable.laid m fg mv ld pl hs = some (t, order) ∧ t.mask = m ∧ t.dummies = #[] ∧ t.place.size = hs.size ∧ order.toList.Perm (List.range hs.size) := by
  obtain ⟨owner, O, e⟩ := layFold hm hs.toList _ 0 own0 (by rw [Array.length_toList]; omega)
  rw [Nat.zero_add, Array.length_toList] at O
  have e' : SetTable.layClean m hs = some owner := by
    unfold SetTable.layClean
    rw [← Array.foldl_toList, e]; rfl
  have e2 : ((List.range (m + 1)).filterMap fun j => (owner.getD j none).map (j, ·)).map (·.2) = owner.toList.filterMap id := by
    rw [List.map_filterMap, toList_range, List.filterMap_map, O.z]
    congr 1
    funext j
    show Option.map (fun x => x.snd) (Option.map (fun x => (j, x)) (owner.getD j none)) = owner.getD j none
    cases owner.getD j none <;> rfl
  refine ⟨_, _, by unfold SetTable.laid; rw [e']; rfl, rfl, rfl, ?_, ?_⟩
  · have := O.p.length_eq
    rw [← e2, List.length_map, List.length_range] at this
    simpa using this
  · show (((List.range (m + 1)).filterMap fun j => (owner.getD j none).map (j, ·)).map (·.2)).toArray.toList.Perm _
    rw [List.toList_toArray, e2]; exact O.p
end
/-- a table that is made anew -/
theorem relaid_ok {t : SetTable} {n : Nat} (hm : OkM t.mask) (hn : n * 5 < t.mask * 3) (hf : (n + 1) * 5 ≥ t.mask * 3) (h200 : n < 200) (hs : Array Int) (hz : hs.size = n + 1) :
    ∃ t' order, t.relaid hs (SetTable.grown (n + 1)) = some (t', order) ∧ TabOk t' (n + 1) ∧ order.toList.Perm (List.range (n + 1)) ∧ SetTable.sizeAbove (SetTable.grown (n + 1)) ≤ 1000 := by
  unfold SetTable.relaid
  have main : ∀ M, OkM (M - 1) → SetTable.sizeAbove (SetTable.grown (n + 1)) = M → n + 1 ≤ M - 1 → (n + 1) * 5 < (M - 1) * 3 → M ≤ 1000 → ∃ t' order, SetTable.laid (SetTable.sizeAbove (SetTable.grown (n + 1)) - 1) t.finger (t.movedTo (SetTable.sizeAbove (SetTable.grown (n + 1)) - 1)) t.led t.plain hs = some (t', order) ∧ TabOk t' (n + 1) ∧ order.toList.Perm (List.range (n + 1)) ∧ SetTable.sizeAbove (SetTable.grown (n + 1)) ≤ 1000 := fun M hM e h1 h2 h3 => by
    obtain ⟨t', order, e1, e2, e3, e4, e5⟩ := laid_ok (m := SetTable.sizeAbove (SetTable.grown (n + 1)) - 1) (fg := t.finger) (mv := t.movedTo (SetTable.sizeAbove (SetTable.grown (n + 1)) - 1)) (ld := t.led) (pl := t.plain) (by rw [e]; exact hM) hs (by rw [e, hz]; exact h1)
    exact ⟨t', order, e1, ⟨e3, by rw [e2, e]; exact hM, by rw [e4, hz], by rw [e2, e]; exact h2⟩, by rw [← hz]; exact e5, by rw [e]; exact h3⟩
  rcases hm with e | e | e | e
  · have : n = 4 := by omega
    subst this
    exact main 32 (.inr (.inl rfl)) (by decide +kernel) (by decide) (by decide) (by decide)
  · have : n = 18 := by omega
    subst this
    exact main 128 (.inr (.inr (.inl rfl))) (by decide +kernel) (by decide) (by decide) (by decide)
  · have : n = 76 := by omega
    subst this
    exact main 512 (.inr (.inr (.inr rfl))) (by decide +kernel) (by decide) (by decide) (by decide)
  · omega
end
section
open PySem PySem.W PySem.Calls PyProof.Rows
set_option Elab.async false
set_option maxRecDepth 100000
set_option maxHeartbeats 400000
set_option linter.unusedVariables false
set_option linter.unusedSectionVars false
section
variable {prog : Program} {w : World} {K : Type} [DecidableEq K] {knd : KeyKind prog w K} {A : Around} {s : Shared} {E : Value → Shared → Prop} {g : Heap} {R : Side} {L : Addr} {vs : Vars} {l l' : Led K} {a x : Addr}
/-- a set of tuples, by their hashes; nothing was ever dropped -/
def setK (hs : List Int) : Kd K := .obs fun o => o.ExactSet ∧ ∃ es ep t, o.data = .set es ep t ∧ TabOk t es.size ∧ (es.toList.map (·.1)).Perm hs
theorem search_free {h : Int} {adding : Bool} {o : Obj} {es : Array (Int × Value)} {ep : Nat} {t : SetTable} {Q : SetFound → Shared → Prop} (ho : s.heap.get? a = some o) (hd : o.data = .set es ep t) (T : TabOk t es.size)
    (hne : ∀ e ∈ es.toList, e.1 ≠ h) (hQ : ∀ j, Q (.free j false) s) : wpAny (model prog w) A (setSearch a (.ref x) h adding) Q E s := by
  show wpAny _ _ (setSearchFrom a (.ref x) h adding (99999 + 1) none) Q E s
  unfold setSearchFrom
  refine wpAny_bind (wpAny_setState_of ho hd T.fits ?_)
  dsimp only
  rw [T.way]
  simp only [Bool.false_eq_true, if_false]
  have hne' : ∀ i, i < es.size → (((es[i]?.map (·.1)).getD 0) == h) = false := fun i hi => by
    rw [Array.getElem?_eq_getElem hi]
    have := hne es[i] (Array.getElem_mem_toList hi)
    simpa using this
  obtain ⟨j, hj, _⟩ := probe_ok (hashAt := fun i => (es[i]?.map (·.1)).getD 0) (h := h) T hne'
  generalize hp : t.probe _ h (none.getD (t.probeStart h)) = met
  have hm : met = some (.empty j none) := hp.symm.trans hj
  subst hm
  exact wpAny_pure (hQ j)
theorem find_none {h : Int} {o : Obj} {es : Array (Int × Value)} {ep : Nat} {t : SetTable} {Q : Option Nat → Shared → Prop} (ho : s.heap.get? a = some o) (hd : o.data = .set es ep t) (T : TabOk t es.size)
    (hne : ∀ e ∈ es.toList, e.1 ≠ h) (hQ : Q none s) : wpAny (model prog w) A (setFind a (.ref x) h) Q E s := by
  show wpAny _ _ (setFindIn a (.ref x) h (99999 + 1)) Q E s
  unfold setFindIn
  refine wpAny_bind (wpAny_setState_of ho hd T.fits ?_)
  dsimp only
  have : byScan (.ref x) es = false := rfl
  rw [this]
  simp only [Bool.false_eq_true, if_false]
  exact wpAny_bind (search_free ho hd T hne fun j => wpAny_pure hQ)
theorem setK.typeIs {hs : List Int} (S : Has knd s.heap a (setK hs)) : s.TypeIs (.ref a) "set" := let ⟨o, ho, e, _⟩ := S; ⟨o, ho, e.1⟩
abbrev ik (prog : Program) (w : World) : KeyKind prog w Int := intKind prog w
/-- a tuple of ints -/
def TupI (prog : Program) (w : World) (h : Heap) (a : Addr) (ns : List Int) : Prop := IsTupleKey (intKind prog w) h ns a
def tupHash (ns : List Int) : Int := reduceHash (Builtin.Tuple.tupleHashOf (ns.map hashInt))
theorem inTold {hs : List Int} {ns : List Int} {Q : Value → Shared → Prop} (H : St knd g R L vs l s) (hr : Room A 1) (S : Has knd s.heap a (setK hs)) (T : IsTupleKey (intKind prog w) s.heap ns x) (hn : tupHash ns ∉ hs) (h : ∀ s', St knd g R L vs l s' → Q (.bool false) s') :
    wpAny (model prog w) A (compareOp .In (.ref x) (.ref a)) Q E s := by
  have hT := setK.typeIs S
  show wpAny _ _ (do return .bool (← contains (.ref a) (.ref x))) Q E s
  refine wpAny_bind ?_
  unfold contains
  try with_reducible refine wpAny_holding ?_
  refine wpAny_bind (wpAny_specialOf hT F.slot_set_contains.lookup ?_)
  show wpAny _ _ (if (some (Value.builtin "set.__contains__") == some Value.none) = true then _ else _) _ E s
  rw [if_neg (by rw [beq_builtin_none]; exact Bool.false_ne_true)]
  refine wpAny_bind (wpAny_callSpecialUnlessNone?_slot (name := Str.ofString "__contains__") hT F.slot_set_contains
    (wpAny_call_entry F.slot_set_contains hT entry_set_contains ?_ (F.args_set_contains_2 _ _)))
  unfold Builtin.«frozenset.__contains__» Builtin.Frozenset.oneOther
  simp only [List.isEmpty_nil, bind_assoc]
  unfold Builtin.Frozenset.addrOf Builtin.Frozenset.withSetAsKey setContains
  refine wpAny_bind (wpAny_pure ?_)
  try dsimp only
  refine wpAny_bind (wpAny_pure ?_)
  try dsimp only
  refine wpAny_bind (wpAny_tryCatch ?_)
  refine wpAny_holding ?_
  refine wpAny_bind (wpAny_pyHash_tuple (by show A.units + 1 < cLine; have := hr.units; omega) T ?_)
  obtain ⟨o, ho, hex, es, ep, t, hd, TO, hp⟩ := S
  refine wpAny_bind (find_none (s := { s with toks := _ }) ho hd TO (fun e he q => hn ?_) ?_)
  · have : e.1 ∈ hs := hp.mem_iff.mp (List.mem_map_of_mem he)
    rw [q] at this; exact this
  refine wpAny_pure ?_
  show wpAny _ _ (ret (Value.bool false)) _ _ _
  exact wpAny_pure ⟨_, rfl, wpAny_truthy_bool (wpAny_pure (h _ (H.tok _)))⟩
theorem size_insertAt {α : Type} (xs : Array α) (p : Nat) (y : α) : (SetTable.insertAt xs p y).size = xs.size + 1 := by
  have := (SetTable.insertAt_perm xs p y).length_eq
  simpa using this
theorem hashByValue_tuple {n : Nat} {ns : List Int} {Q : Bool → Shared → Prop} (T : IsTupleKey (intKind prog w) s.heap ns x) (hQ : ∀ b, Q b s) : wpAny (model prog w) A (hashByValue (n + 1) (.ref x)) Q E s := by
  have hT := T.typeIs
  obtain ⟨o, items, m, ho, _, hd, hi⟩ := T
  unfold hashByValue
  refine wpAny_bind (wpAny_specialOf hT F.slot_tuple_hash.lookup ?_)
  dsimp only
  refine wpAny_bind (wpAny_seqItems ho hd ?_)
  dsimp only [Option.getD]
  refine wpAny_bind ?_
  rw [← Array.forIn_toList]
  refine wpAny_forIn_list _ (fun rest b s' => b.1 = none ∧ (∃ ks, ItemsAre (intKind prog w) ks rest) ∧ s' = s) _ ?_ ?_ _ _ ⟨rfl, ⟨_, hi⟩, rfl⟩
  · rintro v rest b s' ⟨hb, ⟨ks, hk⟩, rfl⟩
    cases hk with
    | @cons k _ ks' _ h1 hl =>
      obtain ⟨t, rfl⟩ := Value.isInt_shape h1
      have e : hashByValue n (.int k t) = pure true := by cases n <;> rfl
      rw [e]
      exact wpAny_bind (wpAny_pure (wpAny_pure ⟨rfl, ⟨_, hl⟩, rfl⟩))
  · rintro b s' ⟨hb, _, rfl⟩
    rw [hb]
    exact wpAny_pure (hQ true)
theorem St.at_set (H : St knd g R L vs l s) {k k' : Kd K} (U : Up a k k' l l') {o' : Obj} {h' : Heap} {t : Nat} (hs : Heap.SameBut a s.heap h') (ho : h'.get? a = some o') (hk : k'.holds knd o') : St knd g R L vs l' { s with heap := h', toks := t } := H.put U hs ⟨_, ho, hk⟩
theorem addTail2 {hs : List Int} {hh : Int} {o : Obj} {es es1 : Array (Int × Value)} {ep : Nat} {t t2 : SetTable} {tk : Nat} {Q : Bool → Shared → Prop} (H : St knd g R L vs l s) (U : Up a (setK hs) (setK (hh :: hs)) l l') (hex : o.ExactSet) (ho : s.heap.get? a = some o) (hd : o.data = .set es ep t) (TO : TabOk t es.size)
    (hp : (es.toList.map (·.1)).Perm hs) (hz : es.size < 200) (h1 : es1.toList.Perm (es.toList ++ [(hh, .ref x)])) (h2 : t2.dummies = #[]) (h3 : t2.mask = t.mask) (h4 : t2.place.size = es.size + 1)
    (h : ∀ s', St knd g R L vs l' s' → Q true s') :
    wpAny (model prog w) A (do storeSet a es1 t2; if (!false && t2.tooFull) = true then do setRelay a (SetTable.grown (es.size + 1)); pure true else pure true) Q E { s with toks := tk } := by
  have hz1 : es1.size = es.size + 1 := by have := h1.length_eq; simpa using this
  have hr := TO.r
  have hfit : t2.fits es1.size = true := by
    simp only [SetTable.fits, SetTable.fill, h2, h3, h4, hz1, Bool.and_eq_true, beq_iff_eq, decide_eq_true_eq]
    exact ⟨trivial, by simp; omega⟩
  have hpm : (es1.toList.map (·.1)).Perm (hh :: hs) := by
    refine (h1.map _).trans ?_
    rw [List.map_append]
    exact (List.perm_append_singleton _ _).trans (List.Perm.cons _ hp)
  refine wpAny_bind (wpAny_storeSet_of (s := { s with toks := tk }) ho hd ?_ (by rw [hz1, sizeLine_eq]; omega))
  have ho1 : (s.heap.update a (Obj.putSet es1 t2)).get? a = some { o with data := .set es1 (ep + 1) t2 } := by
    have := Heap.get?_update_self (Obj.putSet es1 t2) ho (by rw [putSet_of es1 t2 hd]; rfl)
    rw [putSet_of es1 t2 hd] at this; exact this
  have hsb := Heap.SameBut.update s.heap a (Obj.putSet es1 t2)
  cases hf : t2.tooFull with
  | false =>
    simp only [Bool.and_false, Bool.false_eq_true, if_false]
    refine wpAny_pure (h _ ?_)
    have hT : TabOk t2 es1.size := by
      refine ⟨h2, by rw [h3]; exact TO.m, by rw [h4, hz1], ?_⟩
      have : ¬ t2.fill * 5 ≥ t2.mask * 3 := by unfold SetTable.tooFull at hf; simpa using hf
      rw [h3, hz1]; rw [SetTable.fill, h2, h3, h4] at this
      simp at this; omega
    exact H.at_set U hsb ho1 ⟨⟨hex.1, hex.2.1, hex.2.2⟩, _, _, _, rfl, hT, hpm⟩
  | true =>
    simp only [Bool.not_false, Bool.and_true, if_true]
    have hge : (es.size + 1) * 5 ≥ t2.mask * 3 := by
      have : t2.fill * 5 ≥ t2.mask * 3 := by unfold SetTable.tooFull at hf; simpa using hf
      rw [SetTable.fill, h2, h4] at this
      simpa using this
    obtain ⟨t', order, e1, hT, hord, hsz⟩ := relaid_ok (t := t2) (n := es.size) (by rw [h3]; exact TO.m) (by rw [h3]; exact hr) hge hz (es1.map (·.1)) (by simpa using hz1)
    unfold setRelay
    refine wpAny_bind (wpAny_bind (wpAny_setState_of ho1 rfl hfit ?_))
    dsimp only
    rw [if_neg (by rw [sizeLine_eq]; omega)]
    rw [e1]
    have hes2 : (order.filterMap (es1[·]?)).toList.Perm es1.toList := by
      rw [Array.toList_filterMap]
      exact (hord.filterMap _).trans (by rw [← hz1, filterMap_getElem?_range])
    have hzz : (order.filterMap (es1[·]?)).size = es1.size := by have := hes2.length_eq; rwa [Array.length_toList, Array.length_toList] at this
    refine wpAny_bind (m := (do
      if (order.filterMap (es1[·]?)).size != es1.size then unsupported "internal:set-table-lost-an-element"
      pure (order.filterMap (es1[·]?), t'))) ?_
    rw [hzz]
    simp only [bne_self_eq_false, Bool.false_eq_true, if_false]
    refine wpAny_pure ?_
    dsimp only
    refine wpAny_storeSet_of ho1 rfl ?_ (by rw [hzz, hz1, sizeLine_eq]; omega)
    refine wpAny_pure (h _ ?_)
    have ho2 : ((s.heap.update a (Obj.putSet es1 t2)).update a (Obj.putSet (order.filterMap (es1[·]?)) t')).get? a = some { o with data := .set (order.filterMap (es1[·]?)) (ep + 1 + 1) t' } := by
      have := Heap.get?_update_self (Obj.putSet (order.filterMap (es1[·]?)) t') ho1 (by rw [putSet_of (ep := ep + 1) (t := t2) (es := es1) _ t' rfl]; rfl)
      rw [putSet_of (ep := ep + 1) (t := t2) (es := es1) _ t' rfl] at this; exact this
    exact H.at_set U (hsb.trans (Heap.SameBut.update _ a _)) ho2 ⟨⟨hex.1, hex.2.1, hex.2.2⟩, _, _, _, rfl, by rw [hzz, hz1]; exact hT, (hes2.map _).trans hpm⟩
/-- a tuple is added that is not in the set -/
theorem uTold {hs : List Int} {ns : List Int} {Q : Value → Shared → Prop} (H : St knd g R L vs l s) (hr : Room A 1) (U : Up a (setK hs) (setK (tupHash ns :: hs)) l l') (T : IsTupleKey (intKind prog w) s.heap ns x) (hn : tupHash ns ∉ hs) (hz : hs.length < 200)
    (h : ∀ s', St knd g R L vs l' s' → Q .none s') : wpAny (model prog w) A (call (.builtin "set.add") [.ref a, .ref x]) Q E s := by
  have S := H.has U.mem
  refine wpAny_call_entry F.slot_set_add (setK.typeIs S) F.entry_set_add ?_ (F.args_set_add_2 _ _)
  unfold Builtin.«set.add» Builtin.Frozenset.oneOther
  simp only [List.isEmpty_nil, bind_assoc]
  unfold Builtin.Frozenset.addrOf setAdd
  refine wpAny_bind (wpAny_pure ?_)
  try dsimp only
  refine wpAny_bind (wpAny_pure ?_)
  try dsimp only
  refine wpAny_bind ?_
  refine wpAny_holding ?_
  refine wpAny_bind (wpAny_pyHash_tuple (by show A.units + 1 < cLine; have := hr.units; omega) T ?_)
  show wpAny _ _ (setAddHashed a (.ref x) (tupHash ns)) _ _ _
  obtain ⟨o, ho, hex, es, ep, t, hd, TO, hp⟩ := S
  have hel : es.size = hs.length := by rw [← Array.length_toList, ← List.length_map (f := (·.1)), hp.length_eq]
  show wpAny _ _ (holding [.ref x] (setAddHashedIn a (.ref x) (tupHash ns) (99999 + 1))) _ _ _
  refine wpAny_holding ?_
  unfold setAddHashedIn
  refine wpAny_bind (wpAny_setState_of ho hd TO.fits ?_)
  dsimp only
  have hby : byScan (.ref x) es = false := rfl
  rw [hby]
  simp only [Bool.false_eq_true, if_false]
  refine wpAny_bind (search_free (s := { s with toks := _ }) ho hd TO (fun e he q => hn ?_) fun j => ?_)
  · have : e.1 ∈ hs := hp.mem_iff.mp (List.mem_map_of_mem he)
    rw [q] at this; exact this
  dsimp only
  refine wpAny_bind (wpAny_setState_of ho hd TO.fits ?_)
  dsimp only
  have hins : (SetTable.insertAt es (t.put j).2 (tupHash ns, Value.ref x)).toList.Perm (es.toList ++ [(tupHash ns, .ref x)]) := by
    have := SetTable.insertAt_perm es (t.put j).2 (tupHash ns, Value.ref x)
    rwa [Array.toList_push] at this
  have d1 : (t.put j).1.dummies = #[] := by
    show (if SetTable.has t.dummies j then _ else t.dummies) = #[]
    rw [TO.d, has_nil]; rfl
  have d2 : (t.put j).1.mask = t.mask := rfl
  have d3 : (t.put j).1.place.size = es.size + 1 := by show (SetTable.insertAt _ _ _).size = _; rw [size_insertAt, TO.p]
  have fin : ∀ {t2 : SetTable} {tk : Nat}, t2.dummies = #[] → t2.mask = t.mask → t2.place.size = es.size + 1 → wpAny (model prog w) A.in1 (do storeSet a (SetTable.insertAt es (t.put j).2 (tupHash ns, Value.ref x)) t2; if (!false && t2.tooFull) = true then do setRelay a (SetTable.grown (es.size + 1)); pure true else pure true)
      (fun a s' => wpAny (model prog w) A.in1 (ret Value.none) (fun fin s' => ∃ v, fin = Fin.done (Flow.ret v) ∧ Q v s') E s') E { s with toks := tk } := fun e1 e2 e3 =>
    addTail2 H U hex ho hd TO hp (by omega) hins e1 e2 e3 fun s' H' => wpAny_pure ⟨_, rfl, h s' H'⟩
  split
  · refine wpAny_bind (hashByValue_tuple (n := 7) T fun b => ?_)
    cases b with
    | true => exact fin d1 d2 d3
    | false => exact fin d1 d2 d3
  · exact wpAny_bind (wpAny_pure (fin d1 d2 d3))
/-- a set is made -/
theorem cSet {Q : Value → Shared → Prop} (H : St knd g R L vs l s) (h : ∀ c s', St knd g R L vs ((c, setK []) :: l) s' → Q (.ref c) s') : wpAny (model prog w) A (call (.type "set") []) Q E s := by
  refine call_set_0 fun led => h _ _ (H.push rfl ?_)
  exact ⟨⟨rfl, rfl, rfl⟩, _, _, _, rfl, ⟨rfl, .inl rfl, rfl, show 0 * 5 < 7 * 3 by decide⟩, .nil⟩
theorem cSetLen {hs : List Int} {Q : Value → Shared → Prop} (H : St knd g R L vs l s) (S : Has knd s.heap a (setK hs)) (hz : hs.length < 1000) (h : ∀ t s', St knd g R L vs l s' → Q (.int hs.length t) s') : wpAny (model prog w) A (call (.builtin "len") [.ref a]) Q E s := by
  obtain ⟨o, ho, hex, es, ep, t, hd, TO, hp⟩ := S
  have hel : es.size = hs.length := by rw [← Array.length_toList, ← List.length_map (f := (·.1)), hp.length_eq]
  refine call_len_set ho hex hd TO.fits (by omega) ?_
  rw [hel]
  exact h _ _ (H.tok _)
end
end
section
open PySem PySem.W PySem.Calls PyProof.Rows PySem.Spec
set_option Elab.async false
set_option maxRecDepth 100000
set_option maxHeartbeats 400000
set_option linter.unusedVariables false
set_option linter.unusedSectionVars false
section
variable {prog : Program} {w : World} {K : Type} [DecidableEq K] {knd : KeyKind prog w K} {A : Around} {s : Shared} {E : Value → Shared → Prop} {g : Heap} {R : Side} {L : Addr} {vs : Vars} {l l' : Led K} {a b x : Addr}
theorem intsAre_ints {xs : List Value} {ns : List Int} (h : IntsAre xs ns) : Ints xs := by
  induction h with
  | nil => intro v hv; cases hv
  | cons n t _ ih => intro v hv; rcases List.mem_cons.mp hv with rfl | hv; exact ⟨n, t, rfl⟩; exact ih v hv
theorem ints_intsAre : ∀ {xs : List Value}, Ints xs → IntsAre xs (xs.map vInt)
  | [], _ => .nil
  | v :: xs, h => by
    obtain ⟨i, t, rfl⟩ := h v (.head _)
    exact .cons i t (ints_intsAre fun u hu => h u (.tail _ hu))
theorem intsAre_map {xs : List Value} {ns : List Int} (h : IntsAre xs ns) : xs.map vInt = ns := by
  induction h with
  | nil => rfl
  | cons n t _ ih => rw [List.map_cons, ih]; rfl
/-- sorted of a list of ints -/
theorem cSortedI {xs : List Value} {ns : List Int} {Q : Value → Shared → Prop} (H : St knd g R L vs l s) (D : Has knd s.heap a (.lst xs)) (hi : IntsAre xs ns) (hz : xs.length < 64)
    (h : ∀ d ys ms s', IntsAre ys ms → ms.Perm ns → ms.Pairwise (· ≤ ·) → St knd g R L vs ((d, .lst ys) :: l) s' → Q (.ref d) s') : wpAny (model prog w) A (call (.builtin "sorted") [.ref a]) Q E s := by
  refine sorted_ints D.list hi hz fun out ms h1 h2 h3 => ?_
  obtain ⟨e, he⟩ := sortedAll_at s.heap xs out
  exact h _ out.toList ms _ h1 h2 h3 (H.new (fun b o q => sortedAll_old q) (Nat.le_succ _) ⟨_, he, e, by simp⟩)
theorem keys_ints : ∀ {kvs : List (Int × Value)} {xs : List Value}, xs.length = kvs.length → (∀ (j : Nat) (v : Value), xs[j]? = some v → ∃ k y t, kvs[j]? = some (k, y) ∧ v = .int k t) → IntsAre xs (kvs.map (·.1))
  | [], [], _, _ => .nil
  | [], _ :: _, hl, _ => by simp at hl
  | _ :: _, [], hl, _ => by simp at hl
  | p :: r, v :: xs, hl, hall => by
    obtain ⟨k, y, t, e1, rfl⟩ := hall 0 v rfl
    cases e1
    exact .cons _ _ (keys_ints (by simpa using hl) fun j v e => hall (j + 1) v e)
/-- a new object, at a place that nobody has -/
theorem St.newA (H : St knd g R L vs l s) {h' : Heap} {t : Nat} {k : Kd K} (hk : ∀ b o, s.heap.get? b = some o → h'.get? b = some o) (ha : ∀ b o, s.heap.get? b = some o → b < a) (hh : Has knd h' a k) : St knd g R L vs ((a, k) :: l) { s with heap := h', toks := t } := by
  obtain ⟨m, F, kn⟩ := H.F
  have hLa : L < a := by obtain ⟨oL, _, _, hL, _⟩ := F.ns; exact ha _ _ hL
  refine H.heap ⟨m, Fr.grow F hk, kn⟩ (fun p hp => ?_) ?_
  · rcases List.mem_cons.mp hp with rfl | hp
    · refine ⟨hh, Nat.ne_of_gt hLa, ?_, Nat.lt_trans H.low hLa⟩
      cases q : g.get? a with
      | none => rfl
      | some o => exact absurd (ha _ _ (F.keep _ _ q)) (Nat.lt_irrefl _)
    · exact ⟨(H.N p hp).1.keep fun o e => hk _ o e, (H.N p hp).2⟩
  · rw [List.map_cons, List.nodup_cons]
    refine ⟨fun hm => ?_, H.nd⟩
    obtain ⟨p, hp, e⟩ := List.mem_map.mp hm
    obtain ⟨o, ho, _⟩ := (H.N p hp).1
    have := ha _ _ ho
    rw [e] at this; exact Nat.lt_irrefl _ this
/-- sorted of a dict with int keys -/
theorem cSortedD {kvs : List (Int × Value)} {kn : KeyKind prog w Int} {R' : Side} {l2 : Led Int} {Q : Value → Shared → Prop} (hkn : ∀ k v, kn.is k v = true → ∃ t, v = .int k t) (H : St kn g R' L vs l2 s) (hh : A.handled = none) (hd : (a == sysModules) = false) (D : Has kn s.heap a (.dct kvs)) (hz : kvs.length < 64)
    (h : ∀ d ys ms s', IntsAre ys ms → ms.Perm (kvs.map (·.1)) → ms.Pairwise (· ≤ ·) → St kn g R' L vs ((d, .lst ys) :: l2) s' → Q (.ref d) s') : wpAny (model prog w) A (call (.builtin "sorted") [.ref a]) Q E s := by
  obtain ⟨o, ho, hx⟩ := D
  obtain ⟨ep, hD⟩ := DAt.of hx
  have hat := hD.at ho
  refine call_function_entry kind_sorted plain_sorted entry_sorted (args_sorted1 _) ?_
  unfold Builtin.«sorted»
  refine wpAny_bind (m := checkCount "sorted" 1 1 _) (wpAny_pure ?_)
  refine wpAny_bind (kdu_collect (A := A.in1) (kdl_dict (knd := kn) (kvs := kvs) (ep := ep) hd) hh hat (by rw [sizeLine_eq]; omega) fun h' tk acc hk hacc => ?_)
  have hl : acc.toList.length = kvs.length := by rw [Array.length_toList]; exact hacc.1
  have hI : IntsAre acc.toList (kvs.map (·.1)) := keys_ints hl fun j v e => by
    obtain ⟨k, y, e1, e2⟩ := hacc.2 j v (by rw [← Array.getElem?_toList]; exact e)
    obtain ⟨t, rfl⟩ := hkn k v e2
    exact ⟨k, y, t, e1, rfl⟩
  refine wpAny_bind (wpAny_newList ?_ (by rw [hl, sizeLine_eq]; omega))
  have hoL : (h'.push { cls := .type "list", data := .seq acc.toList.toArray }).get? h'.objs.size = some (seqObj "list" acc.toList.toArray 0) := Heap.get?_push_size _ rfl
  refine wpAny_bind (wpAny_holding (wpAny_call_entry slot_list_sort ⟨_, hoL, rfl⟩ entry_list_sort (list_sort_tree hoL hI (by rw [hl]; exact hz) fun out ms a1 a2 a3 => ⟨_, rfl, ?_⟩) (args_list_sort _)))
  obtain ⟨e, he⟩ := sortedHeap_at (out := out) hoL
  refine wpAny_pure ⟨_, rfl, h _ out.toList ms _ a1 a2 a3 (H.newA (fun b o q => ?_) (fun b o q => Heap.lt_size (hk b o q)) ⟨_, he, e, by simp⟩)⟩
  have q' := hk b o q
  have hlt := Heap.lt_size q'
  rw [sortedHeap_old (Nat.ne_of_lt hlt) (by rw [size_push']; exact Nat.lt_succ_of_lt hlt), Heap.get?_push_ne _ _ _ (Nat.ne_of_lt hlt)]
  exact q'
theorem neLst {xs ys : List Value} {ns ms : List Int} {Q : Value → Shared → Prop} (hl : Has knd s.heap a (.lst xs)) (hi : IntsAre xs ns) (hl' : Has knd s.heap b (.lst ys)) (hi' : IntsAre ys ms) (hr : Room A 4) (h : Q (.bool (!decide (ns = ms))) s) :
    wpAny (model prog w) A (compareOp .NotEq (.ref a) (.ref b)) Q E s := ne_intsK hl.list hi hl'.list hi' (by have := hr.units; omega) h
theorem eqv_ints : ∀ ns ms : List Int, PyData.eqvAll (ns.map PyData.int) (ms.map PyData.int) = decide (ns = ms)
  | [], [] => by simp [PyData.eqvAll]
  | [], _ :: _ => by simp [PyData.eqvAll]
  | _ :: _, [] => by simp [PyData.eqvAll]
  | n :: r, k :: q => by
    simp only [List.map_cons, PyData.eqvAll, PyData.eqv, eqv_ints r q]
    by_cases h : n = k <;> simp [h]
end
end
section
open PySem PySem.W PySem.Calls PyProof.Rows PySem.Spec
set_option Elab.async false
set_option maxRecDepth 100000
set_option maxHeartbeats 400000
set_option linter.unusedVariables false
set_option linter.unusedSectionVars false
def stepE (lo hi : Int) (e : Int × Int) : Int × Int :=
  let x := if e.1 = hi then lo else e.1
  let y := if e.2 = hi then lo else e.2
  if y < x then (y, x) else (x, y)
def addE (lo hi : Int) (acc : List (Int × Int)) (e : Int × Int) : List (Int × Int) := if stepE lo hi e ∈ acc then acc else acc ++ [stepE lo hi e]
def mergeE (lo hi : Int) (es : List (Int × Int)) : List (Int × Int) := es.foldl (addE lo hi) []
/-- the count of colourings, as the law tells it -/
def waysF : Nat → Int → List (Int × Int) → Int → Int
  | _, n, [], c => c ^ n.toNat
  | 0, _, _ :: _, _ => 0
  | k + 1, n, e :: r, c => waysF k n r c - waysF k (n - 1) (mergeE e.1 e.2 r) c
def waysOk : Nat → Int → List (Int × Int) → Bool
  | _, n, [] => decide (0 ≤ n) && decide (n ≤ 4)
  | 0, _, _ :: _ => false
  | k + 1, n, e :: r => waysOk k n r && waysOk k (n - 1) (mergeE e.1 e.2 r)
theorem fold_len (lo hi : Int) : ∀ (es acc : List (Int × Int)), (es.foldl (addE lo hi) acc).length ≤ acc.length + es.length
  | [], acc => by simp
  | e :: es, acc => by
    rw [List.foldl_cons]
    have h := fold_len lo hi es (addE lo hi acc e)
    have : (addE lo hi acc e).length ≤ acc.length + 1 := by unfold addE; split <;> simp
    rw [List.length_cons]; omega
theorem merge_len (lo hi : Int) (es : List (Int × Int)) : (mergeE lo hi es).length ≤ es.length := by have := fold_len lo hi es []; simpa [mergeE] using this
theorem fn_ways (P : Params) : (KK P).lookup 396 = some (topO "_law_ways" 14 396) := by kernel_rfl
theorem cd_ways (P : Params) : codeIn (KK P) (.ref 395) "_law_ways" = true := by kernel_rfl
theorem g_ways : IsG "_law_ways" (.ref 396) := fun P => by kernel_rfl
theorem b_sorted : IsB "sorted" (.builtin "sorted") := ⟨fun P => by kernel_rfl, by kernel_rfl, by decide +kernel⟩
abbrev tb_ways : List (Str × NameKind) := [("count", .local), ("edges", .local), ("colours", .local), ("low", .cell), ("high", .cell), ("kept", .local), ("merged", .local), ("edge", .local), ("ends", .local), ("sorted", .globalImplicit), ("_law_ways", .globalImplicit)]
theorem kt_ways : Kt (tscp 14) tb_ways := ⟨by decide +kernel, by decide +kernel⟩
section
variable {prog : Program} {w : World} {K : Type} [DecidableEq K] {knd : KeyKind prog w K} {A : Around} {s : Shared} {E : Value → Shared → Prop} {g : Heap} {R : Side} {L : Addr} {vs : Vars} {l l' : Led K} {a b x : Addr} {env : Env} {pos : Pos}
theorem iPow {i j : Int} {t u : Tok} {Q : Value → Shared → Prop} (H : St knd g R L vs l s) (h1 : 1 ≤ i) (h3 : i ≤ 3) (h0 : 0 ≤ j) (h4 : j ≤ 4) (h : ∀ t s', St knd g R L vs l s' → Q (.int (i ^ j.toNat) t) s') : wpAny (model prog w) A (binaryOp .Pow (.int i t) (.int j u)) Q E s := by
  have hd := h s.toks _ (H.tok (s.toks + 1))
  rcases (by omega : i = 1 ∨ i = 2 ∨ i = 3) with rfl | rfl | rfl
  · by_cases hj : j = 0
    · subst hj; exact AutoIntOps.pow_0 (by decide) (by decide) hd
    · refine AutoIntOps.pow_1 h0 (by simpa using hj) (by decide) ?_
      rw [Int.one_pow] at hd; exact hd
  all_goals
    rcases (by omega : j = 0 ∨ j = 1 ∨ j = 2 ∨ j = 3 ∨ j = 4) with rfl | rfl | rfl | rfl | rfl
    · exact AutoIntOps.pow_0 (by decide) (by decide) hd
    all_goals exact AutoIntOps.pow_4 (by decide) (by decide) (by decide) (by decide) (by decide +kernel) hd
theorem aList2 {x1 x2 : Str} {q1 q2 : Pos} {n : Nat} {v1 v2 : Value} {Q : Unit → Shared → Prop} (H : St knd g R L vs l s) (T : Has knd s.heap a (.lst [v1, v2])) (hh : A.handled = none)
    (h : ∀ s', St knd g R L vs l s' → wpAny (model prog w) A (assign (.Name x1 q1) env v1) (fun _ s₁ => wpAny (model prog w) A (assign (.Name x2 q2) env v2) Q E s₁) E s') : wpAny (model prog w) A (assign (.Tuple [.Name x1 q1, .Name x2 q2] n pos) env (.ref a)) Q E s := by
  rw [PyProof.Rows.assign_Tuple]
  refine wpAny_bind (wpAny_standAt ?_)
  have hn : (assignEach [Expr.Name x1 q1, Expr.Name x2 q2] env).length = ([v1, v2] : List Value).toArray.size := rfl
  have hstar : (assignEach [Expr.Name x1 q1, Expr.Name x2 q2] env).findIdx? (·.1) = none := rfl
  unfold unpack
  rw [hn, hstar]
  refine wpAny_bind (wpAny_holding (kun_itemsOf hh T.list fun h' he => ?_))
  refine assignInOrder_cons (wpAny_mono (h _ (H.grow fun b o e => he b o (Nat.ne_of_lt (Heap.lt_size e)) e)) (fun _ s₁ h₁ => assignInOrder_cons (wpAny_mono h₁ (fun _ s₂ h₂ => assignInOrder_nil h₂) fun _ _ e => e)) fun _ _ e => e)
theorem pick_from (l₀ : List Value) : (slicePick l₀.toArray (some 1) none none).toList = l₀.drop 1 := by
  have e := slicePick_from' l₀.toArray 1
  rw [show (((1 : Nat) : Int)) = 1 from rfl] at e
  rw [e]
theorem tSliceFrom {value : Expr} {lo' hi' : Option Expr} {p : Pos} {sl : Addr} {xs : List Value} {t : Tok} {i : Int} {Q : Value → Shared → Prop} (H : St knd g R L vs l s) (D : Has knd s.heap a (.lst xs)) (S : Has knd s.heap sl (.raw (sliceO (.int i t) .none))) (hi : i = 1)
    (hz : xs.length < 100000) (h : ∀ b s', St knd g R L vs ((b, .lst (xs.drop 1)) :: l) s' → Q (.ref b) s') : wpAny (model prog w) A (subscriptTail value (.Slice lo' hi' none p) (.ref a) (.ref sl)) Q E s := by
  subst hi
  exact tSlice H D S (.int _ _) .none hz fun b s' H' => h b s' (by rw [pick_from] at H'; exact H')
def EdgeAt (knd : KeyKind prog w K) (h : Heap) (a : Addr) (p : Int × Int) : Prop := ∃ t u, Has knd h a (.lst [.int p.1 t, .int p.2 u])
theorem EdgeAt.keep {h h' : Heap} {p : Int × Int} (x : EdgeAt knd h a p) (k : ∀ b o, h.get? b = some o → h'.get? b = some o) : EdgeAt knd h' a p := let ⟨t, u, q⟩ := x; ⟨t, u, q.keep fun o e => k _ o e⟩
abbrev pairD (p : Int × Int) : PyData := .list [.int p.1, .int p.2]
theorem EdgeAt.reads {h : Heap} {p : Int × Int} (x : EdgeAt knd h a p) : Reads h (.ref a) (pairD p) [a] := by
  obtain ⟨t, u, q⟩ := x
  exact reads_of_ints (ns := [p.1, p.2]) q.list (.cons _ _ (.cons _ _ .nil))
theorem reads_edges {h : Heap} : ∀ {ms : List (Addr × Int × Int)}, (∀ q ∈ ms, EdgeAt knd h q.1 q.2) → ∃ as, ReadsAll h (ms.map fun q => Value.ref q.1) (ms.map fun q => pairD q.2) as
  | [], _ => ⟨[], .nil⟩
  | m :: ms, h => by
    obtain ⟨as, r⟩ := reads_edges fun q hq => h q (.tail _ hq)
    exact ⟨_, .cons (h m (.head _)).reads r⟩
theorem eqv_pair (p q : Int × Int) : PyData.eqv (pairD p) (pairD q) = decide (p = q) := by
  simp only [PyData.eqv, PyData.eqvAll]
  obtain ⟨a, b⟩ := p; obtain ⟨c, d⟩ := q
  by_cases h : a = c <;> by_cases h' : b = d <;> simp [h, h']
theorem lay_pairs : ∀ ms : List (Addr × Int × Int), PyData.canLayAll0 (ms.map fun q => pairD q.2) = true
  | [] => by simp [PyData.canLayAll0]
  | q :: ms => by
    rw [List.map_cons, PyData.canLayAll0, lay_pairs ms]
    simp [PyData.canLay0, PyData.canLayAll0]
theorem notInLL {ms : List (Addr × Int × Int)} {m : Addr} {p : Int × Int} {Q : Value → Shared → Prop} (hm : Has knd s.heap m (.lst (ms.map fun q => .ref q.1))) (hall : ∀ q ∈ ms, EdgeAt knd s.heap q.1 q.2) (hx : EdgeAt knd s.heap x p) (hr : Room A 1)
    (h : Q (.bool (!decide (p ∈ ms.map (·.2)))) s) : wpAny (model prog w) A (compareOp .NotIn (.ref x) (.ref m)) Q E s := by
  obtain ⟨as, r⟩ := reads_edges hall
  obtain ⟨o, ho, hc, n, hd⟩ := hm.list
  have e : (ms.map fun q => pairD q.2).any (fun y => PyData.eqv y (pairD p)) = decide (p ∈ ms.map (·.2)) := by
    rw [Bool.eq_iff_iff, List.any_eq_true, decide_eq_true_eq]
    constructor
    · rintro ⟨y, hy, e⟩
      obtain ⟨q, hq, rfl⟩ := List.mem_map.mp hy
      rw [eqv_pair, decide_eq_true_eq] at e
      exact List.mem_map.mpr ⟨q, hq, e⟩
    · intro hp
      obtain ⟨q, hq, rfl⟩ := List.mem_map.mp hp
      exact ⟨_, List.mem_map.mpr ⟨q, hq, rfl⟩, by rw [eqv_pair]; simp⟩
  refine PySem.SeqAt.notIn_list_reads (Reads.list ho hc hd (by simpa using r)) hx.reads ?_ ?_ ?_ (by rw [e]; exact h)
  · exact lay_pairs ms
  · simp [PyData.canLayAll0, PyData.canLay0]
  · have := hr.units
    have h2 : PyData.depth (pairD p) ≤ 2 := by simp [PyData.depth, PyData.depthAll]
    have := Nat.min_le_right (PyData.depthAll (ms.map fun q => pairD q.2)) (PyData.depth (pairD p))
    omega
end
end
section
open PySem PySem.W PySem.Calls PyProof.Rows PySem.Spec
set_option Elab.async false
set_option maxRecDepth 100000
set_option maxHeartbeats 400000
set_option linter.unusedVariables false
set_option linter.unusedSectionVars false

local macro_rules | `(tactic| walk_at "isB") => `(tactic| first | (with_reducible exact b_sorted))
local macro_rules | `(tactic| walk_at "isG") => `(tactic| first | (with_reducible exact g_ways))
local macro_rules | `(tactic| walk_at "isD") => `(tactic| fail)
local macro_rules | `(tactic| walk_at "isF") => `(tactic| first | (with_reducible exact fn_ways _))
local macro_rules | `(tactic| walk_at "isC") => `(tactic| fail)
local macro_rules | `(tactic| walk_at "op") => `(tactic| first | (with_reducible refine IfExp_ ?_) | ((with_reducible refine' tSliceFrom (by assumption) ?D ?S ?hi ?hz ?_); (case D => walk_at "has"); (case S => walk_at "has"); (case hi => rfl); (case hz => walk_at "size"); intro _ _ _))
section
variable {prog : Program} {w : World} {K : Type} [DecidableEq K] {knd : KeyKind prog w K} {A : Around} {s : Shared} {E : Value → Shared → Prop} {g : Heap} {R : Side} {L : Addr} {vs : Vars} {l l' : Led K} {a b x : Addr} {env : Env} {pos : Pos}
abbrev ME (K : Type) := List (Addr × (Int × Int) × Tok × Tok)
def ML (ms : ME K) : Led K := ms.map fun q => (q.1, Kd.lst [.int q.2.1.1 q.2.2.1, .int q.2.1.2 q.2.2.2])
def mref (ms : ME K) : List Value := ms.map fun q => .ref q.1
def WaysAt (prog : Program) (w : World) {K : Type} [DecidableEq K] (knd : KeyKind prog w K) (k : Nat) : Prop := ∀ {A : Around} {s : Shared} {RR : Result → Shared → Prop} {g₀ : Heap} {es : List (Addr × Int × Int)} {ed : Addr} {n c : Int} {tn tc : Tok}, es.length ≤ k → es.length < 60 → waysOk k n (es.map (·.2)) = true → 1 ≤ c → c ≤ 3 → Room A (k + 8) → At knd g₀ s [] →
    Has knd g₀ ed (.lst (es.map fun e => .ref e.1)) → (∀ e ∈ es, EdgeAt knd g₀ e.1 e.2) → (∀ t s', Eff knd s [] [] s' → RR (.ok (.ret (.int (waysF k n (es.map (·.2)) c) t))) s') →
    codeAny (model prog w) A (.call (.ref 396) ⟨[.int n tn, .ref ed, .int c tc], []⟩) RR s
theorem sorted_two {lo hi ex ey : Int} {ys : List Value} {ns : List Int} (hy : IntsAre ys ns) (hp : ns.Perm [if ex = hi then lo else ex, if ey = hi then lo else ey]) (hs : ns.Pairwise (· ≤ ·)) :
    ∃ ta tb, ys = [.int (stepE lo hi (ex, ey)).1 ta, .int (stepE lo hi (ex, ey)).2 tb] := by
  have hl := hp.length_eq
  cases hy with
  | nil => simp at hl
  | cons p tp hy =>
    cases hy with
    | nil => simp at hl
    | cons q tq hy =>
      cases hy with
      | cons _ _ _ => simp at hl
      | nil =>
        refine ⟨tp, tq, ?_⟩
        have hle : p ≤ q := by simpa using hs
        have h1 : ∀ z, z ∈ [p, q] ↔ z ∈ [if ex = hi then lo else ex, if ey = hi then lo else ey] := fun z => hp.mem_iff
        have hc := fun z => hp.count_eq z
        unfold stepE
        dsimp only
        generalize (if ex = hi then lo else ex) = u at *
        generalize (if ey = hi then lo else ey) = v at *
        have hpq : (p = u ∧ q = v) ∨ (p = v ∧ q = u) := by
          have a1 := (h1 p).mp (by simp); have a2 := (h1 q).mp (by simp); have a3 := (h1 u).mpr (by simp); have a4 := (h1 v).mpr (by simp)
          simp only [List.mem_cons, List.not_mem_nil, or_false] at a1 a2 a3 a4
          omega
        split
        · rename_i h; obtain ⟨rfl, rfl⟩ | ⟨rfl, rfl⟩ := hpq
          · omega
          · rfl
        · rename_i h; obtain ⟨rfl, rfl⟩ | ⟨rfl, rfl⟩ := hpq
          · rfl
          · have : p = q := by omega
            subst this; rfl
set_option maxHeartbeats 4000000 in
theorem ways_step {k : Nat} (ih : 0 < k → WaysAt prog w knd (k - 1)) : WaysAt prog w knd k := by
  intro A s RR g₀ es ed n c tn tc hk hes hok hc1 hc3 hr X hed hall h
  refine enterC (knd := knd) (binds := [("count", .int n tn), ("edges", .ref ed), ("colours", .int c tc)])
    (vL := [("count", .int n tn), ("edges", .ref ed), ("colours", .int c tc)]) (cnames := ["high", "low"]) (cv := [none, none]) X hr (X.k _ _ (X.B.X _ _ (fn_ways _))) rfl ((codeRec_of X.B.X (cd_ways _)).keeps X.k)
    (BindsTo.of_eq (by kernel_rfl)) (show ∀ x ∈ (["count", "edges", "colours"] : List Str), _ from by decide +kernel) (by decide +kernel) (by decide +kernel) ?hL ?hC (fun g L s₁ cl hcl hg hg' B H => ?_) (by kernel_rfl) (by kernel_rfl) (by kernel_rfl)
  case hL => kernel_rfl
  case hC => kernel_rfl
  obtain ⟨c1, c2, rfl⟩ := cl_two hcl
  have kt := kt_ways
  replace H : St knd g (sideOf s) L [("count", .int n tn), ("edges", .ref ed), ("colours", .int c tc)] [(c1, .cell none), (c2, .cell none)] s₁ := H
  have hed2 := hed.keep fun o e => hg' _ o e
  have hz : (es.map fun e => Value.ref e.1).length < 1000 := by rw [List.length_map]; omega
  refine xs_cons (st := _) (rest := _) ?_
  walk_at "go"
  cases es with
  | nil =>
    refine ifT rfl ?_
    walk_at "go"
    have hok' : 0 ≤ n ∧ n ≤ 4 := by
      have : (decide (0 ≤ n) && decide (n ≤ 4)) = true := by cases k <;> exact hok
      simpa using this
    refine iPow (by assumption) hc1 hc3 hok'.1 hok'.2 ?_
    intro t s2 H2
    have e : waysF k n [] c = c ^ n.toNat := by cases k <;> rfl
    have hh := h t s2 (H2.toEff (List.nil_sublist _) hg)
    rw [List.map_nil, e] at hh
    exact nx_ret (fn_ret hh)
  | cons e es =>
    refine ifF rfl (wpAny_execs_nil (nx ?_))
    obtain ⟨e1, lo, hi⟩ := e
    obtain ⟨k, rfl⟩ : ∃ k', k = k' + 1 := ⟨k - 1, by rw [List.length_cons] at hk; omega⟩
    have ih2 : WaysAt prog w knd k := ih (Nat.succ_pos _)
    clear ih
    rw [List.map_cons] at hed2 hz hok
    have hok2 : waysOk k n (es.map (·.2)) = true ∧ waysOk k (n - 1) (mergeE lo hi (es.map (·.2))) = true := by
      have : (waysOk k n (es.map (·.2)) && waysOk k (n - 1) (mergeE lo hi (es.map (·.2)))) = true := hok
      simpa using this
    obtain ⟨tl, th, hedge⟩ := (hall _ (.head _)).keep hg'
    dsimp only at hedge
    refine xs_cons (st := _) (rest := _) ?_
    refine Assign_Tuple ?_ rfl rfl
    walk_at "go"
    rename_i s2 H2 t s3 H3
    refine tLst (H3.base hed2) (by decide) (by decide) (v := .ref e1) rfl ?_
    refine aList2 H3 (H3.base hedge) (hr.deeper _).handled ?_
    intro s4 H4
    walk_at "go"
    rename_i t1 s5 H5 sl s6 H6 b s7 H7 s8 H8 mg s9 H9 s10 H10
    have H11 : St knd g (sideOf s) L [("merged", .ref mg), ("kept", .ref b), ("count", .int n tn), ("edges", .ref ed), ("colours", .int c tc)] ((mg, .lst []) :: (b, .lst (es.map fun e => .ref e.1)) :: (c1, .cell (some (.int hi th))) :: (c2, .cell (some (.int lo tl))) :: ML []) s10 := H10.sub (fun _ h => h) (by exact .cons_cons _ (.cons_cons _ (.cons _ (.refl _))))
    obtain ⟨ob, hob, hkb, fx⟩ := H11.fix (.tail _ (.head _))
    have H12 := fx _ (.tail .head)
    clear H5 H6 H7 H8 H9 H10 H11 fx
    refine start_lst H12 (hr.deeper _).handled hob hkb ?_
    intro I s11 W H13
    refine' for_st (g := g) (R := sideOf s) (L := L) (X := ME K) (fun _ => [("merged", .ref mg), ("kept", .ref b), ("count", .int n tn), ("edges", .ref ed), ("colours", .int c tc)])
      (fun ms => (mg, .lst (mref ms)) :: (b, .raw ob) :: (c1, .cell (some (.int hi th))) :: (c2, .cell (some (.int lo tl))) :: ML ms)
      (fun i ms => ms.map (·.2.1) = ((es.map (·.2)).take i).foldl (addE lo hi) [] ∧ ms.length ≤ i) [] W ?src ⟨rfl, Nat.le_refl _⟩ H13 ?turn ?done
    case src => intro i q s' _ hS; exact (hS.has (k := .raw ob) (List.mem_append_right (oneIt I _ i) (.tail _ (.head _)))).rawE
    case turn =>
      rintro i ms v new s' E' hiL ⟨hJ, hJl⟩ ⟨hv, rfl⟩ H14
      rw [List.length_map] at hiL
      rw [List.getElem?_map, List.getElem?_eq_getElem hiL] at hv
      have hmemE : es[i] ∈ es := List.getElem_mem hiL
      have hEi : (es.map (·.2))[i]? = some es[i].2 := by rw [List.getElem?_map, List.getElem?_eq_getElem hiL]; rfl
      generalize es[i] = e at *
      obtain rfl : Value.ref e.1 = v := Option.some.inj hv
      obtain ⟨te, ue, hEd⟩ := (hall e (.tail _ hmemE)).keep hg'
      obtain ⟨ea, ex, ey⟩ := e
      dsimp only at hEd hEi
      obtain ⟨oe, hoe, hke⟩ := hEd
      replace H14 := show St knd g (sideOf s) L [("merged", .ref mg), ("kept", .ref b), ("count", .int n tn), ("edges", .ref ed), ("colours", .int c tc)] ((I, seqIt "list_iterator" b (i + 1)) :: (mg, .lst (mref ms)) :: (b, .raw ob) :: (c1, .cell (some (.int hi th))) :: (c2, .cell (some (.int lo tl))) :: ML ms) s' from H14
      walk_at "go"
      rename_i s15 H15
      refine start_lst H15 (hr.deeper _).handled (H15.o hoe) hke ?_
      intro I2 s16 W2 H16
      refine' comp_expr (X := Nat) (fun j => ([if ex = hi then .int lo tl else .int ex te, if ey = hi then .int lo tl else .int ey ue] : List Value).take j) (fun _ => []) (fun j x => x = j) 0 W2 ?hcell ?hkind H16 ?hsrc ?h0 rfl rfl ?hfit ?turn2 ?fin2
      case hcell => decide +kernel
      case hkind => rfl
      case hsrc => intro i x C' D vq g₂ s' _ hk hS; exact hS.o (hk _ _ hoe)
      case h0 => rfl
      case hfit => rintro i x rfl; rw [List.length_take]; exact Nat.lt_of_le_of_lt (Nat.min_le_right _ _) (show 2 < 100000 by decide)
      case turn2 =>
        rintro j x v new C' D g₂ s' E2 hj rfl ⟨hv, rfl⟩ hg2 H17
        replace H17 := show St knd g₂ (sideOf s16) C' [] ((I2, seqIt "list_iterator" ea (x + 1)) :: (D, .lst (([if ex = hi then .int lo tl else .int ex te, if ey = hi then .int lo tl else .int ey ue] : List Value).take x)) :: (I, seqIt "list_iterator" b (i + 1)) :: (mg, .lst (mref ms)) :: (b, .raw ob) :: (c1, .cell (some (.int hi th))) :: (c2, .cell (some (.int lo tl))) :: ML ms) s' from H17
        refine' withEv (tbl := [("end", .local), ("low", .cell), ("high", .cell)]) ?ev (fun ev => ?_)
        case ev => exact Ev.compK kt ⟨by decide +kernel, by decide +kernel⟩
        obtain ⟨p, tp, rfl, hp⟩ : ∃ p tp, v = .int p tp ∧ ([if ex = hi then .int lo tl else .int ex te, if ey = hi then .int lo tl else .int ey ue] : List Value).take (x + 1) = ([if ex = hi then .int lo tl else .int ex te, if ey = hi then .int lo tl else .int ey ue] : List Value).take x ++ [if p = hi then .int lo tl else .int p tp] := by
          have hj2 : x < 2 := hj
          rcases (by omega : x = 0 ∨ x = 1) with rfl | rfl
          · exact ⟨ex, te, (Option.some.inj hv).symm, rfl⟩
          · exact ⟨ey, ue, (Option.some.inj hv).symm, rfl⟩
        walk_at "go"
        cases hq : (p == hi) with
        | true =>
          refine ifT rfl ?_
          walk_at "go"
          have hpe : p = hi := by simpa using hq
          rw [if_pos hpe] at hp
          exact ⟨x + 1, _, _, ⟨rfl, hp⟩, List.Sublist.refl _, by assumption⟩
        | false =>
          refine ifF rfl ?_
          walk_at "go"
          have hpe : ¬ p = hi := by simpa using hq
          rw [if_neg hpe] at hp
          exact ⟨x + 1, _, _, ⟨rfl, hp⟩, List.Sublist.refl _, by assumption⟩
      case fin2 =>
        rintro x D s' rfl H17
        replace H17 := show St knd g (sideOf s) L _ ((D, .lst [if ex = hi then .int lo tl else .int ex te, if ey = hi then .int lo tl else .int ey ue]) :: (I, seqIt "list_iterator" b (i + 1)) :: (mg, .lst (mref ms)) :: (b, .raw ob) :: (c1, .cell (some (.int hi th))) :: (c2, .cell (some (.int lo tl))) :: ML ms) s' from H17
        walk_at "go"
        refine cSortedI H17 (H17.has (.head _)) (ns := [if ex = hi then lo else ex, if ey = hi then lo else ey]) ?hI (show 2 < 64 by decide) ?_
        case hI =>
          have : IntsAre [if ex = hi then Value.int lo tl else .int ex te, if ey = hi then .int lo tl else .int ey ue] ([if ex = hi then Value.int lo tl else .int ex te, if ey = hi then .int lo tl else .int ey ue].map vInt) := ints_intsAre fun v hv => by
            simp only [List.mem_cons, List.not_mem_nil, or_false] at hv
            rcases hv with rfl | rfl
            · split <;> exact ⟨_, _, rfl⟩
            · split <;> exact ⟨_, _, rfl⟩
          have e : [if ex = hi then Value.int lo tl else .int ex te, if ey = hi then .int lo tl else .int ey ue].map vInt = [if ex = hi then lo else ex, if ey = hi then lo else ey] := by
            simp only [List.map_cons, List.map_nil]
            congr 1
            · split <;> rfl
            · congr 1; split <;> rfl
          rw [e] at this; exact this
        intro d ys ns s18 hys hperm hsort H18
        obtain ⟨ta, tb, rfl⟩ : ∃ ta tb, ys = [.int (stepE lo hi (ex, ey)).1 ta, .int (stepE lo hi (ex, ey)).2 tb] := sorted_two hys hperm hsort
        clear hys hperm hsort H17
        walk_at "go"
        rename_i s19 H19
        have hms : ∀ q ∈ (ms.map fun q => (q.1, q.2.1)), EdgeAt knd s19.heap q.1 q.2 := fun q hq => by
          obtain ⟨m, hm, rfl⟩ := List.mem_map.mp hq
          exact ⟨m.2.2.1, m.2.2.2, H19.has (.tail _ (.tail _ (.tail _ (.tail _ (.tail _ (.tail _ (.tail _ (List.mem_map.mpr ⟨m, hm, rfl⟩))))))))⟩
        have hmg : Has knd s19.heap mg (.lst ((ms.map fun q => (q.1, q.2.1)).map fun q => .ref q.1)) := by
          rw [List.map_map]; exact H19.has (.tail _ (.tail _ (.tail _ (.head _))))
        refine notInLL (p := stepE lo hi (ex, ey)) hmg hms ⟨ta, tb, H19.has (.head _)⟩ ((hr.deeper _).less (by omega)) ?_
        have hmap : (ms.map fun q => (q.1, q.2.1)).map (·.2) = ms.map (·.2.1) := by rw [List.map_map]; rfl
        rw [hmap]
        have hfold : ((es.map (·.2)).take (i + 1)).foldl (addE lo hi) [] = addE lo hi (ms.map (·.2.1)) (ex, ey) := by
          rw [List.take_add_one, hEi, List.foldl_append, hJ]; rfl
        walk_at "go"
        cases hin : decide (stepE lo hi (ex, ey) ∈ ms.map (·.2.1)) with
        | true =>
          refine ifF rfl ?_
          walk_at "go"
          refine for_next ⟨ms, ⟨?_, Nat.le_succ_of_le hJl⟩, by walk_at "end"⟩
          rw [hfold]; unfold addE; rw [if_pos (of_decide_eq_true hin)]
        | false =>
          refine ifT rfl ?_
          have hmz : (mref ms).length < 100000 := by unfold mref; rw [List.length_map]; rw [List.length_cons] at hes; omega
          walk_at "go"
          rename_i s20 H20
          have H21 := H20.perm (l' := (D, .lst [if ex = hi then .int lo tl else .int ex te, if ey = hi then .int lo tl else .int ey ue]) :: (I, seqIt "list_iterator" b (i + 1)) :: (mg, .lst (mref ms ++ [.ref d])) :: (b, .raw ob) :: (c1, .cell (some (.int hi th))) :: (c2, .cell (some (.int lo tl))) :: (ML ms ++ [(d, .lst [.int (stepE lo hi (ex, ey)).1 ta, .int (stepE lo hi (ex, ey)).2 tb])])) (by walk_at "pc")
          have e1 : mref ms ++ [.ref d] = mref (ms ++ [(d, stepE lo hi (ex, ey), ta, tb)]) := by unfold mref; rw [List.map_append]; rfl
          have e2 : (ML ms ++ [(d, .lst [.int (stepE lo hi (ex, ey)).1 ta, .int (stepE lo hi (ex, ey)).2 tb])] : Led K) = ML (ms ++ [(d, stepE lo hi (ex, ey), ta, tb)]) := by unfold ML; rw [List.map_append]; rfl
          rw [e1, e2] at H21
          refine for_next ⟨ms ++ [(d, stepE lo hi (ex, ey), ta, tb)], ⟨?_, by rw [List.length_append]; exact Nat.succ_le_succ hJl⟩, by walk_at "end"⟩
          rw [hfold]; unfold addE; rw [if_neg (of_decide_eq_false hin), List.map_append]; rfl
    case done =>
      rintro ms s' E' ⟨hJ, hJl⟩ H14
      rw [List.length_map] at hJ hJl
      have hmerge : ms.map (·.2.1) = mergeE lo hi (es.map (·.2)) := by
        rw [hJ, List.take_of_length_le (by rw [List.length_map]; exact Nat.le_refl _)]; rfl
      refine wpAny_execs_nil (nx ?_)
      walk_at "go"
      have pm : ∀ {l : Led K}, l.Perm ([] ++ l) := fun {l} => List.Perm.refl _
      have X1 := H14.atAll B pm
      rw [List.length_cons] at hes hk
      have hr2 : Room (A.deeper (envX "_law_ways" (tscp 14) L 396 (.ref (396 - 1)) [("high", c1), ("low", c2)])) (k + 8) := Room.less (hr.deeper _) (by omega)
      refine callRet (ih2 (n := n) (c := c) (by omega) (by omega) hok2.1 hc1 hc3 hr2 X1.at_ (Has.ofRaw hkb (X1.rest _ (.tail _ (.head _)))) (fun e he => ((hall e (.tail _ he)).keep hg').keep X1.sub) fun t2 s16 e2 => retq ?_)
      have H16 := H14.eff pm e2
      rw [List.nil_append] at H16
      walk_at "go"
      rename_i t3 s17 H17 t4 s18 H18
      have X2 := H18.atAll B pm
      have hml : (ms.map fun q => (q.1, q.2.1)).map (·.2) = mergeE lo hi (es.map (·.2)) := by rw [List.map_map]; exact hmerge
      have hmz := merge_len lo hi (es.map (·.2))
      rw [List.length_map] at hmz
      have hmz2 : (ms.map fun q => (q.1, q.2.1)).length ≤ es.length := by
        have := congrArg List.length hml
        rw [List.length_map] at this; omega
      refine callRet (ih2 (n := n - 1) (c := c) (es := ms.map fun q => (q.1, q.2.1)) (by omega) (by omega) (by rw [hml]; exact hok2.2) hc1 hc3 hr2 X2.at_ ?_ (fun e he => ?_) fun t5 s19 e5 => retq ?_)
      · rw [List.map_map]; exact X2.rest (mg, .lst (mref ms)) (.head _)
      · obtain ⟨m, hm, rfl⟩ := List.mem_map.mp he
        exact ⟨m.2.2.1, m.2.2.2, X2.rest _ (.tail _ (.tail _ (.tail _ (.tail _ (List.mem_map.mpr ⟨m, hm, rfl⟩)))))⟩
      have H19 := H18.eff pm e5
      rw [List.nil_append] at H19
      rw [hml]
      walk_at "go"
      rename_i t6 s20 H20
      exact fn_ret (h t6 s20 (H20.toEff (List.nil_sublist _) hg))
set_option maxHeartbeats 4000000 in
theorem ways_all (k : Nat) : WaysAt prog w knd k := by
  induction k with
  | zero => exact ways_step fun h => absurd h (by decide)
  | succ k ih => exact ways_step fun _ => ih
end
end
section
open PySem PySem.W PySem.Calls PyProof.Rows PySem.Spec
set_option Elab.async false
set_option maxRecDepth 100000
set_option maxHeartbeats 400000
set_option linter.unusedVariables false
set_option linter.unusedSectionVars false
theorem b_enum : IsB "enumerate" (.type "enumerate") := ⟨fun P => by kernel_rfl, by kernel_rfl, by decide +kernel⟩
theorem b_range : IsB "range" (.type "range") := ⟨fun P => by kernel_rfl, by kernel_rfl, by decide +kernel⟩
theorem b_listT : IsB "list" (.type "list") := ⟨fun P => by kernel_rfl, by kernel_rfl, by decide +kernel⟩
theorem b_tupleT : IsB "tuple" (.type "tuple") := ⟨fun P => by kernel_rfl, by kernel_rfl, by decide +kernel⟩
theorem b_setT : IsB "set" (.type "set") := ⟨fun P => by kernel_rfl, by kernel_rfl, by decide +kernel⟩
theorem g_problem : IsG "Problem" (.ref 110) := fun P => by kernel_rfl
abbrev tb_law : List (Str × NameKind) := [("script", .local), ("row", .cell), ("places", .local), ("pairs", .local), ("spot", .local), ("pair", .local), ("edges", .local), ("colours", .cell), ("problem", .local), ("told", .local), ("found", .cell), ("given", .local), ("enumerate", .globalImplicit), ("list", .globalImplicit), ("range", .globalImplicit), ("_law_draw", .globalImplicit), ("Problem", .globalImplicit), ("_law_solver", .globalImplicit), ("FunctionConstraint", .globalImplicit), ("tuple", .globalImplicit), ("set", .globalImplicit), ("sorted", .globalImplicit), ("len", .globalImplicit), ("_law_ways", .globalImplicit)]
theorem kt_law : Kt (tscp 15) tb_law := ⟨by decide +kernel, by decide +kernel⟩
abbrev envL (L fa c1 c2 c3 : Addr) : Env := envX "law" (tscp 15) L fa (.ref 400) [("found", c3), ("colours", c2), ("row", c1)]
section
variable {prog : Program} {w : World} {K : Type} [DecidableEq K] {knd : KeyKind prog w K} {A : Around} {s : Shared} {E : Value → Shared → Prop} {g : Heap} {R : Side} {L : Addr} {vs : Vars} {l l' : Led K} {a b x : Addr} {env : Env} {pos : Pos}
theorem pick_to (l₀ : List Value) : (slicePick l₀.toArray none (some 8) none).toList = l₀.take 8 := by
  have e := slicePick_upto' l₀.toArray 8
  rw [show (((8 : Nat) : Int)) = 8 from rfl] at e
  rw [e]
theorem tSliceTo {value : Expr} {lo' hi' : Option Expr} {p : Pos} {sl : Addr} {xs : List Value} {t : Tok} {i : Int} {Q : Value → Shared → Prop} (H : St knd g R L vs l s) (D : s.heap.IsList a xs.toArray) (S : Has knd s.heap sl (.raw (sliceO .none (.int i t)))) (hi : i = 8)
    (hz : xs.length < 100000) (h : ∀ b s', St knd g R L vs ((b, .lst (xs.take 8)) :: l) s' → Q (.ref b) s') : wpAny (model prog w) A (subscriptTail value (.Slice lo' hi' none p) (.ref a) (.ref sl)) Q E s := by
  subst hi
  refine tailAny (subscriptTail_ops D.typeIs list_getitem_lookup (wpAny_getItem_list_slice D (sliceOf S) .none (.int _ _) .none (by simp) ?_ (by rw [List.size_toArray, sizeLine_eq]; omega)) rfl (fun _ => rfl))
  have := h _ _ (H.push (o := { cls := .type "list", data := .seq (slicePick xs.toArray none (some 8) none) }) (k := .lst (xs.take 8)) (t := s.toks) rfl ⟨0, by rw [← pick_to]⟩)
  exact this
/-- tuple of a list -/
theorem cTupLst {xs : List Value} {Q : Value → Shared → Prop} (H : St knd g R L vs l s) (D : Has knd s.heap a (.lst xs)) (hz : xs.length ≤ 1000) (h : ∀ b s', St knd g R L vs ((b, .tup xs) :: l) s' → Q (.ref b) s') : wpAny (model prog w) A (call (.type "tuple") [.ref a]) Q E s := by
  refine call_tuple_list D.list (fun h' hk => ?_) (by rw [List.size_toArray, sizeLine_eq]; omega)
  refine h _ _ (H.newA (a := h'.objs.size) (t := s.toks) (fun b o e => Heap.get?_push_of_some _ (hk b o e)) (fun b o e => Heap.lt_size (hk b o e)) ⟨_, Heap.get?_push_size _ rfl, rfl⟩)
abbrev rngO (n : Int) (t u v : Tok) : Obj := { cls := .type "range", data := .fields #[.int 0 t, .int n u, .int 1 v] }
theorem cRange {n : Int} {t : Tok} {Q : Value → Shared → Prop} (H : St knd g R L vs l s) (h : ∀ r u v y s', St knd g R L vs ((r, .raw (rngO n u v y)) :: l) s' → Q (.ref r) s') : wpAny (model prog w) A (call (.type "range") [.int n t]) Q E s :=
  call_range_1 (h _ _ _ _ _ (H.push rfl rfl))
theorem cListRange {n : Nat} {t u v : Tok} {Q : Value → Shared → Prop} (H : St knd g R L vs l s) (hh : A.handled = none) (D : Has knd s.heap a (.raw (rngO (n : Int) t u v))) (hz : n ≤ 10)
    (h : ∀ d xs s', IntsAre xs ((List.range n).map fun i : Nat => (i : Int)) → St knd g R L vs ((d, .lst xs) :: l) s' → Q (.ref d) s') : wpAny (model prog w) A (call (.type "list") [.ref a]) Q E s := by
  have h10 : ∀ n : Nat, n ≤ 10 → Builtin.Range.small 0 (n : Int) 1 = true ∧ Builtin.Range.rangeSize 0 (n : Int) 1 = n := by decide +kernel
  refine call_list_range (n := n) hh D.rawE (h10 n hz).1 (h10 n hz).2 (by omega) fun h' tk acc c' hk hD hacc => ?_
  refine h _ acc.toList _ ?_ (H.new hk (Nat.le_refl _) ⟨_, hD, c', by simp⟩)
  have hl : acc.toList.length = n := by rw [Array.length_toList]; exact hacc.1
  have key : ∀ (k m : Nat) (xs : List Value), xs.length = m → (∀ (j : Nat) (v : Value), xs[j]? = some v → ∃ t, v = .int ((k + j : Nat) : Int) t) → IntsAre xs ((List.range' k m).map fun i : Nat => (i : Int)) := by
    intro k m
    induction m generalizing k with
    | zero => intro xs hl _; rw [List.length_eq_zero_iff.mp hl]; exact .nil
    | succ m ih =>
      intro xs hl hv
      cases xs with
      | nil => simp at hl
      | cons x xs =>
        obtain ⟨t, rfl⟩ := hv 0 x rfl
        rw [List.range'_succ, List.map_cons, Nat.add_zero]
        exact .cons _ _ (ih (k + 1) xs (by simpa using hl) fun j v e => by
          obtain ⟨t, rfl⟩ := hv (j + 1) v e
          exact ⟨t, by rw [show k + 1 + j = k + (j + 1) by omega]⟩)
  rw [List.range_eq_range']
  refine key 0 n acc.toList hl fun j v e => ?_
  obtain ⟨t, rfl⟩ := hacc.2 j v (by rw [← Array.getElem?_toList]; exact e)
  exact ⟨t, by congr 1; omega⟩
end
end
section
open PySem PySem.W PySem.Calls PyProof.Rows PySem.Spec
set_option Elab.async false
set_option maxRecDepth 100000
set_option maxHeartbeats 400000
set_option linter.unusedVariables false
set_option linter.unusedSectionVars false

local macro_rules | `(tactic| walk_at "isB") => `(tactic| first | (with_reducible exact b_enum) | (with_reducible exact b_range) | (with_reducible exact b_listT) | (with_reducible exact b_tupleT) | (with_reducible exact b_setT) | (with_reducible exact b_sorted) | (with_reducible exact b_len))
local macro_rules | `(tactic| walk_at "isG") => `(tactic| first | (with_reducible exact g_draw) | (with_reducible exact g_solver) | (with_reducible exact g_ways) | (with_reducible exact g_problem) | (with_reducible exact g_fc))
local macro_rules | `(tactic| walk_at "isD") => `(tactic| fail)
local macro_rules | `(tactic| walk_at "isF") => `(tactic| first | (with_reducible exact fn_draw _) | (with_reducible exact fn_solver _) | (with_reducible exact fn_ways _))
local macro_rules | `(tactic| walk_at "isC") => `(tactic| fail)
section
variable {prog : Program} {w : World} {A : Around} {s : Shared} {E : Value → Shared → Prop} {g : Heap} {R : Side} {L : Addr} {RR : Result → Shared → Prop} {fa c1 c2 c3 : Addr} {sc : Value}
set_option maxHeartbeats 4000000 in
/-- row -/
theorem lawA1 {sl : Addr} {vals : List Value} {l : Led Int} (hr : Room A 4) (B : Bs w g) (H : St (intKind prog w) g R L [("script", .ref sl)] ((c1, .cell none) :: l) s) (hsc : g.IsList sl vals.toArray) (hv : Ints vals) (hz : vals.length < 1000)
    (h : ∀ rw xs s', Ints xs → xs ≠ [] → xs.length ≤ 8 → St (intKind prog w) g R L [("script", .ref sl)] ((c1, .cell (some (.ref rw))) :: (rw, .lst xs) :: l) s' → wpAny (model prog w) A (execs ((tbdy 15).drop 1) (envL L fa c1 c2 c3)) (FnQ RR) E s') :
    wpAny (model prog w) A (execs (tbdy 15) (envL L fa c1 c2 c3)) (FnQ RR) E s := by
  have kt := kt_law
  refine xs_cons (st := _) (rest := _) ?_
  walk_at "go"
  rename_i t s2 H2 sb s3 H3
  have D : s3.heap.IsList sl vals.toArray := by
    obtain ⟨o, ho, r⟩ := hsc
    obtain ⟨m, F, _⟩ := H3.F
    exact ⟨o, F.keep _ _ ho, r⟩
  refine' tSliceTo H3 D ?hS rfl (by omega) ?_
  case hS => walk_at "has"
  intro rw s4 H4
  have hzz : (vals.take 8).length < 1000 := by rw [List.length_take]; omega
  walk_at "go"
  cases hve : (vals.take 8).isEmpty with
  | false =>
    refine ifT rfl ?_
    walk_at "goS"
    refine nx ?_
    rename_i s5 H5 s6 H6
    refine h rw (vals.take 8) _ (fun v hv' => hv v (List.mem_of_mem_take hv')) (fun e => by rw [e] at hve; cases hve) (by rw [List.length_take]; omega) ?_
    exact (H6.perm (l' := (sb, .raw (sliceO .none (.int 8 t))) :: (c1, .cell (some (.ref rw))) :: (rw, .lst (vals.take 8)) :: l) (by walk_at "pc")).sub (fun _ h => h) (.cons _ (.refl _))
  | true =>
    refine ifF rfl ?_
    walk_at "goS"
    refine nx ?_
    rename_i s5 H5 t7 s7 H7 rw2 s8 H8 s9 H9
    refine h rw2 [.int 0 t7] _ (fun v hv' => by rw [List.mem_singleton.mp hv']; exact ⟨_, _, rfl⟩) (by simp) (by simp) ?_
    exact (H9.perm (l' := (rw, .lst (vals.take 8)) :: (sb, .raw (sliceO .none (.int 8 t))) :: (c1, .cell (some (.ref rw2))) :: (rw2, .lst [.int 0 t7]) :: l) (by walk_at "pc")).sub (fun _ h => h) (.cons _ (.cons _ (.refl _)))
def prsL : List (Int × Int) := [(0, 10), (0, 20), (0, 30), (10, 20), (10, 30), (20, 30)]
set_option maxHeartbeats 4000000 in
/-- places, pairs -/
theorem lawA2 {sv : Vars} {l : Led Int} (hr : Room A 4) (B : Bs w g) (hsv : Rm "places" sv sv ∧ Rm "pairs" sv sv) (H : St (intKind prog w) g R L sv l s)
    (h : ∀ pl prl pvs (prs : ME Int) s', IntsAre pvs [0, 10, 20, 30] → prs.map (·.2.1) = prsL → St (intKind prog w) g R L (("pairs", .ref prl) :: ("places", .ref pl) :: sv) ((pl, .lst pvs) :: (prl, .lst (mref prs)) :: (ML prs ++ l)) s' → wpAny (model prog w) A (execs ((tbdy 15).drop 3) (envL L fa c1 c2 c3)) (FnQ RR) E s') :
    wpAny (model prog w) A (execs ((tbdy 15).drop 1) (envL L fa c1 c2 c3)) (FnQ RR) E s := by
  have kt := kt_law
  obtain ⟨h1, h2⟩ := hsv
  refine xs_cons (st := _) (rest := _) ?_
  walk_at "goS"
  refine nx ?_
  refine xs_cons (st := _) (rest := _) ?_
  walk_at "goS"
  refine nx ?_
  rename_i p0 _ _ p1 _ _ p2 _ _ p3 _ _ pl _ _ _ _ u0 _ _ v0 _ _ e0 _ _ u1 _ _ v1 _ _ e1 _ _ u2 _ _ v2 _ _ e2 _ _ u3 _ _ v3 _ _ e3 _ _ u4 _ _ v4 _ _ e4 _ _ u5 _ _ v5 _ _ e5 _ _ prl _ _ sZ HZ
  refine h pl prl [.int 0 p0, .int 10 p1, .int 20 p2, .int 30 p3] [(e0, (0, 10), u0, v0), (e1, (0, 20), u1, v1), (e2, (0, 30), u2, v2), (e3, (10, 20), u3, v3), (e4, (10, 30), u4, v4), (e5, (20, 30), u5, v5)] _ (.cons _ _ (.cons _ _ (.cons _ _ (.cons _ _ .nil)))) rfl ?_
  have HY := HZ.perm (l' := (pl, .lst [.int 0 p0, .int 10 p1, .int 20 p2, .int 30 p3]) :: (prl, .lst [.ref e0, .ref e1, .ref e2, .ref e3, .ref e4, .ref e5]) :: (e0, .lst [.int 0 u0, .int 10 v0]) :: (e1, .lst [.int 0 u1, .int 20 v1]) :: (e2, .lst [.int 0 u2, .int 30 v2]) :: (e3, .lst [.int 10 u3, .int 20 v3]) :: (e4, .lst [.int 10 u4, .int 30 v4]) :: (e5, .lst [.int 20 u5, .int 30 v5]) :: l) (by walk_at "pc")
  exact HY
set_option maxHeartbeats 4000000 in
/-- edges -/
theorem lawA3 {sv : Vars} {l : Led Int} {rw prl : Addr} {xs : List Value} {prs : ME Int} (hr : Room A 6) (B : Bs w g) (hsv : Rm "edges" sv sv) (hpr : (("pairs" : Str), Value.ref prl) ∈ sv) (hx : Ints xs) (hx1 : xs ≠ []) (hx8 : xs.length ≤ 8) (hp6 : prs.length < 60)
    (H : St (intKind prog w) g R L sv ((c1, .cell (some (.ref rw))) :: (rw, .lst xs) :: (prl, .lst (mref prs)) :: (ML prs ++ l)) s)
    (h : ∀ ed (es : ME Int) s', es.Sublist prs → St (intKind prog w) g R L (("edges", .ref ed) :: sv) ((ed, .lst (mref es)) :: (c1, .cell (some (.ref rw))) :: (rw, .lst xs) :: (ML prs ++ l)) s' → wpAny (model prog w) A (execs ((tbdy 15).drop 4) (envL L fa c1 c2 c3)) (FnQ RR) E s') :
    wpAny (model prog w) A (execs ((tbdy 15).drop 3) (envL L fa c1 c2 c3)) (FnQ RR) E s := by
  have kt := kt_law
  refine xs_cons (st := _) (rest := _) ?_
  walk_at "goS"
  obtain ⟨op, hop, hkp, fx⟩ := H.fix (.tail _ (.tail _ (.head _)))
  have H1 := fx _ (.tail (.tail .head))
  refine cEnum H1 (Has.ofRaw hkp (H1.has (.tail _ (.tail _ (.head _))))) fun e it s2 H2 => ?_
  refine iEnum (H2.has (.head _)) ?_
  have hcl : op.cls = .type "list" ∧ ∃ n, op.data = .seq (mref prs).toArray n := by obtain ⟨n, rfl⟩ := hkp; exact ⟨rfl, n, rfl⟩
  obtain ⟨hcl, nn, hdt⟩ := hcl
  have hpz : (mref prs).length = prs.length := List.length_map ..
  refine' comp_bindT (X := ME Int) (fun es => mref es) (fun _ => []) (fun i es => es.Sublist (prs.take i)) [] kt ?hy hsv rfl (iter_enum (e := e) (it := it) hr.handled hcl hdt) ⟨_, _, _, rfl⟩ ?hcell ?hkind H2 ?hsrc ?h0 rfl rfl ?hfit ?turn ?fin
  case hy => walk_at "mem"
  case hcell => decide +kernel
  case hkind => rfl
  case hsrc =>
    intro i x C' D vq g₂ s' _ hk hS
    exact (hS.has (k := .raw op) (.tail _ (.tail _ (.tail _ (.tail _ (.tail _ (.head _))))))).rawE
  case h0 => exact List.Sublist.refl _
  case hfit => intro i x hx; have := hx.length_le; rw [List.length_take] at this; show (mref x).length < _; unfold mref; rw [List.length_map]; omega
  case turn =>
    rintro i es v new C' D g₂ s' E' hi hJ ⟨T, t, x, rfl, hxi, rfl⟩ hg2 H3
    have hi2 : i < prs.length := by rw [← hpz]; exact hi
    have hxe : x = .ref prs[i].1 := by
      unfold mref at hxi
      rw [List.getElem?_map, List.getElem?_eq_getElem hi2] at hxi
      exact (Option.some.inj hxi).symm
    have htk : prs.take (i + 1) = prs.take i ++ [prs[i]] := by rw [List.take_add_one, List.getElem?_eq_getElem hi2]; rfl
    generalize prs[i] = pr at *
    subst hxe
    replace H3 := show St (intKind prog w) g₂ (sideOf s2) C' [] ((T, .tup [.int i t, .ref pr.1]) :: (e, enumAt it (i + 1)) :: (it, seqIt "list_iterator" prl (i + 1)) :: (D, .lst (mref es)) :: (c1, .cell (some (.ref rw))) :: (rw, .lst xs) :: (prl, .raw op) :: (ML prs ++ l)) s' from H3
    refine' withEv (tbl := [("spot", .local), ("pair", .local), ("_law_draw", .globalImplicit), ("row", .cell)]) ?ev (fun ev => ?_)
    case ev => exact Ev.compK kt ⟨by decide +kernel, by decide +kernel⟩
    have B2 := B.keeps hg2
    refine aTuple2 H3 (H3.has (.head _)) hr.handled fun s4 H4 => ?_
    walk_at "go"
    rename_i s5 H5 s6 H6 t7 s7 H7
    have pm : ∀ {l : Led Int}, l.Perm ([] ++ l) := fun {l} => List.Perm.refl _
    have X1 := H7.atAll B2 pm
    refine callRet (draw_spec (hr.less (by decide)) X1.at_ (X1.rest (rw, .lst xs) (.tail _ (.tail _ (.tail _ (.tail _ (.tail _ (.head _))))))) hx hx1 hx8 (by omega) (by omega) (by decide) fun d td s8 hd0 hd1 e8 => retq ?_)
    have H8 := H7.eff pm e8
    rw [List.nil_append] at H8
    walk_at "go"
    cases hd : (d != 0) with
    | true =>
      refine ifT rfl ?_
      walk_at "go"
      refine ⟨es ++ [pr], _, _, ⟨by rw [htk]; exact hJ.append (List.Sublist.refl _), by unfold mref; rw [List.map_append]; rfl⟩, ?_, H8⟩
      exact .cons _ (List.Sublist.refl _)
    | false =>
      refine ifF rfl ?_
      refine ⟨es, _, _, ⟨by rw [htk]; exact hJ.trans (List.sublist_append_left _ _), rfl⟩, ?_, H8⟩
      exact .cons _ (List.Sublist.refl _)
  case fin =>
    intro es D s' hJ H3
    rw [List.take_of_length_le (by rw [hpz]; exact Nat.le_refl _)] at hJ
    refine nx ?_
    refine h D es s' hJ (H3.sub (fun _ h => h) ?_)
    show List.Sublist _ ((D, Kd.lst (mref es)) :: (c1, .cell (some (.ref rw))) :: (rw, .lst xs) :: (prl, .raw op) :: (ML prs ++ l))
    exact .cons_cons _ (.cons_cons _ (.cons_cons _ (.cons _ (.refl _))))
end
end
section
open PySem PySem.W PySem.Calls PyProof.Rows PySem.Spec
set_option Elab.async false
set_option maxRecDepth 100000
set_option maxHeartbeats 400000
set_option linter.unusedVariables false
set_option linter.unusedSectionVars false
theorem hf_ps : HasFn 110 "getSolutions" 93 := ⟨fun P => by kernel_rfl, fun P => by kernel_rfl⟩

local macro_rules | `(tactic| walk_at "isB") => `(tactic| first | (with_reducible exact b_enum) | (with_reducible exact b_range) | (with_reducible exact b_listT) | (with_reducible exact b_tupleT) | (with_reducible exact b_setT) | (with_reducible exact b_sorted) | (with_reducible exact b_len))
local macro_rules | `(tactic| walk_at "isG") => `(tactic| first | (with_reducible exact g_draw) | (with_reducible exact g_solver) | (with_reducible exact g_ways) | (with_reducible exact g_problem) | (with_reducible exact g_fc))
local macro_rules | `(tactic| walk_at "isD") => `(tactic| fail)
local macro_rules | `(tactic| walk_at "isF") => `(tactic| first | (with_reducible exact fn_draw _) | (with_reducible exact fn_solver _) | (with_reducible exact fn_ways _) | (with_reducible exact fn_avs _) | (with_reducible exact fn_ac _) | (with_reducible exact fn_ps _))
local macro_rules | `(tactic| walk_at "isC") => `(tactic| first | (with_reducible exact cg_pr) | (with_reducible exact cga_pr) | (with_reducible exact hf_avs) | (with_reducible exact hf_ac) | (with_reducible exact hf_ps))
local macro_rules | `(tactic| walk_at "op") => `(tactic| ((with_reducible refine' callCl ?hk ?h ?he ?hp); (case hk => first | (with_reducible exact kp110) | (with_reducible exact kp375)); (case he => rfl); (case hp => rfl)))
section
variable {prog : Program} {w : World} {A : Around} {s : Shared} {E : Value → Shared → Prop} {g : Heap} {R : Side} {L : Addr} {RR : Result → Shared → Prop} {fa c1 c2 c3 : Addr} {sc : Value}
theorem intsAre_get {xs : List Value} {ns : List Int} (h : IntsAre xs ns) : ∀ {i : Nat} {u : Value}, xs[i]? = some u → ∃ k, ns[i]? = some k ∧ (intKind prog w).is k u = true := by
  induction h with
  | nil => intro i u hu; simp at hu
  | cons n t _ ih =>
    intro i u hu
    cases i with
    | zero => cases hu; exact ⟨n, rfl, by simp [intKind, Value.isInt]⟩
    | succ i => exact ih (by simpa using hu)
set_option maxHeartbeats 4000000 in
/-- colours -/
theorem lawB1 {sv : Vars} {l : Led Int} {rw : Addr} {xs : List Value} (hr : Room A 6) (B : Bs w g) (hx : Ints xs) (hx1 : xs ≠ []) (hx8 : xs.length ≤ 8)
    (H : St (intKind prog w) g R L sv ((c2, .cell none) :: (c1, .cell (some (.ref rw))) :: (rw, .lst xs) :: l) s)
    (h : ∀ co cv (c : Nat) s', 1 ≤ c → c ≤ 3 → IntsAre cv ((List.range c).map fun i : Nat => (i : Int)) → St (intKind prog w) g R L sv ((c2, .cell (some (.ref co))) :: (co, .lst cv) :: (c1, .cell (some (.ref rw))) :: (rw, .lst xs) :: l) s' → wpAny (model prog w) A (execs ((tbdy 15).drop 5) (envL L fa c1 c2 c3)) (FnQ RR) E s') :
    wpAny (model prog w) A (execs ((tbdy 15).drop 4) (envL L fa c1 c2 c3)) (FnQ RR) E s := by
  have kt := kt_law
  refine xs_cons (st := _) (rest := _) ?_
  walk_at "goS"
  rename_i t1 s1 H1 t2 s2 H2 t3 s3 H3
  have pm : ∀ {l : Led Int}, l.Perm ([] ++ l) := fun {l} => List.Perm.refl _
  have X1 := H3.atAll B pm
  refine callRet (draw_spec (hr.less (by decide)) X1.at_ (X1.rest (rw, .lst xs) (.tail _ (.tail _ (.head _)))) hx hx1 hx8 (by omega) (by omega) (by decide) fun d td s4 hd0 hd1 e4 => retq ?_)
  have H4 := H3.eff pm e4
  rw [List.nil_append] at H4
  walk_at "goS"
  refine iAdd H4 fun t5 s5 H5 => ?_
  walk_at "goS"
  refine cRange H5 fun r u v y s6 H6 => ?_
  walk_at "goS"
  obtain ⟨c, hc⟩ : ∃ c : Nat, 1 + d = (c : Int) := ⟨(1 + d).toNat, by omega⟩
  rw [hc] at H6
  refine cListRange H6 hr.handled (H6.has (.head _)) (by omega) fun co cv s7 hcv H7 => ?_
  have H8 := H7.perm (l' := (c2, .cell none) :: (co, .lst cv) :: (c1, .cell (some (.ref rw))) :: (rw, .lst xs) :: (r, .raw (rngO (c : Int) u v y)) :: l) (by walk_at "pc")
  walk_at "goS"
  rename_i s9 H9
  refine nx ?_
  refine h co cv c s9 (by omega) (by omega) hcv (H9.sub (fun _ h => h) (.cons_cons _ (.cons_cons _ (.cons_cons _ (.cons_cons _ (.cons _ (.refl _)))))))
set_option maxHeartbeats 4000000 in
/-- problem -/
theorem lawB2 {sv : Vars} {l : Led Int} {rw : Addr} {xs : List Value} (hr : Room A 20) (B : Bs w g) (hx : Ints xs) (hx1 : xs ≠ []) (hx8 : xs.length ≤ 8) (hsv : Rm "problem" sv sv)
    (H : St (intKind prog w) g R L sv ((c1, .cell (some (.ref rw))) :: (rw, .lst xs) :: l) s)
    (h : ∀ C fb sf sx pr px cl vd s', C = 186 ∨ C = 225 → St (intKind prog w) g R L (("problem", .ref pr) :: sv) ((pr, .raw (instObj 110 px)) :: (px, .att [("_solver", .ref sf), ("_constraints", .ref cl), ("_variables", .ref vd)]) :: (cl, .lst []) :: (vd, .dct []) :: (sf, .raw (instObj C sx)) :: (sx, .att [("_forwardcheck", .bool fb)]) :: (c1, .cell (some (.ref rw))) :: (rw, .lst xs) :: l) s' → wpAny (model prog w) A (execs ((tbdy 15).drop 6) (envL L fa c1 c2 c3)) (FnQ RR) E s') :
    wpAny (model prog w) A (execs ((tbdy 15).drop 5) (envL L fa c1 c2 c3)) (FnQ RR) E s := by
  have kt := kt_law
  refine xs_cons (st := _) (rest := _) ?_
  walk_at "goS"
  rename_i t1 s1 H1 t2 s2 H2
  have pm : ∀ {l : Led Int}, l.Perm ([] ++ l) := fun {l} => List.Perm.refl _
  have X1 := H2.atAll B pm
  refine callRet (draw_spec (hr.less (by decide)) X1.at_ (X1.rest (rw, .lst xs) (.tail _ (.head _))) hx hx1 hx8 (by omega) (by omega) (by decide) fun d td s3 hd0 hd1 e3 => retq ?_)
  have H3 := H2.eff pm e3
  rw [List.nil_append] at H3
  walk_at "goS"
  have X2 := H3.atAll B pm
  refine callRet (solver_spec (hr.less (by decide)) X2.at_ fun C fb sf sx s4 hC e4 => retq ?_)
  have H4 := H3.eff pm e4
  have hpl : Plain0 C := by rcases hC with rfl | rfl; exact pl186; exact pl225
  walk_at "goS"
  refine newPr H4 B (hr.less (by decide)) (.head _) hpl fun pr px cl vd s5 H5 => ?_
  walk_at "goS"
  rename_i s6 H6
  refine nx ?_
  exact h C fb sf sx pr px cl vd s6 hC H6
set_option maxHeartbeats 4000000 in
/-- addVariables -/
theorem lawB3 {sv : Vars} {l : Led Int} {pl co pr px cl vd sf : Addr} {pvs cv : List Value} {c : Nat} (hr : Room A 30) (B : Bs w g) (hpl : (("places" : Str), Value.ref pl) ∈ sv) (hpr : (("problem" : Str), Value.ref pr) ∈ sv) (hpv : IntsAre pvs [0, 10, 20, 30]) (hcv : IntsAre cv ((List.range c).map fun (i : Nat) => (i : Int))) (hc1 : 1 ≤ c) (hc3 : c ≤ 3)
    (H : St (intKind prog w) g R L sv ((vd, .dct []) :: (pr, .raw (instObj 110 px)) :: (px, .att [("_solver", .ref sf), ("_constraints", .ref cl), ("_variables", .ref vd)]) :: (pl, .lst pvs) :: (c2, .cell (some (.ref co))) :: (co, .lst cv) :: l) s)
    (h : ∀ (f : DF Int) s', St (intKind prog w) g R L sv ((vd, .dct (([0, 10, 20, 30] : List Int).map fun k => (k, Value.ref (f k).1))) :: (DM f cv [0, 10, 20, 30] ++ ((pr, .raw (instObj 110 px)) :: (px, .att [("_solver", .ref sf), ("_constraints", .ref cl), ("_variables", .ref vd)]) :: (pl, .lst pvs) :: (c2, .cell (some (.ref co))) :: (co, .lst cv) :: l))) s' → wpAny (model prog w) A (execs ((tbdy 15).drop 7) (envL L fa c1 c2 c3)) (FnQ RR) E s') :
    wpAny (model prog w) A (execs ((tbdy 15).drop 6) (envL L fa c1 c2 c3)) (FnQ RR) E s := by
  have kt := kt_law
  have hcz : cv.length = c := by have := IntsAre.length hcv; rw [List.length_map, List.length_range] at this; exact this
  have hpz : pvs.length = 4 := IntsAre.length hpv
  refine xs_cons (st := _) (rest := _) ?_
  walk_at "goS"
  have hpz2 : pvs.length ≤ 1000 := by omega
  refine cListSeq H (.inl (H.has (.tail _ (.tail _ (.tail _ (.head _)))))) hpz2 fun p2 s1 H1 => ?_
  walk_at "goS"
  refine cListSeq H1 (.inl (H1.has (.tail _ (.tail _ (.tail _ (.tail _ (.tail _ (.tail _ (.head _)))))))))  (by omega) fun co2 s2 H2 => ?_
  walk_at "goS"
  have X := H2.atAll B (l := [(vd, .dct [])]) (rest := (co2, .lst cv) :: (p2, .lst pvs) :: (pr, .raw (instObj 110 px)) :: (px, .att [("_solver", .ref sf), ("_constraints", .ref cl), ("_variables", .ref vd)]) :: (pl, .lst pvs) :: (c2, .cell (some (.ref co))) :: (co, .lst cv) :: l) (by walk_at "pc")
  refine callRet (avs_spec (ks := [0, 10, 20, 30]) (kvals := pvs) (xs := cv) (hr.less (by decide)) X.at_ (X.rest _ (.tail _ (.tail _ (.head _)))) (X.rest _ (.tail _ (.tail _ (.tail _ (.head _))))) (X.rest (co2, .lst cv) (.head _)) (by omega) (fun e => by rw [e] at hcz; simp at hcz; omega) (X.rest (p2, .lst pvs) (.tail _ (.head _))) (fun i u hu => intsAre_get hpv hu) (by rw [hpz]; rfl) (by decide) (by decide) fun f s3 e3 => retq ?_)
  have H3 := H2.eff (l := [(vd, .dct [])]) (rest := (co2, .lst cv) :: (p2, .lst pvs) :: (pr, .raw (instObj 110 px)) :: (px, .att [("_solver", .ref sf), ("_constraints", .ref cl), ("_variables", .ref vd)]) :: (pl, .lst pvs) :: (c2, .cell (some (.ref co))) :: (co, .lst cv) :: l) (by walk_at "pc") e3
  walk_at "goS"
  refine nx (h f s3 (H3.sub (fun _ h => h) ?_))
  exact .cons_cons _ (.append (.refl _) (.cons _ (.cons _ (.refl _))))
end
end
section
open PySem PySem.W PySem.Calls PyProof.Rows PySem.Spec
set_option Elab.async false
set_option maxRecDepth 100000
set_option maxHeartbeats 400000
set_option linter.unusedVariables false
set_option linter.unusedSectionVars false
def ne2 : List Int → Bool
  | [a, b] => a != b
  | _ => true
abbrev lamP (p1 p2 : Pos) : Arguments := { posonlyargs := [], args := [{ arg := "left", annotation := none, pos := p1 }, { arg := "right", annotation := none, pos := p2 }], vararg := none, kwonlyargs := [], kw_defaults := [], kwarg := none, defaults := [] }
abbrev lamB (q1 q2 q3 : Pos) : Expr := .Compare (.Name "left" q1) [.NotEq] [.Name "right" q2] q3
abbrev lamS : Scope := { kind := .function, names := [("left", .local), ("right", .local)], isGenerator := false, isCoroutine := false }
abbrev tb_lam : List (Str × NameKind) := [("left", .local), ("right", .local)]
theorem kt_lam : Kt lamS tb_lam := ⟨by decide +kernel, by decide +kernel⟩

local macro_rules | `(tactic| walk_at "isB") => `(tactic| first | (with_reducible exact b_enum) | (with_reducible exact b_range) | (with_reducible exact b_listT) | (with_reducible exact b_tupleT) | (with_reducible exact b_setT) | (with_reducible exact b_sorted) | (with_reducible exact b_len))
local macro_rules | `(tactic| walk_at "isG") => `(tactic| first | (with_reducible exact g_draw) | (with_reducible exact g_solver) | (with_reducible exact g_ways) | (with_reducible exact g_problem) | (with_reducible exact g_fc))
local macro_rules | `(tactic| walk_at "isD") => `(tactic| fail)
local macro_rules | `(tactic| walk_at "isF") => `(tactic| first | (with_reducible exact fn_draw _) | (with_reducible exact fn_solver _) | (with_reducible exact fn_ways _) | (with_reducible exact fn_avs _) | (with_reducible exact fn_ac _) | (with_reducible exact fn_ps _))
local macro_rules | `(tactic| walk_at "isC") => `(tactic| first | (with_reducible exact cg_pr) | (with_reducible exact cga_pr) | (with_reducible exact hf_avs) | (with_reducible exact hf_ac) | (with_reducible exact hf_ps))
local macro_rules | `(tactic| walk_at "op") => `(tactic| ((with_reducible refine' callCl ?hk ?h ?he ?hp); (case hk => first | (with_reducible exact kp110) | (with_reducible exact kp375)); (case he => rfl); (case hp => rfl)))
section
variable {prog : Program} {w : World} {A : Around} {s : Shared} {E : Value → Shared → Prop} {g : Heap} {R : Side} {L : Addr} {RR : Result → Shared → Prop} {fa c1 c2 c3 : Addr} {sc : Value}
set_option maxHeartbeats 4000000 in
/-- the lambda tells whether two ints are unlike -/
theorem lam_ok {K : Type} [DecidableEq K] {knd : KeyKind prog w K} {h : Heap} {f c' : Addr} {p1 p2 q1 q2 q3 : Pos} {qual : Str} {pm ct : Value} (B : Bs w h) (hf : Has knd h f (.raw (kla_obj "<lambda>" qual (lamP p1 p2) (lamB q1 q2 q3) lamS [] pm c' ct))) (hc : Has knd h c' (codeK qual)) : FnOk knd h f 2 ne2 := by
  refine ⟨⟨_, _, hf.rawE, rfl⟩, fun {A s R} vs hl hr hk hR => ?_⟩
  obtain ⟨⟨i, t⟩, ⟨j, u⟩, rfl⟩ : ∃ a b, vs = [a, b] := by
    cases vs with
    | nil => simp at hl
    | cons a vs => cases vs with
      | nil => simp at hl
      | cons b vs => cases vs with
        | nil => exact ⟨a, b, rfl⟩
        | cons _ _ => simp at hl
  have X : At knd h s [] := ⟨B, hk, List.nodup_nil, fun p hp => nomatch hp⟩
  refine enterE (knd := knd) (names := ["left", "right"]) (vals := [.int i t, .int j u]) X hr (hk _ _ hf.rawE) rfl (codeRec_at (hc.keep fun o e => hk _ o e)) rfl (by decide +kernel) (by decide +kernel) (fun g L s₁ hg hg' B H => ?_) (by decide +kernel)
  have kt := kt_lam
  replace H : St knd g (sideOf s) L [("left", .int i t), ("right", .int j u)] [] s₁ := H
  walk_at "go"
  exact hR _ (H.toEff (List.Sublist.refl _) hg)
end
end
section
open PySem PySem.W PySem.Calls PyProof.Rows PySem.Spec
set_option Elab.async false
set_option maxRecDepth 100000
set_option maxHeartbeats 400000
set_option linter.unusedVariables false
set_option linter.unusedSectionVars false

local macro_rules | `(tactic| walk_at "isB") => `(tactic| first | (with_reducible exact b_enum) | (with_reducible exact b_range) | (with_reducible exact b_listT) | (with_reducible exact b_tupleT) | (with_reducible exact b_setT) | (with_reducible exact b_sorted) | (with_reducible exact b_len))
local macro_rules | `(tactic| walk_at "isG") => `(tactic| first | (with_reducible exact g_draw) | (with_reducible exact g_solver) | (with_reducible exact g_ways) | (with_reducible exact g_problem) | (with_reducible exact g_fc))
local macro_rules | `(tactic| walk_at "isD") => `(tactic| fail)
local macro_rules | `(tactic| walk_at "isF") => `(tactic| first | (with_reducible exact fn_draw _) | (with_reducible exact fn_solver _) | (with_reducible exact fn_ways _) | (with_reducible exact fn_avs _) | (with_reducible exact fn_ac _) | (with_reducible exact fn_ps _))
local macro_rules | `(tactic| walk_at "isC") => `(tactic| first | (with_reducible exact cg_pr) | (with_reducible exact cga_pr) | (with_reducible exact hf_avs) | (with_reducible exact hf_ac) | (with_reducible exact hf_ps))
local macro_rules | `(tactic| walk_at "op") => `(tactic| ((with_reducible refine' callCl ?hk ?h ?he ?hp); (case hk => first | (with_reducible exact kp110) | (with_reducible exact kp375)); (case he => rfl); (case hp => rfl)))
structure Itm where
  t : Addr
  c : Addr
  cx : Addr
  f : Addr
  va : Addr
  cc : Addr
  b : Bool
  e : Int × Int
  u : Tok
  v : Tok
def Itm.vals (q : Itm) : List Value := [.int q.e.1 q.u, .int q.e.2 q.v]
abbrev qualL : Str := "law.<locals>.<lambda>"
section
variable {K : Type}
def seqK (b : Bool) (xs : List Value) : Kd K := match b with
  | true => .lst xs
  | false => .tup xs
def lamK (cc : Addr) : Kd K := .obs fun o => ∃ p1 p2 q1 q2 q3 pm ct, o = kla_obj "<lambda>" qualL (lamP p1 p2) (lamB q1 q2 q3) lamS [] pm cc ct
def IL1 (q : Itm) : Led K := [(q.t, .tup [.ref q.c, .ref q.va]), (q.c, .raw (instObj 375 q.cx)), (q.cx, .att (conAtt q.f)), (q.va, seqK q.b q.vals), (q.f, lamK q.cc)]
def IL (its : List Itm) : Led K := its.flatMap IL1
theorem IL_snoc (its : List Itm) (q : Itm) : (IL (its ++ [q]) : Led K) = IL its ++ IL1 q := by unfold IL; rw [List.flatMap_append, List.flatMap_cons, List.flatMap_nil, List.append_nil]
end
section
variable {prog : Program} {w : World} {A : Around} {s : Shared} {E : Value → Shared → Prop} {g : Heap} {R : Side} {L : Addr} {RR : Result → Shared → Prop} {fa c1 c2 c3 : Addr} {sc : Value}
set_option maxHeartbeats 4000000 in
/-- the constraints -/
theorem lawB4 {sv : Vars} {l : Led Int} {pr px cl vd sf ed : Addr} {es prs : ME Int} (hr : Room A 40) (B : Bs w g) (Lg : LB g) (hC : CodeHd g 400 398) (hsv : Rm "spot" sv sv ∧ Rm "pair" sv sv) (hpr : (("problem" : Str), Value.ref pr) ∈ sv) (hed : (("edges" : Str), Value.ref ed) ∈ sv)
    (hes : es.Sublist prs) (hez : es.length < 60)
    (H : St (intKind prog w) g R L sv (Tb 398 qualL [] ++ ((cl, .lst []) :: (ed, .lst (mref es)) :: (pr, .raw (instObj 110 px)) :: (px, .att [("_solver", .ref sf), ("_constraints", .ref cl), ("_variables", .ref vd)]) :: (ML prs ++ l))) s)
    (h : ∀ its cs s', its.map Itm.e = es.map (·.2.1) → (∀ q ∈ its, q.cc ∈ cs) → St (intKind prog w) g R L sv (Tb 398 qualL cs ++ ((cl, .lst (its.map fun q => .ref q.t)) :: (ed, .lst (mref es)) :: (pr, .raw (instObj 110 px)) :: (px, .att [("_solver", .ref sf), ("_constraints", .ref cl), ("_variables", .ref vd)]) :: (IL its ++ (ML prs ++ l)))) s' → wpAny (model prog w) A (execs ((tbdy 15).drop 8) (envL L fa c1 c2 c3)) (FnQ RR) E s') :
    wpAny (model prog w) A (execs ((tbdy 15).drop 7) (envL L fa c1 c2 c3)) (FnQ RR) E s := by
  have kt := kt_law
  refine xs_cons (st := _) (rest := _) ?_
  obtain ⟨oe, hoe, hke, fx⟩ := H.fix (List.mem_append_right _ (.tail _ (.head _)))
  have H1 := fx _ (.left (.tail .head) _)
  clear H fx
  walk_at "goS"
  refine cEnum H1 (Has.ofRaw hke (H1.has (List.mem_append_right _ (.tail _ (.head _))))) fun e it s2 H2 => ?_
  refine iEnum (H2.has (.head _)) ?_
  have hcl : oe.cls = .type "list" ∧ ∃ n, oe.data = .seq (mref es).toArray n := by obtain ⟨n, rfl⟩ := hke; exact ⟨rfl, n, rfl⟩
  obtain ⟨hcl, nn, hdt⟩ := hcl
  have hmz : (mref es).length = es.length := List.length_map ..
  have hoe2 : ∀ {x : Led Int} {vs : Vars} {s' : Shared}, St (intKind prog w) g R L vs x s' → (ed, Kd.raw oe) ∈ x → s'.heap.get? ed = some oe := fun hS hm => (hS.has hm).rawE
  refine' for_stT (g := g) (R := R) (L := L) (X := List Itm × List Addr) (fun _ => sv)
    (fun x => Tb 398 qualL x.2 ++ ((cl, .lst (x.1.map fun q => .ref q.t)) :: (ed, .raw oe) :: (pr, .raw (instObj 110 px)) :: (px, .att [("_solver", .ref sf), ("_constraints", .ref cl), ("_variables", .ref vd)]) :: (IL x.1 ++ (ML prs ++ l))))
    (fun i x => x.1.map Itm.e = (es.map (·.2.1)).take i ∧ ∀ q ∈ x.1, q.cc ∈ x.2) ([], []) (iter_enum (e := e) (it := it) hr.handled hcl hdt) ⟨_, _, _, rfl⟩ ?src ⟨rfl, fun q hq => nomatch hq⟩ H2 ?turn ?done
  case src => intro i x s' _ hS; exact hoe2 hS (List.mem_append_right _ (List.mem_append_right _ (.tail _ (.head _))))
  case turn =>
    rintro i ⟨its, cs⟩ v new s' E' hi ⟨hJ1, hJ2⟩ ⟨T, t, x, rfl, hxi, rfl⟩ H3
    dsimp only at hJ1 hJ2
    have hi2 : i < es.length := by rw [← hmz]; exact hi
    have hxe : x = .ref es[i].1 := by
      unfold mref at hxi
      rw [List.getElem?_map, List.getElem?_eq_getElem hi2] at hxi
      exact (Option.some.inj hxi).symm
    have hpm : es[i] ∈ prs := hes.mem (List.getElem_mem hi2)
    have htk : (es.map (·.2.1)).take (i + 1) = (es.map (·.2.1)).take i ++ [es[i].2.1] := by rw [List.take_add_one, List.getElem?_map, List.getElem?_eq_getElem hi2]; rfl
    have hilen : its.length = i := by have := congrArg List.length hJ1; rw [List.length_map, List.length_take, List.length_map] at this; omega
    generalize es[i] = p at *
    subst hxe
    obtain ⟨ea, ⟨ex, ey⟩, tx, ty⟩ := p
    dsimp only at htk
    replace H3 := show St (intKind prog w) g R L sv ((T, .tup [.int i t, .ref ea]) :: (e, enumAt it (i + 1)) :: (it, seqIt "list_iterator" ed (i + 1)) :: (Tb 398 qualL cs ++ ((cl, .lst (its.map fun q => .ref q.t)) :: (ed, .raw oe) :: (pr, .raw (instObj 110 px)) :: (px, .att [("_solver", .ref sf), ("_constraints", .ref cl), ("_variables", .ref vd)]) :: (IL its ++ (ML prs ++ l))))) s' from H3
    have hsv1 := hsv.1
    have hsv2 := hsv.2
    have heM : (ea, Kd.lst [.int ex tx, .int ey ty]) ∈ (ML prs : Led Int) := List.mem_map.mpr ⟨_, hpm, rfl⟩
    refine aTuple2 H3 (H3.has (.head _)) hr.handled fun s4 H4 => ?_
    walk_at "go"
    refine iMod (by assumption) (by decide) fun t5 s5 H5 => ?_
    walk_at "go"
    have ckz : (its.map fun q => Value.ref q.t).length ≤ 900 := by rw [List.length_map]; omega
    cases hm : (((i : Int).fmod 2) != 0) with
    | true =>
      refine ifT rfl ?_
      walk_at "go"
      have H6 := H5.perm (l' := Tb 398 qualL cs ++ ((T, .tup [.int i t, .ref ea]) :: (e, enumAt it (i + 1)) :: (it, seqIt "list_iterator" ed (i + 1)) :: ((cl, .lst (its.map fun q => .ref q.t)) :: (ed, .raw oe) :: (pr, .raw (instObj 110 px)) :: (px, .att [("_solver", .ref sf), ("_constraints", .ref cl), ("_variables", .ref vd)]) :: (IL its ++ (ML prs ++ l))))) (by walk_at "pc")
      refine eLam H6 Lg hC rfl rfl rfl rfl fun f c' pm ct cs' s7 hc' hcs' H7 => ?_
      walk_at "go"
      refine newFc0 H7 B (hr.less (by decide)) fun c cx s8 H8 => ?_
      walk_at "go"
      refine cListSeq (xs := [.int ex tx, .int ey ty]) H8 (.inl (H8.has (a := ea) ?_)) (by decide : 2 ≤ 1000) fun va s9 H9 => ?_
      · exact .tail _ (.tail _ (.tail _ (List.mem_append_right _ (.tail _ (.tail _ (.tail _ (.tail _ (.tail _ (.tail _ (.tail _ (List.mem_append_right _ (List.mem_append_left _ heM))))))))))))
      walk_at "go"
      have pm1 : ((va, Kd.lst [.int ex tx, .int ey ty]) :: (c, .raw (instObj 375 cx)) :: (cx, .att [("_func", .ref f), ("_assigned", .bool true)]) :: (f, .raw (kla_obj "<lambda>" qualL (lamP ⟨324, 60, 324, 64⟩ ⟨324, 66, 324, 71⟩) (lamB ⟨324, 73, 324, 77⟩ ⟨324, 81, 324, 86⟩ ⟨324, 73, 324, 86⟩) lamS [] pm c' ct)) :: (Tb 398 qualL cs' ++ ((T, .tup [.int i t, .ref ea]) :: (e, enumAt it (i + 1)) :: (it, seqIt "list_iterator" ed (i + 1)) :: ((cl, .lst (its.map fun q => .ref q.t)) :: (ed, .raw oe) :: (pr, .raw (instObj 110 px)) :: (px, .att [("_solver", .ref sf), ("_constraints", .ref cl), ("_variables", .ref vd)]) :: (IL its ++ (ML prs ++ l)))))).Perm
        ([(cl, .lst (its.map fun q => .ref q.t))] ++ ((c, .raw (instObj 375 cx)) :: (pr, .raw (instObj 110 px)) :: (px, .att [("_solver", .ref sf), ("_constraints", .ref cl), ("_variables", .ref vd)]) :: (va, .lst [.int ex tx, .int ey ty]) :: (cx, .att [("_func", .ref f), ("_assigned", .bool true)]) :: (f, .raw (kla_obj "<lambda>" qualL (lamP ⟨324, 60, 324, 64⟩ ⟨324, 66, 324, 71⟩) (lamB ⟨324, 73, 324, 77⟩ ⟨324, 81, 324, 86⟩ ⟨324, 73, 324, 86⟩) lamS [] pm c' ct)) :: (Tb 398 qualL cs' ++ ((T, .tup [.int i t, .ref ea]) :: (e, enumAt it (i + 1)) :: (it, seqIt "list_iterator" ed (i + 1)) :: (ed, .raw oe) :: (IL its ++ (ML prs ++ l)))))) := by walk_at "pc"
      have X := H9.atAll B pm1
      refine callRet (ac_fc (hr.less (by decide)) X.at_ (X.rest (pr, .raw (instObj 110 px)) (.tail _ (.head _))) (X.rest _ (.tail _ (.tail _ (.head _)))) (X.rest (c, .raw (instObj 375 cx)) (.head _)) ckz fun tt s10 e10 => retq ?_)
      have H10 := H9.eff pm1 e10
      walk_at "go"
      refine for_next ⟨(its ++ [⟨tt, c, cx, f, va, c', true, (ex, ey), tx, ty⟩], cs'), ⟨?_, ?_⟩, ?_⟩
      · dsimp only; rw [htk, List.map_append, hJ1]; rfl
      · intro q hq
        rcases List.mem_append.mp hq with hq | hq
        · exact hcs' _ (hJ2 q hq)
        · rw [List.mem_singleton.mp hq]; exact hc'
      · have H11 := H10.recast (k := .raw (kla_obj "<lambda>" qualL (lamP ⟨324, 60, 324, 64⟩ ⟨324, 66, 324, 71⟩) (lamB ⟨324, 73, 324, 77⟩ ⟨324, 81, 324, 86⟩ ⟨324, 73, 324, 86⟩) lamS [] pm c' ct)) (k' := lamK c') (a := f) (l' := [(cl, .lst ((its.map fun q => .ref q.t) ++ [.ref tt])), (tt, .tup [.ref c, .ref va])] ++ ((c, .raw (instObj 375 cx)) :: (pr, .raw (instObj 110 px)) :: (px, .att [("_solver", .ref sf), ("_constraints", .ref cl), ("_variables", .ref vd)]) :: (va, .lst [.int ex tx, .int ey ty]) :: (cx, .att [("_func", .ref f), ("_assigned", .bool true)]) :: (f, lamK c') :: (Tb 398 qualL cs' ++ ((T, .tup [.int i t, .ref ea]) :: (e, enumAt it (i + 1)) :: (it, seqIt "list_iterator" ed (i + 1)) :: (ed, .raw oe) :: (IL its ++ (ML prs ++ l)))))) (by walk_at "up") (fun o _ q => ⟨_, _, _, _, _, _, _, q⟩)
        have H12 := H11.perm (l' := (T, .tup [.int i t, .ref ea]) :: ([(e, enumAt it (i + 1)), (it, seqIt "list_iterator" ed (i + 1))] ++ (Tb 398 qualL cs' ++ ((cl, .lst ((its.map fun q => .ref q.t) ++ [.ref tt])) :: (ed, .raw oe) :: (pr, .raw (instObj 110 px)) :: (px, .att [("_solver", .ref sf), ("_constraints", .ref cl), ("_variables", .ref vd)]) :: ((IL its ++ [(tt, .tup [.ref c, .ref va]), (c, .raw (instObj 375 cx)), (cx, .att [("_func", .ref f), ("_assigned", .bool true)]), (va, .lst [.int ex tx, .int ey ty]), (f, lamK c')]) ++ (ML prs ++ l)))))) (by walk_at "pc")
        refine (H12.sub (fun p hp => .tail _ (.tail _ hp)) (.cons _ (.refl _))).perm ?_
        dsimp only
        rw [IL_snoc, List.map_append]
        exact List.Perm.refl _
    | false =>
      refine ifF rfl ?_
      walk_at "go"
      have H6 := H5.perm (l' := Tb 398 qualL cs ++ ((T, .tup [.int i t, .ref ea]) :: (e, enumAt it (i + 1)) :: (it, seqIt "list_iterator" ed (i + 1)) :: ((cl, .lst (its.map fun q => .ref q.t)) :: (ed, .raw oe) :: (pr, .raw (instObj 110 px)) :: (px, .att [("_solver", .ref sf), ("_constraints", .ref cl), ("_variables", .ref vd)]) :: (IL its ++ (ML prs ++ l))))) (by walk_at "pc")
      refine eLam H6 Lg hC rfl rfl rfl rfl fun f c' pm ct cs' s7 hc' hcs' H7 => ?_
      walk_at "go"
      refine cTupLst (xs := [.int ex tx, .int ey ty]) H7 (H7.has (a := ea) ?_) (by decide : 2 ≤ 1000) fun va s8 H8 => ?_
      · exact .tail _ (List.mem_append_right _ (.tail _ (.tail _ (.tail _ (.tail _ (.tail _ (.tail _ (.tail _ (List.mem_append_right _ (List.mem_append_left _ heM)))))))))) 
      walk_at "go"
      have pm1 : ((va, Kd.tup [.int ex tx, .int ey ty]) :: (f, .raw (kla_obj "<lambda>" qualL (lamP ⟨326, 41, 326, 45⟩ ⟨326, 47, 326, 52⟩) (lamB ⟨326, 54, 326, 58⟩ ⟨326, 62, 326, 67⟩ ⟨326, 54, 326, 67⟩) lamS [] pm c' ct)) :: (Tb 398 qualL cs' ++ ((T, .tup [.int i t, .ref ea]) :: (e, enumAt it (i + 1)) :: (it, seqIt "list_iterator" ed (i + 1)) :: ((cl, .lst (its.map fun q => .ref q.t)) :: (ed, .raw oe) :: (pr, .raw (instObj 110 px)) :: (px, .att [("_solver", .ref sf), ("_constraints", .ref cl), ("_variables", .ref vd)]) :: (IL its ++ (ML prs ++ l)))))).Perm
        ([(cl, .lst (its.map fun q => .ref q.t))] ++ ((pr, .raw (instObj 110 px)) :: (px, .att [("_solver", .ref sf), ("_constraints", .ref cl), ("_variables", .ref vd)]) :: (va, .tup [.int ex tx, .int ey ty]) :: (f, .raw (kla_obj "<lambda>" qualL (lamP ⟨326, 41, 326, 45⟩ ⟨326, 47, 326, 52⟩) (lamB ⟨326, 54, 326, 58⟩ ⟨326, 62, 326, 67⟩ ⟨326, 54, 326, 67⟩) lamS [] pm c' ct)) :: (Tb 398 qualL cs' ++ ((T, .tup [.int i t, .ref ea]) :: (e, enumAt it (i + 1)) :: (it, seqIt "list_iterator" ed (i + 1)) :: (ed, .raw oe) :: (IL its ++ (ML prs ++ l)))))) := by walk_at "pc"
      have X := H8.atAll B pm1
      refine callRet (ac_fn (hr.less (by decide)) X.at_ (X.rest (pr, .raw (instObj 110 px)) (.head _)) (X.rest _ (.tail _ (.head _))) (X.rest (f, .raw (kla_obj "<lambda>" qualL (lamP ⟨326, 41, 326, 45⟩ ⟨326, 47, 326, 52⟩) (lamB ⟨326, 54, 326, 58⟩ ⟨326, 62, 326, 67⟩ ⟨326, 54, 326, 67⟩) lamS [] pm c' ct)) (.tail _ (.tail _ (.tail _ (.head _))))) ckz fun tt c cx s10 e10 => retq ?_)
      have H9 := H8.eff pm1 e10
      have H10 := H9.perm (l' := [(cl, .lst ((its.map fun q => .ref q.t) ++ [.ref tt])), (tt, .tup [.ref c, .ref va])] ++ ((c, .raw (instObj 375 cx)) :: (pr, .raw (instObj 110 px)) :: (px, .att [("_solver", .ref sf), ("_constraints", .ref cl), ("_variables", .ref vd)]) :: (va, .tup [.int ex tx, .int ey ty]) :: (cx, .att [("_func", .ref f), ("_assigned", .bool true)]) :: (f, .raw (kla_obj "<lambda>" qualL (lamP ⟨326, 41, 326, 45⟩ ⟨326, 47, 326, 52⟩) (lamB ⟨326, 54, 326, 58⟩ ⟨326, 62, 326, 67⟩ ⟨326, 54, 326, 67⟩) lamS [] pm c' ct)) :: (Tb 398 qualL cs' ++ ((T, .tup [.int i t, .ref ea]) :: (e, enumAt it (i + 1)) :: (it, seqIt "list_iterator" ed (i + 1)) :: (ed, .raw oe) :: (IL its ++ (ML prs ++ l)))))) (by walk_at "pc")
      walk_at "go"
      refine for_next ⟨(its ++ [⟨tt, c, cx, f, va, c', false, (ex, ey), tx, ty⟩], cs'), ⟨?_, ?_⟩, ?_⟩
      · dsimp only; rw [htk, List.map_append, hJ1]; rfl
      · intro q hq
        rcases List.mem_append.mp hq with hq | hq
        · exact hcs' _ (hJ2 q hq)
        · rw [List.mem_singleton.mp hq]; exact hc'
      · have H11 := H10.recast (k := .raw (kla_obj "<lambda>" qualL (lamP ⟨326, 41, 326, 45⟩ ⟨326, 47, 326, 52⟩) (lamB ⟨326, 54, 326, 58⟩ ⟨326, 62, 326, 67⟩ ⟨326, 54, 326, 67⟩) lamS [] pm c' ct)) (k' := lamK c') (a := f) (l' := [(cl, .lst ((its.map fun q => .ref q.t) ++ [.ref tt])), (tt, .tup [.ref c, .ref va])] ++ ((c, .raw (instObj 375 cx)) :: (pr, .raw (instObj 110 px)) :: (px, .att [("_solver", .ref sf), ("_constraints", .ref cl), ("_variables", .ref vd)]) :: (va, .tup [.int ex tx, .int ey ty]) :: (cx, .att [("_func", .ref f), ("_assigned", .bool true)]) :: (f, lamK c') :: (Tb 398 qualL cs' ++ ((T, .tup [.int i t, .ref ea]) :: (e, enumAt it (i + 1)) :: (it, seqIt "list_iterator" ed (i + 1)) :: (ed, .raw oe) :: (IL its ++ (ML prs ++ l)))))) (by walk_at "up") (fun o _ q => ⟨_, _, _, _, _, _, _, q⟩)
        have H12 := H11.perm (l' := (T, .tup [.int i t, .ref ea]) :: ([(e, enumAt it (i + 1)), (it, seqIt "list_iterator" ed (i + 1))] ++ (Tb 398 qualL cs' ++ ((cl, .lst ((its.map fun q => .ref q.t) ++ [.ref tt])) :: (ed, .raw oe) :: (pr, .raw (instObj 110 px)) :: (px, .att [("_solver", .ref sf), ("_constraints", .ref cl), ("_variables", .ref vd)]) :: ((IL its ++ [(tt, .tup [.ref c, .ref va]), (c, .raw (instObj 375 cx)), (cx, .att [("_func", .ref f), ("_assigned", .bool true)]), (va, .tup [.int ex tx, .int ey ty]), (f, lamK c')]) ++ (ML prs ++ l)))))) (by walk_at "pc")
        refine (H12.sub (fun p hp => .tail _ (.tail _ hp)) (.cons _ (.refl _))).perm ?_
        dsimp only
        rw [IL_snoc, List.map_append]
        exact List.Perm.refl _
  case done =>
    rintro ⟨its, cs⟩ s' E' ⟨hJ1, hJ2⟩ H3
    dsimp only at hJ1 hJ2
    rw [List.take_of_length_le (by rw [List.length_map, hmz]; exact Nat.le_refl _)] at hJ1
    refine wpAny_execs_nil (nx (h its cs s' hJ1 hJ2 ?_))
    exact H3.unfix hke (.left (.tail .head) _)
end
end
section
open PySem PySem.W PySem.Calls PyProof.Rows PySem.Spec
set_option Elab.async false
set_option maxRecDepth 100000
set_option maxHeartbeats 400000
set_option linter.unusedVariables false
set_option linter.unusedSectionVars false

section
variable {prog : Program} {w : World} {K : Type} [DecidableEq K] {knd : KeyKind prog w K} {A : Around} {s : Shared} {E : Value → Shared → Prop} {g : Heap} {R : Side} {L : Addr} {vs : Vars} {l l' : Led K} {a b x : Addr} {env : Env} {pos : Pos}
theorem eqvI (ns : List Int) (v : Int) : (ns.map PyData.int).any (fun y => PyData.eqv y (.int v)) = decide (v ∈ ns) := by
  induction ns with
  | nil => simp
  | cons n ns ih =>
    rw [List.map_cons, List.any_cons, ih]
    by_cases h : n = v
    · subst h; simp [PyData.eqv]
    · have h' : ¬ v = n := fun e => h e.symm
      simp [PyData.eqv, h, h']
theorem layI (ns : List Int) : PyData.canLayAll0 (ns.map PyData.int) = true := by
  induction ns with
  | nil => simp [PyData.canLayAll0]
  | cons n ns ih => rw [List.map_cons, PyData.canLayAll0, ih]; simp [PyData.canLay0]
theorem notInI {v : Int} {t : Tok} {xs : List Value} {ns : List Int} {Q : Value → Shared → Prop} (D : Has knd s.heap a (.lst xs)) (hi : IntsAre xs ns) (hr : Room A 1) (h : Q (.bool (!decide (v ∈ ns))) s) :
    wpAny (model prog w) A (compareOp .NotIn (.int v t) (.ref a)) Q E s := by
  refine PySem.SeqAt.notIn_list_reads (reads_of_ints D.list hi) (.int v t) (layI ns) (by simp [PyData.canLay0]) ?_ (by rw [eqvI]; exact h)
  have := hr.units
  have h2 : PyData.depth (.int v) ≤ 2 := by simp [PyData.depth]
  have := Nat.min_le_right (PyData.depthAll (ns.map PyData.int)) (PyData.depth (.int v))
  omega
theorem mSetAdd {hs : List Int} {pl : Sem Bool} {Q : Value × List Value → Shared → Prop} (S : Has knd s.heap a (setK hs)) (h : Q (.builtin "set.add", [.ref a]) s) : wpAny (model prog w) A (getMethod (.ref a) "add" pl) Q E s :=
  getMethod_builtin (setK.typeIs S) F.plainAttrs_set F.slot_set_add F.type_set_add (fun b e => by
    cases e
    obtain ⟨o, ho, hx, _⟩ := S
    exact ⟨o, ho, hx.2.1⟩) h
theorem itemsAre_ints {xs : List Value} {ns : List Int} (h : IntsAre xs ns) : ItemsAre (intKind prog w) ns xs := by
  induction h with
  | nil => exact .nil
  | cons n t _ ih => exact .cons (by simp [intKind, Value.isInt]) ih
theorem tupKey {xs : List Value} {ns : List Int} (D : Has knd s.heap a (.tup xs)) (hi : IntsAre xs ns) : IsTupleKey (intKind prog w) s.heap ns a := by
  obtain ⟨o, ho, rfl⟩ := D
  exact ⟨_, xs.toArray, _, ho, rfl, rfl, itemsAre_ints hi⟩
theorem intKO : KeyOrd (intKind prog w) where
  plain := fun k v h b => by obtain ⟨t, rfl⟩ := Value.isInt_shape h; rfl
  lt := fun {A E s a b u v Q} hu hv h => by
    obtain ⟨t, rfl⟩ := Value.isInt_shape hu
    obtain ⟨t', rfl⟩ := Value.isInt_shape hv
    exact wpAny_lt_int (h _ s.toks)
  ne := fun {A E s a b u v Q} hu hv h => by
    obtain ⟨t, rfl⟩ := Value.isInt_shape hu
    obtain ⟨t', rfl⟩ := Value.isInt_shape hv
    refine PySem.P.ne_int ?_
    have e : (a != b) = decide (a ≠ b) := by by_cases q : a = b <;> simp [q]
    rw [e]; exact h
end
def subl {α : Type} : List α → List (List α)
  | [] => [[]]
  | a :: l => (subl l).map (a :: ·) ++ subl l
theorem mem_subl {α : Type} : ∀ {l l' : List α}, l'.Sublist l → l' ∈ subl l
  | [], _, h => by rw [List.sublist_nil.mp h]; exact .head _
  | a :: l, l', h => by
    cases h with
    | cons _ h => exact List.mem_append_right _ (mem_subl h)
    | cons_cons _ h => exact List.mem_append_left _ (List.mem_map.mpr ⟨_, mem_subl h, rfl⟩)
def keys4 : List Int := [0, 10, 20, 30]
def rng (c : Nat) : List Int := (List.range c).map fun i : Nat => (i : Int)
def conE (es : List (Int × Int)) : List (Con Int) := es.map fun e => ([e.1, e.2], ne2)
set_option maxHeartbeats 0 in
theorem count1 : ∀ es ∈ subl prsL, waysOk 6 4 es = true ∧ ∀ c ∈ [1, 2, 3], ((solsOf keys4 (fun _ => rng c) (conE es) []).length : Int) = waysF 6 4 es (c : Int) := by decide +kernel
def all3 : List (List Int) := (rng 3).flatMap fun a => (rng 3).flatMap fun b => (rng 3).flatMap fun c => (rng 3).map fun d => [a, b, c, d]
theorem hash_nd : (all3.map tupHash).Nodup := by decide +kernel
def gv (kvs : List (Int × Value)) : List Int := keys4.map (valK kvs)
/-- a solution, as the law finds it -/
structure SolOk (c : Nat) (es : List (Int × Int)) (kvs : List (Int × Value)) : Prop where
  p : (kvs.map (·.1)).Perm keys4
  v : ∀ k ∈ keys4, ∃ i t, valueAt kvs k = some (.int i t) ∧ i ∈ rng c
  e : ∀ e ∈ es, e.1 ∈ keys4 ∧ e.2 ∈ keys4 ∧ valK kvs e.1 ≠ valK kvs e.2
theorem SolOk.gvAt {c es kvs} (x : SolOk c es kvs) : ∃ xs, IntsAre xs (gv kvs) ∧ xs = keys4.map (fun k => (valueAt kvs k).getD .none) := by
  refine ⟨_, ?_, rfl⟩
  have e : gv kvs = (keys4.map (fun k => (valueAt kvs k).getD .none)).map vInt := by rw [List.map_map]; rfl
  rw [e]
  refine ints_intsAre fun v hv => ?_
  obtain ⟨k, hk, rfl⟩ := List.mem_map.mp hv
  obtain ⟨i, t, e, _⟩ := x.v k hk
  exact ⟨i, t, by rw [e]; rfl⟩
theorem SolOk.gvIn {c es kvs} (x : SolOk c es kvs) : ∀ v ∈ gv kvs, v ∈ rng c := by
  intro v hv
  obtain ⟨k, hk, rfl⟩ := List.mem_map.mp hv
  obtain ⟨i, t, e, hi⟩ := x.v k hk
  unfold valK; rw [e]; exact hi
theorem rng_mono {c d : Nat} (h : c ≤ d) : ∀ v ∈ rng c, v ∈ rng d := by
  intro v hv
  obtain ⟨i, hi, rfl⟩ := List.mem_map.mp hv
  exact List.mem_map.mpr ⟨i, List.mem_range.mpr (Nat.lt_of_lt_of_le (List.mem_range.mp hi) h), rfl⟩
theorem SolOk.inAll {c es kvs} (x : SolOk c es kvs) (hc : c ≤ 3) : gv kvs ∈ all3 := by
  have h := fun k hk => rng_mono hc _ (x.gvIn _ (List.mem_map.mpr ⟨k, hk, rfl⟩ : valK kvs k ∈ gv kvs))
  show [valK kvs 0, valK kvs 10, valK kvs 20, valK kvs 30] ∈ all3
  refine List.mem_flatMap.mpr ⟨_, h 0 (by decide), List.mem_flatMap.mpr ⟨_, h 10 (by decide), List.mem_flatMap.mpr ⟨_, h 20 (by decide), List.mem_map.mpr ⟨_, h 30 (by decide), rfl⟩⟩⟩⟩
theorem nodup_inj {α β : Type} {f : α → β} : ∀ {l : List α}, (l.map f).Nodup → ∀ a ∈ l, ∀ b ∈ l, f a = f b → a = b
  | [], _, a, h, _, _, _ => nomatch h
  | x :: l, hn, a, ha, b, hb, e => by
    rw [List.map_cons, List.nodup_cons] at hn
    rcases List.mem_cons.mp ha with q | q <;> rcases List.mem_cons.mp hb with q' | q'
    · rw [q, q']
    · exact absurd (List.mem_map.mpr ⟨b, q', by rw [← q, e]⟩) hn.1
    · exact absurd (List.mem_map.mpr ⟨a, q, by rw [← q', e]⟩) hn.1
    · exact nodup_inj hn.2 a q b q' e
theorem sorted_uniq : ∀ {l l' : List Int}, l.Perm l' → l.Pairwise (· ≤ ·) → l'.Pairwise (· ≤ ·) → l = l' := fun p h h' => p.eq_of_pairwise (fun a b _ _ => Int.le_antisymm) h h'
end
section
open PySem PySem.W PySem.Calls PyProof.Rows PySem.Spec
set_option Elab.async false
set_option maxRecDepth 100000
set_option maxHeartbeats 400000
set_option linter.unusedVariables false
set_option linter.unusedSectionVars false

local macro_rules | `(tactic| walk_at "isB") => `(tactic| first | (with_reducible exact b_enum) | (with_reducible exact b_range) | (with_reducible exact b_listT) | (with_reducible exact b_tupleT) | (with_reducible exact b_setT) | (with_reducible exact b_sorted) | (with_reducible exact b_len))
local macro_rules | `(tactic| walk_at "isG") => `(tactic| first | (with_reducible exact g_draw) | (with_reducible exact g_solver) | (with_reducible exact g_ways) | (with_reducible exact g_problem) | (with_reducible exact g_fc))
local macro_rules | `(tactic| walk_at "isD") => `(tactic| fail)
local macro_rules | `(tactic| walk_at "isF") => `(tactic| first | (with_reducible exact fn_draw _) | (with_reducible exact fn_solver _) | (with_reducible exact fn_ways _) | (with_reducible exact fn_avs _) | (with_reducible exact fn_ac _) | (with_reducible exact fn_ps _))
local macro_rules | `(tactic| walk_at "isC") => `(tactic| first | (with_reducible exact cg_pr) | (with_reducible exact cga_pr) | (with_reducible exact hf_avs) | (with_reducible exact hf_ac) | (with_reducible exact hf_ps))
abbrev solB : List Stmt := forBody (nth (tbdy 15) 9)
section
variable {prog : Program} {w : World} {A : Around} {s : Shared} {E : Value → Shared → Prop} {g : Heap} {R : Side} {L : Addr} {RR : Result → Shared → Prop} {fa c1 c2 c3 : Addr} {sc : Value}
set_option maxHeartbeats 4000000 in
/-- a solution is looked at: its keys, its values -/
theorem lawC3 {sv : Vars} {l : Led Int} {Q : Flow → Shared → Prop} {fd pl : Addr} {pvs : List Value} {opl : Obj} {kvs : List (Int × Value)} {c : Nat} {es : List (Int × Int)} (hr : Room A 40) (B : Bs w g) (hsv : Rm "given" sv sv) (hpl : (("places" : Str), Value.ref pl) ∈ sv)
    (hpv : IntsAre pvs keys4) (hok : SolOk c es kvs) (hkp : (Kd.lst pvs).holds (intKind prog w) opl)
    (H : St (intKind prog w) g R L sv ((fd, .dct kvs) :: (c3, .cell (some (.ref fd))) :: (pl, .raw opl) :: l) s)
    (h : ∀ gi gvs s', IntsAre gvs (gv kvs) → St (intKind prog w) g R L (("given", .ref gi) :: sv) ((gi, .tup gvs) :: (fd, .dct kvs) :: (c3, .cell (some (.ref fd))) :: (pl, .raw opl) :: l) s' → wpAny (model prog w) A (execs (solB.drop 2) (envL L fa c1 c2 c3)) Q E s') :
    wpAny (model prog w) A (execs solB (envL L fa c1 c2 c3)) Q E s := by
  have kt := kt_law
  have hkz : kvs.length = 4 := by have := hok.p.length_eq; rw [List.length_map] at this; exact this
  refine xs_cons (st := _) (rest := _) ?_
  walk_at "go"
  refine cSortedD (fun k v h => Value.isInt_shape h) H hr.handled (H.notMod (.head _)) (H.has (.head _)) (by omega) fun d ys ms s2 hys hp hs H2 => ?_
  obtain rfl : ms = keys4 := sorted_uniq (hp.trans hok.p) hs (by decide)
  walk_at "go"
  refine neLst (H2.has (.head _)) hys (Has.ofRaw hkp (H2.has (.tail _ (.tail _ (.tail _ (.head _)))))) hpv (hr.less (by decide)) ?_
  rw [decide_eq_true rfl]
  walk_at "go"
  refine ifF rfl (wpAny_execs_nil (nx ?_))
  have H3 : St (intKind prog w) g R L sv ((fd, .dct kvs) :: (c3, .cell (some (.ref fd))) :: (pl, .raw opl) :: l) s2 := H2.sub (fun _ h => h) (.cons _ (.refl _))
  clear H H2 hys hp hs
  refine xs_cons (st := _) (rest := _) ?_
  walk_at "go"
  obtain ⟨xs, hxs, hxe⟩ := hok.gvAt
  have hxl : xs.length = 4 := by rw [hxe]; rfl
  refine start_lst H3 hr.handled (H3.has (.tail _ (.tail _ (.head _)))).rawE hkp ?_
  intro I s4 W H4
  have hpl4 : pvs.length = 4 := IntsAre.length hpv
  refine' comp_expr (X := Nat) (fun j => xs.take j) (fun _ => []) (fun j x => x = j) 0 W ?hcell ?hkind H4 ?hsrc ?h0 rfl rfl ?hfit ?turn ?fin
  case hcell => decide +kernel
  case hkind => rfl
  case hsrc => intro i x C' D vq g₂ s' _ hk hS; exact (hS.has (k := .raw opl) (.tail _ (.tail _ (.tail _ (.tail _ (.head _)))))).rawE
  case h0 => rfl
  case hfit => rintro i x rfl; rw [List.length_take]; omega
  case turn =>
    rintro i x v new C' D g₂ s' E2 hi rfl ⟨hv, rfl⟩ hg2 H5
    obtain ⟨k, hk, hkey⟩ := intsAre_get (prog := prog) (w := w) hpv hv
    obtain ⟨iv, tv, hval, _⟩ := hok.v k (List.mem_of_getElem? hk)
    have hxv : xs[x]? = some (.int iv tv) := by rw [hxe, List.getElem?_map, hk]; show some ((valueAt kvs k).getD .none) = _; rw [hval]; rfl
    replace H5 := show St (intKind prog w) g₂ (sideOf s4) C' [] ((I, seqIt "list_iterator" pl (x + 1)) :: (D, .lst (xs.take x)) :: (fd, .dct kvs) :: (c3, .cell (some (.ref fd))) :: (pl, .raw opl) :: l) s' from H5
    refine' withEv (tbl := [("place", .local), ("found", .cell)]) ?ev (fun ev => ?_)
    case ev => exact Ev.compK kt ⟨by decide +kernel, by decide +kernel⟩
    walk_at "go"
    refine ⟨x + 1, _, _, ⟨rfl, ?_⟩, List.Sublist.refl _, by assumption⟩
    rw [List.take_add_one, hxv]; rfl
  case fin =>
    rintro x D s' rfl H5
    rw [List.take_of_length_le (by omega)] at H5
    walk_at "go"
    refine cTupLst (xs := xs) H5 (H5.has (.head _)) (by omega) fun gi s6 H6 => ?_
    walk_at "goS"
    rename_i s7 H7
    refine nx ?_
    exact h gi xs s7 hxs (H7.sub (fun _ h => h) (.cons_cons _ (.cons _ (.refl _))))
set_option maxHeartbeats 4000000 in
/-- a solution is looked at: not told, its colours -/
theorem lawC4 {sv : Vars} {l : Led Int} {Q : Flow → Shared → Prop} {td gi co : Addr} {gvs cv : List Value} {hs gs : List Int} {c : Nat} (hr : Room A 40) (B : Bs w g) (htd : (("told" : Str), Value.ref td) ∈ sv)
    (hgv : IntsAre gvs gs) (hgz : gs.length < 1000) (hcv : IntsAre cv (rng c)) (hin : ∀ v ∈ gs, v ∈ rng c) (hn : tupHash gs ∉ hs)
    (H : St (intKind prog w) g R L (("given", .ref gi) :: sv) ((gi, .tup gvs) :: (td, setK hs) :: (c2, .cell (some (.ref co))) :: (co, .lst cv) :: l) s)
    (h : ∀ s', St (intKind prog w) g R L (("given", .ref gi) :: sv) ((gi, .tup gvs) :: (td, setK hs) :: (c2, .cell (some (.ref co))) :: (co, .lst cv) :: l) s' → wpAny (model prog w) A (execs (solB.drop 3) (envL L fa c1 c2 c3)) Q E s') :
    wpAny (model prog w) A (execs (solB.drop 2) (envL L fa c1 c2 c3)) Q E s := by
  have kt := kt_law
  have hgl : gvs.length = gs.length := IntsAre.length hgv
  refine xs_cons (st := _) (rest := _) ?_
  obtain ⟨og, hog, hkg, fx⟩ := H.fix (.head _)
  have H1 := fx _ .head
  clear fx H
  walk_at "go"
  refine inTold H1 (hr.less (by decide)) (H1.has (.tail _ (.head _))) (tupKey (Has.ofRaw hkg (H1.has (.head _))) hgv) hn fun s2 H2 => ?_
  walk_at "go"
  refine start_tup H2 hr.handled (H2.has (.head _)).rawE hkg ?_
  intro I s3 W H3
  refine' comp_expr (X := Unit) (fun _ => []) (fun _ => []) (fun _ _ => True) () W ?hcell ?hkind H3 ?hsrc ?h0 rfl rfl ?hfit ?turn ?fin
  case hcell => decide +kernel
  case hkind => rfl
  case hsrc => intro i x C' D vq g₂ s' _ hk hS; exact (hS.has (k := .raw og) (.tail _ (.tail _ (.head _)))).rawE
  case h0 => trivial
  case hfit => intro i x _; exact (by decide : 0 < 100000)
  case turn =>
    rintro i x v new C' D g₂ s' E2 hi _ ⟨hv, rfl⟩ hg2 H5
    obtain ⟨k, hk, hkey⟩ := intsAre_get (prog := prog) (w := w) hgv hv
    obtain ⟨tk, rfl⟩ := Value.isInt_shape hkey
    replace H5 := show St (intKind prog w) g₂ (sideOf s3) C' [] ((I, seqIt "tuple_iterator" gi (i + 1)) :: (D, .lst []) :: (gi, .raw og) :: (td, setK hs) :: (c2, .cell (some (.ref co))) :: (co, .lst cv) :: l) s' from H5
    refine' withEv (tbl := [("colour", .local), ("colours", .cell)]) ?ev (fun ev => ?_)
    case ev => exact Ev.compK kt ⟨by decide +kernel, by decide +kernel⟩
    walk_at "go"
    rename_i s6 H6
    refine notInI (H6.has (.tail _ (.tail _ (.tail _ (.tail _ (.tail _ (.head _))))))) hcv (hr.less (by decide)) ?_
    rw [decide_eq_true (hin k (List.mem_of_getElem? hk))]
    walk_at "go"
    refine ifF rfl ?_
    exact ⟨(), _, _, ⟨trivial, rfl⟩, List.Sublist.refl _, H6⟩
  case fin =>
    rintro x D s' _ H5
    replace H5 := show St (intKind prog w) g R L (("given", .ref gi) :: sv) ((D, .lst []) :: (gi, .raw og) :: (td, setK hs) :: (c2, .cell (some (.ref co))) :: (co, .lst cv) :: l) s' from H5
    have hz0 : ([] : List Value).length < 1000 := by decide
    walk_at "goS"
    rename_i s6 H6
    refine ifF rfl ?_
    walk_at "goS"
    refine nx ?_
    exact h s6 ((H6.unfix hkg (.tail .head)).sub (fun _ h => h) (.cons _ (.refl _)))
set_option maxHeartbeats 4000000 in
/-- a solution is looked at: its edges; it is told -/
theorem lawC5 {sv : Vars} {l : Led Int} {Q : Flow → Shared → Prop} {td gi ed fd : Addr} {gvs : List Value} {hs gs : List Int} {es : ME Int} {oe : Obj} {kvs : List (Int × Value)} {c : Nat} (hr : Room A 40) (B : Bs w g) (htd : (("told" : Str), Value.ref td) ∈ sv) (hed : (("edges" : Str), Value.ref ed) ∈ sv)
    (hgv : IntsAre gvs gs) (hn : tupHash gs ∉ hs) (hhz : hs.length < 200) (hok : SolOk c (es.map (·.2.1)) kvs) (hke : (Kd.lst (mref es)).holds (intKind prog w) oe) (hml : ∀ q ∈ (ML es : Led Int), q ∈ l)
    (H : St (intKind prog w) g R L (("given", .ref gi) :: sv) ((gi, .tup gvs) :: (td, setK hs) :: (fd, .dct kvs) :: (c3, .cell (some (.ref fd))) :: (ed, .raw oe) :: l) s)
    (h : ∀ s', St (intKind prog w) g R L (("given", .ref gi) :: sv) ((gi, .tup gvs) :: (td, setK (tupHash gs :: hs)) :: (fd, .dct kvs) :: (c3, .cell (some (.ref fd))) :: (ed, .raw oe) :: l) s' → Q .next s') :
    wpAny (model prog w) A (execs (solB.drop 3) (envL L fa c1 c2 c3)) Q E s := by
  have kt := kt_law
  refine xs_cons (st := _) (rest := _) ?_
  walk_at "go"
  refine start_lst H hr.handled (H.has (.tail _ (.tail _ (.tail _ (.tail _ (.head _)))))).rawE hke ?_
  intro I s3 W H3
  have hmz : (mref es).length = es.length := List.length_map ..
  refine' comp_expr (X := Unit) (fun _ => []) (fun _ => []) (fun _ _ => True) () W ?hcell ?hkind H3 ?hsrc ?h0 rfl rfl ?hfit ?turn ?fin
  case hcell => decide +kernel
  case hkind => rfl
  case hsrc => intro i x C' D vq g₂ s' _ hk hS; exact (hS.has (k := .raw oe) (.tail _ (.tail _ (.tail _ (.tail _ (.tail _ (.tail _ (.head _)))))))).rawE
  case h0 => trivial
  case hfit => intro i x _; exact (by decide : 0 < 100000)
  case turn =>
    rintro i x v new C' D g₂ s' E2 hi _ ⟨hv, rfl⟩ hg2 H5
    have hi2 : i < es.length := by rw [← hmz]; exact hi
    have hve : v = .ref es[i].1 := by
      unfold mref at hv
      rw [List.getElem?_map, List.getElem?_eq_getElem hi2] at hv
      exact (Option.some.inj hv).symm
    have hmem : es[i] ∈ es := List.getElem_mem hi2
    generalize es[i] = q at *
    subst hve
    obtain ⟨ea, ⟨ex, ey⟩, tx, ty⟩ := q
    obtain ⟨hx1, hy1, hne⟩ := hok.e (ex, ey) (List.mem_map.mpr ⟨_, hmem, rfl⟩)
    obtain ⟨ix, ux, hvx, _⟩ := hok.v ex hx1
    obtain ⟨iy, uy, hvy, _⟩ := hok.v ey hy1
    have hxy : ix ≠ iy := by unfold valK at hne; dsimp only at hne; rw [hvx, hvy] at hne; exact hne
    have hkx : (intKind prog w).is ex (.int ex tx) = true := by simp [intKind, Value.isInt]
    have hky : (intKind prog w).is ey (.int ey ty) = true := by simp [intKind, Value.isInt]
    replace H5 := show St (intKind prog w) g₂ (sideOf s3) C' [] ((I, seqIt "list_iterator" ed (i + 1)) :: (D, .lst []) :: (gi, .tup gvs) :: (td, setK hs) :: (fd, .dct kvs) :: (c3, .cell (some (.ref fd))) :: (ed, .raw oe) :: l) s' from H5
    have heM : (ea, Kd.lst [.int ex tx, .int ey ty]) ∈ l := hml _ (List.mem_map.mpr ⟨_, hmem, rfl⟩)
    refine' withEv (tbl := [("low", .local), ("high", .local), ("found", .cell)]) ?ev (fun ev => ?_)
    case ev => exact Ev.compK kt ⟨by decide +kernel, by decide +kernel⟩
    refine aList2 H5 (H5.has (.tail _ (.tail _ (.tail _ (.tail _ (.tail _ (.tail _ (.tail _ heM)))))))) hr.handled ?_
    intro s6 H6
    walk_at "go"
    rename_i s7 H7
    have e : (ix == iy) = false := by simpa using hxy
    refine ifF e ?_
    exact ⟨(), _, _, ⟨trivial, rfl⟩, List.Sublist.refl _, H7⟩
  case fin =>
    rintro x D s' _ H5
    replace H5 := show St (intKind prog w) g R L (("given", .ref gi) :: sv) ((D, .lst []) :: (gi, .tup gvs) :: (td, setK hs) :: (fd, .dct kvs) :: (c3, .cell (some (.ref fd))) :: (ed, .raw oe) :: l) s' from H5
    have hz0 : ([] : List Value).length < 1000 := by decide
    walk_at "goS"
    rename_i s6 H6
    refine ifF rfl (wpAny_execs_nil (nx ?_))
    refine xs_cons (st := _) (rest := _) ?_
    walk_at "goS"
    refine mSetAdd (H6.has (.tail _ (.tail _ (.head _)))) ?_
    walk_at "goS"
    refine uTold (l' := (D, .lst []) :: (gi, .tup gvs) :: (td, setK (tupHash gs :: hs)) :: (fd, .dct kvs) :: (c3, .cell (some (.ref fd))) :: (ed, .raw oe) :: l) H6 (hr.less (by decide)) (.tail (.tail .head)) (tupKey (H6.has (.tail _ (.head _))) hgv) hn hhz fun s8 H8 => ?_
    walk_at "goS"
    refine nx (wpAny_execs_nil ?_)
    exact h s8 (H8.sub (fun _ h => h) (.cons _ (.refl _)))
end
end
section
open PySem PySem.W PySem.Calls PyProof.Rows PySem.Spec
set_option Elab.async false
set_option maxRecDepth 100000
set_option maxHeartbeats 400000
set_option linter.unusedVariables false
set_option linter.unusedSectionVars false

local macro_rules | `(tactic| walk_at "isB") => `(tactic| first | (with_reducible exact b_enum) | (with_reducible exact b_range) | (with_reducible exact b_listT) | (with_reducible exact b_tupleT) | (with_reducible exact b_setT) | (with_reducible exact b_sorted) | (with_reducible exact b_len))
local macro_rules | `(tactic| walk_at "isG") => `(tactic| first | (with_reducible exact g_draw) | (with_reducible exact g_solver) | (with_reducible exact g_ways) | (with_reducible exact g_problem) | (with_reducible exact g_fc))
local macro_rules | `(tactic| walk_at "isD") => `(tactic| fail)
local macro_rules | `(tactic| walk_at "isF") => `(tactic| first | (with_reducible exact fn_draw _) | (with_reducible exact fn_solver _) | (with_reducible exact fn_ways _) | (with_reducible exact fn_avs _) | (with_reducible exact fn_ac _) | (with_reducible exact fn_ps _))
local macro_rules | `(tactic| walk_at "isC") => `(tactic| first | (with_reducible exact cg_pr) | (with_reducible exact cga_pr) | (with_reducible exact hf_avs) | (with_reducible exact hf_ac) | (with_reducible exact hf_ps))
abbrev forTgt : Stmt → Expr
  | .For t _ _ _ _ => t
  | _ => default
theorem count2 : ∀ es ∈ subl prsL, ∀ c ∈ [1, 2, 3], (solsOf keys4 (fun _ => rng c) (conE es) []).length < 200 := by decide +kernel
theorem prs_ok : ∀ e ∈ prsL, e.1 ∈ keys4 ∧ e.2 ∈ keys4 ∧ e.1 ≠ e.2 := by decide +kernel
section
variable {prog : Program} {w : World} {A : Around} {s : Shared} {E : Value → Shared → Prop} {g : Heap} {R : Side} {L : Addr} {RR : Result → Shared → Prop} {fa c1 c2 c3 : Addr} {sc : Value}
theorem nodup_take {α : Type} {l : List α} {i : Nat} {x : α} (hn : l.Nodup) (hx : l[i]? = some x) : x ∉ l.take i := fun hm => by
  have hd : x ∈ l.drop i := List.mem_of_getElem? (i := 0) (by rw [List.getElem?_drop, Nat.add_zero]; exact hx)
  rw [← List.take_append_drop i l] at hn
  exact (List.nodup_append.mp hn).2.2 x hm x hd rfl
def NL (new : Outs Int) : Led Int := new.map fun o => (o.1, Kd.dct o.2)
def hsAt (new : Outs Int) (i : Nat) : List Int := ((new.map fun o => tupHash (gv o.2)).take i).reverse
/-- what a solver tells, read off -/
theorem sols_ok {c : Nat} {es : List (Int × Int)} {new : Outs Int} (hes : es ∈ subl prsL) (hc : c ∈ [1, 2, 3]) (hp : (new.map fun o => tupOf keys4 o.2).Perm (solsOf keys4 (fun _ => rng c) (conE es) [])) (hf : ∀ o ∈ new, Full keys4 o.2) :
    (∀ o ∈ new, SolOk c es o.2) ∧ (new.map fun o => tupHash (gv o.2)).Nodup := by
  have hc3 : c ≤ 3 := by simp only [List.mem_cons, List.not_mem_nil, or_false] at hc; omega
  have hsub : ∀ e ∈ es, e ∈ prsL := by
    have : ∀ es ∈ subl prsL, ∀ e ∈ es, e ∈ prsL := by decide +kernel
    exact this es hes
  have hok : ∀ o ∈ new, SolOk c es o.2 := fun o ho => by
    obtain ⟨hpk, hints⟩ := hf o ho
    have hm : tupOf keys4 o.2 ∈ solsOf keys4 (fun _ => rng c) (conE es) [] := hp.mem_iff.mp (List.mem_map.mpr ⟨o, ho, rfl⟩)
    obtain ⟨ha, hg⟩ := List.mem_filter.mp hm
    have hlk : ∀ k ∈ keys4, look (tupOf keys4 o.2) k = valK o.2 k := fun k hk => look_map (valK o.2) hk
    refine ⟨hpk, fun k hk => ?_, fun e he => ?_⟩
    · have hs : (valueAt o.2 k).isSome = true := valueAt_some.mpr (hpk.mem_iff.mpr hk)
      cases q : valueAt o.2 k with
      | none => rw [q] at hs; cases hs
      | some v =>
        obtain ⟨i, t, e⟩ := hints _ (valueAt_mem q)
        dsimp only at e
        subst e
        refine ⟨i, t, rfl, ?_⟩
        have := allT_dom ha (by decide) k hk
        rw [hlk k hk] at this
        unfold valK at this
        rw [q] at this
        exact this
    · obtain ⟨h1, h2, _⟩ := prs_ok e (hsub e he)
      refine ⟨h1, h2, ?_⟩
      simp only [Bool.and_eq_true] at hg
      have := List.all_eq_true.mp hg.2 ([e.1, e.2], ne2) (List.mem_map.mpr ⟨e, he, rfl⟩)
      have e3 : ne2 [look (tupOf keys4 o.2) e.1, look (tupOf keys4 o.2) e.2] = true := this
      rw [hlk _ h1, hlk _ h2] at e3
      simpa [ne2] using e3
  refine ⟨hok, ?_⟩
  have n1 : (new.map fun o => tupOf keys4 o.2).Nodup := hp.nodup_iff.mpr (sols_nodup fun _ => nodup_map (fun a b e => by exact Int.ofNat.inj e) List.nodup_range)
  have key : ∀ l : Outs Int, (∀ o ∈ l, SolOk c es o.2) → (l.map fun o => tupOf keys4 o.2).Nodup → (l.map fun o => tupHash (gv o.2)).Nodup := by
    intro l
    induction l with
    | nil => intro _ _; exact List.nodup_nil
    | cons o l ih =>
      intro h1 h2
      rw [List.map_cons, List.nodup_cons] at h2 ⊢
      refine ⟨fun hm => h2.1 ?_, ih (fun o ho => h1 o (.tail _ ho)) h2.2⟩
      obtain ⟨o', ho', e⟩ := List.mem_map.mp hm
      have e2 := nodup_inj hash_nd _ ((h1 o' (.tail _ ho')).inAll hc3) _ ((h1 o (.head _)).inAll hc3) e
      have e3 : ∀ kvs : List (Int × Value), tupOf keys4 kvs = keys4.zip (gv kvs) := fun kvs => rfl
      refine List.mem_map.mpr ⟨o', ho', ?_⟩
      rw [e3, e3, e2]
  exact key new hok n1
set_option maxHeartbeats 4000000 in
/-- the solutions are looked at -/
theorem lawC6 {sv : Vars} {l : Led Int} {Q : Flow → Shared → Prop} {td S pl ed co : Addr} {pvs cv : List Value} {c : Nat} {es : ME Int} {new : Outs Int} (hr : Room A 40) (B : Bs w g) (hsv : Rm "given" sv sv) (hpl : (("places" : Str), Value.ref pl) ∈ sv) (htd : (("told" : Str), Value.ref td) ∈ sv) (hed : (("edges" : Str), Value.ref ed) ∈ sv)
    (hpv : IntsAre pvs keys4) (hcv : IntsAre cv (rng c)) (hok : ∀ o ∈ new, SolOk c (es.map (·.2.1)) o.2) (hnd : (new.map fun o => tupHash (gv o.2)).Nodup) (hnz : new.length < 200) (hml : ∀ q ∈ (ML es : Led Int), q ∈ l)
    (H : St (intKind prog w) g R L sv ((td, setK []) :: (S, .lst (new.map fun o => .ref o.1)) :: (c3, .cell none) :: (pl, .lst pvs) :: (ed, .lst (mref es)) :: (c2, .cell (some (.ref co))) :: (co, .lst cv) :: (NL new ++ l)) s)
    (h : ∀ v s', St (intKind prog w) g R L sv ((td, setK (hsAt new new.length)) :: (c3, .cell v) :: (ed, .lst (mref es)) :: (c2, .cell (some (.ref co))) :: (co, .lst cv) :: l) s' → Q .next s') :
    wpAny (model prog w) A (pyIter (.ref S)) (fun it s₂ => codeAny (model prog w) A (.forLoop (forTgt (nth (tbdy 15) 9)) it (forBody (nth (tbdy 15) 9)) [] (envL L fa c1 c2 c3)) (fun r s' => match r with | .ok f => Q f s' | .error e => cameBackBy (model prog w) A (envL L fa c1 c2 c3) E e s') s₂) E s := by
  have kt := kt_law
  obtain ⟨opl, hopl, hkp, fx1⟩ := H.fix (.tail _ (.tail _ (.tail _ (.head _))))
  have H1 := fx1 _ (.tail (.tail (.tail .head)))
  obtain ⟨oe, hoe, hke, fx2⟩ := H1.fix (.tail _ (.tail _ (.tail _ (.tail _ (.head _)))))
  have H2 := fx2 _ (.tail (.tail (.tail (.tail .head))))
  obtain ⟨oS, hoS, hkS, fx3⟩ := H2.fix (.tail _ (.head _))
  have H3 := fx3 _ (.tail .head)
  clear fx1 fx2 fx3 H H1 H2
  have hnl : (new.map fun o => Value.ref o.1).length = new.length := List.length_map ..
  refine start_lst H3 hr.handled hoS hkS ?_
  intro I s4 W H4
  refine' for_st (g := g) (R := R) (L := L) (X := List Int × Option Value) (fun _ => sv)
    (fun x => (td, setK x.1) :: (S, .raw oS) :: (c3, .cell x.2) :: (pl, .raw opl) :: (ed, .raw oe) :: (c2, .cell (some (.ref co))) :: (co, .lst cv) :: (NL new ++ l))
    (fun i x => x.1 = hsAt new i) ([], none) W ?src rfl H4 ?turn ?done
  case src => intro i x s' _ hS; exact (hS.has (k := .raw oS) (.tail _ (.tail _ (.head _)))).rawE
  case turn =>
    rintro i ⟨hs, cvv⟩ v nw s' E' hi hJ ⟨hv, rfl⟩ H5
    dsimp only at hJ
    have hi2 : i < new.length := by rw [← hnl]; exact hi
    have hve : v = .ref new[i].1 := by
      rw [List.getElem?_map, List.getElem?_eq_getElem hi2] at hv
      exact (Option.some.inj hv).symm
    have hmem : new[i] ∈ new := List.getElem_mem hi2
    have hth : (new.map fun o => tupHash (gv o.2))[i]? = some (tupHash (gv new[i].2)) := by rw [List.getElem?_map, List.getElem?_eq_getElem hi2]; rfl
    have hok1 := hok _ hmem
    have hnot : tupHash (gv new[i].2) ∉ hs := fun hm => by
      rw [hJ] at hm
      exact nodup_take hnd hth (List.mem_reverse.mp hm)
    have hstep : hsAt new (i + 1) = tupHash (gv new[i].2) :: hs := by
      rw [hJ]
      unfold hsAt
      rw [List.take_add_one, hth, List.reverse_append]; rfl
    have hhz : hs.length < 200 := by rw [hJ]; unfold hsAt; rw [List.length_reverse, List.length_take]; omega
    generalize new[i] = o at *
    obtain ⟨fd, kvs⟩ := o
    dsimp only at hok1 hnot hstep hve
    subst hve
    obtain ⟨pre, post, hnew⟩ := List.append_of_mem hmem
    have hNL : NL new = NL pre ++ (fd, .dct kvs) :: NL post := by rw [hnew]; unfold NL; rw [List.map_append, List.map_cons]
    rw [hNL] at H5 ⊢
    replace H5 := show St (intKind prog w) g R L sv ((I, seqIt "list_iterator" S (i + 1)) :: (td, setK hs) :: (S, .raw oS) :: (c3, .cell cvv) :: (pl, .raw opl) :: (ed, .raw oe) :: (c2, .cell (some (.ref co))) :: (co, .lst cv) :: ((NL pre ++ (fd, .dct kvs) :: NL post) ++ l)) s' from H5
    refine wpAny_assign_Name ?_
    walk_at "st"
    rename_i s6 H6
    have H7 := H6.perm (l' := (fd, .dct kvs) :: (c3, .cell (some (.ref fd))) :: (pl, .raw opl) :: ((I, seqIt "list_iterator" S (i + 1)) :: (td, setK hs) :: (S, .raw oS) :: (ed, .raw oe) :: (c2, .cell (some (.ref co))) :: (co, .lst cv) :: ((NL pre ++ NL post) ++ l))) (by walk_at "pc")
    refine lawC3 hr B hsv hpl hpv hok1 hkp H7 fun gi gvs s8 hgv H8 => ?_
    have H9 := H8.perm (l' := (gi, .tup gvs) :: (td, setK hs) :: (c2, .cell (some (.ref co))) :: (co, .lst cv) :: ((fd, .dct kvs) :: (c3, .cell (some (.ref fd))) :: (pl, .raw opl) :: (I, seqIt "list_iterator" S (i + 1)) :: (S, .raw oS) :: (ed, .raw oe) :: ((NL pre ++ NL post) ++ l))) (by walk_at "pc")
    refine lawC4 hr B htd hgv (by unfold gv; rw [List.length_map]; decide) hcv hok1.gvIn hnot H9 fun s10 H10 => ?_
    have H11 := H10.perm (l' := (gi, .tup gvs) :: (td, setK hs) :: (fd, .dct kvs) :: (c3, .cell (some (.ref fd))) :: (ed, .raw oe) :: ((c2, .cell (some (.ref co))) :: (co, .lst cv) :: (pl, .raw opl) :: (I, seqIt "list_iterator" S (i + 1)) :: (S, .raw oS) :: ((NL pre ++ NL post) ++ l))) (by walk_at "pc")
    refine lawC5 hr B htd hed hgv hnot hhz hok1 hke (fun q hq => .tail _ (.tail _ (.tail _ (.tail _ (.tail _ (List.mem_append_right _ (hml q hq))))))) H11 fun s12 H12 => ?_
    refine for_next ⟨(tupHash (gv kvs) :: hs, some (.ref fd)), hstep.symm, ?_⟩
    have H13 := H12.perm (l' := (gi, .tup gvs) :: ((I, seqIt "list_iterator" S (i + 1)) :: (td, setK (tupHash (gv kvs) :: hs)) :: (S, .raw oS) :: (c3, .cell (some (.ref fd))) :: (pl, .raw opl) :: (ed, .raw oe) :: (c2, .cell (some (.ref co))) :: (co, .lst cv) :: ((NL pre ++ (fd, .dct kvs) :: NL post) ++ l))) (by walk_at "pc")
    exact H13.sub (fun p hp => .tail _ hp) (.cons _ (.refl _))
  case done =>
    rintro ⟨hs, cvv⟩ s' E' hJ H5
    dsimp only at hJ H5
    rw [hnl] at hJ
    subst hJ
    refine wpAny_execs_nil ?_
    refine h cvv s' ((H5.unfix hke (.tail (.tail (.tail (.tail .head))))).sub (fun _ h => h) ?_)
    exact .cons_cons _ (.cons _ (.cons_cons _ (.cons _ (.cons_cons _ (.cons_cons _ (.cons_cons _ (List.sublist_append_right _ _)))))))
end
end
section
open PySem PySem.W PySem.Calls PyProof.Rows PySem.Spec
set_option Elab.async false
set_option maxRecDepth 100000
set_option maxHeartbeats 400000
set_option linter.unusedVariables false
set_option linter.unusedSectionVars false

local macro_rules | `(tactic| walk_at "isB") => `(tactic| first | (with_reducible exact b_enum) | (with_reducible exact b_range) | (with_reducible exact b_listT) | (with_reducible exact b_tupleT) | (with_reducible exact b_setT) | (with_reducible exact b_sorted) | (with_reducible exact b_len))
local macro_rules | `(tactic| walk_at "isG") => `(tactic| first | (with_reducible exact g_draw) | (with_reducible exact g_solver) | (with_reducible exact g_ways) | (with_reducible exact g_problem) | (with_reducible exact g_fc))
local macro_rules | `(tactic| walk_at "isD") => `(tactic| fail)
local macro_rules | `(tactic| walk_at "isF") => `(tactic| first | (with_reducible exact fn_draw _) | (with_reducible exact fn_solver _) | (with_reducible exact fn_ways _) | (with_reducible exact fn_avs _) | (with_reducible exact fn_ac _) | (with_reducible exact fn_ps _))
local macro_rules | `(tactic| walk_at "isC") => `(tactic| first | (with_reducible exact cg_pr) | (with_reducible exact cga_pr) | (with_reducible exact hf_avs) | (with_reducible exact hf_ac) | (with_reducible exact hf_ps))
section
variable {prog : Program} {w : World} {A : Around} {s : Shared} {E : Value → Shared → Prop} {g : Heap} {R : Side} {L : Addr} {RR : Result → Shared → Prop} {fa c1 c2 c3 : Addr} {sc : Value}
def toC (q : Itm) : CData Int := ⟨q.c, q.cx, q.f, q.va, q.t, q.vals, [q.e.1, q.e.2], ne2⟩
abbrev layL (f : DF Int) : Lay Int := { keys := keys4, da := 0, vc := 0, dA := fun k => (f k).1, dxA := fun k => (f k).2.1, hlA := fun k => (f k).2.2.1, slA := fun k => (f k).2.2.2, vA := fun _ => 0, vcons := fun _ => [] }
def DX (f : DF Int) (ks : List Int) : Led Int := ks.map fun k => ((f k).2.1, .att (domAtt (f k).2.2.1 (f k).2.2.2))
theorem DM_split (f : DF Int) (cv : List Value) : (DM f cv keys4).Perm (DL (layL f) (fun _ => ⟨cv, [], []⟩) keys4 ++ DX f keys4) := by
  unfold DM DL DX keys4
  simp only [List.flatMap_cons, List.flatMap_nil, List.map_cons, List.map_nil, List.append_nil, List.cons_append, List.nil_append]
  walk_at "pc"
theorem toC_ok {h : Heap} {q : Itm} {cs : List Addr} (B : Bs w h) (hi : ∀ p ∈ (IL1 q : Led Int), Has (intKind prog w) h p.1 p.2) (hc : Has (intKind prog w) h q.cc (codeK qualL)) (he : q.e ∈ prsL) :
    Has (intKind prog w) h (toC q).t (.tup [.ref (toC q).c, .ref (toC q).va]) ∧ ItemOk (intKind prog w) h keys4 (toC q) ∧ FnOk (intKind prog w) h (toC q).f (toC q).ks.length (toC q).P := by
  obtain ⟨h1, h2, h3⟩ := prs_ok _ he
  refine ⟨hi _ (.head _), ⟨hi _ (.tail _ (.head _)), hi _ (.tail _ (.tail _ (.head _))), ?_, ⟨rfl, ?_⟩, (by decide : 2 < 100), (by decide : 2 ≠ 1), (by intro e; cases e), ?_, ?_⟩, ?_⟩
  · have hv := hi (q.va, seqK q.b q.vals) (.tail _ (.tail _ (.tail _ (.head _))))
    show VarsAt _ _ q.va q.vals
    cases hb : q.b with
    | true => rw [hb] at hv; exact .inl hv
    | false => rw [hb] at hv; exact .inr hv
  · intro i v k hv hk
    match i, hv, hk with
    | 0, hv, hk => cases hv; cases hk; simp [intKind, Value.isInt]
    | 1, hv, hk => cases hv; cases hk; simp [intKind, Value.isInt]
    | i + 2, hv, hk => cases hv
  · show [q.e.1, q.e.2].Nodup
    simp [h3]
  · intro x hx
    have hx' : x ∈ [q.e.1, q.e.2] := hx
    simp only [List.mem_cons, List.not_mem_nil, or_false] at hx'
    rcases hx' with rfl | rfl
    · exact h1
    · exact h2
  · obtain ⟨o, ho, p1, p2, q1, q2, q3, pm, ct, rfl⟩ := hi (q.f, lamK q.cc) (.tail _ (.tail _ (.tail _ (.tail _ (.head _)))))
    exact lam_ok (p1 := p1) (p2 := p2) (q1 := q1) (q2 := q2) (q3 := q3) (pm := pm) (ct := ct) B ⟨_, ho, rfl⟩ hc
set_option maxHeartbeats 4000000 in
/-- told, the solutions -/
theorem lawC {sv : Vars} {l : Led Int} {cl ed pr px pl co vd sf sx : Addr} {pvs cv : List Value} {c : Nat} {its : List Itm} {cs : List Addr} {es prs : ME Int} {C₀ : Addr} {fb : Bool} {f : DF Int} (hr : Room A 170) (B : Bs w g)
    (hsv : Rm "told" sv sv ∧ Rm "given" sv sv) (hpl : (("places" : Str), Value.ref pl) ∈ sv) (hed : (("edges" : Str), Value.ref ed) ∈ sv) (hpr : (("problem" : Str), Value.ref pr) ∈ sv)
    (hpv : IntsAre pvs keys4) (hcv : IntsAre cv (rng c)) (hc : c ∈ [1, 2, 3]) (hits : its.map Itm.e = es.map (·.2.1)) (hcs : ∀ q ∈ its, q.cc ∈ cs) (hes : es.map (·.2.1) ∈ subl prsL) (hep : es.Sublist prs) (hC₀ : C₀ = 186 ∨ C₀ = 225)
    (H : St (intKind prog w) g R L sv (Tb 398 qualL cs ++ ((cl, .lst (its.map fun q => .ref q.t)) :: (ed, .lst (mref es)) :: (pr, .raw (instObj 110 px)) :: (px, .att [("_solver", .ref sf), ("_constraints", .ref cl), ("_variables", .ref vd)]) :: (IL its ++ (ML prs ++ ((c3, .cell none) :: (pl, .lst pvs) :: (c2, .cell (some (.ref co))) :: (co, .lst cv) :: (vd, .dct (keys4.map fun k => (k, Value.ref (f k).1))) :: (sf, .raw (instObj C₀ sx)) :: (sx, .att [("_forwardcheck", .bool fb)]) :: (DM f cv keys4 ++ l)))))) s)
    (h : ∀ td hs v R' l' s', hs.length = (solsOf keys4 (fun _ => rng c) (conE (es.map (·.2.1))) []).length → R'.os = R.os → (AllBare s.gens → AllBare s'.gens) → (∀ q ∈ (ML es : Led Int), q ∈ l') → St (intKind prog w) g R' L (("told", .ref td) :: sv) ((td, setK hs) :: (c3, .cell v) :: (ed, .lst (mref es)) :: (c2, .cell (some (.ref co))) :: (co, .lst cv) :: (Tb 398 qualL cs ++ l')) s' → wpAny (model prog w) A (execs ((tbdy 15).drop 10) (envL L fa c1 c2 c3)) (FnQ RR) E s') :
    wpAny (model prog w) A (execs ((tbdy 15).drop 8) (envL L fa c1 c2 c3)) (FnQ RR) E s := by
  have kt := kt_law
  obtain ⟨hsv1, hsv2⟩ := hsv
  refine xs_cons (st := _) (rest := _) ?_
  walk_at "goS"
  refine callBi0 ⟨"set", .inr rfl⟩ ?_
  refine cSet H fun td s1 H1 => ?_
  walk_at "goS"
  rename_i s2 H2
  have hg2 : s2.gens = s.gens := H2.gens.trans H.gens.symm
  clear H H1
  refine nx ?_
  refine xs_cons (st := _) (rest := _) ?_
  walk_at "goS"
  have hcz : cv.length = c := by have := IntsAre.length hcv; unfold rng at this; rw [List.length_map, List.length_range] at this; exact this
  have hc13 : 1 ≤ c ∧ c ≤ 3 := by simp only [List.mem_cons, List.not_mem_nil, or_false] at hc; omega
  have hez : es.length ≤ 6 := by
    have : ∀ es ∈ subl prsL, es.length ≤ 6 := by decide +kernel
    have := this _ hes
    rwa [List.length_map] at this
  have hiz : its.length = es.length := by have := congrArg List.length hits; rwa [List.length_map, List.length_map] at this
  have pm0 : ((td, setK []) :: (Tb 398 qualL cs ++ ((cl, .lst (its.map fun q => .ref q.t)) :: (ed, .lst (mref es)) :: (pr, .raw (instObj 110 px)) :: (px, .att [("_solver", .ref sf), ("_constraints", .ref cl), ("_variables", .ref vd)]) :: (IL its ++ (ML prs ++ ((c3, .cell none) :: (pl, .lst pvs) :: (c2, .cell (some (.ref co))) :: (co, .lst cv) :: (vd, .dct (keys4.map fun k => (k, Value.ref (f k).1))) :: (sf, .raw (instObj C₀ sx)) :: (sx, .att [("_forwardcheck", .bool fb)]) :: (DM f cv keys4 ++ l)))))) : Led Int).Perm
      (DL (layL f) (fun _ => ⟨cv, [], []⟩) keys4 ++ ((td, setK []) :: (c3, .cell none) :: (pl, .lst pvs) :: (ed, .lst (mref es)) :: (c2, .cell (some (.ref co))) :: (co, .lst cv) :: (pr, .raw (instObj 110 px)) :: (px, .att [("_solver", .ref sf), ("_constraints", .ref cl), ("_variables", .ref vd)]) :: (vd, .dct (keys4.map fun k => (k, Value.ref (f k).1))) :: (cl, .lst (its.map fun q => .ref q.t)) :: (sf, .raw (instObj C₀ sx)) :: (sx, .att [("_forwardcheck", .bool fb)]) :: (DX f keys4 ++ (IL its ++ (Tb 398 qualL cs ++ (ML prs ++ l)))))) := by
    have hDM := DM_split f cv
    generalize DM f cv keys4 = dm at hDM ⊢
    generalize DL (layL f) (fun _ => ⟨cv, [], []⟩) keys4 = dl at hDM ⊢
    generalize DX f keys4 = dx at hDM ⊢
    refine List.Perm.trans (l₂ := dm ++ ((td, setK []) :: (Tb 398 qualL cs ++ ((cl, .lst (its.map fun q => .ref q.t)) :: (ed, .lst (mref es)) :: (pr, .raw (instObj 110 px)) :: (px, .att [("_solver", .ref sf), ("_constraints", .ref cl), ("_variables", .ref vd)]) :: (IL its ++ (ML prs ++ ((c3, .cell none) :: (pl, .lst pvs) :: (c2, .cell (some (.ref co))) :: (co, .lst cv) :: (vd, .dct (keys4.map fun k => (k, Value.ref (f k).1))) :: (sf, .raw (instObj C₀ sx)) :: (sx, .att [("_forwardcheck", .bool fb)]) :: l))))))) (by walk_at "pc") ((List.Perm.append_right _ hDM).trans ?_)
    walk_at "pc"
  have X := H2.atAll B pm0
  generalize hrest : ((td, setK []) :: (c3, .cell none) :: (pl, .lst pvs) :: (ed, .lst (mref es)) :: (c2, .cell (some (.ref co))) :: (co, .lst cv) :: (pr, .raw (instObj 110 px)) :: (px, .att [("_solver", .ref sf), ("_constraints", .ref cl), ("_variables", .ref vd)]) :: (vd, .dct (keys4.map fun k => (k, Value.ref (f k).1))) :: (cl, .lst (its.map fun q => .ref q.t)) :: (sf, .raw (instObj C₀ sx)) :: (sx, .att [("_forwardcheck", .bool fb)]) :: (DX f keys4 ++ (IL its ++ (Tb 398 qualL cs ++ (ML prs ++ l)))) : Led Int) = rest at pm0 X
  have hitem : ∀ C ∈ its.map toC, Has (intKind prog w) (hideAll s2.heap ((DL (layL f) (fun _ => ⟨cv, [], []⟩) keys4).map (·.1))) C.t (.tup [.ref C.c, .ref C.va]) ∧ ItemOk (intKind prog w) (hideAll s2.heap ((DL (layL f) (fun _ => ⟨cv, [], []⟩) keys4).map (·.1))) keys4 C ∧ FnOk (intKind prog w) (hideAll s2.heap ((DL (layL f) (fun _ => ⟨cv, [], []⟩) keys4).map (·.1))) C.f C.ks.length C.P := fun C hC => by
    obtain ⟨q, hq, rfl⟩ := List.mem_map.mp hC
    refine toC_ok (cs := cs) X.at_.B (fun p hp => X.rest p ?_) (X.rest (q.cc, codeK qualL) ?_) ?_
    · subst hrest
      exact .tail _ (.tail _ (.tail _ (.tail _ (.tail _ (.tail _ (.tail _ (.tail _ (.tail _ (.tail _ (.tail _ (.tail _ (List.mem_append_right _ (List.mem_append_left _ (List.mem_flatMap.mpr ⟨q, hq, hp⟩))))))))))))))
    · subst hrest
      exact .tail _ (.tail _ (.tail _ (.tail _ (.tail _ (.tail _ (.tail _ (.tail _ (.tail _ (.tail _ (.tail _ (.tail _ (List.mem_append_right _ (List.mem_append_right _ (List.mem_append_left _ (.tail _ (List.mem_map.mpr ⟨_, hcs q hq, rfl⟩))))))))))))))))
    · have h1 : q.e ∈ es.map (·.2.1) := by rw [← hits]; exact List.mem_map.mpr ⟨q, hq, rfl⟩
      have : ∀ es ∈ subl prsL, ∀ e ∈ es, e ∈ prsL := by decide +kernel
      exact this _ hes _ h1
  have hcons : (its.map toC).map (fun C => (C.ks, C.P)) = conE (es.map (·.2.1)) := by
    rw [← hits, List.map_map]; unfold conE; rw [List.map_map]; rfl
  have hm : ∀ p ∈ [(pr, Kd.raw (instObj 110 px)), (px, .att [("_solver", .ref sf), ("_constraints", .ref cl), ("_variables", .ref vd)]), (vd, .dct (keys4.map fun k => (k, Value.ref (f k).1))), (cl, .lst (its.map fun q => .ref q.t)), (sf, .raw (instObj C₀ sx)), (sx, .att [("_forwardcheck", .bool fb)])], p ∈ rest := by
    intro p hp
    subst hrest
    simp only [List.mem_cons, List.not_mem_nil, or_false] at hp
    rcases hp with rfl | rfl | rfl | rfl | rfl | rfl
    · exact .tail _ (.tail _ (.tail _ (.tail _ (.tail _ (.tail _ (.head _))))))
    · exact .tail _ (.tail _ (.tail _ (.tail _ (.tail _ (.tail _ (.tail _ (.head _)))))))
    · exact .tail _ (.tail _ (.tail _ (.tail _ (.tail _ (.tail _ (.tail _ (.tail _ (.head _))))))))
    · exact .tail _ (.tail _ (.tail _ (.tail _ (.tail _ (.tail _ (.tail _ (.tail _ (.tail _ (.head _)))))))))
    · exact .tail _ (.tail _ (.tail _ (.tail _ (.tail _ (.tail _ (.tail _ (.tail _ (.tail _ (.tail _ (.head _))))))))))
    · exact .tail _ (.tail _ (.tail _ (.tail _ (.tail _ (.tail _ (.tail _ (.tail _ (.tail _ (.tail _ (.tail _ (.head _)))))))))))
  have hmDX : ∀ p ∈ DX f keys4, p ∈ rest := by
    intro p hp
    subst hrest
    exact .tail _ (.tail _ (.tail _ (.tail _ (.tail _ (.tail _ (.tail _ (.tail _ (.tail _ (.tail _ (.tail _ (.tail _ (List.mem_append_left _ hp))))))))))))
  have hclm : (its.map fun q => Value.ref q.t) = (its.map toC).map fun C => .ref C.t := by rw [List.map_map]; rfl
  have a1 := X.rest (pr, .raw (instObj 110 px)) (hm _ (.head _))
  have a2 := X.rest (px, .att [("_solver", .ref sf), ("_constraints", .ref cl), ("_variables", .ref vd)]) (hm _ (.tail _ (.head _)))
  have a3 := X.rest (vd, .dct (keys4.map fun k => (k, Value.ref (f k).1))) (hm _ (.tail _ (.tail _ (.head _))))
  have a4 := H2.notMod (a := vd) (k := .dct (keys4.map fun k => (k, Value.ref (f k).1))) (pm0.mem_iff.mpr (List.mem_append_right _ (hm _ (.tail _ (.tail _ (.head _))))))
  have a5 := X.rest (cl, .lst (its.map fun q => .ref q.t)) (hm _ (.tail _ (.tail _ (.tail _ (.head _)))))
  rw [hclm] at a5
  have a6 := X.rest (sf, .raw (instObj C₀ sx)) (hm _ (.tail _ (.tail _ (.tail _ (.tail _ (.head _))))))
  have a7 := X.rest (sx, .att [("_forwardcheck", .bool fb)]) (hm _ (.tail _ (.tail _ (.tail _ (.tail _ (.tail _ (.head _)))))))
  have a8 : ∀ k ∈ keys4, Has (intKind prog w) (hideAll s2.heap ((DL (layL f) (fun _ => ⟨cv, [], []⟩) keys4).map (·.1))) (f k).2.1 (.att (domAtt (f k).2.2.1 (f k).2.2.2)) := fun k hk => X.rest ((f k).2.1, .att (domAtt (f k).2.2.1 (f k).2.2.2)) (hmDX _ (List.mem_map.mpr ⟨k, hk, rfl⟩))
  have a9 : ∀ k ∈ keys4, ([] : List Value) = [] ∧ ([] : List Value) = [] ∧ cv ≠ [] ∧ cv.length ≤ 90 := fun k hk => ⟨rfl, rfl, fun e2 => by rw [e2] at hcz; simp at hcz; omega, by omega⟩
  have a10 : ∀ k : Int, (rng c).Nodup := fun k => nodup_map (fun a b e => by exact Int.ofNat.inj e) List.nodup_range
  have a11 : ∀ k ∈ keys4, rng c = cv.map vInt ∧ ∀ v ∈ cv, ∃ i t, v = Value.int i t := fun k hk => ⟨(intsAre_map hcv).symm, intsAre_ints hcv⟩
  have a12 : (solsOf keys4 (fun _ => rng c) ((its.map toC).map fun C => (C.ks, C.P)) []).length < 50000 := by rw [hcons]; have := count2 _ hes c hc; omega
  have a13 : (its.map toC).length < 90 := by rw [List.length_map]; omega
  have k1 : keys4.Nodup := by decide
  have k2 : keys4.length < 60 := by decide
  have k3 : 2 ≤ keys4.length := by decide
  have a14 := X.at_
  refine callRet (ps_spec (Y := layL f) (D := fun _ => ⟨cv, [], []⟩) (items := its.map toC) (dom := fun _ => rng c) (hr.less (by decide)) a14 a1 a2 a3 a4 a5 (fun C hC => ⟨(hitem C hC).1, (hitem C hC).2.1⟩) (fun C hC => (hitem C hC).2.2) a13 k1 k2 k3 a8 a9 a10 a11 intKO a6 a7 hC₀ a12 fun S s3 hpost => retq ?_)
  obtain ⟨D', new, e3, hper, hful⟩ := hpost
  have H3 := H2.effG pm0 e3
  rw [hcons] at hper
  have hnz : new.length = (solsOf keys4 (fun _ => rng c) (conE (es.map (·.2.1))) []).length := by have := hper.length_eq; rwa [List.length_map] at this
  obtain ⟨hok, hnd⟩ := sols_ok hes hc hper hful
  have hbare := e3.bare
  have hn200 := count2 _ hes c hc
  have hR : (⟨s3.gens, R.drawn, R.os⟩ : Side).os = R.os := rfl
  have hRg : (⟨s3.gens, R.drawn, R.os⟩ : Side).gens = s3.gens := rfl
  generalize (⟨s3.gens, R.drawn, R.os⟩ : Side) = R' at H3 hR hRg
  generalize DL (layL f) D' keys4 = dl' at H3
  clear a1 a2 a3 a4 a5 a6 a7 a8 a9 a10 a11 a12 a13 a14 k1 k2 k3 hitem hm hmDX X hper hful e3 pm0
  subst hrest
  have hNL : (new.map fun o => (o.1, Kd.dct o.2)) = NL new := rfl
  rw [hNL] at H3
  have H4 := H3.perm (l' := (td, setK []) :: (S, .lst (new.map fun o => .ref o.1)) :: (c3, .cell none) :: (pl, .lst pvs) :: (ed, .lst (mref es)) :: (c2, .cell (some (.ref co))) :: (co, .lst cv) :: (NL new ++ (Tb 398 qualL cs ++ (ML prs ++ (dl' ++ ((pr, .raw (instObj 110 px)) :: (px, .att [("_solver", .ref sf), ("_constraints", .ref cl), ("_variables", .ref vd)]) :: (vd, .dct (keys4.map fun k => (k, Value.ref (f k).1))) :: (cl, .lst (its.map fun q => .ref q.t)) :: (sf, .raw (instObj C₀ sx)) :: (sx, .att [("_forwardcheck", .bool fb)]) :: (DX f keys4 ++ (IL its ++ l)))))))) (by walk_at "pc")
  clear H2 H3
  have hmlp : ∀ q ∈ (ML es : Led Int), q ∈ (ML prs : Led Int) := fun q hq => by
    obtain ⟨x, hx, rfl⟩ := List.mem_map.mp hq
    exact List.mem_map.mpr ⟨x, hep.mem hx, rfl⟩
  refine lawC6 (es := es) (c := c) (new := new) (hr.less (by decide)) B (.miss (by decide +kernel) hsv2) (.tail _ hpl) (.head _) (.tail _ hed) hpv hcv hok hnd (by omega) (fun q hq => List.mem_append_right _ (List.mem_append_left _ (hmlp q hq))) H4 fun v s5 H5 => ?_
  refine nx (h td (hsAt new new.length) v R' (ML prs ++ (dl' ++ ((pr, .raw (instObj 110 px)) :: (px, .att [("_solver", .ref sf), ("_constraints", .ref cl), ("_variables", .ref vd)]) :: (vd, .dct (keys4.map fun k => (k, Value.ref (f k).1))) :: (cl, .lst (its.map fun q => .ref q.t)) :: (sf, .raw (instObj C₀ sx)) :: (sx, .att [("_forwardcheck", .bool fb)]) :: (DX f keys4 ++ (IL its ++ l))))) s5 ?_ hR ?_ (fun q hq => List.mem_append_left _ (hmlp q hq)) H5)
  · unfold hsAt
    rw [List.length_reverse, List.length_take, List.length_map, Nat.min_self]; exact hnz
  · intro hb
    rw [H5.gens, hRg]
    exact hbare (by rw [hg2]; exact hb)
set_option maxHeartbeats 4000000 in
/-- the count -/
theorem lawD {sv : Vars} {l : Led Int} {td co ed : Addr} {v : Option Value} {cv : List Value} {c : Nat} {hs : List Int} {es : ME Int} (hr : Room A 40) (B : Bs w g) (htd : (("told" : Str), Value.ref td) ∈ sv) (hed : (("edges" : Str), Value.ref ed) ∈ sv)
    (hcv : IntsAre cv (rng c)) (hc : c ∈ [1, 2, 3]) (hes : es.map (·.2.1) ∈ subl prsL) (hhs : hs.length = (solsOf keys4 (fun _ => rng c) (conE (es.map (·.2.1))) []).length) (hml : ∀ q ∈ (ML es : Led Int), q ∈ l)
    (H : St (intKind prog w) g R L sv ((td, setK hs) :: (c3, .cell v) :: (ed, .lst (mref es)) :: (c2, .cell (some (.ref co))) :: (co, .lst cv) :: l) s)
    (h : ∀ s', St (intKind prog w) g R L sv ((td, setK hs) :: (c3, .cell v) :: (ed, .lst (mref es)) :: (c2, .cell (some (.ref co))) :: (co, .lst cv) :: l) s' → RR (.ok (.ret (.bool true))) s') :
    wpAny (model prog w) A (execs ((tbdy 15).drop 10) (envL L fa c1 c2 c3)) (FnQ RR) E s := by
  have kt := kt_law
  have hcz : cv.length = c := by have := IntsAre.length hcv; unfold rng at this; rw [List.length_map, List.length_range] at this; exact this
  have hc13 : 1 ≤ c ∧ c ≤ 3 := by simp only [List.mem_cons, List.not_mem_nil, or_false] at hc; omega
  have hez : es.length ≤ 6 := by
    have : ∀ es ∈ subl prsL, es.length ≤ 6 := by decide +kernel
    have := this _ hes
    rwa [List.length_map] at this
  have hn200 := count2 _ hes c hc
  have hcvz : cv.length < 1000 := by omega
  refine xs_cons (st := _) (rest := _) ?_
  walk_at "goS"
  refine cSetLen H (H.has (.head _)) (by omega) fun t s1 H1 => ?_
  walk_at "goS"
  rename_i t2 s2 H2 t3 s3 H3
  have pm : ∀ {l : Led Int}, l.Perm ([] ++ l) := fun {l} => List.Perm.refl _
  have X := H3.atAll B pm
  obtain ⟨hwok, hwc⟩ := count1 _ hes
  have hmap : (es.map fun q => (q.1, q.2.1)).map (·.2) = es.map (·.2.1) := by rw [List.map_map]; rfl
  have hmap1 : (es.map fun q => (q.1, q.2.1)).map (fun e => Value.ref e.1) = mref es := by rw [List.map_map]; rfl
  refine callRet (ways_all 6 (es := es.map fun q => (q.1, q.2.1)) (n := 4) (c := (cv.length : Int)) (by rw [List.length_map]; exact hez) (by rw [List.length_map]; omega) (by rw [hmap]; exact hwok) (by omega) (by omega) (hr.less (by decide)) X.at_ ?_ (fun e he => ?_) fun t4 s4 e4 => retq ?_)
  · rw [hmap1]; exact X.rest (ed, .lst (mref es)) (.tail _ (.tail _ (.head _)))
  · obtain ⟨q, hq, rfl⟩ := List.mem_map.mp he
    exact ⟨q.2.2.1, q.2.2.2, X.rest (q.1, .lst [.int q.2.1.1 q.2.2.1, .int q.2.1.2 q.2.2.2]) (.tail _ (.tail _ (.tail _ (.tail _ (.tail _ (hml _ (List.mem_map.mpr ⟨q, hq, rfl⟩)))))))⟩
  have H4 := H3.eff pm e4
  rw [List.nil_append] at H4
  rw [hmap, hcz, ← hwc c hc, ← hhs]
  refine cmpEq ?_
  have e : (((hs.length : Int)) == (hs.length : Int)) = true := by simp
  rw [e]
  exact nx_ret (fn_ret (h s4 H4))
end
end
section
open PySem PySem.W PySem.Calls PyProof.Rows PySem.Spec
set_option Elab.async false
set_option maxRecDepth 100000
set_option maxHeartbeats 400000
set_option linter.unusedVariables false
set_option linter.unusedSectionVars false

section
variable {prog : Program} {w : World} {A : Around} {s : Shared} {E : Value → Shared → Prop} {g : Heap} {R : Side} {L : Addr} {RR : Result → Shared → Prop} {fa c1 c2 c3 : Addr} {sc : Value}
set_option maxHeartbeats 4000000 in
/-- the law -/
theorem law_all {sl : Addr} {vals : List Value} (hr : Room A 180) (B : Bs w g) (Lg : LB g) (hC : CodeHd g 400 398) (hsc : g.IsList sl vals.toArray) (hv : Ints vals) (hz : vals.length < 1000)
    (H : St (intKind prog w) g R L [("script", .ref sl)] ((c1, .cell none) :: (c2, .cell none) :: (c3, .cell none) :: Tb 398 qualL []) s)
    (h : ∀ s', (∀ b o, g.get? b = some o → s'.heap.get? b = some o) → s'.os = s.os → (AllBare s.gens → AllBare s'.gens) → (∃ ps, s'.heap.get? 398 = some (tabObj ps)) → RR (.ok (.ret (.bool true))) s') :
    wpAny (model prog w) A (execs (tbdy 15) (envL L fa c1 c2 c3)) (FnQ RR) E s := by
  have hos := H.os
  have hgens := H.gens
  refine lawA1 (hr.less (by decide)) B H hsc hv hz fun rw xs s1 hx hx1 hx8 H1 => ?_
  clear H
  refine lawA2 (hr.less (by decide)) B ⟨by walk_at "rm", by walk_at "rm"⟩ H1 fun pl prl pvs prs s2 hpv hprs H2 => ?_
  clear H1
  have H2' := H2.perm (l' := (c1, .cell (some (.ref rw))) :: (rw, .lst xs) :: (prl, .lst (mref prs)) :: (ML prs ++ ((pl, .lst pvs) :: (c2, .cell none) :: (c3, .cell none) :: Tb 398 qualL []))) (by walk_at "pc")
  have hpz : prs.length = 6 := by have := congrArg List.length hprs; rwa [List.length_map] at this
  refine lawA3 (hr.less (by decide)) B (by walk_at "rm") (by walk_at "mem") hx hx1 hx8 (by omega) H2' fun ed es s3 hes H3 => ?_
  clear H2 H2'
  have hesub : es.map (·.2.1) ∈ subl prsL := mem_subl (by rw [← hprs]; exact hes.map _)
  have hez : es.length ≤ 6 := by have := hes.length_le; omega
  have H3' := H3.perm (l' := (c2, .cell none) :: (c1, .cell (some (.ref rw))) :: (rw, .lst xs) :: ((ed, .lst (mref es)) :: (ML prs ++ ((pl, .lst pvs) :: (c3, .cell none) :: Tb 398 qualL [])))) (by walk_at "pc")
  refine lawB1 (hr.less (by decide)) B hx hx1 hx8 H3' fun co cv c s4 hc1 hc3 hcv H4 => ?_
  clear H3 H3'
  have H4' := H4.perm (l' := (c1, .cell (some (.ref rw))) :: (rw, .lst xs) :: ((c2, .cell (some (.ref co))) :: (co, .lst cv) :: (ed, .lst (mref es)) :: (ML prs ++ ((pl, .lst pvs) :: (c3, .cell none) :: Tb 398 qualL [])))) (by walk_at "pc")
  refine lawB2 (hr.less (by decide)) B hx hx1 hx8 (by walk_at "rm") H4' fun C₀ fb sf sx pr px cl vd s5 hC₀ H5 => ?_
  clear H4 H4'
  have H5' := H5.perm (l' := (vd, .dct []) :: (pr, .raw (instObj 110 px)) :: (px, .att [("_solver", .ref sf), ("_constraints", .ref cl), ("_variables", .ref vd)]) :: (pl, .lst pvs) :: (c2, .cell (some (.ref co))) :: (co, .lst cv) :: ((cl, .lst []) :: (sf, .raw (instObj C₀ sx)) :: (sx, .att [("_forwardcheck", .bool fb)]) :: (c1, .cell (some (.ref rw))) :: (rw, .lst xs) :: (ed, .lst (mref es)) :: (ML prs ++ ((c3, .cell none) :: Tb 398 qualL [])))) (by walk_at "pc")
  refine lawB3 (hr.less (by decide)) B (by walk_at "mem") (by walk_at "mem") hpv hcv hc1 hc3 H5' fun f s6 H6 => ?_
  clear H5 H5'
  have H6' := H6.perm (l' := Tb 398 qualL [] ++ ((cl, .lst []) :: (ed, .lst (mref es)) :: (pr, .raw (instObj 110 px)) :: (px, .att [("_solver", .ref sf), ("_constraints", .ref cl), ("_variables", .ref vd)]) :: (ML prs ++ ((c3, .cell none) :: (pl, .lst pvs) :: (c2, .cell (some (.ref co))) :: (co, .lst cv) :: (vd, .dct (([0, 10, 20, 30] : List Int).map fun k => (k, Value.ref (f k).1))) :: (sf, .raw (instObj C₀ sx)) :: (sx, .att [("_forwardcheck", .bool fb)]) :: (DM f cv [0, 10, 20, 30] ++ ((c1, .cell (some (.ref rw))) :: (rw, .lst xs) :: [])))))) (by walk_at "pc")
  refine lawB4 (hr.less (by decide)) B Lg hC ⟨by walk_at "rm", by walk_at "rm"⟩ (by walk_at "mem") (by walk_at "mem") hes (by omega) H6' fun its cs s7 hits hcs H7 => ?_
  clear H6 H6'
  have hcm : c ∈ [1, 2, 3] := by simp only [List.mem_cons, List.not_mem_nil, or_false]; omega
  have hg7 : s7.gens = s.gens := H7.gens.trans hgens.symm
  refine lawC (c := c) (hr.less (by decide)) B ⟨by walk_at "rm", by walk_at "rm"⟩ (by walk_at "mem") (by walk_at "mem") (by walk_at "mem") hpv hcv hcm hits hcs hesub hes hC₀ H7 fun td hs v R' l' s8 hhs hRo hbare hml H8 => ?_
  clear H7
  refine lawD (l := Tb 398 qualL cs ++ l') (hr.less (by decide)) B (.head _) (by walk_at "mem") hcv hcm hesub hhs (fun q hq => List.mem_append_right _ (hml q hq)) H8 fun s9 H9 => ?_
  obtain ⟨m, F, _⟩ := H9.F
  refine h s9 F.keep (H9.os.trans (hRo.trans hos.symm)) (fun hb => ?_) ?_
  · rw [H9.gens, ← H8.gens]
    exact hbare (by rw [hg7]; exact hb)
  · obtain ⟨o, ho, ps, rfl, _⟩ := H9.has (a := 398) (k := tabK cs) (.tail _ (.tail _ (.tail _ (.tail _ (.tail _ (.head _))))))
    exact ⟨ps, ho⟩
end
end
end Csp
end
open PySem PySem.W PySem.Calls PyProof.Rows PySem.Spec
set_option Elab.async false
set_option maxRecDepth 100000
set_option maxHeartbeats 400000
set_option linter.unusedVariables false
set_option linter.unusedSectionVars false
namespace Csp
/-- how the law ends -/
structure LawEnd (g : Heap) (s₁ : Shared) (r : Result) (s' : Shared) : Prop where
  r : r = .ok (.ret (.bool true))
  k : ∀ b o, g.get? b = some o → s'.heap.get? b = some o
  os : s'.os = s₁.os
  bare : AllBare s'.gens
  tab : ∃ ps, s'.heap.get? 398 = some (tabObj ps)
theorem LawEnd.good {c : ClaimW} {cl : Str → Option Addr} {mean : ExcName → Option Value} {args : List WData} {s₁ s' : Shared} {r : Result} (hT : TabsAt [(400, 398)] s₁.heap) (hr : ∀ a x, c.raises a x = false) (hp : c.post args (.bool true) args = true) (e : LawEnd (ghostOf s₁.heap [(400, 398)]) s₁ r s') : GoodWG c cl mean args s₁ r s' := by
  obtain ⟨ps, hps⟩ := e.tab
  have ht := hT (400, 398) (.head _)
  have other : ∀ b o, b ≠ 398 → s₁.heap.get? b = some o → s'.heap.get? b = some o := fun b o hb q => e.k b o (ghost_ne q (by simpa using hb))
  refine ⟨.inl ⟨.bool true, .bool true, [], e.r, hr args, .bool true, hp, fun _ => ⟨List.nodup_nil, fun a ha => nomatch ha⟩⟩, ⟨fun b o q => ?_, fun b o q => ?_⟩, e.os, e.bare⟩
  · by_cases hb : b = 398
    · subst hb
      obtain rfl : o = tabObj #[] := Option.some.inj (q.symm.trans ht.2)
      exact .inr (.inl ⟨(ht.1.tab ht.2).isCodeTable, rfl, #[], ps, rfl, by rw [Array.empty_append]; exact hps⟩)
    · exact .inl (other b o hb q)
  · by_cases hb : b = 398
    · subst hb; exact ⟨_, hps⟩
    · exact ⟨o, other b o hb q⟩
theorem law_end {M : Model} {A : Around} {cd : Code} {s s₁ : Shared} {c : ClaimW} {cl : Str → Option Addr} {mean : ExcName → Option Value} {args : List WData} (hT : TabsAt [(400, 398)] s₁.heap) (hr : ∀ a x, c.raises a x = false) (hp : c.post args (.bool true) args = true)
    (h : codeAny M A cd (LawEnd (ghostOf s₁.heap [(400, 398)]) s₁) s) : codeAny M A cd (GoodWG c cl mean args s₁) s := codeAny_mono h fun r s' e => e.good hT hr hp
theorem lb_top {p : Program} {loose : List Str} {mean : ExcName → Option Value} {mg mb : Str → Option Value} {g : Heap} (T : Top p loose mean mg mb g) : LB g := by
  obtain ⟨bm, ob, b⟩ := T.bmain
  exact ⟨mg, T.g, bm, ob, b⟩
theorem bs_top {w : World} {p : Program} {loose : List Str} {mean : ExcName → Option Value} {mg mb : Str → Option Value} {g : Heap} (X : (KK w.params).In g) (T : Top p loose mean mg mb g) : Bs w g := ⟨X, p, loose, mg, mb, topRead_of T⟩
theorem room_top (env : Env) : Room (callerA.deeper env) 180 := ⟨rfl, (by decide : callerA.depth + 1 + 2 * 180 < recursionLimit), (by decide : callerA.units + 3 + 20 * 180 < cLine)⟩
theorem st_top {prog : Program} {w : World} {g h : Heap} {L sl : Addr} {m : Str → Option Value} {o1 o2 o3 : Obj} {s : Shared} {tk : Nat} (F : Fr g L h m) (hm : m "script" = some (.ref sl)) (N : News g L h [(L + 1 + 1 + 1, o3), (L + 1 + 1, o2), (L + 1, o1), (398, tabObj #[])])
    (h1 : o1.data = .cell none) (h2 : o2.data = .cell none) (h3 : o3.data = .cell none) (hL : 398 < L) :
    St (intKind prog w) g ⟨s.gens, s.drawn, s.os⟩ L [("script", .ref sl)] ((L + 1, .cell none) :: (L + 1 + 1, .cell none) :: (L + 1 + 1 + 1, .cell none) :: Tb 398 qualL []) { s with heap := h, toks := tk } := by
  have hlow : sysModules < L := Nat.lt_trans (by decide) hL
  have hn : ∀ (p : Addr × Obj) (k : Kd Int), p ∈ [(L + 1 + 1 + 1, o3), (L + 1 + 1, o2), (L + 1, o1), (398, tabObj #[])] → k.holds (intKind prog w) p.2 → sysModules < p.1 → Has (intKind prog w) h p.1 k ∧ p.1 ≠ L ∧ g.get? p.1 = none ∧ sysModules < p.1 := fun p k hp hk hs => ⟨⟨p.2, (N p hp).1, hk⟩, (N p hp).2.1, (N p hp).2.2, hs⟩
  refine ⟨⟨m, F, fun p hp => ?_⟩, fun p hp => ?_, ?_, rfl, rfl, rfl, hlow⟩
  · rw [List.mem_singleton] at hp; subst hp; exact hm
  · simp only [Tb, List.map_nil, List.mem_cons, List.not_mem_nil, or_false] at hp
    rcases hp with rfl | rfl | rfl | rfl
    · exact hn (L + 1, o1) _ (.tail _ (.tail _ (.head _))) h1 (Nat.lt_succ_of_lt hlow)
    · exact hn (L + 1 + 1, o2) _ (.tail _ (.head _)) h2 (Nat.lt_succ_of_lt (Nat.lt_succ_of_lt hlow))
    · exact hn (L + 1 + 1 + 1, o3) _ (.head _) h3 (Nat.lt_succ_of_lt (Nat.lt_succ_of_lt (Nat.lt_succ_of_lt hlow)))
    · exact hn (398, tabObj #[]) _ (.tail _ (.tail _ (.tail _ (.head _)))) ⟨#[], rfl, trivial, fun pos cv e => by simp [codeAmong] at e⟩ (by decide)
  · have key : ∀ L : Nat, 398 < L → [L + 1, L + 1 + 1, L + 1 + 1 + 1, 398].Nodup := by
      intro L h
      simp only [List.nodup_cons, List.mem_cons, List.not_mem_nil, or_false, not_or, not_false_eq_true, List.nodup_nil, and_true]
      omega
    exact key L hL
end Csp
local macro_rules | `(tactic| kn_posts) => `(tactic| (refine' Csp.law_end ?hT ?hr ?hp ?_; (case hT => assumption); (case hr => exact (fun _ _ => rfl)); (case hp => with_unfolding_all rfl)))
set_option maxHeartbeats 8000000 in
theorem PySem.Challenge.cw_ww0026_02_holds : PySem.Challenge.rw_ww0026_02.Holds := by
  refine Csp.hd02 ?_
  k_go0
  rename Fr _ _ _ _ => F
  rename News _ _ _ _ => N
  rename Frag.In _ _ => X
  rename Top _ _ _ _ _ (ghostOf _ _) => T
  rename CodeHd _ _ _ => C
  rename 398 < _ => l0
  rename IntsAre _ _ => hI
  rename (Heap.IsList _ _ _) => hL
  rename ¬_ < _ => hz
  rename (_ = #[]) => hg
  rename_i left1 left2 left3 _ _
  refine wpAny_mono (E := fun _ _ => False) (Csp.law_all (RR := Csp.LawEnd _ _) (Csp.room_top _) (Csp.bs_top X T) (Csp.lb_top T) C hL (Csp.intsAre_ints hI) ?hz (Csp.st_top F ?hm N ?h1 ?h2 ?h3 l0) ?fin) (fun f s' h => h) (fun _ _ h => h.elim)
  case hz => have := IntsAre.length hI; omega
  case hm => rfl
  case h1 => first | exact left1 | exact left2 | exact left3
  case h2 => first | exact left1 | exact left2 | exact left3
  case h3 => first | exact left1 | exact left2 | exact left3
  case fin => exact fun s' k os bare tab => ⟨rfl, k, os, bare (AllBare.of_eq hg), tab⟩
