import PyProof.Rows.All
import Wide.All
import OpenK.AllK
import Wide.FinOn
import Lean
import PySem.Challenge.RW_wf0084_01
set_option Elab.async false
set_option maxRecDepth 100000
set_option linter.unusedVariables false
set_option linter.unusedSimpArgs false
/-! Core -/
namespace Mine
open PySem PySem.W PySem.Calls PyProof.Rows

/-! ## Data and how a lasting part of the heap bears them -/
inductive D where
  | none
  | bool (b : Bool)
  | int (i : Int)
  | str (x : Str)
  | tup (ds : List D)
  | lst (ds : List D)
  | hdr (kvs : List (Str × Str))
  | dct (kvs : List (Int × D))
  | val (v : Value)

abbrev PH := Addr → Option Obj
def Le (H H' : PH) : Prop := ∀ a o, H a = some o → H' a = some o
theorem Le.refl (H : PH) : Le H H := fun _ _ h => h
theorem Le.trans {H H' H'' : PH} (h : Le H H') (k : Le H' H'') : Le H H'' := fun a o e => k a o (h a o e)

/-- the class Headers stands at this address -/
def hdrC : Addr := 220
abbrev hdrEntry (P : Params) (v : Value) (t : Tok) : DictEntry := ⟨PyData.keyHash P (Str.ofString "_headers"), .str (Str.ofString "_headers") t, v⟩

inductive Pairs (H : PH) : List Value → List (Str × Str) → Prop
  | nil : Pairs H [] []
  | cons {a : Addr} {o : Obj} {n : Nat} {k v : Str} {t u : Tok} {vs : List Value} {kvs : List (Str × Str)} :
      H a = some o → o.cls = .type "tuple" → o.data = .seq #[.str k t, .str v u] n → Pairs H vs kvs → Pairs H (.ref a :: vs) ((k, v) :: kvs)

def HdrAt (P : Params) (f : PH) (H : PH) (a dx l : Addr) (kvs : List (Str × Str)) : Prop :=
  ∃ t vs n, f a = some (instObj hdrC dx) ∧ f dx = some (dictOf [hdrEntry P (.ref l) t] 1) ∧ f l = some (listOf (List.toArray vs) n) ∧ Pairs H vs kvs

mutual
inductive R (P : Params) (H : PH) : Value → D → Prop
  | none : R P H .none .none
  | bool (b : Bool) : R P H (.bool b) (.bool b)
  | int (i : Int) (t : Tok) : R P H (.int i t) (.int i)
  | str (x : Str) (t : Tok) : R P H (.str x t) (.str x)
  | tup {a : Addr} {o : Obj} {n : Nat} {vs : List Value} {ds : List D} : H a = some o → o.cls = .type "tuple" → o.data = .seq vs.toArray n → RAll P H vs ds → R P H (.ref a) (.tup ds)
  | lst {a : Addr} {o : Obj} {n : Nat} {vs : List Value} {ds : List D} : H a = some o → o.cls = .type "list" → o.data = .seq vs.toArray n → RAll P H vs ds → R P H (.ref a) (.lst ds)
  | hdr {a dx l : Addr} {kvs : List (Str × Str)} : HdrAt P H H a dx l kvs → R P H (.ref a) (.hdr kvs)
  | val (v : Value) : R P H v (.val v)
inductive RAll (P : Params) (H : PH) : List Value → List D → Prop
  | nil : RAll P H [] []
  | cons {v : Value} {vs : List Value} {d : D} {ds : List D} : R P H v d → RAll P H vs ds → RAll P H (v :: vs) (d :: ds)
end
theorem Pairs.mono {H H' : PH} (h : Le H H') {vs : List Value} {kvs : List (Str × Str)} (p : Pairs H vs kvs) : Pairs H' vs kvs := by
  induction p with
  | nil => exact .nil
  | cons a b c _ ih => exact .cons (h _ _ a) b c ih
theorem HdrAt.mono {P : Params} {H H' : PH} (h : Le H H') {a dx l : Addr} {kvs : List (Str × Str)} (p : HdrAt P H H a dx l kvs) : HdrAt P H' H' a dx l kvs := by
  obtain ⟨t, vs, n, x, y, z, q⟩ := p
  exact ⟨t, vs, n, h _ _ x, h _ _ y, h _ _ z, q.mono h⟩
mutual
theorem R.mono {P : Params} {H H' : PH} (h : Le H H') : ∀ {v : Value} {d : D}, R P H v d → R P H' v d
  | _, _, .none => .none
  | _, _, .bool b => .bool b
  | _, _, .int i t => .int i t
  | _, _, .str x t => .str x t
  | _, _, .tup a b c r => .tup (h _ _ a) b c (RAll.mono h r)
  | _, _, .lst a b c r => .lst (h _ _ a) b c (RAll.mono h r)
  | _, _, .hdr p => .hdr (p.mono h)
  | _, _, .val v => .val v
theorem RAll.mono {P : Params} {H H' : PH} (h : Le H H') : ∀ {vs : List Value} {ds : List D}, RAll P H vs ds → RAll P H' vs ds
  | _, _, .nil => .nil
  | _, _, .cons a b => .cons (R.mono h a) (RAll.mono h b)
end
theorem RAll.length {P : Params} {H : PH} {vs : List Value} {ds : List D} (h : RAll P H vs ds) : vs.length = ds.length := by
  induction vs generalizing ds with
  | nil => cases h; rfl
  | cons v vs ih => cases h with | cons a b => rw [List.length_cons, List.length_cons, ih b]
theorem RAll.append {P : Params} {H : PH} {vs ws : List Value} {ds es : List D} (h : RAll P H vs ds) (k : RAll P H ws es) : RAll P H (vs ++ ws) (ds ++ es) := by
  induction vs generalizing ds with
  | nil => cases h; exact k
  | cons v vs ih => cases h with | cons a b => exact .cons a (ih b)
theorem RAll.get {P : Params} {H : PH} {vs : List Value} {ds : List D} (h : RAll P H vs ds) {k : Nat} {d : D} (hd : ds[k]? = some d) : ∃ v, vs[k]? = some v ∧ R P H v d := by
  induction vs generalizing ds k with
  | nil => cases h; simp at hd
  | cons v vs ih =>
    cases h with
    | cons a b =>
      cases k with
      | zero => simp at hd; subst hd; exact ⟨v, rfl, a⟩
      | succ k => exact ih b (by simpa using hd)
theorem RAll.get' {P : Params} {H : PH} {vs : List Value} {ds : List D} (h : RAll P H vs ds) {k : Nat} {v : Value} (hv : vs[k]? = some v) : ∃ d, ds[k]? = some d ∧ R P H v d := by
  induction vs generalizing ds k with
  | nil => simp at hv
  | cons u vs ih =>
    cases h with
    | cons a b =>
      cases k with
      | zero => simp at hv; subst hv; exact ⟨_, rfl, a⟩
      | succ k => exact ih b (by simpa using hv)
theorem RAll.reverse {P : Params} {H : PH} {vs : List Value} {ds : List D} (h : RAll P H vs ds) : RAll P H vs.reverse ds.reverse := by
  induction vs generalizing ds with
  | nil => cases h; exact .nil
  | cons v vs ih => cases h with | cons a b => rw [List.reverse_cons, List.reverse_cons]; exact (ih b).append (.cons a .nil)
theorem RAll.take {P : Params} {H : PH} {vs : List Value} {ds : List D} (h : RAll P H vs ds) (k : Nat) : RAll P H (vs.take k) (ds.take k) := by
  induction vs generalizing ds k with
  | nil => cases h; simp; exact .nil
  | cons v vs ih =>
    cases h with
    | cons a b =>
      cases k with
      | zero => exact .nil
      | succ k => exact .cons a (ih b k)

inductive RD (P : Params) (H : PH) : List (Int × Value) → List (Int × D) → Prop
  | nil : RD P H [] []
  | cons {k : Int} {v : Value} {d : D} {ps : List (Int × Value)} {kvs : List (Int × D)} : R P H v d → RD P H ps kvs → RD P H ((k, v) :: ps) ((k, d) :: kvs)
theorem RD.mono {P : Params} {H H' : PH} (h : Le H H') {ps : List (Int × Value)} {kvs : List (Int × D)} (r : RD P H ps kvs) : RD P H' ps kvs := by
  induction r with
  | nil => exact .nil
  | cons a _ ih => exact .cons (a.mono h) ih
theorem RD.length {P : Params} {H : PH} {ps : List (Int × Value)} {kvs : List (Int × D)} (r : RD P H ps kvs) : ps.length = kvs.length := by
  induction r with
  | nil => rfl
  | cons _ _ ih => simp [ih]
def dGet (kvs : List (Int × D)) (k : Int) : Option D := (kvs.find? fun kv => kv.1 = k).map (·.2)
def dPut (kvs : List (Int × D)) (k : Int) (d : D) : List (Int × D) :=
  if kvs.any (fun kv => kv.1 = k) then kvs.map (fun kv => if kv.1 = k then (kv.1, d) else kv) else kvs ++ [(k, d)]
theorem RD.get {P : Params} {H : PH} {ps : List (Int × Value)} {kvs : List (Int × D)} (r : RD P H ps kvs) (k : Int) : (valueAt ps k = none ∧ dGet kvs k = none) ∨ ∃ v d, valueAt ps k = some v ∧ dGet kvs k = some d ∧ R P H v d := by
  induction r with
  | nil => exact .inl ⟨rfl, rfl⟩
  | @cons k' v d ps kvs a _ ih =>
    by_cases h : k' = k
    · exact .inr ⟨v, d, by simp [valueAt, h], by simp [dGet, h], a⟩
    · have e1 : valueAt ((k', v) :: ps) k = valueAt ps k := by simp [valueAt, h]
      have e2 : dGet ((k', d) :: kvs) k = dGet kvs k := by simp [dGet, h]
      rw [e1, e2]; exact ih
theorem RD.put {P : Params} {H : PH} {ps : List (Int × Value)} {kvs : List (Int × D)} (r : RD P H ps kvs) (k : Int) {v : Value} {d : D} (rv : R P H v d) : RD P H (stored ps k v) (dPut kvs k d) := by
  have e : ps.any (fun kv => kv.1 = k) = kvs.any (fun kv => kv.1 = k) := by
    induction r with
    | nil => rfl
    | cons a _ ih => simp only [List.any_cons, ih]
  unfold stored dPut
  rw [e]
  split
  · clear e
    rename_i hq
    clear hq
    induction r with
    | nil => exact .nil
    | @cons k' v' d' ps kvs a _ ih =>
      simp only [List.map_cons]
      by_cases h : k' = k
      · simp only [h, if_true]; exact .cons rv ih
      · simp only [h, if_false]; exact .cons a ih
  · clear e
    rename_i hq
    clear hq
    induction r with
    | nil => exact .cons rv .nil
    | cons a _ ih => exact .cons a ih

/-! ## The abstract state of a frame -/
inductive LV where
  | unb
  | d (d : D)
  | own (a : Addr) (d : D)
abbrev Sg := List (Str × LV)
inductive Upd : Sg → Str → LV → Sg → Prop
  | here {x : Str} {l l' : LV} {r : Sg} : Upd ((x, l) :: r) x l' ((x, l') :: r)
  | there {x y : Str} {k l : LV} {r r' : Sg} : Upd r x l r' → Upd ((y, k) :: r) x l ((y, k) :: r')
inductive Loc : Sg → Str → LV → Prop
  | here {x : Str} {l : LV} {r : Sg} : Loc ((x, l) :: r) x l
  | there {x y : Str} {k l : LV} {r : Sg} : Loc r x l → Loc ((y, k) :: r) x l
theorem Loc.mem {σ : Sg} {x : Str} {l : LV} (h : Loc σ x l) : (x, l) ∈ σ := by
  induction h with
  | here => exact .head _
  | there _ ih => exact .tail _ ih
theorem Upd.keys {σ σ' : Sg} {x : Str} {l : LV} (h : Upd σ x l σ') : σ'.map (·.1) = σ.map (·.1) := by
  induction h with
  | here => rfl
  | there _ ih => simp [ih]
theorem Upd.isKey {σ σ' : Sg} {x : Str} {l : LV} (h : Upd σ x l σ') : x ∈ σ'.map (·.1) := by
  induction h with
  | here => exact .head _
  | there _ ih => exact .tail _ ih
theorem Upd.mem {σ σ' : Sg} {x : Str} {l : LV} (h : Upd σ x l σ') (hn : (σ.map (·.1)).Nodup) : ∀ p ∈ σ', p = (x, l) ∨ (p ∈ σ ∧ p.1 ≠ x) := by
  induction h with
  | @here x l₀ l' r =>
    intro p hp
    simp only [List.map_cons, List.nodup_cons] at hn
    rcases List.mem_cons.mp hp with rfl | hp
    · exact .inl rfl
    · exact .inr ⟨.tail _ hp, fun e => hn.1 (e ▸ List.mem_map_of_mem hp)⟩
  | @there x y k l r r' u ih =>
    intro p hp
    simp only [List.map_cons, List.nodup_cons] at hn
    rcases List.mem_cons.mp hp with rfl | hp
    · refine .inr ⟨.head _, fun e => hn.1 ?_⟩
      have : x ∈ r'.map (·.1) := u.isKey
      rw [u.keys] at this
      exact (show y = x from e) ▸ this
    · rcases ih hn.2 p hp with e | ⟨m, ne⟩
      · exact .inl e
      · exact .inr ⟨.tail _ m, ne⟩

structure Cx where
  prog : Program
  w : World
  K : Frag
  s₀ : Shared
  H₀ : PH
  L : Addr
  A : Around
  lev : Nat

structure Amb (n : Nat) (A : Around) : Prop where
  hh : A.handled = none
  depth : A.depth + n < recursionLimit
  units : A.units + 8 * n + 80 < cLine

structure Cx.Ok (c : Cx) : Prop where
  kIn : c.K.In c.s₀.heap
  top : ∃ p loose mg mb, TopRead p loose mg mb c.s₀.heap
  amb : Amb c.lev c.A
  base : ∀ a o, c.H₀ a = some o → c.s₀.heap.get? a = some o

/-- what an owned container looks like -/
def OwnAt (c : Cx) (h : Heap) (H : PH) (O : Addr → Option Str) (x : Str) (a : Addr) : D → Prop
  | .lst ds => ∃ vs n, h.get? a = some (listOf (List.toArray vs) n) ∧ RAll c.w.params H vs ds
  | .hdr kvs => ∃ dx l, HdrAt c.w.params h.get? H a dx l kvs ∧ O dx = some x ∧ O l = some x ∧ a ≠ dx ∧ a ≠ l ∧ dx ≠ l ∧ l = a + 2
  | .dct kvs => ∃ ps, h.DictOf (intKind c.prog c.w) a ps ∧ RD c.w.params H ps kvs
  | _ => False
def Holds (c : Cx) (h : Heap) (H : PH) (O : Addr → Option Str) (m : Str → Option Value) (x : Str) : LV → Prop
  | .unb => True
  | .d d => ∃ v, m x = some v ∧ R c.w.params H v d
  | .own a d => m x = some (.ref a) ∧ O a = some x ∧ OwnAt c h H O x a d

structure InvAt (c : Cx) (X : PH) (H : PH) (σ : Sg) (s : Shared) (m : Str → Option Value) (O : Addr → Option Str) : Prop where
  fr : Fr c.s₀.heap c.L s.heap m
  hH : ∀ a o, H a = some o → s.heap.get? a = some o ∧ a ≠ c.L ∧ O a = none
  hX : ∀ a o, X a = some o → s.heap.get? a = some o ∧ a ≠ c.L ∧ O a = none ∧ H a = none
  hO : ∀ a x, O a = some x → a ≠ c.L ∧ (∃ o, s.heap.get? a = some o) ∧ c.s₀.heap.objs.size ≤ a
  new : ∀ a o, H a = some o → c.H₀ a = some o ∨ c.s₀.heap.get? a = none
  nodup : (σ.map (·.1)).Nodup
  holds : ∀ p ∈ σ, Holds c s.heap H O m p.1 p.2
  os : s.os = c.s₀.os
  gens : s.gens = c.s₀.gens
inductive Inv (c : Cx) (X : PH) (H : PH) (σ : Sg) (s : Shared) : Prop
  | mk (m : Str → Option Value) (O : Addr → Option Str) (I : InvAt c X H σ s m O) : Inv c X H σ s

theorem Holds.mono {c : Cx} {h h' : Heap} {H H' : PH} {O : Addr → Option Str} {m : Str → Option Value} {x : Str} {l : LV} (hk : ∀ b o, h.get? b = some o → h'.get? b = some o) (hl : Le H H')
    (p : Holds c h H O m x l) : Holds c h' H' O m x l := by
  cases l with
  | unb => trivial
  | d d => obtain ⟨v, a, b⟩ := p; exact ⟨v, a, b.mono hl⟩
  | own a d =>
    obtain ⟨e1, e2, p⟩ := p
    refine ⟨e1, e2, ?_⟩
    cases d with
    | lst ds => obtain ⟨vs, n, q, r⟩ := p; exact ⟨vs, n, hk _ _ q, r.mono hl⟩
    | hdr kvs =>
      obtain ⟨dx, l, ⟨t, vs, n, q1, q2, q3, q4⟩, r⟩ := p
      exact ⟨dx, l, ⟨t, vs, n, hk _ _ q1, hk _ _ q2, hk _ _ q3, q4.mono hl⟩, r⟩
    | dct kvs => obtain ⟨vs, q, r⟩ := p; exact ⟨vs, q.keep hk, r.mono hl⟩
    | _ => exact p.elim

theorem InvAt.keep {c : Cx} {X H : PH} {σ : Sg} {s s' : Shared} {m : Str → Option Value} {O : Addr → Option Str} (I : InvAt c X H σ s m O) (hk : ∀ b o, s.heap.get? b = some o → s'.heap.get? b = some o)
    (ho : s'.os = s.os) (hg : s'.gens = s.gens) : InvAt c X H σ s' m O where
  fr := ⟨I.fr.ns.keeps hk, fun b o e => hk _ _ (I.fr.keep b o e), I.fr.above⟩
  hH := fun a o e => let ⟨x, y⟩ := I.hH a o e; ⟨hk _ _ x, y⟩
  hX := fun a o e => let ⟨x, y⟩ := I.hX a o e; ⟨hk _ _ x, y⟩
  hO := fun a x e => let ⟨p, ⟨o, q⟩, r⟩ := I.hO a x e; ⟨p, ⟨o, hk _ _ q⟩, r⟩
  new := I.new
  nodup := I.nodup
  holds := fun p hp => (I.holds p hp).mono hk (Le.refl _)
  os := ho.trans I.os
  gens := hg.trans I.gens
theorem Inv.keep {c : Cx} {X H : PH} {σ : Sg} {s s' : Shared} (I : Inv c X H σ s) (hk : ∀ b o, s.heap.get? b = some o → s'.heap.get? b = some o)
    (ho : s'.os = s.os := by kernel_rfl!) (hg : s'.gens = s.gens := by kernel_rfl!) : Inv c X H σ s' := let ⟨m, O, I⟩ := I; ⟨m, O, I.keep hk ho hg⟩
theorem Inv.toks {c : Cx} {X H : PH} {σ : Sg} {s : Shared} (I : Inv c X H σ s) (k : Nat) : Inv c X H σ { s with toks := k } := I.keep fun _ _ e => e
theorem Inv.push {c : Cx} {X H : PH} {σ : Sg} {s : Shared} (I : Inv c X H σ s) (o : Obj) (k : Nat) : Inv c X H σ { s with heap := s.heap.push o, toks := k } := I.keep fun _ _ e => Heap.get?_push_of_some _ e

/-- more of the heap is lasting: new objects alone -/
theorem InvAt.grow {c : Cx} {X H H' : PH} {σ : Sg} {s s' : Shared} {m : Str → Option Value} {O : Addr → Option Str} (I : InvAt c X H σ s m O) (hk : ∀ b o, s.heap.get? b = some o → s'.heap.get? b = some o)
    (hl : Le H H') (hin : ∀ a o, H' a = some o → s'.heap.get? a = some o) (hnew : ∀ a o, H' a = some o → H a = some o ∨ s.heap.get? a = none)
    (ho : s'.os = s.os := by kernel_rfl!) (hg : s'.gens = s.gens := by kernel_rfl!) : InvAt c X H' σ s' m O := by
  have J := I.keep hk ho hg
  refine ⟨J.fr, fun a o e => ?_, fun a o e => ?_, J.hO, fun a o e => ?_, J.nodup, fun p hp => (J.holds p hp).mono (fun _ _ e => e) hl, J.os, J.gens⟩
  · rcases hnew a o e with q | q
    · exact ⟨hin a o e, (I.hH a o q).2⟩
    · refine ⟨hin a o e, fun z => ?_, ?_⟩
      · obtain ⟨oL, _, _, hL, _⟩ := I.fr.ns
        rw [z, hL] at q; cases q
      · cases hz : O a with
        | none => rfl
        | some x => obtain ⟨_, ⟨o', z⟩, _⟩ := I.hO a x hz; rw [z] at q; cases q
  · obtain ⟨p1, p2, p3, p4⟩ := J.hX a o e
    refine ⟨p1, p2, p3, ?_⟩
    cases hz : H' a with
    | none => rfl
    | some o' =>
      rcases hnew a o' hz with q | q
      · rw [p4] at q; cases q
      · rw [(I.hX a o e).1] at q; cases q
  · rcases hnew a o e with q | q
    · exact I.new a o q
    · refine .inr ?_
      cases hz : c.s₀.heap.get? a with
      | none => rfl
      | some o' => rw [I.fr.keep _ _ hz] at q; cases q

def PH.set (H : PH) (a : Addr) (o : Obj) : PH := fun b => if b = a then some o else H b
theorem Inv.pushH {c : Cx} {X H : PH} {σ : Sg} {s : Shared} (I : Inv c X H σ s) (o : Obj) (k : Nat) (hf : o.isFreed = false := by kernel_rfl!) :
    Le H (H.set s.heap.objs.size o) ∧ Inv c X (H.set s.heap.objs.size o) σ { s with heap := s.heap.push o, toks := k } := by
  obtain ⟨m, O, I⟩ := I
  have hno : s.heap.get? s.heap.objs.size = none := by
    cases hz : s.heap.get? s.heap.objs.size with
    | none => rfl
    | some o' => exact absurd (Heap.lt_size hz) (Nat.lt_irrefl _)
  have hl : Le H (H.set s.heap.objs.size o) := fun a o' e => by
    unfold PH.set
    rw [if_neg]
    · exact e
    · intro z; rw [z] at e; rw [(I.hH _ _ e).1] at hno; cases hno
  refine ⟨hl, m, O, I.grow (fun _ _ e => Heap.get?_push_of_some _ e) hl (fun a o' e => ?_) (fun a o' e => ?_)⟩
  · unfold PH.set at e
    split at e
    · rename_i z; cases e; rw [z]; exact Heap.get?_push_size _ hf
    · exact Heap.get?_push_of_some _ (I.hH _ _ e).1
  · unfold PH.set at e
    split at e
    · rename_i z; exact .inr (z ▸ hno)
    · exact .inl e

/-! ## The judgments -/
inductive FD where
  | next | brk | cont | ret (d : D)
def RF (P : Params) (H : PH) (f : Flow) (fd : FD) : Prop := match fd with
  | .next => f = .next
  | .brk => f = .brk
  | .cont => f = .cont
  | .ret d => ∃ v, f = .ret v ∧ R P H v d

def nope : Value → Shared → Prop := fun _ _ => False
inductive Post (c : Cx) (X H : PH) (Q : D → Sg → Prop) (v : Value) (s' : Shared) : Prop
  | mk (H' : PH) (d : D) (σ' : Sg) (l : Le H H') (I : Inv c X H' σ' s') (r : R c.w.params H' v d) (q : Q d σ') : Post c X H Q v s'
inductive PostF (c : Cx) (X H : PH) (Q : FD → Sg → Prop) (f : Flow) (s' : Shared) : Prop
  | mk (H' : PH) (fd : FD) (σ' : Sg) (l : Le H H') (I : Inv c X H' σ' s') (r : RF c.w.params H' f fd) (q : Q fd σ') : PostF c X H Q f s'
inductive PostB (c : Cx) (X H : PH) (Q : Bool → Sg → Prop) (b : Bool) (s' : Shared) : Prop
  | mk (H' : PH) (σ' : Sg) (l : Le H H') (I : Inv c X H' σ' s') (q : Q b σ') : PostB c X H Q b s'
inductive PostU (c : Cx) (X H : PH) (Q : Sg → Prop) (u : Unit) (s' : Shared) : Prop
  | mk (H' : PH) (σ' : Sg) (l : Le H H') (I : Inv c X H' σ' s') (q : Q σ') : PostU c X H Q u s'
inductive PostL (c : Cx) (X H : PH) (Q : List D → Sg → Prop) (vs : List Value) (s' : Shared) : Prop
  | mk (H' : PH) (ds : List D) (σ' : Sg) (l : Le H H') (I : Inv c X H' σ' s') (r : RAll c.w.params H' vs ds) (q : Q ds σ') : PostL c X H Q vs s'
def Ev (c : Cx) (t : Sem Value) (σ : Sg) (Q : D → Sg → Prop) : Prop :=
  ∀ X H s, Inv c X H σ s → wpAny (model c.prog c.w) c.A t (Post c X H Q) nope s
def St (c : Cx) (t : Sem Flow) (σ : Sg) (Q : FD → Sg → Prop) : Prop :=
  ∀ X H s, Inv c X H σ s → wpAny (model c.prog c.w) c.A t (PostF c X H Q) nope s
def Tr (c : Cx) (t : Sem Bool) (σ : Sg) (Q : Bool → Sg → Prop) : Prop :=
  ∀ X H s, Inv c X H σ s → wpAny (model c.prog c.w) c.A t (PostB c X H Q) nope s
def Un (c : Cx) (t : Sem Unit) (σ : Sg) (Q : Sg → Prop) : Prop :=
  ∀ X H s, Inv c X H σ s → wpAny (model c.prog c.w) c.A t (PostU c X H Q) nope s
def EvL (c : Cx) (t : Sem (List Value)) (σ : Sg) (Q : List D → Sg → Prop) : Prop :=
  ∀ X H s, Inv c X H σ s → wpAny (model c.prog c.w) c.A t (PostL c X H Q) nope s

theorem wpAny_nope {M : Model} {A : Around} {α : Type} {t : Sem α} {Q : α → Shared → Prop} {E : Value → Shared → Prop} {s : Shared} (h : wpAny M A t Q nope s) : wpAny M A t Q E s :=
  wpAny_mono h (fun _ _ x => x) fun _ _ x => x.elim
theorem Post.le {c : Cx} {X H H' : PH} {Q : D → Sg → Prop} {v : Value} {s : Shared} (h : Le H H') (p : Post c X H' Q v s) : Post c X H Q v s :=
  let ⟨H'', d, σ, l, I, r, q⟩ := p; ⟨H'', d, σ, h.trans l, I, r, q⟩
theorem PostF.le {c : Cx} {X H H' : PH} {Q : FD → Sg → Prop} {v : Flow} {s : Shared} (h : Le H H') (p : PostF c X H' Q v s) : PostF c X H Q v s :=
  let ⟨H'', d, σ, l, I, r, q⟩ := p; ⟨H'', d, σ, h.trans l, I, r, q⟩
theorem PostB.le {c : Cx} {X H H' : PH} {Q : Bool → Sg → Prop} {v : Bool} {s : Shared} (h : Le H H') (p : PostB c X H' Q v s) : PostB c X H Q v s :=
  let ⟨H'', σ, l, I, q⟩ := p; ⟨H'', σ, h.trans l, I, q⟩
theorem PostU.le {c : Cx} {X H H' : PH} {Q : Sg → Prop} {v : Unit} {s : Shared} (h : Le H H') (p : PostU c X H' Q v s) : PostU c X H Q v s :=
  let ⟨H'', σ, l, I, q⟩ := p; ⟨H'', σ, h.trans l, I, q⟩
theorem PostL.le {c : Cx} {X H H' : PH} {Q : List D → Sg → Prop} {v : List Value} {s : Shared} (h : Le H H') (p : PostL c X H' Q v s) : PostL c X H Q v s :=
  let ⟨H'', d, σ, l, I, r, q⟩ := p; ⟨H'', d, σ, h.trans l, I, r, q⟩
theorem Ev.mono {c : Cx} {t : Sem Value} {σ : Sg} {Q Q' : D → Sg → Prop} (h : Ev c t σ Q) (k : ∀ d σ', Q d σ' → Q' d σ') : Ev c t σ Q' :=
  fun X H s I => wpAny_mono (h X H s I) (fun _ _ ⟨H', d, σ', a, b, r, q⟩ => ⟨H', d, σ', a, b, r, k _ _ q⟩) fun _ _ x => x
theorem St.mono {c : Cx} {t : Sem Flow} {σ : Sg} {Q Q' : FD → Sg → Prop} (h : St c t σ Q) (k : ∀ d σ', Q d σ' → Q' d σ') : St c t σ Q' :=
  fun X H s I => wpAny_mono (h X H s I) (fun _ _ ⟨H', d, σ', a, b, r, q⟩ => ⟨H', d, σ', a, b, r, k _ _ q⟩) fun _ _ x => x

end Mine

/-! Rules -/
namespace Mine
open PySem PySem.W PySem.Calls PyProof.Rows
variable {c : Cx} {env : Env} {σ : Sg}

/-! ## names -/
theorem Ev.name {x : Str} {pos : Pos} {d : D} {Q : D → Sg → Prop} (hl : Loc σ x (.d d)) (q : Q d σ)
    (hL : env.locals = c.L := by kernel_rfl!) (hk : env.scope.kind = .function := by kernel_rfl!) (hx : env.kindOf x = some .local := by kernel_rfl!) (hd : (x == ("__debug__" : Str)) = false := by decide) :
    Ev c (eval (.Name x pos) env) σ Q := by
  rintro X H s ⟨m, O, I⟩
  obtain ⟨v, hm, r⟩ := I.holds _ hl.mem
  exact wpAny_Name (wpAny_loadName_local hk hx (hL ▸ I.fr.ns) hm ⟨H, d, σ, Le.refl _, ⟨m, O, I⟩, r, q⟩) hd

theorem InvAt.freezeL {X H : PH} {s : Shared} {m : Str → Option Value} {O : Addr → Option Str} {σ' : Sg} {x : Str} {a : Addr} {ds : List D} (I : InvAt c X H σ s m O) (hl : Loc σ x (.own a (.lst ds))) (hu : Upd σ x (.d (.lst ds)) σ') :
    ∃ H', m x = some (.ref a) ∧ Le H H' ∧ R c.w.params H' (.ref a) (.lst ds) ∧ Inv c X H' σ' s := by
  obtain ⟨hm, ho, vs, n, ha, r⟩ := I.holds _ hl.mem
  have hHa : H a = none := by
    cases z : H a with
    | none => rfl
    | some o => have := (I.hH _ _ z).2.2; rw [ho] at this; cases this
  have hle : Le H (H.set a (listOf vs.toArray n)) := fun b o e => by
    unfold PH.set; rw [if_neg (fun z => by rw [z, hHa] at e; cases e)]; exact e
  have hR : R c.w.params (H.set a (listOf vs.toArray n)) (.ref a) (.lst ds) := .lst (by unfold PH.set; rw [if_pos rfl]) rfl rfl (r.mono hle)
  refine ⟨H.set a (listOf vs.toArray n), hm, hle, hR, m, fun b => if b = a then none else O b, ?_⟩
  refine ⟨I.fr, fun b o e => ?_, fun b o e => ?_, fun b y e => ?_, fun b o e => ?_, hu.keys ▸ I.nodup, fun p hp => ?_, I.os, I.gens⟩
  · unfold PH.set at e
    split at e
    · rename_i z; cases e; subst z; exact ⟨ha, (I.hO _ _ ho).1, if_pos rfl⟩
    · rename_i z; exact ⟨(I.hH _ _ e).1, (I.hH _ _ e).2.1, by show (if b = a then none else O b) = none; rw [if_neg z]; exact (I.hH _ _ e).2.2⟩
  · obtain ⟨p1, p2, p3, p4⟩ := I.hX b o e
    have hne : b ≠ a := fun z => by rw [z, ho] at p3; cases p3
    exact ⟨p1, p2, by show (if b = a then none else O b) = none; rw [if_neg hne]; exact p3, by unfold PH.set; rw [if_neg hne]; exact p4⟩
  · have e' : (if b = a then none else O b) = some y := e
    split at e'
    · cases e'
    · exact I.hO b y e'
  · unfold PH.set at e
    split at e
    · rename_i z; exact .inr (z ▸ Heap.get?_none_of_le (I.hO _ _ ho).2.2)
    · exact I.new _ _ e
  · rcases hu.mem I.nodup p hp with rfl | ⟨hp, hne⟩
    · exact ⟨_, hm, hR⟩
    · have hq := (I.holds p hp).mono (fun _ _ e => e) hle
      obtain ⟨y, l⟩ := p
      have key : ∀ b, O b = some y → (if b = a then none else O b) = some y := fun b e => by
        rw [if_neg (fun z => by rw [z, ho] at e; exact hne (Option.some.inj e).symm)]; exact e
      cases l with
      | unb => trivial
      | d d => exact hq
      | own b d =>
        obtain ⟨e1, e2, q⟩ := hq
        refine ⟨e1, key b e2, ?_⟩
        cases d with
        | lst ds => exact q
        | hdr kvs => obtain ⟨dx, l, q1, q2, q3, q4⟩ := q; exact ⟨dx, l, q1, key _ q2, key _ q3, q4⟩
        | dct kvs => exact q
        | _ => exact q.elim

theorem Ev.nameOwn {x : Str} {pos : Pos} {a : Addr} {ds : List D} {σ' : Sg} {Q : D → Sg → Prop} (hl : Loc σ x (.own a (.lst ds))) (hu : Upd σ x (.d (.lst ds)) σ') (q : Q (.lst ds) σ')
    (hL : env.locals = c.L := by kernel_rfl!) (hk : env.scope.kind = .function := by kernel_rfl!) (hx : env.kindOf x = some .local := by kernel_rfl!) (hd : (x == ("__debug__" : Str)) = false := by decide) :
    Ev c (eval (.Name x pos) env) σ Q := by
  rintro X H s ⟨m, O, I⟩
  obtain ⟨H', hm, hle, hR, I'⟩ := I.freezeL hl hu
  exact wpAny_Name (wpAny_loadName_local hk hx (hL ▸ I.fr.ns) hm ⟨H', _, σ', hle, I', hR, q⟩) hd

/-! ## constants -/
theorem Ev.int {i : Int} {k : Nat} {pos : Pos} {Q : D → Sg → Prop} (q : Q (.int i) σ) : Ev c (eval (.Constant (.int i) k pos) env) σ Q :=
  fun _ H _ I => wpAny_Constant_int ⟨H, _, σ, Le.refl _, I.toks _, .int _ _, q⟩
theorem Ev.str {x : Str} {k : Nat} {pos : Pos} {Q : D → Sg → Prop} (q : Q (.str x) σ) : Ev c (eval (.Constant (.str x) k pos) env) σ Q :=
  fun _ H _ I => wpAny_Constant_str ⟨H, _, σ, Le.refl _, I.toks _, .str _ _, q⟩
theorem Ev.cbool {b : Bool} {k : Nat} {pos : Pos} {Q : D → Sg → Prop} (q : Q (.bool b) σ) : Ev c (eval (.Constant (.bool b) k pos) env) σ Q :=
  fun _ H _ I => wpAny_Constant_bool ⟨H, _, σ, Le.refl _, I, .bool _, q⟩
theorem Ev.cnone {k : Nat} {pos : Pos} {Q : D → Sg → Prop} (q : Q .none σ) : Ev c (eval (.Constant .none k pos) env) σ Q :=
  fun _ H _ I => wpAny_Constant_none ⟨H, _, σ, Le.refl _, I, .none, q⟩

/-! ## a rule that gives back a flat value and turns only the tokens -/
inductive Flat1 : D → Prop
  | none : Flat1 .none
  | bool (b : Bool) : Flat1 (.bool b)
  | int (i : Int) : Flat1 (.int i)
  | str (x : Str) : Flat1 (.str x)

/-! ## operators -/
inductive OpI : Operator → D → D → D → Prop
  | addI {a b : Int} : OpI .Add (.int a) (.int b) (.int (a + b))
  | subI {a b : Int} : OpI .Sub (.int a) (.int b) (.int (a - b))
  | mulI {a b : Int} (h : IntMulOk a b) : OpI .Mult (.int a) (.int b) (.int (a * b))
  | divI {a b : Int} (h : b ≠ 0) (h' : b.natAbs < 1073741824) : OpI .FloorDiv (.int a) (.int b) (.int (a.fdiv b))
  | modI {a b : Int} (h : b ≠ 0) : OpI .Mod (.int a) (.int b) (.int (a.fmod b))
  | addS {x y : Str} (h : x.length + y.length ≤ 16777216) : OpI .Add (.str x) (.str y) (.str (x ++ y))
theorem OpI.sound {op : Operator} {a b d : D} (o : OpI op a b d) {X H : PH} {s : Shared} {u v : Value} (I : Inv c X H σ s) (hu : R c.w.params H u a) (hv : R c.w.params H v b) {Q : D → Sg → Prop} (q : Q d σ) :
    wpAny (model c.prog c.w) c.A (binaryOp op u v) (Post c X H Q) nope s := by
  cases o with
  | addI => cases hu with | int i t => cases hv with | int j w => exact P.add_int ⟨H, _, σ, Le.refl _, I.toks _, .int _ _, q⟩
  | subI => cases hu with | int i t => cases hv with | int j w => exact P.sub_int ⟨H, _, σ, Le.refl _, I.toks _, .int _ _, q⟩
  | mulI h => cases hu with | int i t => cases hv with | int j w => exact P.mul_int ⟨H, _, σ, Le.refl _, I.toks _, .int _ _, q⟩ h
  | divI h h' => cases hu with | int i t => cases hv with | int j w => exact floordiv_int h ⟨H, _, σ, Le.refl _, I.toks _, .int _ _, q⟩ (.inl (PyProof.noPylong_small h'))
  | modI h => cases hu with | int i t => cases hv with | int j w => exact mod_int' h ⟨H, _, σ, Le.refl _, I.toks _, .int _ _, q⟩
  | addS h => cases hu with | str x t => cases hv with | str y w => exact SBL.add (fun t' k _ => ⟨H, _, σ, Le.refl _, I.toks k, .str _ _, q⟩) (by rw [sizeLine_eq]; exact h)

theorem Ev.bin {l r : Expr} {op : Operator} {pos : Pos} {Q : D → Sg → Prop}
    (h : Ev c (eval l env) σ fun a σ₁ => Ev c (eval r env) σ₁ fun b σ₂ => ∃ d, OpI op a b d ∧ Q d σ₂) : Ev c (eval (.BinOp l op r pos) env) σ Q :=
  fun X H s I => wpAny_BinOp (wpAny_mono (h X H s I) (fun _ s₁ ⟨H₁, _, _, l₁, I₁, r₁, h₁⟩ => wpAny_mono (h₁ X H₁ s₁ I₁)
    (fun _ _ ⟨_, _, _, l₂, I₂, r₂, _, o, q⟩ => wpAny_mono (o.sound I₂ (r₁.mono l₂) r₂ q) (fun _ _ p => p.le (l₁.trans l₂)) fun _ _ x => x) fun _ _ x => x) fun _ _ x => x)

theorem Ev.neg {x : Expr} {pos : Pos} {Q : D → Sg → Prop} (h : Ev c (eval x env) σ fun a σ₁ => ∃ i, a = .int i ∧ Q (.int (-i)) σ₁) : Ev c (eval (.UnaryOp .USub x pos) env) σ Q :=
  fun X H s I => wpAny_UnaryOp (wpAny_mono (h X H s I) (fun _ _ ⟨H₁, _, σ₁, l₁, I₁, r₁, i, e, q⟩ => by
    subst e
    cases r₁ with | int i t => exact P.neg_int ⟨H₁, _, σ₁, l₁, I₁.toks _, .int _ _, q⟩) fun _ _ x => x)

/-! ## comparisons -/
inductive CmpI : CmpOp → D → D → Bool → Prop
  | eqI {a b : Int} : CmpI .Eq (.int a) (.int b) (a == b)
  | neI {a b : Int} : CmpI .NotEq (.int a) (.int b) (a != b)
  | ltI {a b : Int} : CmpI .Lt (.int a) (.int b) (decide (a < b))
  | leI {a b : Int} : CmpI .LtE (.int a) (.int b) (decide (a ≤ b))
  | gtI {a b : Int} : CmpI .Gt (.int a) (.int b) (decide (a > b))
  | geI {a b : Int} : CmpI .GtE (.int a) (.int b) (decide (a ≥ b))
  | eqS {x y : Str} : CmpI .Eq (.str x) (.str y) (x == y)
  | neS {x y : Str} : CmpI .NotEq (.str x) (.str y) (x != y)
  | isN {d : D} (b : Bool) (h : match d with | .none => b = true | .val _ => False | _ => b = false) : CmpI .Is d .none b
  | isntN {d : D} (b : Bool) (h : match d with | .none => b = false | .val _ => False | _ => b = true) : CmpI .IsNot d .none b
theorem CmpI.sound {op : CmpOp} {a b : D} {z : Bool} (o : CmpI op a b z) {X H : PH} {s : Shared} {u v : Value} (I : Inv c X H σ s) (hu : R c.w.params H u a) (hv : R c.w.params H v b) {Q : Value → Shared → Prop} (q : Q (.bool z) s) :
    wpAny (model c.prog c.w) c.A (compareOp op u v) Q nope s := by
  cases o with
  | eqI => cases hu with | int i t => cases hv with | int j w => exact P.eq_int q
  | neI => cases hu with | int i t => cases hv with | int j w => exact P.ne_int q
  | ltI => cases hu with | int i t => cases hv with | int j w => exact P.lt_int q
  | leI => cases hu with | int i t => cases hv with | int j w => exact P.le_int q
  | gtI => cases hu with | int i t => cases hv with | int j w => exact P.gt_int q
  | geI => cases hu with | int i t => cases hv with | int j w => exact P.ge_int q
  | eqS => cases hu with | str x t => cases hv with | str y w => exact PyProof.Rows.eq_str q
  | neS => cases hu with | str x t => cases hv with | str y w => exact PyProof.Rows.ne_str q
  | isN _ h =>
    cases hv with
    | none => refine is_none ?_; cases hu <;> first | exact h.elim | (simp only at h; subst h; exact q)
  | isntN _ h =>
    cases hv with
    | none => refine isNot_none ?_; cases hu <;> first | exact h.elim | (simp only at h; subst h; exact q)

theorem Ev.cmp {l r : Expr} {op : CmpOp} {pos : Pos} {Q : D → Sg → Prop}
    (h : Ev c (eval l env) σ fun a σ₁ => Ev c (eval r env) σ₁ fun b σ₂ => ∃ z, CmpI op a b z ∧ Q (.bool z) σ₂)
    (hm : behindInMarks op r = false := by kernel_rfl!) : Ev c (eval (.Compare l [op] [r] pos) env) σ Q :=
  fun X H s I => wpAny_Compare1 (wpAny_mono (h X H s I) (fun _ s₁ ⟨H₁, _, _, l₁, I₁, r₁, h₁⟩ => wpAny_mono (h₁ X H₁ s₁ I₁)
    (fun _ _ ⟨H₂, _, σ₂, l₂, I₂, r₂, _, o, q⟩ => o.sound I₂ (r₁.mono l₂) r₂ ⟨H₂, _, σ₂, l₁.trans l₂, I₂, .bool _, q⟩) fun _ _ x => x) fun _ _ x => x) hm
theorem Tr.cmp {l r : Expr} {op : CmpOp} {pos : Pos} {whole : Sem Value} {Q : Bool → Sg → Prop}
    (h : Ev c (eval l env) σ fun a σ₁ => Ev c (eval r env) σ₁ fun b σ₂ => ∃ z, CmpI op a b z ∧ Q z σ₂)
    (hm : behindInMarks op r = false := by kernel_rfl!) : Tr c (isTrue (.Compare l [op] [r] pos) env whole) σ Q :=
  fun X H s I => wpAny_isTrue_Compare1 (wpAny_mono (h X H s I) (fun _ s₁ ⟨H₁, _, _, l₁, I₁, r₁, h₁⟩ => wpAny_mono (h₁ X H₁ s₁ I₁)
    (fun _ _ ⟨H₂, _, σ₂, l₂, I₂, r₂, _, o, q⟩ => o.sound I₂ (r₁.mono l₂) r₂ (wpAny_truthy_bool ⟨H₂, σ₂, l₁.trans l₂, I₂, q⟩)) fun _ _ x => x) fun _ _ x => x) hm

/-! ## truth -/
inductive Tru : D → Bool → Prop
  | bool (b : Bool) : Tru (.bool b) b
  | int (i : Int) : Tru (.int i) (i != 0)
  | str (x : Str) (h : x.length < 16777217) : Tru (.str x) ((x.length : Int) != 0)
theorem Tru.sound {a : D} {z : Bool} (o : Tru a z) {X H : PH} {s : Shared} {u : Value} (I : Inv c X H σ s) (hu : R c.w.params H u a) {Q : Bool → Sg → Prop} (q : Q z σ) :
    wpAny (model c.prog c.w) c.A (truthy u) (PostB c X H Q) nope s := by
  cases o with
  | bool b => cases hu; exact wpAny_truthy_bool ⟨H, σ, Le.refl _, I, q⟩
  | int i => cases hu; exact P.truthy_int ⟨H, σ, Le.refl _, I, q⟩
  | str x h => cases hu; exact SBL.truthy (by omega) ⟨H, σ, Le.refl _, I.toks _, q⟩
theorem Tr.value {e : Expr} {whole : Sem Value} {Q : Bool → Sg → Prop} (h : Ev c whole σ fun a σ₁ => ∃ z, Tru a z ∧ Q z σ₁)
    (he : isTrue e env whole = (do let v ← whole; standAt e.pos; holding [v] (truthy v)) := by kernel_rfl!) : Tr c (isTrue e env whole) σ Q :=
  fun X H s I => wpAny_isTrue_value (wpAny_mono (h X H s I) (fun _ _ ⟨_, _, _, l₁, I₁, r₁, _, o, q⟩ => wpAny_mono (o.sound I₁ r₁ q) (fun _ _ p => p.le l₁) fun _ _ x => x) fun _ _ x => x) he
theorem Tr.or2 {x y : Expr} {pos : Pos} {whole : Sem Value} {Q : Bool → Sg → Prop}
    (h : Tr c (isTrue x env (eval x env)) σ fun b σ₁ => (b = true → Q true σ₁) ∧ (b = false → Tr c (isTrue y env (eval y env)) σ₁ Q)) : Tr c (isTrue (.BoolOp .Or [x, y] pos) env whole) σ Q :=
  fun X H s I => wpAny_isTrue_BoolOp (wpAny_allTrue_Or_cons (wpAny_mono (h X H s I) (fun b s₁ ⟨H₁, σ₁, l₁, I₁, h₁, h₂⟩ => by
    cases b with
    | true => exact ⟨H₁, σ₁, l₁, I₁, h₁ rfl⟩
    | false =>
      refine wpAny_allTrue_Or_cons (wpAny_mono (h₂ rfl X H₁ s₁ I₁) (fun b s₂ p => ?_) fun _ _ x => x)
      cases b with
      | true => exact PostB.le l₁ p
      | false => exact wpAny_allTrue_Or_nil (PostB.le l₁ p)) fun _ _ x => x))
theorem Tr.and2 {x y : Expr} {pos : Pos} {whole : Sem Value} {Q : Bool → Sg → Prop}
    (h : Tr c (isTrue x env (eval x env)) σ fun b σ₁ => (b = false → Q false σ₁) ∧ (b = true → Tr c (isTrue y env (eval y env)) σ₁ Q)) : Tr c (isTrue (.BoolOp .And [x, y] pos) env whole) σ Q :=
  fun X H s I => wpAny_isTrue_BoolOp (wpAny_allTrue_And_cons (wpAny_mono (h X H s I) (fun b s₁ ⟨H₁, σ₁, l₁, I₁, h₁, h₂⟩ => by
    cases b with
    | false => exact ⟨H₁, σ₁, l₁, I₁, h₁ rfl⟩
    | true =>
      refine wpAny_allTrue_And_cons (wpAny_mono (h₂ rfl X H₁ s₁ I₁) (fun b s₂ p => ?_) fun _ _ x => x)
      cases b with
      | false => exact PostB.le l₁ p
      | true => exact wpAny_allTrue_And_nil (PostB.le l₁ p)) fun _ _ x => x))
theorem Ev.or2 {x y : Expr} {pos : Pos} {Q : D → Sg → Prop}
    (h : Ev c (eval x env) σ fun a σ₁ => ∃ z, Tru a z ∧ (z = true → Q a σ₁) ∧ (z = false → Ev c (eval y env) σ₁ Q)) : Ev c (eval (.BoolOp .Or [x, y] pos) env) σ Q :=
  fun X H s I => wpAny_Or2 (wpAny_mono (h X H s I) (fun v s₁ ⟨H₁, a, σ₁, l₁, I₁, r₁, z, o, h₁, h₂⟩ => by
    refine wpAny_mono (o.sound (Q := fun b σ₂ => b = z ∧ σ₂ = σ₁) I₁ r₁ ⟨rfl, rfl⟩) (fun b s₂ ⟨H₂, σ₂, l₂, I₂, e1, e2⟩ => ?_) fun _ _ x => x
    subst e1; subst e2
    cases b with
    | true => exact ⟨H₂, a, _, l₁.trans l₂, I₂, r₁.mono l₂, h₁ rfl⟩
    | false => exact wpAny_mono (h₂ rfl X H₂ s₂ I₂) (fun _ _ p => p.le (l₁.trans l₂)) fun _ _ x => x) fun _ _ x => x)
theorem Ev.ifExp {t x y : Expr} {pos : Pos} {Q : D → Sg → Prop}
    (h : Tr c (isTrue t env (eval t env)) σ fun b σ₁ => (b = true → Ev c (eval x env) σ₁ Q) ∧ (b = false → Ev c (eval y env) σ₁ Q)) : Ev c (eval (.IfExp t x y pos) env) σ Q :=
  fun X H s I => wpAny_IfExp (wpAny_mono (h X H s I) (fun b s₁ ⟨H₁, σ₁, l₁, I₁, h₁, h₂⟩ => by
    cases b with
    | true => exact wpAny_mono (h₁ rfl X H₁ s₁ I₁) (fun _ _ p => p.le l₁) fun _ _ x => x
    | false => exact wpAny_mono (h₂ rfl X H₁ s₁ I₁) (fun _ _ p => p.le l₁) fun _ _ x => x) fun _ _ x => x)

/-! ## displays -/
theorem EvL.nil {pos : Pos} {Q : List D → Sg → Prop} (q : Q [] σ) : EvL c (spliced (backTo pos (starEach [] env))) σ Q :=
  fun _ H _ I => wpAny_items_nil ⟨H, _, σ, Le.refl _, I, .nil, q⟩
theorem EvL.cons {e : Expr} {rest : List Expr} {pos : Pos} {Q : List D → Sg → Prop}
    (h : Ev c (eval e env) σ fun d σ₁ => EvL c (spliced (backTo pos (starEach rest env))) σ₁ fun ds σ₂ => Q (d :: ds) σ₂)
    (he : starEach (e :: rest) env = (false, eval e env) :: starEach rest env := by kernel_rfl!) : EvL c (spliced (backTo pos (starEach (e :: rest) env))) σ Q :=
  fun X H s I => wpAny_items_cons (wpAny_mono (h X H s I) (fun _ s₁ ⟨H₁, _, _, l₁, I₁, r₁, h₁⟩ => wpAny_mono (h₁ X H₁ s₁ I₁)
    (fun _ _ ⟨H₂, _, σ₂, l₂, I₂, r₂, q⟩ => ⟨H₂, _, σ₂, l₁.trans l₂, I₂, .cons (r₁.mono l₂) r₂, q⟩) fun _ _ x => x) fun _ _ x => x) he
theorem Ev.tuple {elts : List Expr} {k : Nat} {pos : Pos} {Q : D → Sg → Prop}
    (h : EvL c (spliced (backTo pos (starEach elts env))) σ fun ds σ₁ => ds.length ≤ 16777216 ∧ Q (.tup ds) σ₁) : Ev c (eval (.Tuple elts k pos) env) σ Q :=
  fun X H s I => wpAny_Tuple (wpAny_mono (h X H s I) (fun vs s₁ ⟨H₁, ds, σ₁, l₁, I₁, r₁, hl, q⟩ => by
    obtain ⟨hle, I₂⟩ := I₁.pushH { cls := .type "tuple", data := .seq vs.toArray } s₁.toks
    exact ⟨by rw [sizeLine_eq, r₁.length]; exact hl, _, _, σ₁, l₁.trans hle, I₂, .tup (by unfold PH.set; rw [if_pos rfl]) rfl rfl (r₁.mono hle), q⟩) fun _ _ x => x)
/-- a list display that is not to be changed any more -/
theorem Ev.list {elts : List Expr} {pos : Pos} {Q : D → Sg → Prop}
    (h : EvL c (spliced (backTo pos (starEach elts env))) σ fun ds σ₁ => ds.length ≤ 16777216 ∧ Q (.lst ds) σ₁) : Ev c (eval (.List elts pos) env) σ Q :=
  fun X H s I => wpAny_List (wpAny_mono (h X H s I) (fun vs s₁ ⟨H₁, ds, σ₁, l₁, I₁, r₁, hl, q⟩ => by
    obtain ⟨hle, I₂⟩ := I₁.pushH { cls := .type "list", data := .seq vs.toArray } s₁.toks
    exact ⟨by rw [sizeLine_eq, r₁.length]; exact hl, _, _, σ₁, l₁.trans hle, I₂, .lst (by unfold PH.set; rw [if_pos rfl]) rfl rfl (r₁.mono hle), q⟩) fun _ _ x => x)

/-! ## stores -/
theorem Inv.store {X H : PH} {s : Shared} {h' : Heap} {x : Str} {v : Value} {d : D} {σ' : Sg} {k : Nat} {m : Str → Option Value} {O : Addr → Option Str} (I : InvAt c X H σ s m O) (hu : Upd σ x (.d d) σ') (hr : R c.w.params H v d)
    (hn : h'.Ns c.L (fun y => if y = x then some v else m y)) (hs : Heap.SameBut c.L s.heap h') : Inv c X H σ' { s with heap := h', toks := k } := by
  have keep : ∀ a o, s.heap.get? a = some o → a ≠ c.L → h'.get? a = some o := fun a o e ne => (hs.2 a ne).trans e
  have F := I.fr.set hn hs
  refine ⟨_, O, F, fun a o e => ?_, fun a o e => ?_, fun a y e => ?_, I.new, hu.keys ▸ I.nodup, fun p hp => ?_, I.os, I.gens⟩
  · obtain ⟨p1, p2, p3⟩ := I.hH a o e; exact ⟨keep _ _ p1 p2, p2, p3⟩
  · obtain ⟨p1, p2, p3⟩ := I.hX a o e; exact ⟨keep _ _ p1 p2, p2, p3⟩
  · obtain ⟨p1, ⟨o, p2⟩, p3⟩ := I.hO a y e; exact ⟨p1, ⟨o, keep _ _ p2 p1⟩, p3⟩
  · rcases hu.mem I.nodup p hp with rfl | ⟨hp, hne⟩
    · exact ⟨v, if_pos rfl, hr⟩
    · have hq := I.holds p hp
      obtain ⟨y, l⟩ := p
      have hm : ∀ {w : Value}, m y = some w → (if y = x then some v else m y) = some w := fun e => by rw [if_neg hne]; exact e
      cases l with
      | unb => trivial
      | d d => obtain ⟨w, e, r⟩ := hq; exact ⟨w, hm e, r⟩
      | own a d =>
        obtain ⟨e, o, q⟩ := hq
        refine ⟨hm e, o, ?_⟩
        have ka : ∀ b z, O b = some z → ∀ ob, s.heap.get? b = some ob → h'.get? b = some ob := fun b z ob q e => keep _ _ e (I.hO _ _ ob).1
        cases d with
        | lst ds => obtain ⟨vs, n, q1, q2⟩ := q; exact ⟨vs, n, ka _ _ o _ q1, q2⟩
        | hdr kvs =>
          obtain ⟨dx, l, ⟨t, vs, n, q1, q2, q3, q4⟩, o2, o3, r⟩ := q
          exact ⟨dx, l, ⟨t, vs, n, ka _ _ o _ q1, ka _ _ o2 _ q2, ka _ _ o3 _ q3, q4⟩, o2, o3, r⟩
        | dct kvs =>
          obtain ⟨vs, ⟨ob, es, ep, q1, q2⟩, q3⟩ := q
          exact ⟨vs, ⟨ob, es, ep, ka _ _ o _ q1, q2⟩, q3⟩
        | _ => exact q.elim

theorem store_name {X H : PH} {s : Shared} {x : Str} {v : Value} {d : D} {σ' : Sg} {Q : Unit → Shared → Prop} (I : Inv c X H σ s) (hu : Upd σ x (.d d) σ') (hr : R c.w.params H v d)
    (h : ∀ h' k, Inv c X H σ' { s with heap := h', toks := k } → Q () { s with heap := h', toks := k })
    (hL : env.locals = c.L := by kernel_rfl!) (hk : env.scope.kind = .function := by kernel_rfl!) (hx : env.kindOf x = some .local := by kernel_rfl!) :
    wpAny (model c.prog c.w) c.A (storeName env x v) Q nope s := by
  obtain ⟨m, O, I⟩ := I
  refine wpAny_storeName_local hx (hL ▸ I.fr.ns) (fun h' hn hs => h h' _ (Inv.store I hu hr (hL ▸ hn) (hL ▸ hs))) ?_
  rw [hk]; rfl

/-- assigning a value to a target -/
def As (c : Cx) (t : Value → Sem Unit) (σ : Sg) (d : D) (Q : Sg → Prop) : Prop :=
  ∀ X H s v, Inv c X H σ s → R c.w.params H v d → wpAny (model c.prog c.w) c.A (t v) (PostU c X H Q) nope s
theorem As.name {x : Str} {pos : Pos} {d : D} {σ' : Sg} {Q : Sg → Prop} (hu : Upd σ x (.d d) σ') (q : Q σ')
    (hL : env.locals = c.L := by kernel_rfl!) (hk : env.scope.kind = .function := by kernel_rfl!) (hx : env.kindOf x = some .local := by kernel_rfl!) : As c (assign (.Name x pos) env) σ d Q :=
  fun X H s v I r => wpAny_assign_Name (store_name I hu r (fun h' k I' => ⟨H, σ', Le.refl _, I', q⟩) hL hk hx)

/-! ## statements -/
theorem St.nil {Q : FD → Sg → Prop} (q : Q .next σ) : St c (execs [] env) σ Q := fun _ H _ I => wpAny_execs_nil ⟨H, .next, σ, Le.refl _, I, rfl, q⟩
def Seq (c : Cx) (env : Env) (rest : List Stmt) (Q : FD → Sg → Prop) (fd : FD) (σ : Sg) : Prop := match fd with
  | .next => St c (execs rest env) σ Q
  | fd => Q fd σ
theorem St.cons {st : Stmt} {rest : List Stmt} {Q : FD → Sg → Prop} (h : St c (exec st env) σ (Seq c env rest Q)) : St c (execs (st :: rest) env) σ Q :=
  fun X H s I => wpAny_execs_cons (wpAny_mono (h X H s I) (fun f s₁ ⟨H₁, fd, σ₁, l₁, I₁, r₁, q⟩ => by
    cases fd with
    | next => cases (show f = .next from r₁); exact wpAny_mono (q X H₁ s₁ I₁) (fun _ _ p => p.le l₁) fun _ _ x => x
    | brk => cases (show f = .brk from r₁); exact ⟨H₁, .brk, σ₁, l₁, I₁, rfl, q⟩
    | cont => cases (show f = .cont from r₁); exact ⟨H₁, .cont, σ₁, l₁, I₁, rfl, q⟩
    | ret d => obtain ⟨v, rfl, r⟩ := r₁; exact ⟨H₁, .ret d, σ₁, l₁, I₁, ⟨v, rfl, r⟩, q⟩) fun _ _ x => x)
theorem St.assign {x : Str} {px pos : Pos} {value : Expr} {Q : FD → Sg → Prop} (h : Ev c (eval value env) σ fun d σ₁ => ∃ σ₂, Upd σ₁ x (.d d) σ₂ ∧ Q .next σ₂)
    (hs : swapsWith value (some (.Name x px)) pos.line env = pure false := by kernel_rfl!) (hL : env.locals = c.L := by kernel_rfl!) (hk : env.scope.kind = .function := by kernel_rfl!) (hx : env.kindOf x = some .local := by kernel_rfl!) :
    St c (exec (.Assign [.Name x px] value pos) env) σ Q :=
  fun X H s I => wpAny_Assign_Name (wpAny_mono (h X H s I) (fun v s₁ ⟨H₁, d, σ₁, l₁, I₁, r₁, σ₂, hu, q⟩ => store_name I₁ hu r₁ (fun h' k I' => ⟨H₁, .next, σ₂, l₁, I', rfl, q⟩) hL hk hx) fun _ _ x => x) hs
theorem St.ret {e : Expr} {pos : Pos} {Q : FD → Sg → Prop} (h : Ev c (eval e env) σ fun d σ₁ => Q (.ret d) σ₁) : St c (exec (.Return (some e) pos) env) σ Q :=
  fun X H s I => wpAny_Return_some (wpAny_mono (h X H s I) (fun v s₁ ⟨H₁, d, σ₁, l₁, I₁, r₁, q⟩ => ⟨H₁, .ret d, σ₁, l₁, I₁, ⟨v, rfl, r₁⟩, q⟩) fun _ _ x => x)
theorem St.ite {test : Expr} {body orelse : List Stmt} {pos : Pos} {Q : FD → Sg → Prop}
    (h : Tr c (isTrue test env (eval test env)) σ fun b σ₁ => (b = true → St c (execs body env) σ₁ Q) ∧ (b = false → St c (execs orelse env) σ₁ Q)) : St c (exec (.If test body orelse pos) env) σ Q :=
  fun X H s I => wpAny_If (wpAny_mono (h X H s I) (fun b s₁ ⟨H₁, σ₁, l₁, I₁, h₁, h₂⟩ => by
    cases b with
    | true => exact wpAny_mono (h₁ rfl X H₁ s₁ I₁) (fun _ _ p => p.le l₁) fun _ _ x => x
    | false => exact wpAny_mono (h₂ rfl X H₁ s₁ I₁) (fun _ _ p => p.le l₁) fun _ _ x => x) fun _ _ x => x)
theorem St.brk {pos : Pos} {Q : FD → Sg → Prop} (q : Q .brk σ) : St c (exec (.Break pos) env) σ Q := fun _ H _ I => wpAny_Break ⟨H, .brk, σ, Le.refl _, I, rfl, q⟩

/-! ## while -/
def LoopQ (J : Sg → Prop) (Q : FD → Sg → Prop) (fd : FD) (σ : Sg) : Prop := match fd with
  | .next | .cont => J σ
  | .brk => Q .next σ
  | .ret d => Q (.ret d) σ
theorem St.while {test : Expr} {body : List Stmt} {pos : Pos} {Q : FD → Sg → Prop} (J : Nat → Sg → Prop) (n : Nat) (h0 : J n σ)
    (turn : ∀ n σ, J n σ → Tr c (isTrue test env (eval test env)) σ fun b σ₁ => (b = true → St c (execs body env) σ₁ (LoopQ (fun σ₂ => ∃ m, m < n ∧ J m σ₂) Q)) ∧ (b = false → Q .next σ₁)) :
    St c (exec (.While test body [] pos) env) σ Q := by
  intro X H s I
  refine wpAny_While (codeAny_whileLoop (fun n s' => ∃ H' σ', Le H H' ∧ Inv c X H' σ' s' ∧ J n σ') ?_ n ⟨H, σ, Le.refl _, I, h0⟩)
  rintro n s' ⟨H', σ', l', I', j⟩
  refine wpAny_nope (wpAny_mono (turn n σ' j X H' s' I') (fun b s₁ ⟨H₁, σ₁, l₁, I₁, h₁, h₂⟩ => ?_) fun _ _ x => x)
  cases b with
  | false =>
    simp only [Bool.false_eq_true, if_false]
    exact wpAny_execs_nil ⟨H₁, .next, σ₁, l'.trans l₁, I₁, rfl, h₂ rfl⟩
  | true =>
    simp only [if_true]
    refine wpAny_nope (wpAny_mono (h₁ rfl X H₁ s₁ I₁) (fun f s₂ ⟨H₂, fd, σ₂, l₂, I₂, r₂, q⟩ => ?_) fun _ _ x => x)
    have ll := (l'.trans l₁).trans l₂
    cases fd with
    | next => cases (show f = .next from r₂); obtain ⟨m, hm, q⟩ := q; exact ⟨m, hm, H₂, σ₂, ll, I₂, q⟩
    | cont => cases (show f = .cont from r₂); obtain ⟨m, hm, q⟩ := q; exact ⟨m, hm, H₂, σ₂, ll, I₂, q⟩
    | brk => cases (show f = .brk from r₂); exact ⟨H₂, .next, σ₂, ll, I₂, rfl, q⟩
    | ret d => obtain ⟨v, rfl, r⟩ := r₂; exact ⟨H₂, .ret d, σ₂, ll, I₂, ⟨v, rfl, r⟩, q⟩

end Mine

/-! Rules2 -/
namespace Mine
open PySem PySem.W PySem.Calls PyProof.Rows
variable {c : Cx} {env : Env} {σ : Sg}

/-! ## parts of a slice -/
def Part (c : Cx) (e : Option Expr) (env : Env) (σ : Sg) (Q : Option Int → Sg → Prop) : Prop :=
  ∀ X H s, Inv c X H σ s → wpAny (model c.prog c.w) c.A (evalPart e env) (fun v s' => ∃ H' i t σ', Le H H' ∧ Inv c X H' σ' s' ∧ v = partValue ((i : Option Int).map fun k => (k, t)) ∧ Q i σ') nope s
theorem Part.none {Q : Option Int → Sg → Prop} (q : Q none σ) : Part c none env σ Q := fun X H s I => wpAny_pure ⟨H, Option.none, 0, σ, Le.refl _, I, rfl, q⟩
theorem Part.some {e : Expr} {Q : Option Int → Sg → Prop} (h : Ev c (eval e env) σ fun d σ₁ => ∃ i, d = .int i ∧ Q (some i) σ₁) : Part c (some e) env σ Q :=
  fun X H s I => wpAny_mono (h X H s I) (fun v s₁ ⟨H₁, d, σ₁, l₁, I₁, r₁, i, e, q⟩ => by
    subst e; cases r₁ with | int i t => exact ⟨H₁, Option.some i, t, σ₁, l₁, I₁, rfl, q⟩) fun _ _ x => x

/-- what a slice of a text is -/
def cut (x : Str) (l u : Option Int) : Str := Txt.slice x l u
theorem sliceMade_post {x : Str} {t : Tok} {l u : Option Int} {tl tu : Tok} {s : Shared} {Q : Value → Shared → Prop} (hsz : x.length ≤ 16777216) (h : ∀ t' k, Q (.str (Txt.slice x l u) t') { s with toks := k }) :
    (sliceMade x t (l.map fun k => (k, tl)) (u.map fun k => (k, tu)) none).post Q s := by
  have hz : x.length ≤ sizeLine := by rw [sizeLine_eq]; exact hsz
  cases l <;> cases u <;> exact post_val_or_str ⟨Nat.le_trans (Txt.slice_le x _ _) hz, fun t' k => h t' k⟩

theorem Ev.sliceS {value : Expr} {lower upper : Option Expr} {p pos : Pos} {Q : D → Sg → Prop}
    (h : Ev c (eval value env) σ fun o σ₁ => ∃ x, o = .str x ∧ x.length ≤ 16777216 ∧ Part c lower env σ₁ fun l σ₂ => Part c upper env σ₂ fun u σ₃ => Q (.str (Txt.slice x l u)) σ₃) :
    Ev c (eval (.Subscript value (.Slice lower upper none p) pos) env) σ Q := by
  intro X H s I
  refine Subscript_ (wpAny_mono (h X H s I) (fun o s₁ ⟨H₁, d, σ₁, l₁, I₁, r₁, x, e, hsz, h₁⟩ => ?_) fun _ _ x => x)
  subst e
  cases r₁ with
  | str x t =>
    refine wpAny_Slice (wpAny_mono (h₁ X H₁ s₁ I₁) (fun vl s₂ ⟨H₂, l, tl, σ₂, l₂, I₂, e₂, h₂⟩ => ?_) fun _ _ x => x)
    refine wpAny_mono (h₂ X H₂ s₂ I₂) (fun vu s₃ ⟨H₃, u, tu, σ₃, l₃, I₃, e₃, q⟩ => ?_) fun _ _ x => x
    subst e₂; subst e₃
    refine wpAny_pure ?_
    refine tail_any (typeIs_str _ _ _) F.slot_str_getitem.lookup (wpAny_getItem_str_slice (l := l.map fun k => (k, tl)) (u := u.map fun k => (k, tu)) (st := Option.none) ⟨_, Heap.get?_push_size _ rfl, rfl, rfl⟩ rfl
      (sliceMade_post hsz fun t' k => ⟨H₃, _, σ₃, (l₁.trans l₂).trans l₃, I₃.push _ k, .str _ t', q⟩)) (by with_unfolding_all rfl)

theorem Ev.revS {value : Expr} {st : Expr} {p pos : Pos} {Q : D → Sg → Prop}
    (h : Ev c (eval value env) σ fun o σ₁ => ∃ x, o = .str x ∧ x.length ≤ 16777216 ∧ Ev c (eval st env) σ₁ fun d σ₂ => d = .int (-1) ∧ Q (.str ⟨x.cps.reverse⟩) σ₂) :
    Ev c (eval (.Subscript value (.Slice none none (some st) p) pos) env) σ Q := by
  intro X H s I
  refine Subscript_ (wpAny_mono (h X H s I) (fun o s₁ ⟨H₁, d, σ₁, l₁, I₁, r₁, x, e, hsz, h₁⟩ => ?_) fun _ _ x => x)
  subst e
  cases r₁ with
  | str x t =>
    refine wpAny_Slice ?_
    rw [evalPart_none]
    refine wpAny_pure (wpAny_pure ?_)
    rw [evalPart_some]
    refine wpAny_mono (h₁ X H₁ s₁ I₁) (fun vu s₃ ⟨H₃, d, σ₃, l₃, I₃, r₃, e, q⟩ => ?_) fun _ _ x => x
    subst e
    cases r₃ with
    | int i tk =>
      have hz : x.length ≤ sizeLine := by rw [sizeLine_eq]; exact hsz
      have hrev : Txt.sliceBy x none none (-1, tk) = ⟨x.cps.reverse⟩ := by
        refine Str.ext' ?_
        apply Array.ext'
        rw [step_rev_list]
        rw [Array.toList_reverse]
        apply List.ext_getElem
        · simp [Str.length]
        · intro i h1 h2
          simp only [List.getElem_map, List.getElem_range, List.getElem_reverse, Array.getElem_toList]
          have hi : x.cps.size - 1 - i < x.cps.size := by simp [Str.length] at h1; omega
          simp only [Str.length, Array.length_toList]
          rw [Array.getD_eq_getD_getElem?, Array.getElem?_eq_getElem hi]
          rfl
      refine tail_any (typeIs_str _ _ _) F.slot_str_getitem.lookup (wpAny_getItem_str_slice (l := Option.none) (u := Option.none) (st := Option.some (-1, tk)) ⟨_, Heap.get?_push_size _ rfl, rfl, rfl⟩ rfl
        (post_val_or_str ⟨Nat.le_trans (Txt.sliceBy_le x _ _ (-1, tk) (by simp)) hz, fun t' k => ?_⟩)) (by with_unfolding_all rfl)
      show Post c X H Q (.str (Txt.sliceBy x none none (-1, tk)) t') _
      rw [hrev]
      exact ⟨H₃, _, σ₃, l₁.trans l₃, I₃.push _ k, .str _ t', q⟩

/-- the first n items of a list -/
theorem Ev.takeL {value upper : Expr} {p pos : Pos} {Q : D → Sg → Prop}
    (h : Ev c (eval value env) σ fun o σ₁ => ∃ ds, o = .lst ds ∧ ds.length ≤ 16777216 ∧ Ev c (eval upper env) σ₁ fun d σ₂ => ∃ n : Nat, d = .int n ∧ Q (.lst (ds.take n)) σ₂) :
    Ev c (eval (.Subscript value (.Slice none (some upper) none p) pos) env) σ Q := by
  intro X H s I
  refine Subscript_ (wpAny_mono (h X H s I) (fun o s₁ ⟨H₁, d, σ₁, l₁, I₁, r₁, ds, e, hsz, h₁⟩ => ?_) fun _ _ x => x)
  subst e
  cases r₁ with
  | @lst a ob n₀ vs _ e1 e2 e3 rr =>
    refine wpAny_Slice ?_
    rw [evalPart_none]
    refine wpAny_pure ?_
    rw [evalPart_some]
    refine wpAny_mono (h₁ X H₁ s₁ I₁) (fun vu s₂ ⟨H₂, d, σ₂, l₂, I₂, r₂, n, e, q⟩ => ?_) fun _ _ x => x
    subst e
    refine wpAny_pure ?_
    cases r₂ with
    | int i tk =>
      obtain ⟨m₂, O₂, J₂⟩ := id I₂
      have hl : s₂.heap.IsList a vs.toArray := ⟨ob, (J₂.hH _ _ (l₂ _ _ e1)).1, e2, n₀, e3⟩
      have hz : vs.toArray.size ≤ sizeLine := by rw [sizeLine_eq, List.size_toArray, rr.length]; exact hsz
      refine tail_any (hl.push _).typeIs list_getitem_lookup (wpAny_getItem_list_slice (hl.push _) (Heap.IsSliceOf.new ..) .none (.int _ _) .none (by simp) ?_ hz) (by with_unfolding_all rfl)
      have hp : slicePick vs.toArray none (some (n : Int)) none = (vs.take n).toArray := by
        rw [slicePick_upto']
      rw [hp]
      have I₃ := I₂.push { cls := .type "slice", data := .fields #[.none, .int (n : Int) tk, .none] } s₂.toks
      obtain ⟨hle, I₄⟩ := I₃.pushH { cls := .type "list", data := .seq (vs.take n).toArray } s₂.toks
      exact ⟨_, _, σ₂, (l₁.trans l₂).trans hle, I₄, .lst (by unfold PH.set; rw [if_pos rfl]) rfl rfl (((rr.mono l₂).take n).mono hle), q⟩

theorem Ev.revL {value st : Expr} {p pos : Pos} {Q : D → Sg → Prop}
    (h : Ev c (eval value env) σ fun o σ₁ => ∃ ds, o = .lst ds ∧ ds.length ≤ 16777216 ∧ Ev c (eval st env) σ₁ fun d σ₂ => d = .int (-1) ∧ Q (.lst ds.reverse) σ₂) :
    Ev c (eval (.Subscript value (.Slice none none (some st) p) pos) env) σ Q := by
  intro X H s I
  refine Subscript_ (wpAny_mono (h X H s I) (fun o s₁ ⟨H₁, d, σ₁, l₁, I₁, r₁, ds, e, hsz, h₁⟩ => ?_) fun _ _ x => x)
  subst e
  cases r₁ with
  | @lst a ob n₀ vs _ e1 e2 e3 rr =>
    refine wpAny_Slice ?_
    rw [evalPart_none]
    refine wpAny_pure (wpAny_pure ?_)
    rw [evalPart_some]
    refine wpAny_mono (h₁ X H₁ s₁ I₁) (fun vu s₂ ⟨H₂, d, σ₂, l₂, I₂, r₂, e, q⟩ => ?_) fun _ _ x => x
    subst e
    cases r₂ with
    | int i tk =>
      obtain ⟨m₂, O₂, J₂⟩ := id I₂
      have hl : s₂.heap.IsList a vs.toArray := ⟨ob, (J₂.hH _ _ (l₂ _ _ e1)).1, e2, n₀, e3⟩
      have hz : vs.toArray.size ≤ sizeLine := by rw [sizeLine_eq, List.size_toArray, rr.length]; exact hsz
      refine tail_any (hl.push _).typeIs list_getitem_lookup (wpAny_getItem_list_slice (hl.push _) (Heap.IsSliceOf.new ..) .none .none (.int _ _) (by simp) ?_ hz) (by with_unfolding_all rfl)
      rw [krv_pick]
      have I₃ := I₂.push { cls := .type "slice", data := .fields #[.none, .none, .int (-1) tk] } s₂.toks
      obtain ⟨hle, I₄⟩ := I₃.pushH { cls := .type "list", data := .seq vs.reverse.toArray } s₂.toks
      exact ⟨_, _, σ₂, (l₁.trans l₂).trans hle, I₄, .lst (by unfold PH.set; rw [if_pos rfl]) rfl rfl (((rr.mono l₂).reverse).mono hle), q⟩

/-! ## items -/
inductive Item : D → D → D → Prop
  | str {x : Str} {i : Int} (h1 : -(x.length : Int) ≤ i) (h2 : i < x.length) (h3 : x.length ≤ 16777216) : Item (.str x) (.int i) (.str (Txt.item x i))
  | tup {ds : List D} {i : Int} {d : D} (h1 : 0 ≤ i) (h2 : i < 4611686018427387904) (h3 : ds[i.toNat]? = some d) : Item (.tup ds) (.int i) d
theorem Ev.item {value slice : Expr} {pos : Pos} {Q : D → Sg → Prop}
    (h : Ev c (eval value env) σ fun o σ₁ => Ev c (eval slice env) σ₁ fun i σ₂ => ∃ d, Item o i d ∧ Q d σ₂)
    (hs : ∀ o i, subscripted slice false o i = operate [o, i] (getItem o i) := by intros; kernel_rfl!) : Ev c (eval (.Subscript value slice pos) env) σ Q := by
  intro X H s I
  refine Subscript_ (wpAny_mono (h X H s I) (fun o s₁ ⟨H₁, d, σ₁, l₁, I₁, r₁, h₁⟩ => ?_) fun _ _ x => x)
  refine wpAny_mono (h₁ X H₁ s₁ I₁) (fun i s₂ ⟨H₂, d₂, σ₂, l₂, I₂, r₂, d, it, q⟩ => ?_) fun _ _ x => x
  cases it with
  | str h1 h2 h3 =>
    cases r₁ with
    | str x t =>
      cases r₂ with
      | int i u =>
        obtain ⟨T, id, hl, hT, hg⟩ := SBL.item (prog := c.prog) (w := c.w) (A := c.A) (E := nope) (s := s₂) (t := t) (u := u) (Q := Post c X H Q) h1 h2 (by omega) (fun _ => ⟨H₂, _, σ₂, l₁.trans l₂, I₂.toks _, .str _ _, q⟩)
        exact tail_any hT hl hg (hs _ _)
  | @tup ds i d h1 h2 h3 =>
    cases r₂ with
    | int _ u =>
      cases r₁ with
      | @tup a ob n vs ds e1 e2 e3 rr =>
        obtain ⟨m₂, O₂, J₂⟩ := id I₂
        obtain ⟨v, hv, rv⟩ := rr.get h3
        have hlen : i.toNat < vs.length := (List.getElem?_eq_some_iff.mp hv).1
        have ht : IsTup s₂.heap a vs.toArray := ⟨ob, (J₂.hH _ _ (l₂ _ _ e1)).1, e2, n, e3⟩
        have hj : seqIndex? i vs.length = some i.toNat := by
          unfold seqIndex?
          have h0 : ¬ (i < 0) := by omega
          simp only [h0, if_false]
          rw [if_pos]
          simp only [Bool.and_eq_true, decide_eq_true_eq]
          omega
        exact item_tupleT ht (by omega) (by omega) hj hv ⟨H₂, d, σ₂, l₁.trans l₂, I₂, rv.mono (l₂), q⟩ (hs _ _)

end Mine

/-! Rules3 -/
namespace Mine
open PySem PySem.W PySem.Calls PyProof.Rows
variable {c : Cx} {env : Env} {σ : Sg}

theorem Inv.kIn {X H : PH} {s : Shared} (ok : c.Ok) (I : Inv c X H σ s) : c.K.In s.heap := let ⟨_, _, I⟩ := I; ok.kIn.keeps I.fr.keep
theorem Inv.top {X H : PH} {s : Shared} (ok : c.Ok) (I : Inv c X H σ s) : ∃ p loose mg mb, TopRead p loose mg mb s.heap :=
  let ⟨_, _, I⟩ := I; let ⟨p, l, mg, mb, T⟩ := ok.top; ⟨p, l, mg, mb, T.keeps I.fr.keep⟩
theorem Inv.inHeap {X H : PH} {s : Shared} (I : Inv c X H σ s) : ∀ a o, H a = some o → s.heap.get? a = some o := let ⟨_, _, I⟩ := I; fun a o e => (I.hH a o e).1

/-- a def of the text at its global name -/
structure Fn (K : Frag) (x : Str) (f : Addr) : Prop where
  name : nsIn K mainGlobals x = some (some (.ref f))
  isF : ∃ o fd, K.lookup f = some o ∧ o.data = .func fd

/-- what a call gives back: nothing that stood is turned, the answer is a datum of q -/
def Back (P : Params) (Hc : PH) (s : Shared) (q : D → Prop) (v : Value) (s' : Shared) : Prop :=
  ∃ H' d, Le Hc H' ∧ (∀ b o, s.heap.get? b = some o → s'.heap.get? b = some o) ∧ (∀ a o, H' a = some o → s'.heap.get? a = some o) ∧ (∀ a o, H' a = some o → Hc a = some o ∨ s.heap.get? a = none) ∧ R P H' v d ∧ q d ∧ s'.os = s.os ∧ s'.gens = s.gens
def CallOk (prog : Program) (w : World) (K : Frag) (n : Nat) (f : Addr) (ds : List D) (q : D → Prop) : Prop :=
  ∀ (A : Around) (s : Shared) (Hc : PH) (vs : List Value), Amb n A → K.In s.heap → (∃ p loose mg mb, TopRead p loose mg mb s.heap) → (∀ a o, Hc a = some o → s.heap.get? a = some o) → RAll w.params Hc vs ds →
    wpAny (model prog w) A (call (.ref f) vs) (Back w.params Hc s q) nope s

theorem Inv.back {X H : PH} {s s' : Shared} {q : D → Prop} {v : Value} {Q : D → Sg → Prop} (I : Inv c X H σ s) (b : Back c.w.params H s q v s') (h : ∀ d, q d → Q d σ) : Post c X H Q v s' := by
  obtain ⟨H', d, l, hk, hin, hnew, r, hq, ho, hg⟩ := b
  obtain ⟨m, O, I⟩ := I
  exact ⟨H', d, σ, l, ⟨m, O, I.grow hk l hin hnew ho hg⟩, r, h d hq⟩

theorem Amb.le {n m : Nat} {A : Around} (a : Amb n A) (h : m ≤ n) : Amb m A := ⟨a.hh, by have := a.depth; omega, by have := a.units; omega⟩

theorem nameG {x : Str} {pos : Pos} {v : Value} {X H : PH} {s : Shared} {Q : Value → Shared → Prop} {E : Value → Shared → Prop} (ok : c.Ok) (I : Inv c X H σ s) (e : nsIn c.K mainGlobals x = some (some v)) (h : Q v s)
    (hk : env.scope.kind = .function) (hx : env.kindOf x = some .globalImplicit) (hg : env.globals = mainGlobals) (hd : (x == ("__debug__" : Str)) = false) :
    wpAny (model c.prog c.w) c.A (eval (.Name x pos) env) Q E s := by
  obtain ⟨p, l, mg, mb, T⟩ := I.top ok
  exact Name_function_global hk hx (loadGlobal_global (hg ▸ T.g) (mg_of (I.kIn ok) T.g e) h) hd
theorem nameB {x : Str} {pos : Pos} {v : Value} {X H : PH} {s : Shared} {Q : Value → Shared → Prop} {E : Value → Shared → Prop} (ok : c.Ok) (I : Inv c X H σ s) (e : nsIn c.K mainGlobals x = some none) (hv : bootBuiltins x = some v) (hn : x ≠ "__name__") (h : Q v s)
    (hk : env.scope.kind = .function) (hx : env.kindOf x = some .globalImplicit) (hg : env.globals = mainGlobals) (hb : env.builtins = builtinsNs) (hd : (x == ("__debug__" : Str)) = false) :
    wpAny (model c.prog c.w) c.A (eval (.Name x pos) env) Q E s := by
  obtain ⟨p, l, mg, mb, T⟩ := I.top ok
  exact Name_function_global hk hx (loadGlobal_builtin (hg ▸ T.g) (mg_none_of (I.kIn ok) T.g e) (hb ▸ T.b) ((T.builtins x hn).trans hv) h) hd

theorem Ev.call {x : Str} {np pos : Pos} {f : Addr} {e : Expr} {rest : List Expr} {Q : D → Sg → Prop} (ok : c.Ok) (F : Fn c.K x f)
    (h : EvL c (spliced (backTo pos (starEach (e :: rest) env))) σ fun ds σ₁ => ∃ q n, CallOk c.prog c.w c.K n f ds q ∧ n ≤ c.lev ∧ ∀ d, q d → Q d σ₁)
    (hk : env.scope.kind = .function := by kernel_rfl!) (hx : env.kindOf x = some .globalImplicit := by kernel_rfl!) (hg : env.globals = mainGlobals := by kernel_rfl!) (hd : (x == ("__debug__" : Str)) = false := by decide)
    (he : starEach (e :: rest) env = (false, eval e env) :: starEach rest env := by kernel_rfl!) :
    Ev c (eval (.Call (.Name x np) (e :: rest) [] pos) env) σ Q := by
  intro X H s I
  obtain ⟨o, fd, hl, hdat⟩ := F.isF
  refine Call_Name rfl (nameG ok I F.name ?_ hk hx hg hd)
  refine callWith_def_at (h' := s.heap) (I.kIn ok _ _ hl) hdat ?_ he
  refine wpAny_mono (h X H s I) (fun vs s₁ ⟨H₁, ds, σ₁, l₁, I₁, r₁, q, n, C, hn, hq⟩ => ⟨I₁.kIn ok _ _ hl, ?_⟩) fun _ _ x => x
  exact wpAny_mono (C c.A s₁ H₁ vs (ok.amb.le hn) (I₁.kIn ok) (I₁.top ok) I₁.inHeap r₁) (fun v s₂ b => (I₁.back b hq).le l₁) fun _ _ x => x

theorem lookup_of_mem {l : List (Str × Value)} (hn : (l.map (·.1)).Nodup) {x : Str} {v : Value} (h : (x, v) ∈ l) : l.lookup x = some v := by
  induction l with
  | nil => cases h
  | cons p l ih =>
    obtain ⟨y, u⟩ := p
    rw [List.map_cons, List.nodup_cons] at hn
    rw [List.lookup_cons]
    rcases List.mem_cons.mp h with e | h
    · cases e; simp
    · have hx : x ∈ l.map (·.1) := List.mem_map_of_mem (f := Prod.fst) h
      have : x ≠ y := fun e => hn.1 (e ▸ hx)
      rw [show (x == y) = false from beq_eq_false_iff_ne.mpr this]
      exact ih hn.2 h

def startS (ps : List Str) (ds : List D) (others : List Str) : Sg := (ps.zip ds).map (fun p => (p.1, LV.d p.2)) ++ others.map fun x => (x, LV.unb)
theorem startS_keys {ps : List Str} {ds : List D} {others : List Str} (h : ps.length = ds.length) : (startS ps ds others).map (·.1) = ps ++ others := by
  unfold startS
  rw [List.map_append, List.map_map, List.map_map]
  congr 1
  · show (ps.zip ds).map Prod.fst = ps
    rw [List.map_fst_zip]; omega
  · show others.map id = others; simp
theorem startS_holds {P : Params} {H : PH} {ps others : List Str} {ds : List D} {vs : List Value} (hn : ps.Nodup) (hl : ps.length = ds.length) (r : RAll P H vs ds) :
    ∀ p ∈ startS ps ds others, p.2 = .unb ∨ ∃ d v, p.2 = .d d ∧ (ps.zip vs).reverse.lookup p.1 = some v ∧ R P H v d := by
  intro p hp
  rcases List.mem_append.mp hp with hp | hp
  · obtain ⟨⟨x, d⟩, hm, rfl⟩ := List.mem_map.mp hp
    right
    obtain ⟨i, hi, e⟩ := List.mem_iff_getElem.mp hm
    rw [List.getElem_zip] at e
    have hi1 : i < ps.length := by simp at hi; omega
    have hi2 : i < ds.length := by simp at hi; omega
    obtain ⟨v, hv, rv⟩ := r.get (k := i) (d := ds[i]) (List.getElem?_eq_getElem hi2)
    obtain ⟨hv1, hv2⟩ := List.getElem?_eq_some_iff.mp hv
    cases e
    refine ⟨_, v, rfl, ?_, rv⟩
    apply lookup_of_mem
    · rw [List.map_reverse]
      rw [List.Perm.nodup_iff (List.reverse_perm _), List.map_fst_zip]
      · exact hn
      · rw [r.length]; omega
    · rw [List.mem_reverse]
      refine List.mem_iff_getElem.mpr ⟨i, by simp; omega, ?_⟩
      rw [List.getElem_zip, hv2]
  · obtain ⟨x, _, rfl⟩ := List.mem_map.mp hp
    exact .inl rfl

def RetQ (q : D → Prop) (fd : FD) (_ : Sg) : Prop := match fd with
  | .ret d => q d
  | .next => q .none
  | _ => False

theorem CallOk.enter {prog : Program} {w : World} {K : Frag} {n : Nat} {f : Addr} {ds : List D} {q : D → Prop} {name qual : Str} {params : Arguments} {body : List Stmt} {scope : Scope} {dV kV doc pm cdv ct oc : Value} {an od : Option Addr} {osl : Array (Option Value)}
    (ps others : List Str) (hK : K.lookup f = some ⟨oc, od, .func (fnX name qual params body scope [] dV kV doc pm an cdv ct), osl⟩) (hcd : codeIn K cdv qual = true)
    (hbind : ∀ s vs, vs.length = ds.length → BindsTo s (fnX name qual params body scope [] dV kV doc pm an cdv ct) ⟨vs, []⟩ (ps.zip vs))
    (hps : ps.length = ds.length) (hnd : (ps ++ others).Nodup) (hloc : ∀ x ∈ ps, scope.names.lookup x = some .local) (hcell : ∀ x ∈ scope.names, x.2 ≠ .cell)
    (h : ∀ s₀ H₀ L A, (Cx.mk prog w K s₀ H₀ L A n).Ok → St ⟨prog, w, K, s₀, H₀, L, A, n⟩ (execs body (envX qual scope L f cdv [])) (startS ps ds others) (RetQ q))
    (hco : scope.isCoroutine = false := by kernel_rfl!) (hgen : scope.isGenerator = false := by kernel_rfl!) (hk : scope.kind = .function := by kernel_rfl!) : CallOk prog w K (n + 1) f ds q := by
  intro A s Hc vs amb kin top hH hvs
  have hlim : s.heap.NoLimit := let ⟨_, _, _, _, T⟩ := top; T.nolimit
  refine wpAny_call (codeAny_call_def (fd := fnX name qual params body scope [] dV kV doc pm an cdv ct) (body := body) (binds := ps.zip vs) (by have := amb.depth; omega) (kin _ _ hK) rfl hlim (codeRec_of kin hcd) rfl (hbind s vs hvs.length) hcell
    (fun x hx => hloc x.1 (List.of_mem_zip hx).1) (fun h₁ hns hk₁ => ?_) hco hgen hk)
  let c' : Cx := ⟨prog, w, K, s, Hc, s.heap.objs.size, A.deeper (envX qual scope s.heap.objs.size f cdv []), n⟩
  have ok : c'.Ok := ⟨kin, top, ⟨amb.hh, by show A.depth + 1 + n < recursionLimit; have := amb.depth; omega, by show A.units + 3 + 8 * n + 80 < cLine; have := amb.units; omega⟩, hH⟩
  have I₀ : Inv c' (fun _ => none) Hc (startS ps ds others) { s with heap := h₁, toks := s.toks + (ps.zip vs).length } := by
    refine ⟨_, fun _ => none, ⟨hns, hk₁, Nat.le_refl _⟩, fun a o e => ⟨hk₁ _ _ (hH _ _ e), fun z => ?_, rfl⟩, (fun _ _ e => nomatch e), (fun _ _ e => nomatch e), fun _ _ e => .inl e, ?_, fun p hp => ?_, rfl, rfl⟩
    · have := Heap.lt_size (hH _ _ e); rw [z] at this; exact absurd this (Nat.lt_irrefl _)
    · rw [startS_keys hps]; exact hnd
    · rcases startS_holds (others := others) (List.nodup_append.mp hnd).1 hps hvs p hp with e | ⟨d, v, e, hl, r⟩
      · rw [e]; trivial
      · rw [e]; exact ⟨v, hl, r⟩
  refine wpAny_nope (wpAny_mono (h s Hc s.heap.objs.size _ ok _ Hc _ I₀) (fun fl s' ⟨H', fd, σ', l', I', r', q'⟩ => ?_) fun _ _ x => x)
  obtain ⟨m, O, I'⟩ := I'
  cases fd with
  | ret d =>
    obtain ⟨v, rfl, r⟩ := r'
    exact ⟨H', d, l', I'.fr.keep, fun a o e => (I'.hH a o e).1, I'.new, r, q', I'.os, I'.gens⟩
  | next =>
    cases (show fl = .next from r')
    exact ⟨H', .none, l', I'.fr.keep, fun a o e => (I'.hH a o e).1, I'.new, .none, q', I'.os, I'.gens⟩
  | brk => exact q'.elim
  | cont => exact q'.elim

/-! ## methods of texts, len -/
theorem Ev.len {x : Str} {np pos : Pos} {e : Expr} {Q : D → Sg → Prop} (ok : c.Ok) (hn : nsIn c.K mainGlobals x = some none) (hb : bootBuiltins x = some (.builtin "len"))
    (h : Ev c (eval e env) σ fun d σ₁ => ∃ y, d = .str y ∧ y.length ≤ 16777216 ∧ Q (.int y.length) σ₁)
    (hne : x ≠ "__name__" := by decide) (hk : env.scope.kind = .function := by kernel_rfl!) (hx : env.kindOf x = some .globalImplicit := by kernel_rfl!) (hg : env.globals = mainGlobals := by kernel_rfl!) (hbi : env.builtins = builtinsNs := by kernel_rfl!) (hd : (x == ("__debug__" : Str)) = false := by decide)
    (he : starEach [e] env = (false, eval e env) :: starEach [] env := by kernel_rfl!) :
    Ev c (eval (.Call (.Name x np) [e] [] pos) env) σ Q := by
  intro X H s I
  refine Call_Name rfl (nameB ok I hn hb hne ?_ hk hx hg hbi hd)
  refine PyProof.Rows.callWith_builtin1 ?_ he
  refine wpAny_items_cons (wpAny_mono (h X H s I) (fun v s₁ ⟨H₁, d, σ₁, l₁, I₁, r₁, y, e, hy, q⟩ => wpAny_items_nil ?_) fun _ _ x => x) he
  subst e
  cases r₁ with
  | str y t => exact SBL.len (by omega) ⟨H₁, _, σ₁, l₁, I₁.toks _, .int _ _, q⟩

def CallForm (o : Expr) (name : Str) (apos pos : Pos) (args : List Expr) (env : Env) : Prop :=
  ∃ pl : Sem Bool, eval (.Call (.Attribute o name apos) args [] pos) env = (do
      let ov ← eval o env
      standAt apos.atName
      let (f, first) ← holding [ov] (getMethod ov name pl)
      callWith pos f first (backTo pos (starEach args env)) [])

theorem Ev.lower {o : Expr} {apos pos : Pos} {Q : D → Sg → Prop} (h : Ev c (eval o env) σ fun d σ₁ => ∃ x, d = .str x ∧ x.length ≤ 5592405 ∧ Q (.str (Txt.lower x)) σ₁)
    (hf : CallForm o "lower" apos pos [] env := by with_unfolding_all exact ⟨_, rfl⟩) : Ev c (eval (.Call (.Attribute o "lower" apos) [] [] pos) env) σ Q := by
  intro X H s I
  obtain ⟨pl, he⟩ := hf
  refine MethodCall_ (pl := pl) (wpAny_mono (h X H s I) (fun v s₁ ⟨H₁, d, σ₁, l₁, I₁, r₁, x, e, hx, q⟩ => ?_) fun _ _ x => x) he
  subst e
  cases r₁ with
  | str x t =>
    with_reducible refine GM.lower ?_
    dsimp only
    with_reducible refine callWith_method0 ?_
    exact SCL.lower hx fun _ => ⟨H₁, _, σ₁, l₁, I₁.toks _, .str _ _, q⟩

theorem Ev.find {o e : Expr} {apos pos : Pos} {Q : D → Sg → Prop}
    (h : Ev c (eval o env) σ fun d σ₁ => ∃ x, d = .str x ∧ Ev c (eval e env) σ₁ fun d' σ₂ => ∃ y, d' = .str y ∧ Q (.int (Txt.find x y)) σ₂)
    (hf : CallForm o "find" apos pos [e] env := by with_unfolding_all exact ⟨_, rfl⟩) (he : starEach [e] env = (false, eval e env) :: starEach [] env := by kernel_rfl!) : Ev c (eval (.Call (.Attribute o "find" apos) [e] [] pos) env) σ Q := by
  intro X H s I
  obtain ⟨pl, hf⟩ := hf
  refine MethodCall_ (pl := pl) (wpAny_mono (h X H s I) (fun v s₁ ⟨H₁, d, σ₁, l₁, I₁, r₁, x, e', h₁⟩ => ?_) fun _ _ x => x) hf
  subst e'
  cases r₁ with
  | str x t =>
    with_reducible refine GM.find ?_
    dsimp only
    have hp : (backTo pos (starEach [] env)).any (·.1) = false := rfl
    with_reducible refine callWith_method1 ?_ he hp
    refine wpAny_items_cons (wpAny_mono (h₁ X H₁ s₁ I₁) (fun v s₂ ⟨H₂, d, σ₂, l₂, I₂, r₂, y, e', q⟩ => wpAny_items_nil ?_) fun _ _ x => x) he
    subst e'
    cases r₂ with
    | str y u => exact SC.find ⟨H₂, _, σ₂, l₁.trans l₂, I₂.toks _, .int _ _, q⟩

theorem Ev.count {o e : Expr} {apos pos : Pos} {Q : D → Sg → Prop}
    (h : Ev c (eval o env) σ fun d σ₁ => ∃ x, d = .str x ∧ Ev c (eval e env) σ₁ fun d' σ₂ => ∃ y, d' = .str y ∧ Q (.int (Txt.count x y)) σ₂)
    (hf : CallForm o "count" apos pos [e] env := by with_unfolding_all exact ⟨_, rfl⟩) (he : starEach [e] env = (false, eval e env) :: starEach [] env := by kernel_rfl!) : Ev c (eval (.Call (.Attribute o "count" apos) [e] [] pos) env) σ Q := by
  intro X H s I
  obtain ⟨pl, hf⟩ := hf
  refine MethodCall_ (pl := pl) (wpAny_mono (h X H s I) (fun v s₁ ⟨H₁, d, σ₁, l₁, I₁, r₁, x, e', h₁⟩ => ?_) fun _ _ x => x) hf
  subst e'
  cases r₁ with
  | str x t =>
    with_reducible refine GM.count ?_
    dsimp only
    have hp : (backTo pos (starEach [] env)).any (·.1) = false := rfl
    with_reducible refine callWith_method1 ?_ he hp
    refine wpAny_items_cons (wpAny_mono (h₁ X H₁ s₁ I₁) (fun v s₂ ⟨H₂, d, σ₂, l₂, I₂, r₂, y, e', q⟩ => wpAny_items_nil ?_) fun _ _ x => x) he
    subst e'
    cases r₂ with
    | str y u => exact SC.count ⟨H₂, _, σ₂, l₁.trans l₂, I₂.toks _, .int _ _, q⟩

end Mine

/-! Rules4 -/
namespace Mine
open PySem PySem.W PySem.Calls PyProof.Rows
variable {c : Cx} {env : Env} {σ : Sg}

/-! ## for -/
theorem InvAt.turnX {X H : PH} {I : Addr} {o o' : Obj} {s : Shared} {h' : Heap} {tk : Nat} {m : Str → Option Value} {O : Addr → Option Str} (J : InvAt c (X.set I o) H σ s m O) (hI : c.s₀.heap.get? I = none)
    (hk : ∀ b o, b ≠ I → s.heap.get? b = some o → h'.get? b = some o) (ho : h'.get? I = some o') : InvAt c (X.set I o') H σ { s with heap := h', toks := tk } m O := by
  obtain ⟨p1, p2, p3, p4⟩ := J.hX I o (by unfold PH.set; rw [if_pos rfl])
  have kH : ∀ a o, H a = some o → a ≠ I := fun a o e z => by rw [z, p4] at e; cases e
  have kO : ∀ a x, O a = some x → a ≠ I := fun a o e z => by rw [z, p3] at e; cases e
  refine ⟨⟨J.fr.ns.at' fun o e => hk _ _ (fun z => p2 z.symm) e, fun b o e => hk _ _ (fun z => by rw [z, hI] at e; cases e) (J.fr.keep b o e), J.fr.above⟩, fun a o e => ?_, fun a o e => ?_, fun a x e => ?_, J.new, J.nodup, fun p hp => ?_, J.os, J.gens⟩
  · obtain ⟨q1, q2⟩ := J.hH a o e; exact ⟨hk _ _ (kH a o e) q1, q2⟩
  · unfold PH.set at e
    split at e
    · rename_i z; cases e; subst z; exact ⟨ho, p2, p3, p4⟩
    · rename_i z
      obtain ⟨q1, q2⟩ := J.hX a o (by unfold PH.set; rw [if_neg z]; exact e)
      exact ⟨hk _ _ z q1, q2⟩
  · obtain ⟨q1, ⟨o, q2⟩, q3⟩ := J.hO a x e; exact ⟨q1, ⟨o, hk _ _ (kO a x e) q2⟩, q3⟩
  · have hq := J.holds p hp
    obtain ⟨y, l⟩ := p
    cases l with
    | unb => trivial
    | d d => exact hq
    | own a d =>
      obtain ⟨e, eo, q⟩ := hq
      refine ⟨e, eo, ?_⟩
      cases d with
      | lst ds => obtain ⟨vs, n, q1, q2⟩ := q; exact ⟨vs, n, hk _ _ (kO _ _ eo) q1, q2⟩
      | hdr kvs =>
        obtain ⟨dx, l, ⟨t, vs, n, q1, q2, q3, q4⟩, o2, o3, r⟩ := q
        exact ⟨dx, l, ⟨t, vs, n, hk _ _ (kO _ _ eo) q1, hk _ _ (kO _ _ o2) q2, hk _ _ (kO _ _ o3) q3, q4⟩, o2, o3, r⟩
      | dct kvs =>
        obtain ⟨vs, ⟨ob, es, ep, q1, q2⟩, q3⟩ := q
        exact ⟨vs, ⟨ob, es, ep, hk _ _ (kO _ _ eo) q1, q2⟩, q3⟩
      | _ => exact q.elim
theorem InvAt.addX {X H : PH} {o : Obj} {s : Shared} {tk : Nat} {m : Str → Option Value} {O : Addr → Option Str} (J : InvAt c X H σ s m O) (hf : o.isFreed = false := by kernel_rfl!) :
    InvAt c (X.set s.heap.objs.size o) H σ { s with heap := s.heap.push o, toks := tk } m O ∧ c.s₀.heap.get? s.heap.objs.size = none := by
  have hno : s.heap.get? s.heap.objs.size = none := by
    cases hz : s.heap.get? s.heap.objs.size with
    | none => rfl
    | some o' => exact absurd (Heap.lt_size hz) (Nat.lt_irrefl _)
  have hs0 : c.s₀.heap.get? s.heap.objs.size = none := by
    cases hz : c.s₀.heap.get? s.heap.objs.size with
    | none => rfl
    | some o' => rw [J.fr.keep _ _ hz] at hno; cases hno
  have K := J.keep (s' := { s with heap := s.heap.push o, toks := tk }) (fun _ _ e => Heap.get?_push_of_some _ e) rfl rfl
  refine ⟨⟨K.fr, K.hH, fun a o' e => ?_, K.hO, K.new, K.nodup, K.holds, K.os, K.gens⟩, hs0⟩
  unfold PH.set at e
  split at e
  · rename_i z; cases e; subst z
    refine ⟨Heap.get?_push_size _ hf, fun z => ?_, ?_, ?_⟩
    · obtain ⟨oL, _, _, hL, _⟩ := J.fr.ns
      rw [← z, hno] at hL; cases hL
    · cases hz : O s.heap.objs.size with
      | none => rfl
      | some x => obtain ⟨_, ⟨o', z⟩, _⟩ := J.hO _ x hz; rw [z] at hno; cases hno
    · cases hz : H s.heap.objs.size with
      | none => rfl
      | some o' => rw [(J.hH _ _ hz).1] at hno; cases hno
  · exact K.hX a o' e
theorem InvAt.dropX {X H : PH} {I : Addr} {o : Obj} {s : Shared} {m : Str → Option Value} {O : Addr → Option Str} (J : InvAt c (X.set I o) H σ s m O) (hX : X I = none) : InvAt c X H σ s m O :=
  ⟨J.fr, J.hH, fun a o' e => J.hX a o' (by unfold PH.set; rw [if_neg (fun z => by rw [z, hX] at e; cases e)]; exact e), J.hO, J.new, J.nodup, J.holds, J.os, J.gens⟩

theorem letGo_listiter {prog : Program} {w : World} {A : Around} {E : Value → Shared → Prop} {s : Shared} {target : Expr} {I l : Addr} {i : Nat} {v : Value} {Q : Unit → Shared → Prop} (h : s.heap.IsListIter I l i) (q : Q () s) :
    wpAny (model prog w) A (letOwnedTupleGo target (.ref I) v) Q E s := by
  cases target with
  | Tuple elts k pos =>
    cases v with
    | ref T => exact wpAny_letOwnedTupleGo_listiter h q
    | _ => exact wpAny_pure q
  | List elts pos =>
    cases v with
    | ref T => exact wpAny_letOwnedTupleGo_listiter (elts := elts) (x1 := 0) (pos := pos) h q
    | _ => exact wpAny_pure q
  | _ => exact wpAny_pure q
/-- the heart of a for: an iterator that walks the data -/
theorem loop_core {target : Expr} {body : List Stmt} {X H₀ : PH} {I : Addr} {fp : List Addr} {ds : List D} {P : Nat → Value → Prop} {W : Nat → Heap → Prop} {Q : FD → Sg → Prop} {s : Shared} {o : Obj} (J : Nat → Sg → Prop)
    (hW : Walks c.prog c.w c.A I fp [I] ds.length P W) (hP : ∀ i v, i < ds.length → P i v → ∃ d, ds[i]? = some d ∧ R c.w.params H₀ v d) (hfp : ∀ b ∈ fp, b = I ∨ ∃ o, H₀ b = some o) (hWI : ∀ i h, W i h → ∃ o, h.get? I = some o)
    (hX : X I = none) (hI : c.s₀.heap.get? I = none) (h0 : W 0 s.heap) (inv : Inv c (X.set I o) H₀ σ s) (j0 : J 0 σ)
    (turn : ∀ i d σ₂, ds[i]? = some d → J i σ₂ → As c (PySem.assign target env) σ₂ d fun σ₃ => St c (execs body env) σ₃ (LoopQ (J (i + 1)) Q)) (done : ∀ σ₂, J ds.length σ₂ → Q .next σ₂)
    (ht : ∀ (v : Value) (s : Shared) (i : Nat) (Q : Unit → Shared → Prop) (E : Value → Shared → Prop), W i s.heap → Q () s → wpAny (model c.prog c.w) c.A (letOwnedTupleGo target (.ref I) v) Q E s) {E : Value → Shared → Prop} :
    codeAny (model c.prog c.w) c.A (.forLoop target (.ref I) body [] env) (fun r s' => match r with | .ok f => PostF c X H₀ Q f s' | .error e => cameBackBy (model c.prog c.w) c.A env E e s') s := by
  refine codeAny_forLoop_any (fun k s' => ∃ i σ' H' o, k = ds.length + 1 - i ∧ i ≤ ds.length ∧ Le H₀ H' ∧ Inv c (X.set I o) H' σ' s' ∧ W i s'.heap ∧ J i σ') ?_ (ds.length + 1) ⟨0, σ, H₀, o, rfl, Nat.zero_le _, Le.refl _, inv, h0, j0⟩
  rintro k s' ⟨i, σ', H', o, rfl, hi, hl, ⟨m, O, inv'⟩, hw, j⟩
  by_cases hlt : i < ds.length
  · refine hW.item i s' _ _ hlt hw fun v h' tk hp hw' hk => ?_
    obtain ⟨o', ho'⟩ := hWI _ _ hw'
    have inv₁ := inv'.turnX (tk := tk) hI (fun b o ne e => hk b o (by simpa using ne) e) ho'
    obtain ⟨d, hd, r⟩ := hP i v hlt hp
    refine ht v _ (i + 1) _ _ hw' ?_
    refine wpAny_nope (wpAny_mono (turn i d σ' hd j (X.set I o') H' _ v ⟨m, O, inv₁⟩ (r.mono hl)) (fun _ s₂ ⟨H₂, σ₂, l₂, I₂, b⟩ => ?_) fun _ _ x => x)
    refine wpAny_nope (wpAny_mono (b (X.set I o') H₂ s₂ I₂) (fun f s₃ ⟨H₃, fd, σ₃, l₃, I₃, r₃, q⟩ => ?_) fun _ _ x => x)
    have ll := (hl.trans l₂).trans l₃
    have hw₃ : W (i + 1) s₃.heap := by
      refine hW.frame _ _ _ hw' fun b hb ob e => ?_
      obtain ⟨m₃, O₃, I₃⟩ := I₃
      rcases hfp b hb with rfl | ⟨ob', hb'⟩
      · have e' : o' = ob := by
          have e2 : h'.get? b = some ob := e
          rw [ho'] at e2; exact Option.some.inj e2
        exact (I₃.hX b ob (by unfold PH.set; rw [if_pos rfl, e'])).1
      · have e1 := (inv₁.hH b ob' (hl _ _ hb')).1
        have e2 : h'.get? b = some ob := e
        have : ob' = ob := by
          have e1' : h'.get? b = some ob' := e1
          rw [e2] at e1'; exact (Option.some.inj e1').symm
        exact this ▸ (I₃.hH b ob' (ll _ _ hb')).1
    have fin : ∀ σ₃, Inv c (X.set I o') H₃ σ₃ s₃ → Inv c X H₃ σ₃ s₃ := fun σ₃ ⟨m, O, z⟩ => ⟨m, O, z.dropX hX⟩
    cases fd with
    | next => cases (show f = .next from r₃); exact ⟨ds.length + 1 - (i + 1), by omega, i + 1, σ₃, H₃, o', rfl, hlt, ll, I₃, hw₃, q⟩
    | cont => cases (show f = .cont from r₃); exact ⟨ds.length + 1 - (i + 1), by omega, i + 1, σ₃, H₃, o', rfl, hlt, ll, I₃, hw₃, q⟩
    | brk => cases (show f = .brk from r₃); exact ⟨H₃, .next, σ₃, ll, fin _ I₃, rfl, q⟩
    | ret d => obtain ⟨v, rfl, r⟩ := r₃; exact ⟨H₃, .ret d, σ₃, ll, fin _ I₃, ⟨v, rfl, r⟩, q⟩
  · have e : i = ds.length := by omega
    subst e
    refine hW.done s' _ _ hw fun h' tk hk => wpAny_execs_nil ?_
    refine ⟨H', .next, σ', hl, ⟨m, O, ?_⟩, rfl, done _ j⟩
    obtain ⟨p1, p2, p3, p4⟩ := inv'.hX I o (by unfold PH.set; rw [if_pos rfl])
    have kH : ∀ a o, H' a = some o → a ≠ I := fun a o e z => by rw [z, p4] at e; cases e
    have kO : ∀ a x, O a = some x → a ≠ I := fun a o e z => by rw [z, p3] at e; cases e
    have hk' : ∀ b o, b ≠ I → s'.heap.get? b = some o → h'.get? b = some o := fun b o ne e => hk b o (by simpa using ne) e
    have D := inv'.dropX hX
    refine ⟨⟨D.fr.ns.at' fun o e => hk' _ _ (fun z => p2 z.symm) e, fun b o e => hk' _ _ (fun z => by rw [z, hI] at e; cases e) (D.fr.keep b o e), D.fr.above⟩, fun a o e => ?_, fun a o e => ?_, fun a x e => ?_, D.new, D.nodup, fun p hp => ?_, D.os, D.gens⟩
    · obtain ⟨q1, q2⟩ := D.hH a o e; exact ⟨hk' _ _ (kH a o e) q1, q2⟩
    · obtain ⟨q1, q2⟩ := D.hX a o e; exact ⟨hk' _ _ (fun z => by rw [z, hX] at e; cases e) q1, q2⟩
    · obtain ⟨q1, ⟨o, q2⟩, q3⟩ := D.hO a x e; exact ⟨q1, ⟨o, hk' _ _ (kO a x e) q2⟩, q3⟩
    · have hq := D.holds p hp
      obtain ⟨y, l⟩ := p
      cases l with
      | unb => trivial
      | d d => exact hq
      | own a d =>
        obtain ⟨e, eo, q⟩ := hq
        refine ⟨e, eo, ?_⟩
        cases d with
        | lst ds => obtain ⟨vs, n, q1, q2⟩ := q; exact ⟨vs, n, hk' _ _ (kO _ _ eo) q1, q2⟩
        | hdr kvs =>
          obtain ⟨dx, l, ⟨t, vs, n, q1, q2, q3, q4⟩, o2, o3, r⟩ := q
          exact ⟨dx, l, ⟨t, vs, n, hk' _ _ (kO _ _ eo) q1, hk' _ _ (kO _ _ o2) q2, hk' _ _ (kO _ _ o3) q3, q4⟩, o2, o3, r⟩
        | dct kvs =>
          obtain ⟨vs, ⟨ob, es, ep, q1, q2⟩, q3⟩ := q
          exact ⟨vs, ⟨ob, es, ep, hk' _ _ (kO _ _ eo) q1, q2⟩, q3⟩
        | _ => exact q.elim

theorem Inv.xNone {X H : PH} {s : Shared} (I : Inv c X H σ s) : X s.heap.objs.size = none := by
  obtain ⟨m, O, I⟩ := I
  cases h : X s.heap.objs.size with
  | none => rfl
  | some o => exact absurd (Heap.lt_size (I.hX _ _ h).1) (Nat.lt_irrefl _)

def signs (x : Str) : List D := x.cps.toList.map fun c => D.str ⟨#[c]⟩
/-- over a lasting list -/
theorem St.forL {target iter : Expr} {body : List Stmt} {pos : Pos} {Q : FD → Sg → Prop} (ok : c.Ok)
    (h : Ev c (eval iter env) σ fun d σ₁ => ∃ (ds : List D) (J : Nat → Sg → Prop), d = .lst ds ∧ J 0 σ₁ ∧
      (∀ i d σ₂, ds[i]? = some d → J i σ₂ → As c (PySem.assign target env) σ₂ d fun σ₃ => St c (execs body env) σ₃ (LoopQ (J (i + 1)) Q)) ∧ (∀ σ₂, J ds.length σ₂ → Q .next σ₂))
    (hs : ∀ x, foldedSetIterable iter env x = pure x := by intro _; kernel_rfl!) :
    St c (exec (.For target iter body [] pos) env) σ Q := by
  intro X H s I
  refine wpAny_For (wpAny_mono (h X H s I) (fun v s₁ ⟨H₁, d, σ₁, l₁, I₁, r₁, ds, J, e, j0, turn, done⟩ => ?_) fun _ _ x => x) hs
  subst e
  cases r₁ with
  | @lst a ob n vs _ e1 e2 e3 rr =>
    have hl : s₁.heap.IsList a vs.toArray := ⟨ob, I₁.inHeap _ _ e1, e2, n, e3⟩
    refine wpAny_pyIter_list hl ?_
    have hx := I₁.xNone
    have hne : a ≠ s₁.heap.objs.size := Nat.ne_of_lt (Heap.lt_size (I₁.inHeap _ _ e1))
    obtain ⟨m, O, I₁⟩ := I₁
    obtain ⟨I₂, hI⟩ := I₁.addX (o := { cls := .type "list_iterator", data := .fields #[.ref a, .int 0 0] }) (tk := s₁.toks)
    have W := Walks.list (prog := c.prog) (w := c.w) ok.amb.hh s₁.heap.objs.size a hne vs.toArray
    have hlen : vs.toArray.size = ds.length := by rw [List.size_toArray, rr.length]
    rw [hlen] at W
    have key := loop_core (X := X) (σ := σ₁) (Q := Q) (E := nope) (body := body) (target := target) (env := env) J W (fun i v _ hv => rr.get' (by simpa using hv)) (fun b hb => by
        rcases List.mem_cons.mp hb with rfl | hb
        · exact .inl rfl
        · rw [List.mem_singleton.mp hb]; exact .inr ⟨_, e1⟩) (fun i h ⟨⟨o, ho, _⟩, _⟩ => ⟨o, ho⟩) hx hI ⟨⟨_, Heap.get?_push_size _ rfl, rfl, rfl⟩, hl.push _⟩ ⟨m, O, I₂⟩ j0 turn done (fun v s i Q E hw q => letGo_listiter hw.1 q)
    refine codeAny_mono key fun r s' p => ?_
    cases r with
    | ok f => exact PostF.le l₁ p
    | error e => exact p
theorem St.forS {target iter : Expr} {body : List Stmt} {pos : Pos} {Q : FD → Sg → Prop} (ok : c.Ok)
    (h : Ev c (eval iter env) σ fun d σ₁ => ∃ (x : Str) (J : Nat → Sg → Prop), d = .str x ∧ x.cps.all (· < 128) = true ∧ J 0 σ₁ ∧
      (∀ i d σ₂, (signs x)[i]? = some d → J i σ₂ → As c (PySem.assign target env) σ₂ d fun σ₃ => St c (execs body env) σ₃ (LoopQ (J (i + 1)) Q)) ∧ (∀ σ₂, J x.length σ₂ → Q .next σ₂))
    (hs : ∀ x, foldedSetIterable iter env x = pure x := by intro _; kernel_rfl!) (ht : ∀ it v, letOwnedTupleGo target it v = pure () := by intro _ _; kernel_rfl!) :
    St c (exec (.For target iter body [] pos) env) σ Q := by
  intro X H s I
  refine wpAny_For (wpAny_mono (h X H s I) (fun v s₁ ⟨H₁, d, σ₁, l₁, I₁, r₁, x, J, e, ha, j0, turn, done⟩ => ?_) fun _ _ x => x) hs
  subst e
  cases r₁ with
  | str x t =>
    refine wpAny_pyIter_ascii ha ?_
    have hx := I₁.xNone
    obtain ⟨m, O, I₁⟩ := I₁
    obtain ⟨I₂, hI⟩ := I₁.addX (o := { cls := .type "str_ascii_iterator", data := .fields #[.str x t, .int 0 0] }) (tk := s₁.toks)
    have hlen : x.cps.size = (signs x).length := by simp [signs]
    have W := Walks.strAscii (prog := c.prog) (w := c.w) (A := c.A) ok.amb.hh s₁.heap.objs.size x t
    rw [hlen] at W
    have key := loop_core (X := X) (σ := σ₁) (Q := Q) (E := nope) (body := body) (target := target) (env := env) J W (fun i v _ ⟨c', t', hc, hv⟩ => by
        subst hv
        refine ⟨.str ⟨#[c']⟩, ?_, .str _ _⟩
        unfold signs
        rw [List.getElem?_map, Array.getElem?_toList, hc]; rfl) (fun b hb => .inl (List.mem_singleton.mp hb)) (fun i h ⟨o, ho, _⟩ => ⟨o, ho⟩) hx hI ⟨_, Heap.get?_push_size _ rfl, rfl, rfl⟩ ⟨m, O, I₂⟩ j0 turn (by rw [← hlen]; exact done) (fun v s i Q E _ q => wpAny_of_eq (ht _ v) q)
    refine codeAny_mono key fun r s' p => ?_
    cases r with
    | ok f => exact PostF.le l₁ p
    | error e => exact p

/-- over range(n) -/
theorem St.forR {target : Expr} {body : List Stmt} {x : Str} {n : Nat} {np cp rp pos : Pos} {k : Nat} {Q : FD → Sg → Prop} (ok : c.Ok) (hn : nsIn c.K mainGlobals x = some none) (hb : bootBuiltins x = some (.type "range"))
    (hsmall : n < 1000000) (J : Nat → Sg → Prop) (j0 : J 0 σ)
    (turn : ∀ i σ₂, i < n → J i σ₂ → As c (PySem.assign target env) σ₂ (.int i) fun σ₃ => St c (execs body env) σ₃ (LoopQ (J (i + 1)) Q)) (done : ∀ σ₂, J n σ₂ → Q .next σ₂)
    (hne : x ≠ "__name__" := by decide) (hk : env.scope.kind = .function := by kernel_rfl!) (hx : env.kindOf x = some .globalImplicit := by kernel_rfl!) (hg : env.globals = mainGlobals := by kernel_rfl!) (hbi : env.builtins = builtinsNs := by kernel_rfl!) (hd : (x == ("__debug__" : Str)) = false := by decide)
    (he : starEach [.Constant (.int n) k cp] env = (false, eval (.Constant (.int n) k cp) env) :: starEach [] env := by kernel_rfl!)
    (hs : ∀ v, foldedSetIterable (.Call (.Name x np) [.Constant (.int n) k cp] [] rp) env v = pure v := by intro _; kernel_rfl!) (ht : ∀ it v, letOwnedTupleGo target it v = pure () := by intro _ _; kernel_rfl!) :
    St c (exec (.For target (.Call (.Name x np) [.Constant (.int n) k cp] [] rp) body [] pos) env) σ Q := by
  intro X H s I
  refine wpAny_For (Call_Name rfl (nameB ok I hn hb hne ?_ hk hx hg hbi hd)) hs
  refine PyProof.Rows.callWith_type1 ?_ he
  refine wpAny_items_cons (wpAny_Constant_int (wpAny_items_nil ?_)) he
  refine call_range_1 ?_
  have I₁ := I.push { cls := .type "range", data := .fields #[.int 0 (s.toks + 1), .int n s.toks, .int 1 (s.toks + 1 + 1)] } (s.toks + 1 + 1 + 1)
  refine wpAny_pyIter_range (IsRange.new s.heap 0 n 1 (s.toks + 1) s.toks (s.toks + 1 + 1)) (small_one (by omega) (by omega) (by omega) (by omega)) ?_
  have hxn := I₁.xNone
  obtain ⟨m, O, I₁⟩ := I₁
  have hsz : Builtin.Range.rangeSize 0 n 1 = n := by rw [rangeSize_one]; split <;> omega
  obtain ⟨I₂, hI⟩ := I₁.addX (o := { cls := .type "range_iterator", data := .fields #[rawInt 0, rawInt (Builtin.Range.rangeSize 0 n 1), rawInt 1] }) (tk := s.toks + 1 + 1 + 1)
  let h₁ : Heap := s.heap.push { cls := .type "range", data := .fields #[.int 0 (s.toks + 1), .int n s.toks, .int 1 (s.toks + 1 + 1)] }
  have W := Walks.range (prog := c.prog) (w := c.w) (A := c.A) ok.amb.hh h₁.objs.size 0 1 n
  let ds : List D := (List.range n).map fun (i : Nat) => D.int (i : Int)
  have hlen : n = ds.length := by simp [ds]
  have W' : Walks c.prog c.w c.A h₁.objs.size [h₁.objs.size] [h₁.objs.size] ds.length (fun i v => ∃ t, v = .int ((0 : Int) + i * 1) t) (fun i h => IsRangeIter h h₁.objs.size ((0 : Int) + (i : Nat) * 1) ((n : Int) - (i : Nat)) 1) := by
    rw [← hlen]; exact W
  have hds : ∀ i d, ds[i]? = some d → i < n ∧ d = .int (i : Int) := fun i d hd => by
    simp only [ds, List.getElem?_map] at hd
    by_cases hi : i < n
    · rw [List.getElem?_eq_getElem (by simpa using hi)] at hd
      simp at hd
      exact ⟨hi, hd.symm⟩
    · rw [List.getElem?_eq_none (by simpa using hi)] at hd
      cases hd
  refine codeAny_mono (loop_core (X := X) (H₀ := H) (σ := σ) (Q := Q) (E := nope) (body := body) (target := target) (env := env) J
    W' (fun i v hi ⟨t, hv⟩ => ?_) (fun b hb => .inl (List.mem_singleton.mp hb)) (fun i h e => ⟨_, e⟩) hxn hI ?_ ⟨m, O, I₂⟩ j0 (fun i d σ₂ hd j => ?_) (by rw [← hlen]; exact done) (fun v s i Q E _ q => wpAny_of_eq (ht _ v) q)) fun r s' p => ?_
  · subst hv
    refine ⟨.int (i : Int), ?_, ?_⟩
    · rw [← hlen] at hi
      simp only [ds, List.getElem?_map]
      rw [List.getElem?_eq_getElem (by simpa using hi)]
      simp
    · have e : (0 : Int) + (i : Int) * 1 = i := by omega
      rw [e]
      exact .int _ _
  · have e := Heap.get?_push_size (o := { cls := .type "range_iterator", data := .fields #[rawInt 0, rawInt (Builtin.Range.rangeSize 0 n 1), rawInt 1] }) h₁ rfl
    rw [hsz] at e ⊢
    exact e
  · obtain ⟨hi, rfl⟩ := hds i d hd
    exact turn i σ₂ hi j
  · cases r with
    | ok f => exact p
    | error e => exact p

end Mine

/-! Rules5 -/
namespace Mine
open PySem PySem.W PySem.Calls PyProof.Rows
variable {c : Cx} {env : Env} {σ : Sg}

/-! ## names of the top that stand for an int -/
theorem Ev.globI {x : Str} {pos : Pos} {i : Int} {t : Tok} {Q : D → Sg → Prop} (ok : c.Ok) (e : nsIn c.K mainGlobals x = some (some (.int i t))) (q : Q (.int i) σ)
    (hk : env.scope.kind = .function := by kernel_rfl!) (hx : env.kindOf x = some .globalImplicit := by kernel_rfl!) (hg : env.globals = mainGlobals := by kernel_rfl!) (hd : (x == ("__debug__" : Str)) = false := by decide) :
    Ev c (eval (.Name x pos) env) σ Q := fun X H s I => nameG ok I e ⟨H, _, σ, Le.refl _, I, .int _ _, q⟩ hk hx hg hd

/-! ## owned containers -/
theorem InvAt.storeOwn {X H : PH} {s s' : Shared} {h' : Heap} {tk : Nat} {m : Str → Option Value} {O : Addr → Option Str} {σ' : Sg} {x : Str} {a : Addr} {d : D} (N : Addr → Prop) [DecidablePred N] (I : InvAt c X H σ s m O)
    (hk : ∀ b o, s.heap.get? b = some o → s'.heap.get? b = some o) (hN1 : ∀ b, N b → s.heap.get? b = none ∧ s.heap.objs.size ≤ b) (hN2 : ∀ b, N b → ∃ o, s'.heap.get? b = some o) (hu : Upd σ x (.own a d) σ')
    (hown : OwnAt c s'.heap H (fun b => if N b then some x else O b) x a d) (hNa : N a) (hn : h'.Ns c.L (fun y => if y = x then some (.ref a) else m y)) (hs : Heap.SameBut c.L s'.heap h') (ho : s'.os = s.os) (hg : s'.gens = s.gens) :
    Inv c X H σ' { s' with heap := h', toks := tk } := by
  have J := I.keep hk ho hg
  have keep : ∀ b o, s'.heap.get? b = some o → b ≠ c.L → h'.get? b = some o := fun b o e ne => (hs.2 b ne).trans e
  have hLs : ∃ o, s.heap.get? c.L = some o := let ⟨oL, _, _, hL, _⟩ := I.fr.ns; ⟨oL, hL⟩
  have nL : ∀ b, N b → b ≠ c.L := fun b hb z => by obtain ⟨o, ho⟩ := hLs; rw [← z, (hN1 b hb).1] at ho; cases ho
  have F := J.fr.set hn hs
  have kept : ∀ {y : Str} {w : Addr} {d : D}, OwnAt c s'.heap H (fun b => if N b then some x else O b) y w d → (∀ b z, (if N b then some x else O b) = some z → ∀ ob, s'.heap.get? b = some ob → h'.get? b = some ob) → (if N w then some x else O w) = some y →
      OwnAt c h' H (fun b => if N b then some x else O b) y w d := by
    intro y w d q ka o
    cases d with
    | lst ds => obtain ⟨vs, n, q1, q2⟩ := q; exact ⟨vs, n, ka _ _ o _ q1, q2⟩
    | hdr kvs =>
      obtain ⟨dx, l, ⟨t, vs, n, q1, q2, q3, q4⟩, o2, o3, r⟩ := q
      exact ⟨dx, l, ⟨t, vs, n, ka _ _ o _ q1, ka _ _ o2 _ q2, ka _ _ o3 _ q3, q4⟩, o2, o3, r⟩
    | dct kvs =>
      obtain ⟨vs, ⟨ob, es, ep, q1, q2⟩, q3⟩ := q
      exact ⟨vs, ⟨ob, es, ep, ka _ _ o _ q1, q2⟩, q3⟩
    | _ => exact q.elim
  have ka : ∀ b z, (if N b then some x else O b) = some z → ∀ ob, s'.heap.get? b = some ob → h'.get? b = some ob := fun b z e ob q => by
    refine keep _ _ q ?_
    split at e
    · rename_i hb; exact nL b hb
    · exact (I.hO b z e).1
  refine ⟨_, fun b => if N b then some x else O b, F, fun b o e => ?_, fun b o e => ?_, fun b y e => ?_, I.new, hu.keys ▸ I.nodup, fun p hp => ?_, J.os, J.gens⟩
  · obtain ⟨p1, p2, p3⟩ := J.hH b o e
    refine ⟨keep _ _ p1 p2, p2, ?_⟩
    show (if N b then some x else O b) = none
    rw [if_neg (fun hb => by have := (I.hH b o e).1; rw [(hN1 b hb).1] at this; cases this)]
    exact p3
  · obtain ⟨p1, p2, p3, p4⟩ := J.hX b o e
    refine ⟨keep _ _ p1 p2, p2, ?_, p4⟩
    show (if N b then some x else O b) = none
    rw [if_neg (fun hb => by have := (I.hX b o e).1; rw [(hN1 b hb).1] at this; cases this)]
    exact p3
  · have e' : (if N b then some x else O b) = some y := e
    split at e'
    · rename_i hb
      obtain ⟨o, q⟩ := hN2 b hb
      refine ⟨nL b hb, ⟨o, keep _ _ q (nL b hb)⟩, ?_⟩
      have h1 := I.fr.above
      have h2 := I.fr.ns.lt
      exact Nat.le_trans (Nat.le_of_lt (Nat.lt_of_le_of_lt h1 h2)) (hN1 b hb).2
    · obtain ⟨p1, ⟨o, p2⟩, p3⟩ := J.hO b y e'
      exact ⟨p1, ⟨o, keep _ _ p2 p1⟩, p3⟩
  · rcases hu.mem I.nodup p hp with rfl | ⟨hp, hne⟩
    · exact ⟨if_pos rfl, if_pos hNa, kept hown ka (if_pos hNa)⟩
    · have hq := J.holds p hp
      obtain ⟨y, l⟩ := p
      have hm : ∀ {w : Value}, m y = some w → (if y = x then some (Value.ref a) else m y) = some w := fun e => by rw [if_neg hne]; exact e
      cases l with
      | unb => trivial
      | d d => obtain ⟨w, e, r⟩ := hq; exact ⟨w, hm e, r⟩
      | own w d =>
        obtain ⟨e, o, q⟩ := hq
        have ko : ∀ b z, O b = some z → (if N b then some x else O b) = some z := fun b z e => by
          rw [if_neg (fun hb => by obtain ⟨_, ⟨ob, q⟩, _⟩ := I.hO b z e; rw [(hN1 b hb).1] at q; cases q)]; exact e
        refine ⟨hm e, ko _ _ o, kept ?_ ka (ko _ _ o)⟩
        cases d with
        | lst ds => exact q
        | hdr kvs => obtain ⟨dx, l, q1, q2, q3, q4⟩ := q; exact ⟨dx, l, q1, ko _ _ q2, ko _ _ q3, q4⟩
        | dct kvs => exact q
        | _ => exact q.elim

/-- an owned container of x is turned in its place -/
theorem InvAt.change {X H : PH} {s : Shared} {h' : Heap} {tk : Nat} {m : Str → Option Value} {O : Addr → Option Str} {σ' : Sg} {x : Str} {a : Addr} {d₀ d : D} (I : InvAt c X H σ s m O) (hl : Loc σ x (.own a d₀))
    (hk : ∀ b o, O b ≠ some x → s.heap.get? b = some o → h'.get? b = some o) (he : ∀ b, O b = some x → ∃ o, h'.get? b = some o) (hu : Upd σ x (.own a d) σ') (hown : OwnAt c h' H O x a d) :
    InvAt c X H σ' { s with heap := h', toks := tk } m O := by
  obtain ⟨hm, ho, _⟩ := I.holds _ hl.mem
  have nL : O c.L ≠ some x := fun e => (I.hO _ _ e).1 rfl
  refine ⟨⟨I.fr.ns.at' fun o e => hk _ _ nL e, fun b o e => hk _ _ (fun z => ?_) (I.fr.keep b o e), I.fr.above⟩, fun b o e => ?_, fun b o e => ?_, fun b y e => ?_, I.new, hu.keys ▸ I.nodup, fun p hp => ?_, I.os, I.gens⟩
  · have := Heap.get?_none_of_le (I.hO _ _ z).2.2; rw [e] at this; cases this
  · obtain ⟨p1, p2, p3⟩ := I.hH b o e; exact ⟨hk _ _ (by rw [p3]; nofun) p1, p2, p3⟩
  · obtain ⟨p1, p2, p3, p4⟩ := I.hX b o e; exact ⟨hk _ _ (by rw [p3]; nofun) p1, p2, p3, p4⟩
  · obtain ⟨p1, ⟨o, p2⟩, p3⟩ := I.hO b y e
    by_cases hy : y = x
    · subst hy; exact ⟨p1, he b e, p3⟩
    · exact ⟨p1, ⟨o, hk _ _ (by rw [e]; intro z; exact hy (Option.some.inj z)) p2⟩, p3⟩
  · rcases hu.mem I.nodup p hp with rfl | ⟨hp, hne⟩
    · exact ⟨hm, ho, hown⟩
    · have hq := I.holds p hp
      obtain ⟨y, l⟩ := p
      cases l with
      | unb => trivial
      | d d => exact hq
      | own w d =>
        obtain ⟨e, o, q⟩ := hq
        refine ⟨e, o, ?_⟩
        have kO : ∀ b, O b = some y → O b ≠ some x := fun b e => by rw [e]; intro z; exact hne (Option.some.inj z)
        cases d with
        | lst ds => obtain ⟨vs, n, q1, q2⟩ := q; exact ⟨vs, n, hk _ _ (kO _ o) q1, q2⟩
        | hdr kvs =>
          obtain ⟨dx, l, ⟨t, vs, n, q1, q2, q3, q4⟩, o2, o3, r⟩ := q
          exact ⟨dx, l, ⟨t, vs, n, hk _ _ (kO _ o) q1, hk _ _ (kO _ o2) q2, hk _ _ (kO _ o3) q3, q4⟩, o2, o3, r⟩
        | dct kvs =>
          obtain ⟨vs, ⟨ob, es, ep, q1, q2⟩, q3⟩ := q
          exact ⟨vs, ⟨ob, es, ep, hk _ _ (kO _ o) q1, q2⟩, q3⟩
        | _ => exact q.elim

/-- x = [..]: a list of x's own -/
theorem St.newList {x : Str} {px pos lp : Pos} {elts : List Expr} {Q : FD → Sg → Prop}
    (h : EvL c (spliced (backTo lp (starEach elts env))) σ fun ds σ₁ => ds.length ≤ 16777216 ∧ ∀ a, ∃ σ₂, Upd σ₁ x (.own a (.lst ds)) σ₂ ∧ Q .next σ₂)
    (hs : swapsWith (.List elts lp) (some (.Name x px)) pos.line env = pure false := by kernel_rfl!) (hL : env.locals = c.L := by kernel_rfl!) (hk : env.scope.kind = .function := by kernel_rfl!) (hx : env.kindOf x = some .local := by kernel_rfl!) :
    St c (exec (.Assign [.Name x px] (.List elts lp) pos) env) σ Q := by
  intro X H s I
  refine wpAny_Assign_Name (wpAny_List (wpAny_mono (h X H s I) (fun vs s₁ ⟨H₁, ds, σ₁, l₁, I₁, r₁, hz, q⟩ => ⟨by rw [sizeLine_eq, r₁.length]; exact hz, ?_⟩) fun _ _ x => x)) hs
  obtain ⟨σ₂, hu, q⟩ := q s₁.heap.objs.size
  obtain ⟨m, O, I₁⟩ := I₁
  have hno : s₁.heap.get? s₁.heap.objs.size = none := by
    cases hz : s₁.heap.get? s₁.heap.objs.size with
    | none => rfl
    | some o' => exact absurd (Heap.lt_size hz) (Nat.lt_irrefl _)
  have F := I₁.fr.push { cls := .type "list", data := .seq vs.toArray }
  refine wpAny_storeName_local hx (hL ▸ F.ns) (fun h' hn hs' => ?_) (by rw [hk]; rfl)
  exact ⟨H₁, .next, σ₂, l₁, I₁.storeOwn (s' := { s₁ with heap := s₁.heap.push { cls := .type "list", data := .seq vs.toArray } }) (fun b => b = s₁.heap.objs.size) (fun _ _ e => Heap.get?_push_of_some _ e)
    (fun b hb => ⟨hb ▸ hno, Nat.le_of_eq hb.symm⟩) (fun b hb => ⟨_, hb ▸ Heap.get?_push_size _ rfl⟩) hu ⟨vs, 0, Heap.get?_push_size _ rfl, r₁⟩ rfl (hL ▸ hn) (hL ▸ hs') rfl rfl, rfl, q⟩

/-- x.append(e) -/
theorem St.append {x : Str} {px ap cp pos : Pos} {e : Expr} {a : Addr} {ds₀ : List D} {Q : FD → Sg → Prop} (hl₀ : Loc σ x (.own a (.lst ds₀)))
    (h : Ev c (eval e env) σ fun d σ₁ => ∃ ds σ₂, Loc σ₁ x (.own a (.lst ds)) ∧ ds.length ≤ 16777216 ∧ Upd σ₁ x (.own a (.lst (ds ++ [d]))) σ₂ ∧ Q .next σ₂)
    (hf : CallForm (.Name x px) "append" ap cp [e] env := by with_unfolding_all exact ⟨_, rfl⟩) (he : starEach [e] env = (false, eval e env) :: starEach [] env := by kernel_rfl!)
    (hi : interactive env = false := by kernel_rfl!) (hs : swapsWith (.Call (.Attribute (.Name x px) "append" ap) [e] [] cp) none pos.line env = pure false := by kernel_rfl!)
    (hL : env.locals = c.L := by kernel_rfl!) (hk : env.scope.kind = .function := by kernel_rfl!) (hx : env.kindOf x = some .local := by kernel_rfl!) (hd : (x == ("__debug__" : Str)) = false := by decide) :
    St c (exec (.Expr (.Call (.Attribute (.Name x px) "append" ap) [e] [] cp) pos) env) σ Q := by
  intro X H s I
  obtain ⟨pl, hf⟩ := hf
  refine wpAny_Expr ?_ hi hs
  have I' := I
  obtain ⟨m, O, I'⟩ := I'
  obtain ⟨hm, _, vs₀, n₀, ha₀, _⟩ := I'.holds _ hl₀.mem
  refine MethodCall_ (pl := pl) (wpAny_Name (wpAny_loadName_local hk hx (hL ▸ I'.fr.ns) hm ?_) hd) hf
  with_reducible refine Calls.getMethod_list_append ha₀ rfl rfl ?_
  dsimp only
  have hp : (backTo cp (starEach [] env)).any (·.1) = false := rfl
  with_reducible refine callWith_method1 ?_ he hp
  refine wpAny_items_cons (wpAny_mono (h X H s I) (fun v s₁ ⟨H₁, d, σ₁, l₁, I₁, r₁, ds, σ₂, hl₁, hz, hu, q⟩ => wpAny_items_nil ?_) fun _ _ x => x) he
  obtain ⟨m₁, O₁, I₁⟩ := I₁
  obtain ⟨hm₁, ho₁, vs, n, ha, r⟩ := I₁.holds _ hl₁.mem
  show wpAny _ _ (call (.builtin "list.append") [.ref a, v]) _ _ _
  refine append_at ha (fun h' hs' e' => ?_) (by rw [sizeLine_eq, List.size_toArray, r.length]; exact hz)
  refine ⟨H₁, .next, σ₂, l₁, ⟨m₁, O₁, I₁.change hl₁ (fun b o ne e => (hs'.2 b (fun z => ne (z ▸ ho₁))).trans e) (fun b e => ?_) hu ⟨vs ++ [v], n + 1, ?_, r.append (.cons r₁ .nil)⟩⟩, rfl, q⟩
  · by_cases hb : b = a
    · subst hb; exact ⟨_, e'⟩
    · obtain ⟨_, ⟨o, q⟩, _⟩ := I₁.hO b x e; exact ⟨o, (hs'.2 b hb).trans q⟩
  · have : (vs ++ [v]).toArray = vs.toArray.push v := by simp
    rw [this]; exact e'

/-- x.extend([..]) -/
theorem St.extend {x : Str} {px lp ap cp pos : Pos} {elts : List Expr} {a : Addr} {ds₀ : List D} {Q : FD → Sg → Prop} (hl₀ : Loc σ x (.own a (.lst ds₀)))
    (h : EvL c (spliced (backTo lp (starEach elts env))) σ fun es σ₁ => ∃ ds σ₂, Loc σ₁ x (.own a (.lst ds)) ∧ ds.length + es.length ≤ 16777216 ∧ Upd σ₁ x (.own a (.lst (ds ++ es))) σ₂ ∧ Q .next σ₂)
    (hf : CallForm (.Name x px) "extend" ap cp [.List elts lp] env := by with_unfolding_all exact ⟨_, rfl⟩) (he : starEach [.List elts lp] env = (false, eval (.List elts lp) env) :: starEach [] env := by kernel_rfl!)
    (hi : interactive env = false := by kernel_rfl!) (hs : swapsWith (.Call (.Attribute (.Name x px) "extend" ap) [.List elts lp] [] cp) none pos.line env = pure false := by kernel_rfl!)
    (hL : env.locals = c.L := by kernel_rfl!) (hk : env.scope.kind = .function := by kernel_rfl!) (hx : env.kindOf x = some .local := by kernel_rfl!) (hd : (x == ("__debug__" : Str)) = false := by decide) :
    St c (exec (.Expr (.Call (.Attribute (.Name x px) "extend" ap) [.List elts lp] [] cp) pos) env) σ Q := by
  intro X H s I
  obtain ⟨pl, hf⟩ := hf
  refine wpAny_Expr ?_ hi hs
  have I' := I
  obtain ⟨m, O, I'⟩ := I'
  obtain ⟨hm, _, vs₀, n₀, ha₀, _⟩ := I'.holds _ hl₀.mem
  refine MethodCall_ (pl := pl) (wpAny_Name (wpAny_loadName_local hk hx (hL ▸ I'.fr.ns) hm ?_) hd) hf
  have hp : (backTo cp (starEach [] env)).any (·.1) = false := rfl
  refine getMethod_builtin ⟨_, ha₀, rfl⟩ PySem.F.plainAttrs_list PySem.F.slot_list_extend PySem.F.type_list_extend (fun b e => by cases e; exact ⟨_, ha₀, rfl⟩) ?_
  dsimp only
  with_reducible refine callWith_method1 ?_ he hp
  refine wpAny_items_cons (wpAny_List (wpAny_mono (h X H s I) (fun ws s₁ ⟨H₁, es, σ₁, l₁, I₁, r₁, ds, σ₂, hl₁, hz, hu, q⟩ => ?_) fun _ _ x => x)) he
  obtain ⟨m₁, O₁, I₁⟩ := I₁
  obtain ⟨hm₁, ho₁, vs, n, ha, r⟩ := I₁.holds _ hl₁.mem
  refine ⟨by rw [sizeLine_eq, r₁.length]; omega, wpAny_items_nil ?_⟩
  show wpAny _ _ (call (.builtin "list.extend") [.ref a, .ref s₁.heap.objs.size]) _ _ _
  let h₂ : Heap := s₁.heap.push { cls := .type "list", data := .seq ws.toArray }
  have ha₂ : h₂.get? a = some (listOf vs.toArray n) := Heap.get?_push_of_some _ ha
  have hb₂ : h₂.get? s₁.heap.objs.size = some (listOf ws.toArray 0) := Heap.get?_push_size _ rfl
  have hz' : vs.toArray.size + ws.toArray.size ≤ sizeLine := by rw [sizeLine_eq, List.size_toArray, List.size_toArray, r.length, r₁.length]; exact hz
  refine call_meets PySem.F.slot_list_extend ⟨_, ha₂, rfl⟩ PySem.F.entry_list_extend (PySem.F.args_list_extend_2 _ _) (AutoSeq1.list_extend_list_list_0 a vs.toArray n s₁.heap.objs.size ws.toArray 0 (extend_door hz') (Nat.le_trans (Nat.le_add_right _ _) hz') (Nat.le_succ_of_le hz')) ⟨ha₂, hb₂, ?_⟩
  have e : vs.toArray ++ ws.toArray = (vs ++ ws).toArray := by simp
  have ho' : (h₂.update a (Obj.mapSeq fun x => x ++ ws.toArray)).get? a = some (listOf (vs ++ ws).toArray (if (vs.toArray ++ ws.toArray).size == vs.toArray.size then n else n + 1)) := by
    rw [Heap.get?_update_self _ ha₂ (by rw [mapSeq_app]; rfl), mapSeq_app, e]
  have hs' : Heap.SameBut a h₂ (h₂.update a (Obj.mapSeq fun x => x ++ ws.toArray)) := Heap.SameBut.update ..
  have I₂ : InvAt c X H₁ σ₁ { s₁ with heap := h₂ } m₁ O₁ := I₁.keep (fun _ _ e => Heap.get?_push_of_some _ e) rfl rfl
  refine ⟨H₁, .next, σ₂, l₁, ⟨m₁, O₁, I₂.change hl₁ (fun b o ne e => (hs'.2 b (fun z => ne (z ▸ ho₁))).trans e) (fun b e => ?_) hu ⟨vs ++ ws, _, ho', r.append r₁⟩⟩, rfl, q⟩
  by_cases hb : b = a
  · subst hb; exact ⟨_, ho'⟩
  · obtain ⟨_, ⟨o, q⟩, _⟩ := I₂.hO b x e; exact ⟨o, (hs'.2 b hb).trans q⟩

/-! ## two names at once -/
theorem As.tuple2 {ea eb : Expr} {k : Nat} {pos : Pos} {d₁ d₂ : D} {Q : Sg → Prop} (ok : c.Ok)
    (h : As c (PySem.assign ea env) σ d₁ fun σ₁ => As c (PySem.assign eb env) σ₁ d₂ Q)
    (he : assignEach [ea, eb] env = [(false, PySem.assign ea env), (false, PySem.assign eb env)] := by kernel_rfl!) : As c (PySem.assign (.Tuple [ea, eb] k pos) env) σ (.tup [d₁, d₂]) Q := by
  intro X H s v I r
  cases r with
  | @tup a o n vs _ e1 e2 e3 rr =>
    cases rr with
    | @cons u₁ _ _ _ r1 rr =>
      cases rr with
      | @cons u₂ _ _ _ r2 rr =>
        cases rr
        refine assign_Tuple_tuple ok.amb.hh ⟨o, I.inHeap _ _ e1, e2, n, e3⟩ (by rw [he]; rfl) (by rw [he]; rfl) fun h' hx => ?_
        have I' : Inv c X H σ { s with heap := h' } := I.keep fun b o e => hx b o (Nat.ne_of_lt (Heap.lt_size e)) e
        rw [he]
        refine assignInOrder_cons (wpAny_mono (h X H _ u₁ I' r1) (fun _ s₂ ⟨H₂, σ₂, l₂, I₂, h₂⟩ => ?_) fun _ _ x => x)
        refine assignInOrder_cons (wpAny_mono (h₂ X H₂ s₂ u₂ I₂ (r2.mono l₂)) (fun _ s₃ ⟨H₃, σ₃, l₃, I₃, q⟩ => ?_) fun _ _ x => x)
        exact assignInOrder_nil ⟨H₃, σ₃, l₂.trans l₃, I₃, q⟩

/-- (a, b) = a call's pair -/
theorem St.assign2 {ea eb value : Expr} {k : Nat} {tp pos : Pos} {Q : FD → Sg → Prop} (ok : c.Ok)
    (h : Ev c (eval value env) σ fun d σ₁ => As c (PySem.assign (.Tuple [ea, eb] k tp) env) σ₁ d fun σ₂ => Q .next σ₂)
    (hs : swapsWithSole [.Tuple [ea, eb] k tp] value pos.line env = pure false := by kernel_rfl!) (hw : swappedStores [.Tuple [ea, eb] k tp] value env = pure none := by kernel_rfl!) :
    St c (exec (.Assign [.Tuple [ea, eb] k tp] value pos) env) σ Q :=
  fun X H s I => Assign_Tuple (wpAny_mono (h X H s I) (fun v s₁ ⟨H₁, d, σ₁, l₁, I₁, r₁, h₁⟩ => wpAny_mono (h₁ X H₁ s₁ v I₁ r₁) (fun _ s₂ ⟨H₂, σ₂, l₂, I₂, q⟩ => ⟨H₂, .next, σ₂, l₁.trans l₂, I₂, rfl, q⟩) fun _ _ x => x) fun _ _ x => x) hs hw

/-- (a, b) = (.., ..): the second name is stored first -/
theorem St.assignSw {xa xb : Str} {ea eb value : Expr} {k : Nat} {tp pos : Pos} {Q : FD → Sg → Prop} (ok : c.Ok)
    (h : Ev c (eval value env) σ fun d σ₁ => ∃ d₁ d₂ σ₂ σ₃, d = .tup [d₁, d₂] ∧ Upd σ₁ xb (.d d₂) σ₂ ∧ Upd σ₂ xa (.d d₁) σ₃ ∧ Q .next σ₃)
    (hs : swapsWithSole [.Tuple [ea, eb] k tp] value pos.line env = pure false := by kernel_rfl!) (hw : swappedStores [.Tuple [ea, eb] k tp] value env = pure (some [xa, xb]) := by kernel_rfl!)
    (hL : env.locals = c.L := by kernel_rfl!) (hk : env.scope.kind = .function := by kernel_rfl!) (hxa : env.kindOf xa = some .local := by kernel_rfl!) (hxb : env.kindOf xb = some .local := by kernel_rfl!) :
    St c (exec (.Assign [.Tuple [ea, eb] k tp] value pos) env) σ Q := by
  intro X H s I
  refine Assign_Tuple_swapped (wpAny_mono (h X H s I) (fun v s₁ ⟨H₁, d, σ₁, l₁, I₁, r₁, d₁, d₂, σ₂, σ₃, e, u₂, u₃, q⟩ => ?_) fun _ _ x => x) hs hw
  subst e
  cases r₁ with
  | @tup a o n vs _ e1 e2 e3 rr =>
    cases rr with
    | @cons v₁ _ _ _ r1 rr =>
      cases rr with
      | @cons v₂ _ _ _ r2 rr =>
        cases rr
        refine unpackItems_tuple (items := #[v₁, v₂]) ok.amb.hh ⟨o, I₁.inHeap _ _ e1, e2, n, e3⟩ fun h' hx => ?_
        have I' : Inv c X H₁ σ₁ { s₁ with heap := h' } := I₁.keep fun b o e => hx b o (Nat.ne_of_lt (Heap.lt_size e)) e
        refine assignInOrder_cons (bindName_ (store_name I' u₂ r2 (fun h₂ k₂ I₂ => ?_) hL hk hxb))
        refine assignInOrder_cons (bindName_ (store_name I₂ u₃ r1 (fun h₃ k₃ I₃ => ?_) hL hk hxa))
        exact assignInOrder_nil ⟨H₁, .next, σ₃, l₁, I₃, rfl, q⟩

/-! ## a dict of the frame's own, its keys ints -/
theorem St.newDict {x : Str} {px dp pos : Pos} {Q : FD → Sg → Prop} (h : ∀ a, ∃ σ₂, Upd σ x (.own a (.dct [])) σ₂ ∧ Q .next σ₂)
    (hs : swapsWith (.Dict [] [] dp) (some (.Name x px)) pos.line env = pure false := by kernel_rfl!) (hL : env.locals = c.L := by kernel_rfl!) (hk : env.scope.kind = .function := by kernel_rfl!) (hx : env.kindOf x = some .local := by kernel_rfl!) :
    St c (exec (.Assign [.Name x px] (.Dict [] [] dp) pos) env) σ Q := by
  intro X H s I
  refine wpAny_Assign_Name (wpAny_Dict_empty ?_) hs
  obtain ⟨σ₂, hu, q⟩ := h s.heap.objs.size
  obtain ⟨m, O, I₁⟩ := I
  have hno : s.heap.get? s.heap.objs.size = none := by
    cases hz : s.heap.get? s.heap.objs.size with
    | none => rfl
    | some o' => exact absurd (Heap.lt_size hz) (Nat.lt_irrefl _)
  have F := I₁.fr.push { cls := .type "dict", data := .dict #[] }
  refine wpAny_storeName_local hx (hL ▸ F.ns) (fun h' hn hs' => ?_) (by rw [hk]; rfl)
  exact ⟨H, .next, σ₂, Le.refl _, I₁.storeOwn (s' := { s with heap := s.heap.push { cls := .type "dict", data := .dict #[] } }) (fun b => b = s.heap.objs.size) (fun _ _ e => Heap.get?_push_of_some _ e)
    (fun b hb => ⟨hb ▸ hno, Nat.le_of_eq hb.symm⟩) (fun b hb => ⟨_, hb ▸ Heap.get?_push_size _ rfl⟩) hu ⟨[], Heap.DictOf.new _, .nil⟩ rfl (hL ▸ hn) (hL ▸ hs') rfl rfl, rfl, q⟩

theorem St.putI {x : Str} {px tp pos : Pos} {i value : Expr} {a : Addr} {Q : FD → Sg → Prop}
    (h : Ev c (eval value env) σ fun d σ₁ => ∃ kvs, Loc σ₁ x (.own a (.dct kvs)) ∧ Ev c (eval i env) σ₁ fun d' σ₂ => ∃ k kvs σ₃, d' = .int k ∧ Loc σ₂ x (.own a (.dct kvs)) ∧ kvs.length ≤ 16777216 ∧ Upd σ₂ x (.own a (.dct (dPut kvs k d))) σ₃ ∧ Q .next σ₃)
    (hs : swapsWith value (some (.Subscript (.Name x px) i tp)) pos.line env = pure false := by kernel_rfl!)
    (hL : env.locals = c.L := by kernel_rfl!) (hk : env.scope.kind = .function := by kernel_rfl!) (hx : env.kindOf x = some .local := by kernel_rfl!) (hd : (x == ("__debug__" : Str)) = false := by decide) :
    St c (exec (.Assign [.Subscript (.Name x px) i tp] value pos) env) σ Q := by
  intro X H s I
  refine wpAny_Assign_Subscript (wpAny_mono (h X H s I) (fun v s₁ ⟨H₁, d, σ₁, l₁, I₁, r₁, kvs₀, hl₀, h₁⟩ => ?_) fun _ _ x => x) hs
  have I₁' := I₁
  obtain ⟨m₁, O₁, I₁'⟩ := I₁'
  refine wpAny_Name (wpAny_loadName_local hk hx (hL ▸ I₁'.fr.ns) (I₁'.holds _ hl₀.mem).1 ?_) hd
  refine wpAny_mono (h₁ X H₁ s₁ I₁) (fun u s₂ ⟨H₂, d', σ₂, l₂, I₂, r₂, k, kvs, σ₃, e, hl, hz, hu, q⟩ => ?_) fun _ _ x => x
  subst e
  cases r₂ with
  | int k t =>
    obtain ⟨m₂, O₂, I₂⟩ := I₂
    obtain ⟨hm, ho, ps, hd, rd⟩ := I₂.holds _ hl.mem
    have hlen : ps.length = kvs.length := rd.length
    refine wpAny_setItem_pairs (intKind_is _ _ _ _) hd (fun h' hd' hs' => ?_) (by rw [sizeLine_eq, hlen]; exact hz)
    refine ⟨H₂, .next, σ₃, l₁.trans l₂, ⟨m₂, O₂, I₂.change hl (fun b o ne e => (hs'.2 b (fun z => ne (z ▸ ho))).trans e) (fun b e => ?_) hu ⟨_, hd', rd.put k (r₁.mono l₂)⟩⟩, rfl, q⟩
    by_cases hb : b = a
    · subst hb; obtain ⟨o, _, _, q, _⟩ := hd'; exact ⟨o, q⟩
    · obtain ⟨_, ⟨o, q⟩, _⟩ := I₂.hO b x e; exact ⟨o, (hs'.2 b hb).trans q⟩

def GetAt (σ : Sg) (x : Str) (a : Addr) (d : D) (Q : D → Sg → Prop) : Prop := ∃ k kvs, d = .int k ∧ Loc σ x (.own a (.dct kvs)) ∧ Q ((dGet kvs k).getD .none) σ
theorem GetAt.intro {σ : Sg} {x : Str} {a : Addr} {k : Int} {kvs : List (Int × D)} {Q : D → Sg → Prop} (h : Loc σ x (.own a (.dct kvs))) (q : Q ((dGet kvs k).getD .none) σ) : GetAt σ x a (.int k) Q := ⟨_, _, rfl, h, q⟩
theorem Ev.getI {x : Str} {px ap cp : Pos} {i : Expr} {a : Addr} {kvs₀ : List (Int × D)} {Q : D → Sg → Prop} (ok : c.Ok) (hl₀ : Loc σ x (.own a (.dct kvs₀)))
    (h : Ev c (eval i env) σ fun d σ₁ => GetAt σ₁ x a d Q)
    (hf : CallForm (.Name x px) "get" ap cp [i] env := by with_unfolding_all exact ⟨_, rfl⟩) (he : starEach [i] env = (false, eval i env) :: starEach [] env := by kernel_rfl!)
    (hL : env.locals = c.L := by kernel_rfl!) (hk : env.scope.kind = .function := by kernel_rfl!) (hx : env.kindOf x = some .local := by kernel_rfl!) (hd : (x == ("__debug__" : Str)) = false := by decide) :
    Ev c (eval (.Call (.Attribute (.Name x px) "get" ap) [i] [] cp) env) σ Q := by
  intro X H s I
  obtain ⟨pl, hf⟩ := hf
  have I' := I
  obtain ⟨m, O, I'⟩ := I'
  obtain ⟨hm, ho, ps₀, hd₀, _⟩ := I'.holds _ hl₀.mem
  refine MethodCall_ (pl := pl) (wpAny_Name (wpAny_loadName_local hk hx (hL ▸ I'.fr.ns) hm ?_) hd) hf
  refine getMethod_builtin hd₀.typeIs PySem.F.plainAttrs_dict PySem.F.slot_dict_get PySem.F.type_dict_get hd₀.mapOf.noDict ?_
  dsimp only
  have hp : (backTo cp (starEach [] env)).any (·.1) = false := rfl
  with_reducible refine callWith_method1 ?_ he hp
  refine wpAny_items_cons (wpAny_mono (h X H s I) (fun v s₁ ⟨H₁, d, σ₁, l₁, I₁, r₁, k, kvs, e, hl, q⟩ => wpAny_items_nil ?_) fun _ _ x => x) he
  subst e
  cases r₁ with
  | int k t =>
    have I₁' := I₁
    obtain ⟨m₁, O₁, I₁'⟩ := I₁'
    obtain ⟨hm₁, ho₁, ps, hd₁, rd⟩ := I₁'.holds _ hl.mem
    have lo : (a == sysModules) = false := by
      obtain ⟨_, _, _, _, T⟩ := ok.top
      have h1 := modules_low T.nolimit
      have h2 := (I₁'.hO _ _ ho₁).2.2
      exact beq_eq_false_iff_ne.mpr (Nat.ne_of_gt (Nat.lt_of_lt_of_le h1 h2))
    refine call_meetsIn PySem.F.slot_dict_get hd₁.typeIs PySem.F.entry_dict_get (PySem.F.args_dict_get_2 _ _) (meets_dict_get _ a (intKind_is c.prog c.w k t) lo) ⟨_, hd₁.mapOf, ?_⟩
    rcases rd.get k with ⟨e1, e2⟩ | ⟨v, d, e1, e2, r⟩
    · rw [e1]; rw [e2] at q; exact ⟨H₁, _, σ₁, l₁, I₁.toks _, .none, q⟩
    · rw [e1]; rw [e2] at q; exact ⟨H₁, _, σ₁, l₁, I₁.toks _, r, q⟩

end Mine

/-! Rules6 -/
namespace Mine
open PySem PySem.W PySem.Calls PyProof.Rows PySem.Spec PyProof.V
variable {c : Cx} {env : Env} {σ : Sg}

/-! ## lists compared -/
mutual
def toDat : D → Dat
  | .none => .none
  | .bool b => .bool b
  | .int i => .int i
  | .str x => .str x
  | .tup ds => .tuple (toDats ds)
  | .lst ds => .list (toDats ds)
  | _ => .bytes #[]
def toDats : List D → List Dat
  | [] => []
  | d :: ds => toDat d :: toDats ds
end
theorem toDats_eq (ds : List D) : toDats ds = ds.map toDat := by
  induction ds with
  | nil => rfl
  | cons d ds ih => simp [toDats, ih]
mutual
theorem R.reads {P : Params} {H : PH} {h : Heap} (hH : ∀ a o, H a = some o → h.get? a = some o) : ∀ {v : Value} {d : D} (n : Nat), R P H v d → kqdOk n (toDat d) = true → ∃ as, Reads h v (kqdP (toDat d)) as
  | _, _, _, .none, _ => ⟨_, Reads.none⟩
  | _, _, _, .bool b, _ => ⟨_, Reads.bool b⟩
  | _, _, _, .int i t, _ => ⟨_, Reads.int i t⟩
  | _, _, _, .str x t, _ => ⟨_, Reads.str x t⟩
  | _, _, 0, .tup _ _ _ _, hk => by simp [toDat, kqdOk] at hk
  | _, _, 0, .lst _ _ _ _, hk => by simp [toDat, kqdOk] at hk
  | _, _, n + 1, .tup hm hc hd r, hk => by
    obtain ⟨as, q⟩ := RAll.reads hH n r (by simpa [toDat, kqdOk, toDats_eq] using hk)
    rw [toDat, kqdP]
    exact ⟨as, reads_tuple_at (hH _ _ hm) hc hd (by simpa using q)⟩
  | _, _, n + 1, .lst hm hc hd r, hk => by
    obtain ⟨as, q⟩ := RAll.reads hH n r (by simpa [toDat, kqdOk, toDats_eq] using hk)
    rw [toDat, kqdP]
    exact ⟨_, reads_list_at (hH _ _ hm) hc hd (by simpa using q)⟩
  | _, _, n, .hdr _, hk => by cases n <;> simp [toDat, kqdOk] at hk
  | _, _, n, .val _, hk => by cases n <;> simp [toDat, kqdOk] at hk
theorem RAll.reads {P : Params} {H : PH} {h : Heap} (hH : ∀ a o, H a = some o → h.get? a = some o) : ∀ {vs : List Value} {ds : List D} (n : Nat), RAll P H vs ds → (∀ d ∈ ds, kqdOk n (toDat d) = true) → ∃ as, ReadsAll h vs (kqdPs (toDats ds)) as
  | _, _, _, .nil, _ => ⟨_, ReadsAll.nil⟩
  | _, _, n, .cons hd r, hk => by
    obtain ⟨as, q⟩ := R.reads hH n hd (hk _ (.head _))
    obtain ⟨bs, p⟩ := RAll.reads hH n r fun d hm => hk d (.tail _ hm)
    rw [toDats, kqdPs]
    exact ⟨_, ReadsAll.cons q p⟩
end

theorem same_eqv {ds : List D} (hk : ∀ d ∈ ds, kqdOk 8 (toDat d) = true) : PyData.eqv (.list (kqdPs (toDats ds))) (.list (kqdPs (toDats ds))) = true ∧ SeqAt.shaped (.list (kqdPs (toDats ds))) = true := by
  have h9 : kqdOk 9 (.list (toDats ds)) = true := by simpa [kqdOk, toDats_eq] using hk
  have q := (kqd_eqv 9 (.list (toDats ds)) (.list (toDats ds)) 9 h9 h9).mpr rfl
  have l := kqd_lay 9 (.list (toDats ds)) h9
  rw [kqdP] at q l
  refine ⟨q, ?_⟩
  unfold SeqAt.shaped
  rw [l.1, Bool.true_and]
  exact decide_eq_true (Nat.le_trans l.2 (by decide))

theorem Ev.eqL {l r : Expr} {pos : Pos} {Q : D → Sg → Prop} (ok : c.Ok)
    (h : Ev c (eval l env) σ fun a σ₁ => Ev c (eval r env) σ₁ fun b σ₂ => ∃ ds, a = .lst ds ∧ b = .lst ds ∧ (∀ d ∈ ds, kqdOk 8 (toDat d) = true) ∧ Q (.bool true) σ₂)
    (hm : behindInMarks .Eq r = false := by kernel_rfl!) : Ev c (eval (.Compare l [.Eq] [r] pos) env) σ Q :=
  fun X H s I => wpAny_Compare1 (wpAny_mono (h X H s I) (fun u s₁ ⟨H₁, _, _, l₁, I₁, r₁, h₁⟩ => wpAny_mono (h₁ X H₁ s₁ I₁)
    (fun v s₂ ⟨H₂, _, σ₂, l₂, I₂, r₂, ds, e1, e2, hk, q⟩ => by
      subst e1; subst e2
      have hk' : kqdOk 9 (toDat (.lst ds)) = true := by simpa [toDat, kqdOk, toDats_eq] using hk
      obtain ⟨as, ra⟩ := R.reads I₂.inHeap 9 (r₁.mono l₂) hk'
      obtain ⟨bs, rb⟩ := R.reads I₂.inHeap 9 r₂ hk'
      rw [toDat, kqdP] at ra rb
      obtain ⟨se, sh⟩ := same_eqv hk
      exact eq_dataH ra rb sh sh (by have := ok.amb.units; omega) (by rw [se]; exact ⟨H₂, _, σ₂, l₁.trans l₂, I₂, .bool _, q⟩)) fun _ _ x => x) fun _ _ x => x) hm
theorem Tr.neL {l r : Expr} {pos : Pos} {whole : Sem Value} {Q : Bool → Sg → Prop} (ok : c.Ok)
    (h : Ev c (eval l env) σ fun a σ₁ => Ev c (eval r env) σ₁ fun b σ₂ => ∃ ds, a = .lst ds ∧ b = .lst ds ∧ (∀ d ∈ ds, kqdOk 8 (toDat d) = true) ∧ Q false σ₂)
    (hm : behindInMarks .NotEq r = false := by kernel_rfl!) : Tr c (isTrue (.Compare l [.NotEq] [r] pos) env whole) σ Q :=
  fun X H s I => wpAny_isTrue_Compare1 (wpAny_mono (h X H s I) (fun u s₁ ⟨H₁, _, _, l₁, I₁, r₁, h₁⟩ => wpAny_mono (h₁ X H₁ s₁ I₁)
    (fun v s₂ ⟨H₂, _, σ₂, l₂, I₂, r₂, ds, e1, e2, hk, q⟩ => by
      subst e1; subst e2
      have hk' : kqdOk 9 (toDat (.lst ds)) = true := by simpa [toDat, kqdOk, toDats_eq] using hk
      obtain ⟨as, ra⟩ := R.reads I₂.inHeap 9 (r₁.mono l₂) hk'
      obtain ⟨bs, rb⟩ := R.reads I₂.inHeap 9 r₂ hk'
      rw [toDat, kqdP] at ra rb
      obtain ⟨se, sh⟩ := same_eqv hk
      exact ne_dataH ra rb sh sh (by have := ok.amb.units; omega) (by rw [se]; exact wpAny_truthy_bool ⟨H₂, σ₂, l₁.trans l₂, I₂, q⟩)) fun _ _ x => x) fun _ _ x => x) hm

theorem any_int (k : Int) (ns : List Int) : ((kqdPs (toDats (ns.map D.int))).any fun y => PyData.eqv y (.int k)) = decide (k ∈ ns) := by
  induction ns with
  | nil => simp [toDats, kqdPs]
  | cons n ns ih =>
    simp only [List.map_cons, toDats, toDat, kqdPs, kqdP, List.any_cons, ih, PyData.eqv, List.mem_cons]
    by_cases h : k = n
    · subst h; simp
    · have h' : (n == k) = false := beq_eq_false_iff_ne.mpr fun e => h e.symm
      simp [h, h']
def NinAt (σ : Sg) (x : Str) (d : D) (Q : Bool → Sg → Prop) : Prop := ∃ (a : Addr) (k : Int) (ns : List Int), d = .int k ∧ Loc σ x (.own a (.lst (ns.map D.int))) ∧ Q (!decide (k ∈ ns)) σ
theorem NinAt.intro {σ : Sg} {x : Str} {a : Addr} {k : Int} {ns : List Int} {Q : Bool → Sg → Prop} (h : Loc σ x (.own a (.lst (ns.map D.int)))) (q : Q (!decide (k ∈ ns)) σ) : NinAt σ x (.int k) Q := ⟨_, _, _, rfl, h, q⟩
/-- k not in x, x an own list of ints -/
theorem Tr.notInOwn {l : Expr} {x : Str} {px pos : Pos} {whole : Sem Value} {Q : Bool → Sg → Prop} (ok : c.Ok)
    (h : Ev c (eval l env) σ fun d σ₁ => NinAt σ₁ x d Q)
    (hm : behindInMarks .NotIn (.Name x px) = false := by kernel_rfl!)
    (hL : env.locals = c.L := by kernel_rfl!) (hk : env.scope.kind = .function := by kernel_rfl!) (hx : env.kindOf x = some .local := by kernel_rfl!) (hd : (x == ("__debug__" : Str)) = false := by decide) :
    Tr c (isTrue (.Compare l [.NotIn] [.Name x px] pos) env whole) σ Q := by
  intro X H s I
  refine wpAny_isTrue_Compare1 (wpAny_mono (h X H s I) (fun u s₁ ⟨H₁, _, σ₁, l₁, I₁, r₁, a, k, ns, e, hl, q⟩ => ?_) fun _ _ x => x) hm
  subst e
  have I₁' := I₁
  obtain ⟨m, O, I₁'⟩ := I₁'
  obtain ⟨hm', ho, vs, n, ha, rr⟩ := I₁'.holds _ hl.mem
  refine wpAny_Name (wpAny_loadName_local hk hx (hL ▸ I₁'.fr.ns) hm' ?_) hd
  cases r₁ with
  | int k t =>
    have hks : ∀ d ∈ ns.map D.int, kqdOk 8 (toDat d) = true := fun d hd => by
      obtain ⟨n, _, rfl⟩ := List.mem_map.mp hd; rfl
    obtain ⟨as, ra⟩ := RAll.reads I₁.inHeap 8 rr hks
    have l2 := kqd_layL (ds := toDats (ns.map D.int)) (by rw [toDats_eq]; intro d hd; obtain ⟨e, he, rfl⟩ := List.mem_map.mp hd; exact hks e he)
    refine SeqAt.notIn_list_reads (d := .int k) (reads_list_at (xs := kqdPs (toDats (ns.map D.int))) ha rfl rfl (by simpa using ra)) (Reads.int k t) l2.1 (by rfl) ?_ ?_
    · have := ok.amb.units
      have h2 := Nat.min_le_right (PyData.depthAll (kqdPs (toDats (ns.map D.int)))) (PyData.depth (.int k))
      have h3 : PyData.depth (.int k) = 0 := rfl
      omega
    · rw [any_int]
      exact wpAny_truthy_bool ⟨H₁, σ₁, l₁, I₁, q⟩

end Mine

/-! Steps -/
namespace Mine
open PySem PySem.W PySem.Calls PyProof.Rows
theorem Seq.next {c : Cx} {env : Env} {rest : List Stmt} {Q : FD → Sg → Prop} {σ : Sg} (h : St c (execs rest env) σ Q) : Seq c env rest Q .next σ := h
theorem Seq.ret {c : Cx} {env : Env} {rest : List Stmt} {Q : FD → Sg → Prop} {σ : Sg} {d : D} (h : Q (.ret d) σ) : Seq c env rest Q (.ret d) σ := h
theorem Seq.brk {c : Cx} {env : Env} {rest : List Stmt} {Q : FD → Sg → Prop} {σ : Sg} (h : Q .brk σ) : Seq c env rest Q .brk σ := h
theorem LoopQ.next {J : Sg → Prop} {Q : FD → Sg → Prop} {σ : Sg} (h : J σ) : LoopQ J Q .next σ := h
theorem LoopQ.brk {J : Sg → Prop} {Q : FD → Sg → Prop} {σ : Sg} (h : Q .next σ) : LoopQ J Q .brk σ := h
theorem LoopQ.ret {J : Sg → Prop} {Q : FD → Sg → Prop} {σ : Sg} {d : D} (h : Q (.ret d) σ) : LoopQ J Q (.ret d) σ := h
theorem RetQ.ret {q : D → Prop} {σ : Sg} {d : D} (h : q d) : RetQ q (.ret d) σ := h

theorem Fn.of {K : Frag} {x : Str} {f : Addr} {oc : Value} {od : Option Addr} {fd : FuncData} {osl : Array (Option Value)} (h1 : nsIn K mainGlobals x = some (some (.ref f))) (h2 : K.lookup f = some ⟨oc, od, .func fd, osl⟩) : Fn K x f := ⟨h1, _, _, h2, rfl⟩
theorem upd_intro {σ σ₂ : Sg} {x : Str} {l : LV} {Q : Sg → Prop} (h : Upd σ x l σ₂) (q : Q σ₂) : ∃ σ₂, Upd σ x l σ₂ ∧ Q σ₂ := ⟨_, h, q⟩
theorem app_intro {σ σ₂ : Sg} {x : Str} {a : Addr} {d : D} {ds : List D} {Q : Sg → Prop} (h : Loc σ x (.own a (.lst ds))) (h1 : ds.length ≤ 16777216) (h2 : Upd σ x (.own a (.lst (ds ++ [d]))) σ₂) (q : Q σ₂) :
    ∃ ds σ₂, Loc σ x (.own a (.lst ds)) ∧ ds.length ≤ 16777216 ∧ Upd σ x (.own a (.lst (ds ++ [d]))) σ₂ ∧ Q σ₂ := ⟨_, _, h, h1, h2, q⟩
theorem ext_intro {σ σ₂ : Sg} {x : Str} {a : Addr} {es ds : List D} {Q : Sg → Prop} (h : Loc σ x (.own a (.lst ds))) (h1 : ds.length + es.length ≤ 16777216) (h2 : Upd σ x (.own a (.lst (ds ++ es))) σ₂) (q : Q σ₂) :
    ∃ ds σ₂, Loc σ x (.own a (.lst ds)) ∧ ds.length + es.length ≤ 16777216 ∧ Upd σ x (.own a (.lst (ds ++ es))) σ₂ ∧ Q σ₂ := ⟨_, _, h, h1, h2, q⟩
theorem put_intro {c : Cx} {σ : Sg} {x : Str} {a : Addr} {t : Sem Value} {kvs : List (Int × D)} {Q : D → Sg → Prop} (h : Loc σ x (.own a (.dct kvs))) (q : Ev c t σ Q) : ∃ kvs, Loc σ x (.own a (.dct kvs)) ∧ Ev c t σ Q := ⟨_, h, q⟩
theorem put_intro2 {σ σ₂ : Sg} {x : Str} {a : Addr} {k : Int} {d : D} {kvs : List (Int × D)} {Q : Sg → Prop} (h : Loc σ x (.own a (.dct kvs))) (h1 : kvs.length ≤ 16777216) (h2 : Upd σ x (.own a (.dct (dPut kvs k d))) σ₂) (q : Q σ₂) :
    ∃ k' kvs σ₂, D.int k = .int k' ∧ Loc σ x (.own a (.dct kvs)) ∧ kvs.length ≤ 16777216 ∧ Upd σ x (.own a (.dct (dPut kvs k' d))) σ₂ ∧ Q σ₂ := ⟨_, _, _, rfl, h, h1, h2, q⟩
theorem sw_intro {σ₁ σ₂ σ₃ : Sg} {xa xb : Str} {d₁ d₂ : D} {Q : Sg → Prop} (h2 : Upd σ₁ xb (.d d₂) σ₂) (h3 : Upd σ₂ xa (.d d₁) σ₃) (q : Q σ₃) :
    ∃ e₁ e₂ σ₂ σ₃, D.tup [d₁, d₂] = .tup [e₁, e₂] ∧ Upd σ₁ xb (.d e₂) σ₂ ∧ Upd σ₂ xa (.d e₁) σ₃ ∧ Q σ₃ := ⟨_, _, _, _, rfl, h2, h3, q⟩
/-! ## codes -/
def T (l : List Nat) : Str := ⟨l.toArray⟩
def sg (b : Int) : Nat := if b = 0 then 111 else if b = 1 then 120 else 34
def stU (k : Int) : Nat := if k = 0 then 97 else if k = 1 then 98 else if k = 2 then 65 else 66
def stV (k : Int) : Nat := if k = 0 then 97 else if k = 1 then 98 else if k = 2 then 65 else 122
theorem item_sg {b : Int} (h : 0 ≤ b) (h' : b < 3) : Txt.item (Str.ofString "ox\"") b = T [sg b] := by
  have : b = 0 ∨ b = 1 ∨ b = 2 := by omega
  rcases this with rfl | rfl | rfl <;> decide +kernel
theorem item_U {b : Int} (h : 0 ≤ b) (h' : b < 4) : Txt.item (Str.ofString "abAB") b = T [stU b] := by
  have : b = 0 ∨ b = 1 ∨ b = 2 ∨ b = 3 := by omega
  rcases this with rfl | rfl | rfl | rfl <;> decide +kernel
theorem item_V {b : Int} (h : 0 ≤ b) (h' : b < 4) : Txt.item (Str.ofString "abAz") b = T [stV b] := by
  have : b = 0 ∨ b = 1 ∨ b = 2 ∨ b = 3 := by omega
  rcases this with rfl | rfl | rfl | rfl <;> decide +kernel
theorem len_ox : (Str.ofString "ox\"").length = 3 := by decide +kernel
theorem len_abAB : (Str.ofString "abAB").length = 4 := by decide +kernel
theorem len_abAz : (Str.ofString "abAz").length = 4 := by decide +kernel
theorem T_append (a b : List Nat) : T a ++ T b = T (a ++ b) := by
  show (⟨a.toArray ++ b.toArray⟩ : Str) = ⟨(a ++ b).toArray⟩
  simp
theorem T_length (a : List Nat) : (T a).length = a.length := by simp [T, Str.length]
theorem T_inj {a b : List Nat} (h : T a = T b) : a = b := by
  have : (T a).cps.toList = (T b).cps.toList := by rw [h]
  simpa [T] using this
theorem T_beq (a b : List Nat) : (T a == T b) = decide (a = b) := by
  by_cases h : a = b
  · subst h; simp
  · simp only [h, decide_false, beq_eq_false_iff_ne, ne_eq]
    exact fun e => h (T_inj e)
theorem T_bne (a b : List Nat) : (T a != T b) = !decide (a = b) := by
  show (!(T a == T b)) = _; rw [T_beq]
theorem ofString_T (s : String) (l : List Nat) (h : s.toList.map Char.toNat = l) : Str.ofString s = T l := by
  rw [Str.ofString_eq_toList, h]; rfl

theorem Item.ox {b : Int} (h : 0 ≤ b) (h' : b < 3) : Item (.str (Str.ofString "ox\"")) (.int b) (.str (T [sg b])) := item_sg h h' ▸ Item.str (by rw [len_ox]; omega) (by rw [len_ox]; omega) (by rw [len_ox]; omega)
theorem Item.U {b : Int} (h : 0 ≤ b) (h' : b < 4) : Item (.str (Str.ofString "abAB")) (.int b) (.str (T [stU b])) := item_U h h' ▸ Item.str (by rw [len_abAB]; omega) (by rw [len_abAB]; omega) (by rw [len_abAB]; omega)
theorem Item.V {b : Int} (h : 0 ≤ b) (h' : b < 4) : Item (.str (Str.ofString "abAz")) (.int b) (.str (T [stV b])) := item_V h h' ▸ Item.str (by rw [len_abAz]; omega) (by rw [len_abAz]; omega) (by rw [len_abAz]; omega)
theorem OpI.addT {a b : List Nat} (h : a.length + b.length ≤ 16777216) : OpI .Add (.str (T a)) (.str (T b)) (.str (T (a ++ b))) := T_append a b ▸ OpI.addS (by rw [T_length, T_length]; exact h)
theorem Ev.strT {c : Cx} {env : Env} {σ : Sg} {x : Str} {l : List Nat} {k : Nat} {pos : Pos} {Q : D → Sg → Prop} (h : x = T l) (q : Q (.str (T l)) σ) : Ev c (eval (.Constant (.str x) k pos) env) σ Q := h ▸ Ev.str (h ▸ q)
theorem lit_nil : Str.ofString "" = T [] := by decide +kernel
theorem lit_gg : Str.ofString ">>" = T [62, 62] := by decide +kernel
theorem lit_ll : Str.ofString "<<" = T [60, 60] := by decide +kernel
theorem lit_ar : Str.ofString "->" = T [45, 62] := by decide +kernel
theorem lit_257q : Str.ofString "257 \"" = T [50, 53, 55, 32, 34] := by decide +kernel
theorem lit_257 : Str.ofString "257" = T [50, 53, 55] := by decide +kernel
theorem lit_sq : Str.ofString " \"" = T [32, 34] := by decide +kernel
theorem lit_q : Str.ofString "\"" = T [34] := by decide +kernel
theorem lit_qq : Str.ofString "\"\"" = T [34, 34] := by decide +kernel
theorem lit_qa : Str.ofString "\"a" = T [34, 97] := by decide +kernel
theorem lit_o : Str.ofString "o" = T [111] := by decide +kernel
theorem lit_rt : Str.ofString "o\"xxxxxx" = T [111, 34, 120, 120, 120, 120, 120, 120] := by decide +kernel

structure Rl where
  a : Int
  b : Int
  c : Int
  d : Int
  e : Int
  f : Int
structure Rl.Ok (r : Rl) : Prop where
  a0 : 0 ≤ r.a
  a1 : r.a < 2
  b0 : 0 ≤ r.b
  b1 : r.b < 3
  c0 : 0 ≤ r.c
  c1 : r.c < 3
  d0 : 0 ≤ r.d
  d1 : r.d < 2
  e0 : 0 ≤ r.e
  e1 : r.e < 4
  f0 : 0 ≤ r.f
  f1 : r.f < 2
def Rl.D (r : Rl) : D := .tup [.int r.a, .int r.b, .int r.c, .int r.d, .int r.e, .int r.f]
def Rl.name (r : Rl) : List Nat := [stU (r.a + 2 * r.f), sg r.b]
def arrow (d : Int) : Nat := if d = 1 then 62 else 60
def Rl.deed (r : Rl) : List Nat := [sg r.c, arrow r.d, arrow r.d, stV r.e]
def Rl.pair (r : Rl) : Mine.D := .tup [.str (T r.name), .str (T r.deed)]

def Sgn (c : Nat) : Prop := c = 111 ∨ c = 120 ∨ c = 34
def dig (c : Nat) : Int := if c = 111 then 0 else if c = 120 then 1 else 2
def worth (l : List Nat) : Int := l.foldl (fun acc c => 3 * acc + dig c) 0
theorem find_ox {c : Nat} (h : Sgn c) : Txt.find (Str.ofString "ox\"") (T [c]) = dig c := by
  rcases h with rfl | rfl | rfl <;> decide +kernel
theorem signs_T {l : List Nat} {i : Nat} {d : D} (h : (signs (T l))[i]? = some d) : ∃ c, l[i]? = some c ∧ d = .str (T [c]) := by
  simp only [signs, T, List.getElem?_map, Option.map_eq_some_iff] at h
  obtain ⟨c, hc, rfl⟩ := h
  exact ⟨c, by simpa using hc, rfl⟩
theorem ascii_T {l : List Nat} (h : ∀ c ∈ l, c < 128) : (T l).cps.all (· < 128) = true := by
  simp only [T, List.all_toArray, List.all_eq_true, decide_eq_true_eq]
  exact h
theorem take_snoc {α : Type} {l : List α} {i : Nat} {c : α} (h : l[i]? = some c) : l.take (i + 1) = l.take i ++ [c] := by
  rw [List.take_add_one, h]; rfl
theorem worth_snoc (l : List Nat) (c : Nat) : worth (l ++ [c]) = 3 * worth l + dig c := by simp [worth]

def keyOf (r : Rl) : Int := 3 * r.a + r.b
def kstep (s : List Int × List Rl) (r : Rl) : List Int × List Rl := if keyOf r ∈ s.1 then s else (s.1 ++ [keyOf r], s.2 ++ [r])
def kacc (l : List Rl) : List Int × List Rl := l.foldl kstep ([], [])
def kept (rs : List Rl) : List Rl := (kacc rs.reverse).2.reverse
theorem kacc_snoc (l : List Rl) (r : Rl) : kacc (l ++ [r]) = kstep (kacc l) r := by simp [kacc]
theorem kacc_len (l : List Rl) : (kacc l).1.length ≤ l.length ∧ (kacc l).2.length ≤ l.length := by
  suffices h : ∀ (l : List Rl) (s : List Int × List Rl), (l.foldl kstep s).1.length ≤ s.1.length + l.length ∧ (l.foldl kstep s).2.length ≤ s.2.length + l.length by
    have := h l ([], []); simpa [kacc] using this
  intro l
  induction l with
  | nil => intro s; simp
  | cons r l ih =>
    intro s
    have := ih (kstep s r)
    simp only [List.foldl_cons, List.length_cons]
    unfold kstep at this ⊢
    split at this <;> split <;> simp_all <;> omega
theorem map_get {α β : Type} {f : α → β} {l : List α} {i : Nat} {d : β} (h : (l.map f)[i]? = some d) : ∃ a, l[i]? = some a ∧ d = f a := by
  rw [List.getElem?_map, Option.map_eq_some_iff] at h
  obtain ⟨a, h1, h2⟩ := h
  exact ⟨a, h1, h2.symm⟩

def ruleOf (x : Int) : Rl :=
  ⟨(x.fmod 288).fmod 2, ((x.fmod 288).fdiv 2).fmod 3, ((x.fmod 288).fdiv 6).fmod 3, ((x.fmod 288).fdiv 18).fmod 2, ((x.fmod 288).fdiv 36).fmod 4, (x.fmod 288).fdiv 144⟩
def base6 : List Rl := [⟨0, 0, 1, 1, 1, 0⟩, ⟨0, 1, 2, 0, 1, 1⟩, ⟨0, 2, 1, 1, 3, 0⟩, ⟨1, 0, 2, 0, 2, 1⟩, ⟨1, 1, 2, 1, 1, 0⟩, ⟨1, 2, 1, 0, 1, 0⟩]
def rulesOf (ns : List Int) : List Rl := base6 ++ (ns.take 6).map ruleOf
theorem fmod_lt' (a : Int) {b : Int} (h : 0 < b) : 0 ≤ a.fmod b ∧ a.fmod b < b := ⟨Int.fmod_nonneg_of_pos a h, Int.fmod_lt_of_pos a h⟩
theorem ruleOf_ok (x : Int) : (ruleOf x).Ok := by
  have h0 := fmod_lt' x (show (0 : Int) < 288 by decide)
  have h1 := fmod_lt' (x.fmod 288) (show (0 : Int) < 2 by decide)
  have h2 := fmod_lt' ((x.fmod 288).fdiv 2) (show (0 : Int) < 3 by decide)
  have h3 := fmod_lt' ((x.fmod 288).fdiv 6) (show (0 : Int) < 3 by decide)
  have h4 := fmod_lt' ((x.fmod 288).fdiv 18) (show (0 : Int) < 2 by decide)
  have h5 := fmod_lt' ((x.fmod 288).fdiv 36) (show (0 : Int) < 4 by decide)
  have h6 : 0 ≤ (x.fmod 288).fdiv 144 ∧ (x.fmod 288).fdiv 144 < 2 := by
    rw [Int.fdiv_eq_ediv_of_nonneg _ (by decide)]; omega
  exact ⟨h1.1, h1.2, h2.1, h2.2, h3.1, h3.2, h4.1, h4.2, h5.1, h5.2, h6.1, h6.2⟩
theorem base6_ok : ∀ r ∈ base6, r.Ok := by
  intro r hr
  simp only [base6, List.mem_cons, List.not_mem_nil, or_false] at hr
  rcases hr with rfl | rfl | rfl | rfl | rfl | rfl <;> constructor <;> decide
theorem rulesOf_ok (ns : List Int) : ∀ r ∈ rulesOf ns, r.Ok := by
  intro r hr
  rcases List.mem_append.mp hr with hr | hr
  · exact base6_ok r hr
  · obtain ⟨x, _, rfl⟩ := List.mem_map.mp hr; exact ruleOf_ok x
theorem rulesOf_len (ns : List Int) : (rulesOf ns).length ≤ 12 := by
  have : (ns.take 6).length ≤ 6 := by rw [List.length_take]; omega
  simp only [rulesOf, List.length_append, List.length_map]
  have : base6.length = 6 := rfl
  omega

/-- the tape's two ends -/
def tstep (s : List Nat × List Nat) (x : Int) : List Nat × List Nat :=
  if (x.fdiv 288).fmod 2 = 0 then (s.1 ++ [sg (((x.fdiv 288).fdiv 2).fmod 3)], s.2) else (s.1, s.2 ++ [sg (((x.fdiv 288).fdiv 2).fmod 3)])
def tacc (l : List Int) : List Nat × List Nat := l.foldl tstep ([], [111, 34, 120, 120, 120, 120, 120, 120])
def tape (ns : List Int) : List Nat × List Nat := tacc (ns.take 6)
theorem tacc_snoc (l : List Int) (x : Int) : tacc (l ++ [x]) = tstep (tacc l) x := by simp [tacc]
theorem sg_sgn (b : Int) : Sgn (sg b) := by unfold sg Sgn; split <;> (try split) <;> simp
theorem tacc_ok (l : List Int) : (tacc l).1.length ≤ l.length ∧ (tacc l).2.length ≤ 8 + l.length ∧ (∀ c ∈ (tacc l).1, Sgn c) ∧ (∀ c ∈ (tacc l).2, Sgn c) := by
  suffices h : ∀ (l : List Int) (s : List Nat × List Nat), (∀ c ∈ s.1, Sgn c) → (∀ c ∈ s.2, Sgn c) → (l.foldl tstep s).1.length ≤ s.1.length + l.length ∧ (l.foldl tstep s).2.length ≤ s.2.length + l.length ∧ (∀ c ∈ (l.foldl tstep s).1, Sgn c) ∧ (∀ c ∈ (l.foldl tstep s).2, Sgn c) by
    have := h l ([], [111, 34, 120, 120, 120, 120, 120, 120]) (by simp) (by simp [Sgn]); simpa [tacc] using this
  intro l
  induction l with
  | nil => intro s h1 h2; simp; exact ⟨h1, h2⟩
  | cons x l ih =>
    intro s h1 h2
    have h3 := sg_sgn (((x.fdiv 288).fdiv 2).fmod 3)
    rw [List.foldl_cons, List.length_cons]
    by_cases hc : (x.fdiv 288).fmod 2 = 0
    · have e : tstep s x = (s.1 ++ [sg (((x.fdiv 288).fdiv 2).fmod 3)], s.2) := if_pos hc
      rw [e]
      have := ih (s.1 ++ [sg (((x.fdiv 288).fdiv 2).fmod 3)], s.2) (by simp only [List.mem_append, List.mem_singleton]; rintro c (h | rfl); exact h1 c h; exact h3) h2
      refine ⟨?_, ?_, this.2.2⟩
      · have := this.1; simp only [List.length_append, List.length_cons, List.length_nil] at this; omega
      · have := this.2.1; simp only at this; omega
    · have e : tstep s x = (s.1, s.2 ++ [sg (((x.fdiv 288).fdiv 2).fmod 3)]) := if_neg hc
      rw [e]
      have := ih (s.1, s.2 ++ [sg (((x.fdiv 288).fdiv 2).fmod 3)]) h1 (by simp only [List.mem_append, List.mem_singleton]; rintro c (h | rfl); exact h2 c h; exact h3)
      refine ⟨?_, ?_, this.2.2⟩
      · have := this.1; simp only at this; omega
      · have := this.2.1; simp only [List.length_append, List.length_cons, List.length_nil] at this; omega

/-! ## the numbers' run -/
def lastOf (rs : List Rl) : List (Int × D) := rs.foldl (fun m r => dPut m (keyOf r) r.D) []
def lk (rs : List Rl) (k : Int) : Option Rl := rs.reverse.find? fun r => keyOf r = k
theorem lastOf_snoc (rs : List Rl) (r : Rl) : lastOf (rs ++ [r]) = dPut (lastOf rs) (keyOf r) r.D := by simp [lastOf]
theorem lk_snoc (rs : List Rl) (r : Rl) (k : Int) : lk (rs ++ [r]) k = if keyOf r = k then some r else lk rs k := by
  unfold lk
  rw [List.reverse_append, List.reverse_singleton, List.singleton_append, List.find?_cons]
  by_cases h : keyOf r = k <;> simp [h]
theorem dGet_put (m : List (Int × D)) (k k' : Int) (d : D) : dGet (dPut m k d) k' = if k = k' then some d else dGet m k' := by
  unfold dPut
  split
  · rename_i h
    induction m with
    | nil => simp at h
    | cons p m ih =>
      obtain ⟨a, b⟩ := p
      simp only [List.map_cons]
      by_cases ha : a = k
      · subst ha
        simp only [if_true]
        by_cases hk : a = k'
        · subst hk; simp [dGet]
        · have e : ∀ m : List (Int × D), dGet (m.map fun kv => if kv.1 = a then (kv.1, d) else kv) k' = dGet m k' := by
            intro m
            induction m with
            | nil => rfl
            | cons q m ih =>
              obtain ⟨x, y⟩ := q
              by_cases hx : x = a
              · subst hx
                have hne : ¬ x = k' := hk
                simp only [List.map_cons, if_true, dGet, List.find?_cons, hne, decide_false] at ih ⊢
                exact ih
              · by_cases hx' : x = k'
                · subst hx'; simp [dGet, hx]
                · simp only [List.map_cons, hx, if_false, dGet, List.find?_cons, hx', decide_false] at ih ⊢
                  exact ih
          simp only [hk, if_false]
          have e2 : dGet ((a, d) :: (m.map fun kv => if kv.1 = a then (kv.1, d) else kv)) k' = dGet (m.map fun kv => if kv.1 = a then (kv.1, d) else kv) k' := by simp [dGet, hk]
          have e3 : dGet ((a, b) :: m) k' = dGet m k' := by simp [dGet, hk]
          rw [e2, e3, e]
      · have h' : m.any (fun kv => kv.1 = k) = true := by simpa [ha] using h
        have ih := ih h'
        simp only [ha, if_false]
        by_cases hk : a = k'
        · subst hk
          have hne : ¬ k = a := fun e => ha e.symm
          simp [dGet, hne]
        · have e2 : dGet ((a, b) :: (m.map fun kv => if kv.1 = k then (kv.1, d) else kv)) k' = dGet (m.map fun kv => if kv.1 = k then (kv.1, d) else kv) k' := by simp [dGet, hk]
          have e3 : dGet ((a, b) :: m) k' = dGet m k' := by simp [dGet, hk]
          rw [e2, e3]; exact ih
  · rename_i h
    induction m with
    | nil => by_cases hk : k = k' <;> simp [dGet, hk]
    | cons p m ih =>
      obtain ⟨a, b⟩ := p
      have ha : ¬ a = k := fun e => h (by simp [e])
      have h' : ¬ m.any (fun kv => kv.1 = k) = true := fun e => h (by simp only [List.any_cons, e, Bool.or_true])
      have ih := ih h'
      by_cases hk : a = k'
      · subst hk
        have hne : ¬ k = a := fun e => ha e.symm
        simp [dGet, hne]
      · have e2 : dGet ((a, b) :: m ++ [(k, d)]) k' = dGet (m ++ [(k, d)]) k' := by simp [dGet, hk]
        have e3 : dGet ((a, b) :: m) k' = dGet m k' := by simp [dGet, hk]
        rw [e2, e3]; exact ih
theorem rev_ind {α : Type} {P : List α → Prop} (h0 : P []) (h1 : ∀ l a, P l → P (l ++ [a])) (l : List α) : P l := by
  have : ∀ l : List α, P l.reverse := by
    intro l
    induction l with
    | nil => exact h0
    | cons a l ih => rw [List.reverse_cons]; exact h1 _ _ ih
  have := this l.reverse
  rwa [List.reverse_reverse] at this
theorem dGet_last (rs : List Rl) (k : Int) : dGet (lastOf rs) k = (lk rs k).map Rl.D := by
  induction rs using rev_ind with
  | h0 => rfl
  | h1 rs r ih => rw [lastOf_snoc, dGet_put, lk_snoc]; split <;> simp [ih]
theorem dPut_len (m : List (Int × D)) (k : Int) (d : D) : (dPut m k d).length ≤ m.length + 1 := by
  unfold dPut; split <;> simp
theorem lastOf_len (rs : List Rl) : (lastOf rs).length ≤ rs.length := by
  induction rs using rev_ind with
  | h0 => simp [lastOf]
  | h1 rs r ih => rw [lastOf_snoc]; have := dPut_len (lastOf rs) (keyOf r) r.D; simp only [List.length_append, List.length_cons, List.length_nil]; omega
theorem lk_mem {rs : List Rl} {k : Int} {r : Rl} (h : lk rs k = some r) : r ∈ rs := List.mem_reverse.mp (List.mem_of_find?_eq_some h)

def st3 (k : Int) : Nat := if k = 0 then 97 else if k = 1 then 98 else 122
def nxt (e : Int) : Int := if e = 1 then 1 else if e = 3 then 2 else 0
theorem item_Z {b : Int} (h : 0 ≤ b) (h' : b < 3) : Txt.item (Str.ofString "abz") b = T [st3 b] := by
  have : b = 0 ∨ b = 1 ∨ b = 2 := by omega
  rcases this with rfl | rfl | rfl <;> decide +kernel
theorem len_abz : (Str.ofString "abz").length = 3 := by decide +kernel
theorem Item.Z {b : Int} (h : 0 ≤ b) (h' : b < 3) : Item (.str (Str.ofString "abz")) (.int b) (.str (T [st3 b])) := item_Z h h' ▸ Item.str (by rw [len_abz]; omega) (by rw [len_abz]; omega) (by rw [len_abz]; omega)
theorem Item.nxt {e : Int} (h : 0 ≤ e) (h' : e < 4) : Item (.tup [.int 0, .int 1, .int 0, .int 2]) (.int e) (.int (nxt e)) := by
  refine Item.tup h (by omega) ?_
  have : e = 0 ∨ e = 1 ∨ e = 2 ∨ e = 3 := by omega
  rcases this with rfl | rfl | rfl | rfl <;> rfl
theorem nxt_ok (e : Int) : 0 ≤ nxt e ∧ nxt e < 3 := by unfold nxt; split <;> (try split) <;> omega

structure Cf where
  st : Int
  l : Int
  r : Int
def Cf.D (c : Cf) : D := .tup [.str (T [st3 c.st]), .int c.l, .int c.r]
def nnext (c : Cf) (r : Rl) : Cf :=
  if r.d = 1 then ⟨nxt r.e, 3 * c.l + (c.r - c.r.fmod 3 + r.c).fmod 3, (c.r - c.r.fmod 3 + r.c).fdiv 3⟩ else ⟨nxt r.e, c.l.fdiv 3, 3 * (c.r - c.r.fmod 3 + r.c) + c.l.fmod 3⟩
def nstep (rs : List Rl) (c : Cf) : Option Cf := (lk rs (3 * c.st + c.r.fmod 3)).map (nnext c)
def ntold (rs : List Rl) : Nat → Cf → List Cf
  | 0, _ => []
  | n + 1, c => c :: (match nstep rs c with | none => [] | some c' => ntold rs n c')
end Mine

/-! Texts -/
namespace Mine
open PySem PySem.W PySem.Calls PyProof.Rows

/-! ## slices of texts as lists -/
def clipN (n : Nat) (v : Option Int) (d : Nat) : Nat := match v with
  | none => d
  | some i => (max 0 (min (if i < 0 then i + n else i) n)).toNat
def cutL (l : List Nat) (lo hi : Option Int) : List Nat := (l.drop (clipN l.length lo 0)).take (clipN l.length hi l.length - clipN l.length lo 0)
theorem clipN_le (n : Nat) (v : Option Int) (d : Nat) (hd : d ≤ n) : clipN n v d ≤ n := by
  unfold clipN; split
  · exact hd
  · omega
theorem indices_T (n : Nat) (lo hi : Option Int) : Builtin.Str.strSliceIndices lo hi 1 n = sliceRange (clipN n lo 0) (clipN n hi n) 1 := by
  unfold Builtin.Str.strSliceIndices clipN
  cases lo <;> cases hi <;> simp only [show (1 : Int) > 0 by decide, if_true] <;> congr 1 <;> (try omega) <;> (try rfl)
theorem slice_T (l : List Nat) (lo hi : Option Int) : Txt.slice (T l) lo hi = T (cutL l lo hi) := by
  have key : ((Builtin.Str.strSliceIndices lo hi 1 l.length).filterMap ((T l).cps[·]?)) = cutL l lo hi := by
    rw [indices_T, sliceRange_one, pick_run]
    simp [T, cutL]
  have hlen : (Builtin.Str.strSliceIndices lo hi 1 l.length).length = clipN l.length hi l.length - clipN l.length lo 0 := by
    rw [indices_T, sliceRange_one]; simp
  have e : Txt.slice (T l) lo hi = if ((Builtin.Str.strSliceIndices lo hi 1 (T l).length).length == (T l).length) = true then T l else ⟨((Builtin.Str.strSliceIndices lo hi 1 (T l).length).filterMap ((T l).cps[·]?)).toArray⟩ := by
    unfold Txt.slice
    rfl
  rw [e, T_length]
  split
  · rename_i h
    rw [hlen] at h
    have h1 := clipN_le l.length lo 0 (Nat.zero_le _)
    have h2 := clipN_le l.length hi l.length (Nat.le_refl _)
    have h3 : clipN l.length hi l.length - clipN l.length lo 0 = l.length := by simpa using h
    unfold cutL
    by_cases hl : l.length = 0
    · have : l = [] := List.length_eq_zero_iff.mp hl
      subst this; simp
    · have e1 : clipN l.length lo 0 = 0 := by omega
      rw [h3, e1, List.drop_zero, List.take_length]
  · rw [key]; rfl
theorem cutL_len (l : List Nat) (lo hi : Option Int) : (cutL l lo hi).length ≤ l.length := by unfold cutL; rw [List.length_take, List.length_drop]; omega
theorem cutL_to (l : List Nat) (n : Nat) : cutL l none (some (n : Int)) = l.take n := by
  have e : clipN l.length (some (n : Int)) l.length = min n l.length := by unfold clipN; simp only; rw [if_neg (by omega)]; omega
  have e0 : clipN l.length none 0 = 0 := rfl
  unfold cutL
  rw [e, e0, List.drop_zero, Nat.sub_zero, ← List.take_eq_take_min]
theorem cutL_from (l : List Nat) (n : Nat) : cutL l (some (n : Int)) none = l.drop n := by
  have e : clipN l.length (some (n : Int)) 0 = min n l.length := by unfold clipN; simp only; rw [if_neg (by omega)]; omega
  have e0 : clipN l.length none l.length = l.length := rfl
  unfold cutL
  rw [e, e0]
  by_cases h : n ≤ l.length
  · rw [Nat.min_eq_left h, List.take_of_length_le (by rw [List.length_drop]; omega)]
  · rw [Nat.min_eq_right (by omega), List.drop_of_length_le (Nat.le_refl _), List.drop_of_length_le (by omega)]; simp
theorem cutL_mid (l : List Nat) (a b : Nat) : cutL l (some (a : Int)) (some (b : Int)) = (l.drop a).take (b - a) := by
  have e : clipN l.length (some (a : Int)) 0 = min a l.length := by unfold clipN; simp only; rw [if_neg (by omega)]; omega
  have e0 : clipN l.length (some (b : Int)) l.length = min b l.length := by unfold clipN; simp only; rw [if_neg (by omega)]; omega
  unfold cutL
  rw [e, e0]
  by_cases h : a ≤ l.length
  · rw [Nat.min_eq_left h]
    by_cases h2 : b ≤ l.length
    · rw [Nat.min_eq_left h2]
    · rw [Nat.min_eq_right (show l.length ≤ b by omega), List.take_of_length_le (by rw [List.length_drop]; omega), List.take_of_length_le (by rw [List.length_drop]; omega)]
  · rw [Nat.min_eq_right (show l.length ≤ a by omega), List.drop_of_length_le (Nat.le_refl _), List.drop_of_length_le (l := l) (i := a) (by omega)]; simp
theorem cutL_toNeg (l : List Nat) : cutL l none (some (-1)) = l.take (l.length - 1) := by
  have e : clipN l.length (some (-1)) l.length = l.length - 1 := by unfold clipN; simp only; rw [if_pos (by omega)]; omega
  have e0 : clipN l.length none 0 = 0 := rfl
  unfold cutL
  rw [e, e0, List.drop_zero, Nat.sub_zero]
theorem cutL_fromNeg (l : List Nat) : cutL l (some (-1)) none = l.drop (l.length - 1) := by
  have e : clipN l.length (some (-1)) 0 = l.length - 1 := by unfold clipN; simp only; rw [if_pos (by omega)]; omega
  have e0 : clipN l.length none l.length = l.length := rfl
  unfold cutL
  rw [e, e0, List.take_of_length_le (by rw [List.length_drop]; omega)]
theorem cutL_to' (l : List Nat) {i : Int} (n : Nat) (h : i = n) : cutL l none (some i) = l.take n := h ▸ cutL_to l n
theorem cutL_from' (l : List Nat) {i : Int} (n : Nat) (h : i = n) : cutL l (some i) none = l.drop n := h ▸ cutL_from l n
theorem cutL_mid' (l : List Nat) {i j : Int} (a b : Nat) (h : i = a) (h' : j = b) : cutL l (some i) (some j) = (l.drop a).take (b - a) := by subst h; subst h'; exact cutL_mid l a b

theorem Ev.sliceT {c : Cx} {env : Env} {σ : Sg} {value : Expr} {lower upper : Option Expr} {p pos : Pos} {Q : D → Sg → Prop}
    (h : Ev c (eval value env) σ fun o σ₁ => ∃ l, o = .str (T l) ∧ l.length ≤ 16777216 ∧ Part c lower env σ₁ fun lo σ₂ => Part c upper env σ₂ fun hi σ₃ => Q (.str (T (cutL l lo hi))) σ₃) :
    Ev c (eval (.Subscript value (.Slice lower upper none p) pos) env) σ Q :=
  Ev.sliceS (h.mono fun d σ' ⟨l, e, hl, q⟩ => ⟨T l, e, by rw [T_length]; exact hl, by simpa only [slice_T] using q⟩)
theorem item_T {l : List Nat} {i : Int} {c : Nat} (h0 : 0 ≤ i) (h : l[i.toNat]? = some c) : Txt.item (T l) i = T [c] := by
  obtain ⟨hl, _⟩ := List.getElem?_eq_some_iff.mp h
  have e : Txt.charAt (T l) i = some c := by
    unfold Txt.charAt seqIndex?
    have h1 : ¬ i < 0 := by omega
    simp only [h1, if_false]
    rw [if_pos (by rw [T_length]; simp only [Bool.and_eq_true, decide_eq_true_eq]; omega)]
    simpa [T] using h
  unfold Txt.item
  rw [e]; rfl
theorem Item.T {l : List Nat} {i : Int} {c : Nat} (h0 : 0 ≤ i) (h : l[i.toNat]? = some c) (hl : l.length ≤ 16777216) : Item (.str (Mine.T l)) (.int i) (.str (Mine.T [c])) := by
  obtain ⟨hi, _⟩ := List.getElem?_eq_some_iff.mp h
  exact item_T h0 h ▸ Item.str (by omega) (by rw [T_length]; omega) (by rw [T_length]; exact hl)
theorem CmpI.eqT {a b : List Nat} : CmpI .Eq (.str (T a)) (.str (T b)) (decide (a = b)) := T_beq a b ▸ CmpI.eqS
theorem CmpI.neT {a b : List Nat} : CmpI .NotEq (.str (T a)) (.str (T b)) (!decide (a = b)) := T_bne a b ▸ CmpI.neS
theorem Tru.T {l : List Nat} (h : l.length < 16777217) : Tru (.str (Mine.T l)) (!decide (l = [])) := by
  have := Tru.str (Mine.T l) (by rw [T_length]; exact h)
  rw [T_length] at this
  have e : ((l.length : Int) != 0) = !decide (l = []) := by
    cases l with
    | nil => rfl
    | cons a l =>
      simp [bne]
      omega
  exact e ▸ this
theorem Ev.lenT {c : Cx} {env : Env} {σ : Sg} {x : Str} {np pos : Pos} {e : Expr} {Q : D → Sg → Prop} (ok : c.Ok) (hn : nsIn c.K mainGlobals x = some none) (hb : bootBuiltins x = some (.builtin "len"))
    (h : Ev c (eval e env) σ fun d σ₁ => ∃ l, d = .str (T l) ∧ l.length ≤ 16777216 ∧ Q (.int (l.length : Int)) σ₁)
    (hne : x ≠ "__name__" := by decide) (hk : env.scope.kind = .function := by kernel_rfl!) (hx : env.kindOf x = some .globalImplicit := by kernel_rfl!) (hg : env.globals = mainGlobals := by kernel_rfl!) (hbi : env.builtins = builtinsNs := by kernel_rfl!) (hd : (x == ("__debug__" : Str)) = false := by decide)
    (he : starEach [e] env = (false, eval e env) :: starEach [] env := by kernel_rfl!) :
    Ev c (eval (.Call (.Name x np) [e] [] pos) env) σ Q :=
  Ev.len ok hn hb (h.mono fun d σ' ⟨l, e, hl, q⟩ => ⟨T l, e, by rw [T_length]; exact hl, by rw [T_length]; exact q⟩) hne hk hx hg hbi hd he

/-! ## quotes doubled -/
def dbl (l : List Nat) : List Nat := l.flatMap fun c => if c = 34 then [34, 34] else [c]
theorem dbl_append (a b : List Nat) : dbl (a ++ b) = dbl a ++ dbl b := by simp [dbl]
theorem dbl_len (l : List Nat) : (dbl l).length ≤ 2 * l.length := by
  induction l with
  | nil => simp [dbl]
  | cons c l ih =>
    have e : dbl (c :: l) = (if c = 34 then [34, 34] else [c]) ++ dbl l := by simp [dbl]
    rw [e, List.length_append]
    split <;> simp only [List.length_cons, List.length_nil] <;> omega
def rep (l rest : List Nat) : List Nat := [50, 53, 55, 32, 34] ++ dbl l ++ 34 :: rest
end Mine

/-! Rules7 -/
namespace Mine
open PySem PySem.W PySem.Calls PyProof.Rows

/-! ## the table of exact tokens -/
def letter (c : Nat) : Bool := c == 34 || c == 97 || c == 98 || c == 65 || c == 66 || c == 111 || c == 120 || c == 122
inductive ExR : List Nat → Option Int → Prop
  | letter {l : List Nat} (h : l.any letter = true) : ExR l none
  | arrow : ExR [45, 62] (some 51)
  | ll : ExR [60, 60] (some 33)
  | gg : ExR [62, 62] (some 34)
  | semi : ExR [59] (some 13)
def KeysOp : List DictEntry → Prop
  | [] => True
  | e :: r => (∃ x t, e.key = .str x t ∧ x.cps.toList.any letter = false) ∧ KeysOp r
theorem KeysOp.all {l : List DictEntry} (h : KeysOp l) : ∀ e ∈ l, ∃ x t, e.key = .str x t ∧ x.cps.toList.any letter = false := by
  induction l with
  | nil => intro e he; cases he
  | cons a l ih =>
    intro e he
    rcases List.mem_cons.mp he with q | q
    · rw [q]; exact h.1
    · exact ih h.2 e q
theorem KeysOp.miss {es : Array DictEntry} (h : KeysOp es.toList) {l : List Nat} (hl : l.any letter = true) : findBy Value.isStrOf es (T l) = none := by
  unfold findBy
  have : es.find? (fun d => Value.isStrOf (T l) d.key) = none := by
    rw [Array.find?_eq_none]
    intro e he
    obtain ⟨x, t, e1, e2⟩ := h.all e (Array.mem_toList_iff.mpr he)
    rw [e1]
    intro hc
    have hc' : (x == T l) = true ∨ (T l == x) = true := by
      first
        | exact Or.inl hc
        | exact Or.inr hc
    have : T l = x := by
      rcases hc' with h | h
      · exact (beq_iff_eq.mp h).symm
      · exact beq_iff_eq.mp h
    subst this
    have e3 : l.any letter = false := e2
    rw [hl] at e3; cases e3
  rw [this]; rfl
structure Exact (K : Frag) (P : Params) (a : Addr) (es : Array DictEntry) (n : Nat) : Prop where
  name : nsIn K mainGlobals (Str.ofString "EXACT_TOKEN_TYPES") = some (some (.ref a))
  obj : K.lookup a = some ⟨.type "dict", none, .dict es n, #[]⟩
  keys : KeysLit P es.toList
  ops : KeysOp es.toList
  lo : (a == sysModules) = false
  arrow : ∃ v, nsIn K a (Str.ofString "->") = some (some v) ∧ ∃ t, v = .int 51 t
  ll : ∃ v, nsIn K a (Str.ofString "<<") = some (some v) ∧ ∃ t, v = .int 33 t
  gg : ∃ v, nsIn K a (Str.ofString ">>") = some (some v) ∧ ∃ t, v = .int 34 t
  semi : ∃ v, nsIn K a (Str.ofString ";") = some (some v) ∧ ∃ t, v = .int 13 t
theorem Exact.intro {K : Frag} {P : Params} {a : Addr} {es : Array DictEntry} {n : Nat} {v1 v2 v3 v4 : Value} {t1 t2 t3 t4 : PySem.Tok} (h1 : nsIn K mainGlobals (Str.ofString "EXACT_TOKEN_TYPES") = some (some (.ref a))) (h2 : K.lookup a = some ⟨.type "dict", none, .dict es n, #[]⟩) (h3 : KeysLit P es.toList) (h4 : KeysOp es.toList) (h5 : (a == sysModules) = false)
    (k1 : nsIn K a (Str.ofString "->") = some (some v1)) (k2 : nsIn K a (Str.ofString "<<") = some (some v2)) (k3 : nsIn K a (Str.ofString ">>") = some (some v3)) (k4 : nsIn K a (Str.ofString ";") = some (some v4))
    (j1 : v1 = .int 51 t1) (j2 : v2 = .int 33 t2) (j3 : v3 = .int 34 t3) (j4 : v4 = .int 13 t4) : ∃ es n, Exact K P a es n := ⟨es, n, ⟨h1, h2, h3, h4, h5, ⟨_, k1, _, j1⟩, ⟨_, k2, _, j2⟩, ⟨_, k3, _, j3⟩, ⟨_, k4, _, j4⟩⟩⟩
theorem lit_semi : Str.ofString ";" = T [59] := by decide +kernel
theorem Exact.find {K : Frag} {P : Params} {a : Addr} {es : Array DictEntry} {n : Nat} (h : Exact K P a es n) {l : List Nat} {r : Option Int} (hr : ExR l r) :
    match r with | none => findBy Value.isStrOf es (T l) = none | some i => ∃ t, findBy Value.isStrOf es (T l) = some (.int i t) := by
  cases hr with
  | letter hl => exact h.ops.miss hl
  | arrow => obtain ⟨v, e, t, rfl⟩ := h.arrow; exact ⟨t, find_K h.obj (lit_ar ▸ e)⟩
  | ll => obtain ⟨v, e, t, rfl⟩ := h.ll; exact ⟨t, find_K h.obj (lit_ll ▸ e)⟩
  | gg => obtain ⟨v, e, t, rfl⟩ := h.gg; exact ⟨t, find_K h.obj (lit_gg ▸ e)⟩
  | semi => obtain ⟨v, e, t, rfl⟩ := h.semi; exact ⟨t, find_K h.obj (lit_semi ▸ e)⟩
theorem Exact.isSome {K : Frag} {P : Params} {a : Addr} {es : Array DictEntry} {n : Nat} (h : Exact K P a es n) {l : List Nat} {r : Option Int} (hr : ExR l r) : (findBy Value.isStrOf es (T l)).isSome = r.isSome := by
  have := h.find hr
  cases r with
  | none => rw [this]; rfl
  | some i => obtain ⟨t, e⟩ := this; rw [e]; rfl
variable {c : Cx} {env : Env} {σ : Sg} {a : Addr} {es : Array DictEntry} {n : Nat}
theorem Tr.inX {l : Expr} {px pos : Pos} {whole : Sem Value} {Q : Bool → Sg → Prop} (ok : c.Ok) (hX : Exact c.K c.w.params a es n)
    (h : Ev c (eval l env) σ fun d σ₁ => ∃ t r, d = .str (T t) ∧ ExR t r ∧ Q r.isSome σ₁)
    (hm : behindInMarks .In (.Name (Str.ofString "EXACT_TOKEN_TYPES") px) = false := by kernel_rfl!)
    (hk : env.scope.kind = .function := by kernel_rfl!) (hx : env.kindOf (Str.ofString "EXACT_TOKEN_TYPES") = some .globalImplicit := by kernel_rfl!) (hg : env.globals = mainGlobals := by kernel_rfl!) :
    Tr c (isTrue (.Compare l [.In] [.Name (Str.ofString "EXACT_TOKEN_TYPES") px] pos) env whole) σ Q := by
  intro X H s I
  refine wpAny_isTrue_Compare1 (wpAny_mono (h X H s I) (fun u s₁ ⟨H₁, _, σ₁, l₁, I₁, r₁, t, r, e, hr, q⟩ => ?_) fun _ _ x => x) hm
  subst e
  refine nameG ok I₁ hX.name ?_ hk hx hg (by decide)
  cases r₁ with
  | str x tk =>
    refine wpAny_in_of (strKind_is c.prog c.w _ tk) hX.lo (mapOf_K (I₁.kIn ok) hX.obj hX.keys) ?_
    rw [hX.isSome hr]
    exact wpAny_truthy_bool ⟨H₁, σ₁, l₁, I₁.toks _, q⟩
theorem Tr.notInX {l : Expr} {px pos : Pos} {whole : Sem Value} {Q : Bool → Sg → Prop} (ok : c.Ok) (hX : Exact c.K c.w.params a es n)
    (h : Ev c (eval l env) σ fun d σ₁ => ∃ t r, d = .str (T t) ∧ ExR t r ∧ Q (!r.isSome) σ₁)
    (hm : behindInMarks .NotIn (.Name (Str.ofString "EXACT_TOKEN_TYPES") px) = false := by kernel_rfl!)
    (hk : env.scope.kind = .function := by kernel_rfl!) (hx : env.kindOf (Str.ofString "EXACT_TOKEN_TYPES") = some .globalImplicit := by kernel_rfl!) (hg : env.globals = mainGlobals := by kernel_rfl!) :
    Tr c (isTrue (.Compare l [.NotIn] [.Name (Str.ofString "EXACT_TOKEN_TYPES") px] pos) env whole) σ Q := by
  intro X H s I
  refine wpAny_isTrue_Compare1 (wpAny_mono (h X H s I) (fun u s₁ ⟨H₁, _, σ₁, l₁, I₁, r₁, t, r, e, hr, q⟩ => ?_) fun _ _ x => x) hm
  subst e
  refine nameG ok I₁ hX.name ?_ hk hx hg (by decide)
  cases r₁ with
  | str x tk =>
    refine wpAny_notIn_of (strKind_is c.prog c.w _ tk) hX.lo (mapOf_K (I₁.kIn ok) hX.obj hX.keys) ?_
    rw [hX.isSome hr]
    exact wpAny_truthy_bool ⟨H₁, σ₁, l₁, I₁.toks _, q⟩
theorem Ev.itemX {slice : Expr} {px pos : Pos} {Q : D → Sg → Prop} (ok : c.Ok) (hX : Exact c.K c.w.params a es n)
    (h : Ev c (eval slice env) σ fun d σ₁ => ∃ t i, d = .str (T t) ∧ ExR t (some i) ∧ Q (.int i) σ₁)
    (hk : env.scope.kind = .function := by kernel_rfl!) (hx : env.kindOf (Str.ofString "EXACT_TOKEN_TYPES") = some .globalImplicit := by kernel_rfl!) (hg : env.globals = mainGlobals := by kernel_rfl!)
    (hs : ∀ o i, subscripted slice false o i = operate [o, i] (getItem o i) := by intros; kernel_rfl!) :
    Ev c (eval (.Subscript (.Name (Str.ofString "EXACT_TOKEN_TYPES") px) slice pos) env) σ Q := by
  intro X H s I
  refine Subscript_ (nameG ok I hX.name ?_ hk hx hg (by decide))
  refine wpAny_mono (h X H s I) (fun v s₂ ⟨H₂, d₂, σ₂, l₂, I₂, r₂, t, i, e, hr, q⟩ => ?_) fun _ _ x => x
  subst e
  cases r₂ with
  | str x tk =>
    obtain ⟨u, hf⟩ := hX.find hr
    have hm := mapOf_K (prog := c.prog) (w := c.w) (I₂.kIn ok) hX.obj hX.keys
    exact tail_any hm.typeIs slot_dict_getitem.lookup (wpAny_getItem_of (strKind_is c.prog c.w _ tk) hm hf ⟨H₂, _, σ₂, l₂, I₂.toks _, .int _ _, q⟩) (hs _ _)
end Mine

/-! Cut -/
namespace Mine
open PySem PySem.W PySem.Calls PyProof.Rows

theorem St.whileE {c : Cx} {env : Env} {σ : Sg} {test : Expr} {body : List Stmt} {pos : Pos} {Q : FD → Sg → Prop} (J : Nat → Sg → Prop) (E : Sg → Prop) (n : Nat) (h0 : J n σ) (done : ∀ σ, E σ → Q .next σ)
    (turn : ∀ n σ, J n σ → Tr c (isTrue test env (eval test env)) σ fun b σ₁ => (b = true → St c (execs body env) σ₁ (LoopQ (fun σ₂ => ∃ m, m < n ∧ J m σ₂) Q)) ∧ (b = false → E σ₁)) :
    St c (exec (.While test body [] pos) env) σ Q :=
  St.while J n h0 fun n σ j => fun X H s I => wpAny_mono (turn n σ j X H s I) (fun b s₁ ⟨H₁, σ₁, l₁, I₁, h1, h2⟩ => ⟨H₁, σ₁, l₁, I₁, h1, fun e => done _ (h2 e)⟩) fun _ _ x => x

def place (c : Nat) : Int := if c = 111 then 0 else if c = 120 then 1 else if c = 34 then 2 else if c = 97 then 3 else if c = 98 then 4 else if c = 65 then 5 else if c = 66 then 6 else 7
theorem letter_cases {c : Nat} (h : letter c = true) : c = 34 ∨ c = 97 ∨ c = 98 ∨ c = 65 ∨ c = 66 ∨ c = 111 ∨ c = 120 ∨ c = 122 := by
  simpa only [letter, Bool.or_eq_true, beq_iff_eq, or_assoc] using h
theorem find_all {c : Nat} (h : letter c = true) : Txt.find (Str.ofString "ox\"abABz") (T [c]) = place c := by
  rcases letter_cases h with rfl | rfl | rfl | rfl | rfl | rfl | rfl | rfl <;> decide +kernel
inductive Tok : List Nat → List Int → Prop
  | nil : Tok [] []
  | sign {c : Nat} {t : List Nat} {cs : List Int} (h : letter c = true) (r : Tok t cs) : Tok (c :: t) ((256 + place c) :: cs)
  | arrow {x : Nat} {t : List Nat} {cs : List Int} (h : letter x = true) (r : Tok (x :: t) cs) : Tok (45 :: 62 :: x :: t) (51 :: cs)
  | ll {x : Nat} {t : List Nat} {cs : List Int} (h : letter x = true) (r : Tok (x :: t) cs) : Tok (60 :: 60 :: x :: t) (33 :: cs)
  | gg {x : Nat} {t : List Nat} {cs : List Int} (h : letter x = true) (r : Tok (x :: t) cs) : Tok (62 :: 62 :: x :: t) (34 :: cs)
  | semi {x : Nat} {t : List Nat} {cs : List Int} (h : letter x = true) (r : Tok (x :: t) cs) : Tok (59 :: x :: t) (13 :: cs)
theorem Tok.len {t : List Nat} {cs : List Int} (h : Tok t cs) : cs.length ≤ t.length := by
  induction h <;> simp only [List.length_cons, List.length_nil] at * <;> omega
structure Tk (t : List Nat) (sz : Nat) (r : Option Int) (code : Int) : Prop where
  lo : 1 ≤ sz
  hi : sz ≤ 2
  len : sz ≤ t.length
  over : ∀ k, sz < k → k ≤ 3 → ExR (t.take k) none
  here : ExR (t.take sz) r
  big : sz = 2 → r.isSome = true
  yes : ∀ i, r = some i → i = code
  no : r = none → code = 256 + Txt.find (Str.ofString "ox\"abABz") (T (t.take sz))
theorem Tok.step {t : List Nat} {cs : List Int} (h : Tok t cs) (ht : t ≠ []) : ∃ sz r code cs', Tk t sz r code ∧ cs = code :: cs' ∧ Tok (t.drop sz) cs' := by
  have o3 : ∀ {k : Nat}, 2 < k → k ≤ 3 → k = 3 := fun h h' => by omega
  have o2 : ∀ {k : Nat}, 1 < k → k ≤ 3 → k = 2 ∨ k = 3 := fun h h' => by omega
  cases h with
  | nil => exact absurd rfl ht
  | @sign c t cs h r =>
    refine ⟨1, none, _, _, ⟨Nat.le_refl _, by decide, by simp, fun k h1 h2 => ?_, ?_, by decide, (fun _ e => nomatch e), fun _ => ?_⟩, rfl, r⟩
    · rcases o2 h1 h2 with rfl | rfl <;> exact .letter (by simp [h])
    · exact .letter (by simp [h])
    · rw [show List.take 1 (c :: t) = [c] from rfl, find_all h]
  | @arrow x t cs h r =>
    refine ⟨2, some 51, _, _, ⟨by decide, Nat.le_refl _, by simp, fun k h1 h2 => ?_, .arrow, fun _ => rfl, fun _ e => (Option.some.inj e).symm, fun e => nomatch e⟩, rfl, r⟩
    rcases o3 h1 h2 with rfl; exact .letter (by simp [h])
  | @ll x t cs h r =>
    refine ⟨2, some 33, _, _, ⟨by decide, Nat.le_refl _, by simp, fun k h1 h2 => ?_, .ll, fun _ => rfl, fun _ e => (Option.some.inj e).symm, fun e => nomatch e⟩, rfl, r⟩
    rcases o3 h1 h2 with rfl; exact .letter (by simp [h])
  | @gg x t cs h r =>
    refine ⟨2, some 34, _, _, ⟨by decide, Nat.le_refl _, by simp, fun k h1 h2 => ?_, .gg, fun _ => rfl, fun _ e => (Option.some.inj e).symm, fun e => nomatch e⟩, rfl, r⟩
    rcases o3 h1 h2 with rfl; exact .letter (by simp [h])
  | @semi x t cs h r =>
    refine ⟨1, some 13, _, _, ⟨Nat.le_refl _, by decide, by simp, fun k h1 h2 => ?_, .semi, by decide, fun _ e => (Option.some.inj e).symm, fun e => nomatch e⟩, rfl, r⟩
    rcases o2 h1 h2 with rfl | rfl <;> exact .letter (by simp [h])
end Mine

/-! Rules8 -/
namespace Mine
open PySem PySem.W PySem.Calls PyProof.Rows
variable {c : Cx} {env : Env} {σ : Sg}

/-! ## a table of headers that is owned, across a call of a method -/
structure InvO (c : Cx) (X H : PH) (N : Addr → Prop) (s : Shared) : Prop where
  keep : ∀ b o, c.s₀.heap.get? b = some o → s.heap.get? b = some o
  above : c.s₀.heap.objs.size ≤ s.heap.objs.size
  hH : ∀ b o, H b = some o → s.heap.get? b = some o ∧ ¬ N b
  hX : ∀ b o, X b = some o → s.heap.get? b = some o ∧ ¬ N b ∧ H b = none
  hN : ∀ b, N b → (∃ o, s.heap.get? b = some o) ∧ c.s₀.heap.objs.size ≤ b
  new : ∀ b o, H b = some o → c.H₀ b = some o ∨ c.s₀.heap.get? b = none
  os : s.os = c.s₀.os
  gens : s.gens = c.s₀.gens
def HdrO (c : Cx) (H : PH) (N : Addr → Prop) (a : Addr) (kvs : List (Str × Str)) (s : Shared) : Prop :=
  N a ∧ ∃ dx l, HdrAt c.w.params s.heap.get? H a dx l kvs ∧ N dx ∧ N l ∧ a ≠ dx ∧ a ≠ l ∧ dx ≠ l ∧ l = a + 2
def BackO (c : Cx) (X H : PH) (a : Addr) (kvs : List (Str × Str)) (v : Value) (s : Shared) : Prop :=
  v = .none ∧ ∃ H' N, Le H H' ∧ InvO c X H' N s ∧ HdrO c H' N a kvs s
def OwnCall (prog : Program) (w : World) (K : Frag) (n : Nat) (f : Addr) (kvs : List (Str × Str)) (ds : List D) (kvs' : List (Str × Str)) : Prop :=
  ∀ (s₀ : Shared) (H₀ : PH) (L : Addr) (A : Around) (lev : Nat), (Cx.mk prog w K s₀ H₀ L A lev).Ok → n ≤ lev → ∀ (X H : PH) (N : Addr → Prop) (s : Shared) (a : Addr) (vs : List Value),
    InvO ⟨prog, w, K, s₀, H₀, L, A, lev⟩ X H N s → HdrO ⟨prog, w, K, s₀, H₀, L, A, lev⟩ H N a kvs s → RAll w.params H vs ds →
    wpAny (model prog w) A (call (.ref f) (.ref a :: vs)) (BackO ⟨prog, w, K, s₀, H₀, L, A, lev⟩ X H a kvs') nope s

def restOf (s : Shared) (H : PH) (O : Addr → Option Str) (x : Str) : PH := fun b => if O b = some x ∨ (H b).isSome = true then none else s.heap.get? b
theorem restOf_some {s : Shared} {H : PH} {O : Addr → Option Str} {x : Str} {b : Addr} {o : Obj} : restOf s H O x b = some o ↔ O b ≠ some x ∧ H b = none ∧ s.heap.get? b = some o := by
  unfold restOf
  split
  · rename_i h
    constructor
    · intro e; cases e
    · rintro ⟨h1, h2, _⟩
      rcases h with h | h
      · exact absurd h h1
      · rw [h2] at h; cases h
  · rename_i h
    have h1 : O b ≠ some x := fun e => h (.inl e)
    have h2 : H b = none := by
      cases e : H b with
      | none => rfl
      | some o => exact absurd (.inr (by rw [e]; rfl)) h
    exact ⟨fun e => ⟨h1, h2, e⟩, fun e => e.2.2⟩
theorem InvAt.toO {X H : PH} {s : Shared} {m : Str → Option Value} {O : Addr → Option Str} (I : InvAt c X H σ s m O) (x : Str) : InvO c (restOf s H O x) H (fun b => O b = some x) s where
  keep := I.fr.keep
  above := Nat.le_of_lt (Nat.lt_of_le_of_lt I.fr.above I.fr.ns.lt)
  hH := fun b o e => ⟨(I.hH b o e).1, by rw [(I.hH b o e).2.2]; nofun⟩
  hX := fun b o e => let ⟨p, q, r⟩ := restOf_some.mp e; ⟨r, p, q⟩
  hN := fun b e => let ⟨_, p, q⟩ := I.hO b x e; ⟨p, q⟩
  new := I.new
  os := I.os
  gens := I.gens
theorem InvAt.hdrO {X H : PH} {s : Shared} {m : Str → Option Value} {O : Addr → Option Str} (I : InvAt c X H σ s m O) {x : Str} {a : Addr} {kvs : List (Str × Str)} (hl : Loc σ x (.own a (.hdr kvs))) : m x = some (.ref a) ∧ HdrO c H (fun b => O b = some x) a kvs s := by
  obtain ⟨hm, ho, dx, l, q, o2, o3, r⟩ := I.holds _ hl.mem
  exact ⟨hm, ho, dx, l, q, o2, o3, r⟩
open Classical in
theorem InvAt.ofO {X H H' : PH} {N' : Addr → Prop} {s s' : Shared} {m : Str → Option Value} {O : Addr → Option Str} {σ' : Sg} {x : Str} {a : Addr} {d₀ : D} {kvs : List (Str × Str)} (I : InvAt c X H σ s m O) (hl : Le H H')
    (B : InvO c (restOf s H O x) H' N' s') (hd : HdrO c H' N' a kvs s') (hl₀ : Loc σ x (.own a d₀)) (hu : Upd σ x (.own a (.hdr kvs)) σ') : Inv c X H' σ' s' := by
  have kX : ∀ b o, O b ≠ some x → H b = none → s.heap.get? b = some o → s'.heap.get? b = some o ∧ ¬ N' b ∧ H' b = none := fun b o e1 e2 e3 => B.hX b o (restOf_some.mpr ⟨e1, e2, e3⟩)
  have hOH : ∀ b y, O b = some y → H b = none := fun b y e => by
    cases z : H b with
    | none => rfl
    | some o => rw [(I.hH b o z).2.2] at e; cases e
  have nL : O c.L ≠ some x := fun e => (I.hO _ _ e).1 rfl
  have hL : H c.L = none := by
    cases z : H c.L with
    | none => rfl
    | some o => exact absurd rfl (I.hH _ o z).2.1
  have hLs : ∃ o, s.heap.get? c.L = some o := let ⟨oL, _, _, q, _⟩ := I.fr.ns; ⟨oL, q⟩
  obtain ⟨oL, hLs⟩ := hLs
  have kL := kX _ _ nL hL hLs
  let O' : Addr → Option Str := fun b => if N' b then some x else if O b = some x then none else O b
  have kO : ∀ b y, O b = some y → y ≠ x → O' b = some y ∧ ∀ o, s.heap.get? b = some o → s'.heap.get? b = some o := fun b y e ne => by
    have n1 : O b ≠ some x := by rw [e]; intro z; exact ne (Option.some.inj z)
    obtain ⟨_, ⟨o, q⟩, _⟩ := I.hO b y e
    obtain ⟨_, n2, _⟩ := kX b o n1 (hOH b y e) q
    refine ⟨?_, fun o' q' => (kX b o' n1 (hOH b y e) q').1⟩
    show (if N' b then some x else if O b = some x then none else O b) = some y
    rw [if_neg n2, if_neg n1, e]
  refine ⟨m, O', ⟨I.fr.ns.at' fun o e => (kX _ _ nL hL e).1, B.keep, I.fr.above⟩, fun b o e => ?_, fun b o e => ?_, fun b y e => ?_, B.new, hu.keys ▸ I.nodup, fun p hp => ?_, B.os, B.gens⟩
  · obtain ⟨q1, q2⟩ := B.hH b o e
    refine ⟨q1, fun z => ?_, ?_⟩
    · rw [z, kL.2.2] at e; cases e
    · show (if N' b then some x else if O b = some x then none else O b) = none
      rw [if_neg q2]
      split
      · rfl
      · rename_i n1
        cases z : O b with
        | none => rfl
        | some y =>
          obtain ⟨_, ⟨o', q⟩, _⟩ := I.hO b y z
          rw [(kX b o' n1 (hOH b y z) q).2.2] at e; cases e
  · obtain ⟨p1, p2, p3, p4⟩ := I.hX b o e
    obtain ⟨q1, q2, q3⟩ := kX b o (by rw [p3]; nofun) p4 p1
    refine ⟨q1, p2, ?_, q3⟩
    show (if N' b then some x else if O b = some x then none else O b) = none
    rw [if_neg q2, p3]; rfl
  · have e' : (if N' b then some x else if O b = some x then none else O b) = some y := e
    split at e'
    · rename_i hb
      obtain ⟨q1, q2⟩ := B.hN b hb
      exact ⟨fun z => kL.2.1 (z ▸ hb), q1, q2⟩
    · split at e'
      · cases e'
      · rename_i n1
        obtain ⟨p1, ⟨o, p2⟩, p3⟩ := I.hO b y e'
        exact ⟨p1, ⟨o, (kX b o n1 (hOH b y e') p2).1⟩, p3⟩
  · rcases hu.mem I.nodup p hp with rfl | ⟨hp, hne⟩
    · obtain ⟨na, dx, l, q, n1, n2, r⟩ := hd
      exact ⟨(I.holds _ hl₀.mem).1, if_pos na, dx, l, q, if_pos n1, if_pos n2, r⟩
    · have hq := I.holds p hp
      obtain ⟨y, lv⟩ := p
      cases lv with
      | unb => trivial
      | d d => obtain ⟨w, e, r⟩ := hq; exact ⟨w, e, r.mono hl⟩
      | own w d =>
        obtain ⟨e, o, q⟩ := hq
        refine ⟨e, (kO _ _ o hne).1, ?_⟩
        cases d with
        | lst ds => obtain ⟨vs, n, q1, q2⟩ := q; exact ⟨vs, n, (kO _ _ o hne).2 _ q1, q2.mono hl⟩
        | hdr kvs =>
          obtain ⟨dx, l, ⟨t, vs, n, q1, q2, q3, q4⟩, o2, o3, r⟩ := q
          exact ⟨dx, l, ⟨t, vs, n, (kO _ _ o hne).2 _ q1, (kO _ _ o2 hne).2 _ q2, (kO _ _ o3 hne).2 _ q3, q4.mono hl⟩, (kO _ _ o2 hne).1, (kO _ _ o3 hne).1, r⟩
        | dct kvs =>
          obtain ⟨vs, ⟨ob, es, ep, q1, q2⟩, q3⟩ := q
          exact ⟨vs, ⟨ob, es, ep, (kO _ _ o hne).2 _ q1, q2⟩, q3.mono hl⟩
        | _ => exact q.elim

def OwnQ (self : Str) (a : Addr) (kvs : List (Str × Str)) (fd : FD) (σ : Sg) : Prop := (match fd with | .next => True | .ret d => d = .none | _ => False) ∧ Loc σ self (.own a (.hdr kvs))

open Classical in
theorem OwnCall.enter {prog : Program} {w : World} {K : Frag} {n : Nat} {f : Addr} {ds : List D} {kvs kvs' : List (Str × Str)} {name qual : Str} {params : Arguments} {body : List Stmt} {scope : Scope} {dV kV doc pm cdv ct oc : Value} {an od : Option Addr} {osl : Array (Option Value)}
    (self : Str) (ps others : List Str) (hK : K.lookup f = some ⟨oc, od, .func (fnX name qual params body scope [] dV kV doc pm an cdv ct), osl⟩) (hcd : codeIn K cdv qual = true)
    (hbind : ∀ s v vs, vs.length = ds.length → BindsTo s (fnX name qual params body scope [] dV kV doc pm an cdv ct) ⟨v :: vs, []⟩ ((self, v) :: ps.zip vs))
    (hps : ps.length = ds.length) (hnd : (self :: ps ++ others).Nodup) (hloc : ∀ x ∈ self :: ps, scope.names.lookup x = some .local) (hcell : ∀ x ∈ scope.names, x.2 ≠ .cell)
    (h : ∀ s₀ H₀ L A a, (Cx.mk prog w K s₀ H₀ L A n).Ok → St ⟨prog, w, K, s₀, H₀, L, A, n⟩ (execs body (envX qual scope L f cdv [])) ((self, .own a (.hdr kvs)) :: startS ps ds others) (OwnQ self a kvs'))
    (hco : scope.isCoroutine = false := by kernel_rfl!) (hgen : scope.isGenerator = false := by kernel_rfl!) (hk : scope.kind = .function := by kernel_rfl!) : OwnCall prog w K (n + 1) f kvs ds kvs' := by
  intro s₀ H₀ L A lev ok hlev X H N s a vs B hd hvs
  have kin : K.In s.heap := Frag.In.keeps (show K.In s₀.heap from ok.kIn) B.keep
  have hlim : s.heap.NoLimit := let ⟨_, _, _, _, T⟩ := ok.top; (TopRead.keeps T B.keep).nolimit
  have amb : Amb lev A := ok.amb
  refine wpAny_call (codeAny_call_def (fd := fnX name qual params body scope [] dV kV doc pm an cdv ct) (body := body) (binds := (self, .ref a) :: ps.zip vs) (by have := amb.depth; omega) (kin _ _ hK) rfl hlim (codeRec_of kin hcd) rfl (hbind s _ vs hvs.length) hcell
    (fun x hx => hloc x.1 ?_) (fun h₁ hns hk₁ => ?_) hco hgen hk)
  · rcases List.mem_cons.mp hx with rfl | hx
    · exact .head _
    · exact .tail _ (List.of_mem_zip hx).1
  let c' : Cx := ⟨prog, w, K, s₀, H₀, s.heap.objs.size, A.deeper (envX qual scope s.heap.objs.size f cdv []), n⟩
  have ok' : c'.Ok := ⟨ok.kIn, ok.top, ⟨amb.hh, by show A.depth + 1 + n < recursionLimit; have := amb.depth; omega, by show A.units + 3 + 8 * n + 80 < cLine; have := amb.units; omega⟩, ok.base⟩
  have lt : ∀ {b o}, s.heap.get? b = some o → b ≠ s.heap.objs.size := fun e z => by have := Heap.lt_size e; rw [z] at this; exact absurd this (Nat.lt_irrefl _)
  have hps' : (self :: ps).length = (D.val (.ref a) :: ds).length := by rw [List.length_cons, List.length_cons, hps]
  obtain ⟨na, dx, l, ⟨t, us, k, q1, q2, q3, q4⟩, n1, n2, r⟩ := hd
  have I₀ : Inv c' X H ((self, .own a (.hdr kvs)) :: startS ps ds others) { s with heap := h₁, toks := s.toks + ((self, Value.ref a) :: ps.zip vs).length } := by
    refine ⟨_, fun b => if N b then some self else none, ⟨hns, fun b o e => hk₁ _ _ (B.keep b o e), B.above⟩, fun b o e => ?_, fun b o e => ?_, fun b y e => ?_, B.new, ?_, fun p hp => ?_, B.os, B.gens⟩
    · obtain ⟨e1, e2⟩ := B.hH b o e; exact ⟨hk₁ _ _ e1, lt e1, if_neg e2⟩
    · obtain ⟨e1, e2, e3⟩ := B.hX b o e; exact ⟨hk₁ _ _ e1, lt e1, if_neg e2, e3⟩
    · have e' : (if N b then some self else none) = some y := e
      split at e'
      · rename_i hb
        obtain ⟨⟨o, e1⟩, e2⟩ := B.hN b hb
        exact ⟨lt e1, ⟨o, hk₁ _ _ e1⟩, e2⟩
      · cases e'
    · have := startS_keys (others := others) hps
      rw [List.map_cons, this]; exact hnd
    · have hsp := startS_holds (P := w.params) (H := H) (others := others) (ps := self :: ps) (ds := .val (.ref a) :: ds) (vs := .ref a :: vs) (List.nodup_append.mp (show ((self :: ps) ++ others).Nodup from hnd)).1 hps' (.cons (.val _) hvs)
      rcases List.mem_cons.mp hp with rfl | hp
      · rcases hsp (self, .d (.val (.ref a))) (.head _) with e | ⟨d, v, e, hl, r'⟩
        · cases e
        · cases e
          cases r'
          exact ⟨hl, if_pos na, dx, l, ⟨t, us, k, hk₁ _ _ q1, hk₁ _ _ q2, hk₁ _ _ q3, q4⟩, if_pos n1, if_pos n2, r⟩
      · rcases hsp p (.tail _ hp) with e | ⟨d, v, e, hl, r'⟩
        · rw [e]; trivial
        · rw [e]; exact ⟨v, hl, r'⟩
  refine wpAny_nope (wpAny_mono (h s₀ H₀ s.heap.objs.size _ a ok' X H _ I₀) (fun fl s' ⟨H', fd, σ', l', I', r', q'⟩ => ?_) fun _ _ x => x)
  obtain ⟨m, O, I'⟩ := I'
  have fin : BackO ⟨prog, w, K, s₀, H₀, L, A, lev⟩ X H a kvs' .none s' := by
    refine ⟨rfl, H', fun b => O b = some self, l', ⟨I'.fr.keep, Nat.le_of_lt (Nat.lt_of_le_of_lt I'.fr.above I'.fr.ns.lt), fun b o e => ⟨(I'.hH b o e).1, by rw [(I'.hH b o e).2.2]; nofun⟩, fun b o e => ?_, fun b e => ?_, I'.new, I'.os, I'.gens⟩, (I'.hdrO q'.2).2⟩
    · obtain ⟨e1, e2, e3, e4⟩ := I'.hX b o e; exact ⟨e1, by rw [e3]; nofun, e4⟩
    · obtain ⟨_, e1, e2⟩ := I'.hO b self e; exact ⟨e1, e2⟩
  cases fd with
  | ret d =>
    obtain ⟨v, rfl, r⟩ := r'
    have := q'.1
    cases this
    cases r
    exact fin
  | next => cases (show fl = .next from r'); exact fin
  | brk => exact q'.1.elim
  | cont => exact q'.1.elim

/-! ## the class of headers: what stands in it -/
structure HFn (K : Frag) (name : Str) (f : Addr) : Prop where
  find : findIn K (.ref hdrC) name = some (some (.ref f))
  isF : isFn K (.ref f) = true
theorem inst_of {h : Heap} {P : Params} {H : PH} {a dx l : Addr} {kvs : List (Str × Str)} (q : HdrAt P h.get? H a dx l kvs) : ∃ t, PySem.W.InstAt h a (instObj hdrC dx) hdrC (some (dictOf [hdrEntry P (.ref l) t] 1)) := by
  obtain ⟨t, vs, n, q1, q2, q3, q4⟩ := q
  exact ⟨t, q1, rfl, rfl, q2⟩
theorem delItem_own {M : Model} {A : Around} {E : Value → Shared → Prop} {s : Shared} {K : Frag} {x C f : Addr} {ox : Obj} {od : Option Obj} {i : Value} {Q : Unit → Shared → Prop} (X : K.In s.heap) (I : PySem.W.InstAt s.heap x ox C od) (hq : noSeq K C = true)
    (hs : findIn K (.ref C) "__delitem__" = some (some (.ref f))) (hf : isFn K (.ref f) = true) (h : wpAny M A (call (.ref f) [.ref x, i]) (fun _ s' => Q () s') E s) : wpAny M A (delItem (.ref x) i) Q E s := by
  unfold delItem sequenceKey
  refine wpAny_holding (wpAny_bind (wpAny_bind (I.type.here ?_)))
  refine wpAny_bind ((anyM_none X hq).here ?_)
  rw [if_pos (show (!false) = true from rfl)]
  exact wpAny_pure (wpAny_bind (special_fn X I hs (beq_iff_eq.mp hf) (wpAny_mono h (fun _ _ z => wpAny_pure z) fun _ _ z => z)))

theorem setItem_own {M : Model} {A : Around} {E : Value → Shared → Prop} {s : Shared} {K : Frag} {x C f : Addr} {ox : Obj} {od : Option Obj} {i v : Value} {Q : Unit → Shared → Prop} (X : K.In s.heap) (I : PySem.W.InstAt s.heap x ox C od) (hq : noSeq K C = true)
    (hs : findIn K (.ref C) "__setitem__" = some (some (.ref f))) (hf : isFn K (.ref f) = true) (h : wpAny M A (call (.ref f) [.ref x, i, v]) (fun _ s' => Q () s') E s) : wpAny M A (setItem (.ref x) i v) Q E s := by
  unfold setItem sequenceKey
  refine wpAny_holding (wpAny_bind (wpAny_bind (I.type.here ?_)))
  refine wpAny_bind ((anyM_none X hq).here ?_)
  rw [if_pos (show (!false) = true from rfl)]
  exact wpAny_pure (wpAny_bind (special_fn X I hs (beq_iff_eq.mp hf) (wpAny_mono h (fun _ _ z => wpAny_pure z) fun _ _ z => z)))
/-- x[k] = e: x a table of headers of its own -/
theorem St.putH {x : Str} {px tp pos : Pos} {i value : Expr} {a f : Addr} {Q : FD → Sg → Prop} (ok : c.Ok) (hF : HFn c.K "__setitem__" f) (hq : noSeq c.K hdrC = true)
    (h : Ev c (eval value env) σ fun d σ₁ => ∃ kvs, Loc σ₁ x (.own a (.hdr kvs)) ∧ Ev c (eval i env) σ₁ fun d' σ₂ => ∃ kvs kvs' n σ₃, Loc σ₂ x (.own a (.hdr kvs)) ∧ OwnCall c.prog c.w c.K n f kvs [d', d] kvs' ∧ n ≤ c.lev ∧ Upd σ₂ x (.own a (.hdr kvs')) σ₃ ∧ Q .next σ₃)
    (hs : swapsWith value (some (.Subscript (.Name x px) i tp)) pos.line env = pure false := by kernel_rfl!)
    (hL : env.locals = c.L := by kernel_rfl!) (hk : env.scope.kind = .function := by kernel_rfl!) (hx : env.kindOf x = some .local := by kernel_rfl!) (hd : (x == ("__debug__" : Str)) = false := by decide) :
    St c (exec (.Assign [.Subscript (.Name x px) i tp] value pos) env) σ Q := by
  intro X H s I
  refine wpAny_Assign_Subscript (wpAny_mono (h X H s I) (fun v s₁ ⟨H₁, d, σ₁, l₁, I₁, r₁, kvs₀, hl₀, h₁⟩ => ?_) fun _ _ x => x) hs
  have I₁' := I₁
  obtain ⟨m₁, O₁, I₁'⟩ := I₁'
  refine wpAny_Name (wpAny_loadName_local hk hx (hL ▸ I₁'.fr.ns) (I₁'.holds _ hl₀.mem).1 ?_) hd
  refine wpAny_mono (h₁ X H₁ s₁ I₁) (fun u s₂ ⟨H₂, d', σ₂, l₂, I₂, r₂, kvs, kvs', n, σ₃, hl, C, hn, hu, q⟩ => ?_) fun _ _ x => x
  have kin := I₂.kIn ok
  obtain ⟨m₂, O₂, I₂⟩ := I₂
  obtain ⟨hm, ho⟩ := I₂.hdrO hl
  have ho' := ho
  obtain ⟨_, dx, l, hat, _⟩ := ho'
  obtain ⟨t, inst⟩ := inst_of hat
  refine setItem_own kin inst hq hF.find hF.isF ?_
  refine wpAny_nope (wpAny_mono (C c.s₀ c.H₀ c.L c.A c.lev ok hn _ H₂ _ s₂ a _ (I₂.toO x) ho (.cons r₂ (.cons (r₁.mono l₂) .nil))) (fun _ s₃ ⟨_, H₃, N₃, l₃, B, hd₃⟩ => ?_) fun _ _ x => x)
  exact ⟨H₃, .next, σ₃, (l₁.trans l₂).trans l₃, I₂.ofO l₃ B hd₃ hl hu, rfl, q⟩
/-- del x[k] -/
theorem St.delH {x : Str} {px tp pos : Pos} {i : Expr} {a f : Addr} {kvs₀ : List (Str × Str)} {Q : FD → Sg → Prop} (ok : c.Ok) (hF : HFn c.K "__delitem__" f) (hq : noSeq c.K hdrC = true) (hl₀ : Loc σ x (.own a (.hdr kvs₀)))
    (h : Ev c (eval i env) σ fun d' σ₂ => ∃ kvs kvs' n σ₃, Loc σ₂ x (.own a (.hdr kvs)) ∧ OwnCall c.prog c.w c.K n f kvs [d'] kvs' ∧ n ≤ c.lev ∧ Upd σ₂ x (.own a (.hdr kvs')) σ₃ ∧ Q .next σ₃)
    (hL : env.locals = c.L := by kernel_rfl!) (hk : env.scope.kind = .function := by kernel_rfl!) (hx : env.kindOf x = some .local := by kernel_rfl!) (hd : (x == ("__debug__" : Str)) = false := by decide) :
    St c (exec (.Delete [.Subscript (.Name x px) i tp] pos) env) σ Q := by
  intro X H s I
  have I' := I
  obtain ⟨m₁, O₁, I₁'⟩ := I'
  refine wpAny_Delete (wpAny_deleteEach_cons (wpAny_delete_Subscript (wpAny_Name (wpAny_loadName_local hk hx (hL ▸ I₁'.fr.ns) (I₁'.holds _ hl₀.mem).1 ?_) hd)))
  refine wpAny_mono (h X H s I) (fun u s₂ ⟨H₂, d', σ₂, l₂, I₂, r₂, kvs, kvs', n, σ₃, hl, C, hn, hu, q⟩ => ?_) fun _ _ x => x
  have kin := I₂.kIn ok
  obtain ⟨m₂, O₂, I₂⟩ := I₂
  obtain ⟨hm, ho⟩ := I₂.hdrO hl
  have ho' := ho
  obtain ⟨_, dx, l, hat, _⟩ := ho'
  obtain ⟨t, inst⟩ := inst_of hat
  refine delItem_own kin inst hq hF.find hF.isF ?_
  refine wpAny_nope (wpAny_mono (C c.s₀ c.H₀ c.L c.A c.lev ok hn _ H₂ _ s₂ a _ (I₂.toO x) ho (.cons r₂ .nil)) (fun _ s₃ ⟨_, H₃, N₃, l₃, B, hd₃⟩ => ?_) fun _ _ x => x)
  exact wpAny_deleteEach_nil ⟨H₃, .next, σ₃, l₂.trans l₃, I₂.ofO l₃ B hd₃ hl hu, rfl, q⟩
end Mine

/-! Re -/
namespace Mine
open PySem PySem.W PySem.Calls PyProof.Rows

/-! ## re.Pattern.search on a text without a match -/
theorem slot_re_search : Slot "re.Pattern" "search" "re.Pattern.search" :=
  .of (owner := "re.Pattern") (n := "search") (by rw [typeLookup_type, builtinLookup_eq_fast]; kernel_rfl) (by decide +kernel) (by decide +kernel) (by decide +kernel)
    (by first | exact .inl (by decide +kernel) | exact .inr (by decide +kernel)) (by rw [isSubtype_type]; kernel_rfl)
theorem type_re_search : typeOf (.builtin "re.Pattern.search") = pure (.type "method_descriptor") := by show builtinType _ = _; rw [builtinType_eq_fast]; kernel_rfl
theorem entry_re_search : entryFor table "re.Pattern.search" = some Builtin.«re.Pattern.search» := entryFor_of_tree (by kernel_rfl)
theorem plainAttrs_re : PlainAttrs "re.Pattern" :=
  ⟨⟨"object.__getattribute__", by rw [typeLookup_type, builtinLookup_eq_fast]; kernel_rfl, by decide +kernel⟩, by rw [typeLookup_type, builtinLookup_eq_fast]; kernel_rfl⟩
theorem owner_re : Manifest.owners.lookup (String.ofList ['n', 'r', 'e', 't', 't', 'a', 'P', '.', 'e', 'r'].reverse) = some Manifest.sig_re_Pattern := by kernel_rfl
theorem args_re_search (a b : Value) : argsOk "re.Pattern.search" ⟨[a, b], []⟩ := by
  unfold argsOk; rw [signature?_of (id := "re.Pattern.search") (n := ['h', 'c', 'r', 'a', 'e', 's']) (o := ['n', 'r', 'e', 't', 't', 'a', 'P', '.', 'e', 'r']) (by kernel_rfl) owner_re]; kernel_rfl

def missed (code text : Array Nat) : Bool := match ((Sre.forSearch code text 0 0 text.size false).runFor 4).outcome with
  | some .failed => true
  | _ => false
def codeOf (vs : List Value) : Array Nat := (vs.toArray.map Builtin.Re.reRawOf).map (·.toNat)

section
variable {M : Model} {A : Around} {E : Value → Shared → Prop} {s : Shared}
theorem drive_one {m : Sre.M} (h : (m.runFor 4).outcome.isSome = true) (n : Nat) : Builtin.Re.reDrive (n + 1) m = pure (m.runFor 4) := by
  show (if (m.runFor 4).outcome.isSome then pure (m.runFor 4) else _) = _
  rw [if_pos h]
theorem wp_seen {m : Sre.M} {Q : PUnit → Shared → Prop} : ∀ (l : List Nat), Q ⟨⟩ s → wpAny M A (forIn l PUnit.unit fun i r => (if m.seen.has i = true then do rule (Sre.names.getD i ""); pure (ForInStep.yield PUnit.unit) else pure (ForInStep.yield PUnit.unit) : Sem (ForInStep PUnit))) Q E s
  | [], h => by rw [List.forIn_nil]; exact wpAny_pure h
  | i :: l, h => by
    rw [List.forIn_cons]
    refine wpAny_bind ?_
    split
    · exact wpAny_bind (wpAny_rule (wpAny_pure (wp_seen l h)))
    · exact wpAny_pure (wp_seen l h)
theorem wp_runToEnd {m : Sre.M} {Q : Option Sre.M → Shared → Prop} (h : (match (m.runFor 4).outcome with | some .failed => true | _ => false) = true) (q : Q none s) : wpAny M A (Builtin.Re.reRunToEnd m) Q E s := by
  have hf : (m.runFor 4).outcome = some .failed := by
    split at h
    · assumption
    · cases h
  unfold Builtin.Re.reRunToEnd
  have e : (2 ^ 64 : Nat) = (2 ^ 64 - 1) + 1 := by decide
  rw [e, drive_one (by rw [hf]; rfl)]
  refine wpAny_bind (wpAny_pure ?_)
  refine wpAny_bind (wp_seen _ ?_)
  rw [hf]
  exact wpAny_pure q
end

theorem call_search {prog : Program} {w : World} {A : Around} {E : Value → Shared → Prop} {s : Shared} {p ca : Addr} {op oc : Obj} {v0 v1 v3 v4 : Value} {n : Nat} {vs : List Value} {x : Str} {t : PySem.Tok} {Q : Value → Shared → Prop}
    (hp : s.heap.get? p = some op) (hcl : op.cls = .type "re.Pattern") (hd : op.data = .fields #[v0, v1, .int 0 0, v3, v4, .ref ca, .int 0 0]) (hc : s.heap.get? ca = some oc) (hcd : oc.data = .seq vs.toArray n)
    (hm : missed (codeOf vs) x.cps = true) (hx : x.cps.size ≤ 100) (h : Q .none s) : wpAny (model prog w) A (call (.builtin "re.Pattern.search") [.ref p, .str x t]) Q E s := by
  have hT : s.TypeIs (.ref p) "re.Pattern" := ⟨op, hp, hcl⟩
  refine wpAny_call_entry slot_re_search hT entry_re_search ?_ (args_re_search _ _)
  show wpAny _ _ (do
    let t ← Builtin.Re.reTarget "re.Pattern.search" "search" ⟨[.ref p, .str x t], []⟩
    Builtin.Re.reAnswer t (Sre.forSearch t.code t.text t.groups t.pos t.lim false)) _ _ _
  have nm : Builtin.Re.reNamed "re.Pattern.search" "search" ["string", "pos", "endpos"] 1 [.str x t] [] = pure [some (.str x t), none, none] := by rfl
  refine wpAny_bind ?_
  unfold Builtin.Re.reTarget
  dsimp only
  rw [nm]
  refine wpAny_bind (wpAny_pure ?_)
  dsimp only
  refine wpAny_bind (wpAny_pure ?_)
  refine wpAny_bind (wpAny_pure ?_)
  refine wpAny_bind (wpAny_fieldsOf hp hd ?_)
  have tx : Builtin.Re.reTextOf (.str x t) = pure (x.cps, 0) := rfl
  have g6 : Builtin.Re.reRawNat ((#[v0, v1, Value.int 0 0, v3, v4, Value.ref ca, Value.int 0 0] : Array Value).getD 6 Value.none) = 0 := rfl
  have g2 : Builtin.Re.reRawNat ((#[v0, v1, Value.int 0 0, v3, v4, Value.ref ca, Value.int 0 0] : Array Value).getD 2 Value.none) = 0 := rfl
  have g5 : (#[v0, v1, Value.int 0 0, v3, v4, Value.ref ca, Value.int 0 0] : Array Value).getD 5 Value.none = .ref ca := rfl
  rw [tx, g6, g2, g5]
  refine wpAny_bind (wpAny_pure ?_)
  dsimp only
  rw [if_neg (by decide)]
  rw [if_neg (by decide)]
  have nc : Builtin.Re.reNoCollectionInside (.str x t) 0 = pure () := rfl
  rw [nc]
  refine wpAny_bind (wpAny_pure ?_)
  refine wpAny_bind ?_
  unfold Builtin.Re.reRawItems
  refine wpAny_bind (wpAny_seqItems hc hcd ?_)
  refine wpAny_pure ?_
  refine wpAny_pure ?_
  have e1 : min (Int.toNat 0) x.cps.size = 0 := by simp
  have e2 : min (2 ^ 63 - 1 : Int).toNat x.cps.size = x.cps.size := Nat.min_eq_right (Nat.le_trans hx (by decide))
  rw [e1, e2]
  dsimp only
  unfold Builtin.Re.reAnswer
  refine wpAny_bind (wp_runToEnd (m := Sre.forSearch (codeOf vs) x.cps 0 0 x.cps.size false) hm ?_)
  exact wpAny_pure ⟨_, rfl, h⟩
end Mine

/-! Rules9 -/
namespace Mine
open PySem PySem.W PySem.Calls PyProof.Rows
variable {c : Cx} {env : Env} {σ : Sg}

/-! ## a call in any form of its arguments -/
def CallOkG (prog : Program) (w : World) (K : Frag) (n : Nat) (f : Addr) (mkp : List Value → List Value) (mkk : List Value → List (Str × Value)) (ds : List D) (q : D → Prop) : Prop :=
  ∀ (A : Around) (s : Shared) (Hc : PH) (vs : List Value), Amb n A → K.In s.heap → (∃ p loose mg mb, TopRead p loose mg mb s.heap) → (∀ a o, Hc a = some o → s.heap.get? a = some o) → RAll w.params Hc vs ds →
    wpAny (model prog w) A (call (.ref f) (mkp vs) (mkk vs)) (Back w.params Hc s q) nope s

theorem CallOkG.enter {prog : Program} {w : World} {K : Frag} {n : Nat} {f : Addr} {mkp : List Value → List Value} {mkk : List Value → List (Str × Value)} {ds ex : List D} {exv : List Value} {q : D → Prop} {name qual : Str} {params : Arguments} {body : List Stmt} {scope : Scope} {dV kV doc pm cdv ct oc : Value} {an od : Option Addr} {osl : Array (Option Value)}
    (ps others : List Str) (hK : K.lookup f = some ⟨oc, od, .func (fnX name qual params body scope [] dV kV doc pm an cdv ct), osl⟩) (hcd : codeIn K cdv qual = true)
    (hbind : ∀ s vs, K.In s.heap → vs.length = ds.length → BindsTo s (fnX name qual params body scope [] dV kV doc pm an cdv ct) ⟨mkp vs, mkk vs⟩ (ps.zip (vs ++ exv)))
    (hex : ∀ H, RAll w.params H exv ex)
    (hps : ps.length = (ds ++ ex).length) (hnd : (ps ++ others).Nodup) (hloc : ∀ x ∈ ps, scope.names.lookup x = some .local) (hcell : ∀ x ∈ scope.names, x.2 ≠ .cell)
    (h : ∀ s₀ H₀ L A, (Cx.mk prog w K s₀ H₀ L A n).Ok → St ⟨prog, w, K, s₀, H₀, L, A, n⟩ (execs body (envX qual scope L f cdv [])) (startS ps (ds ++ ex) others) (RetQ q))
    (hco : scope.isCoroutine = false := by kernel_rfl!) (hgen : scope.isGenerator = false := by kernel_rfl!) (hk : scope.kind = .function := by kernel_rfl!) : CallOkG prog w K (n + 1) f mkp mkk ds q := by
  intro A s Hc vs amb kin top hH hvs
  have hvs' : RAll w.params Hc (vs ++ exv) (ds ++ ex) := hvs.append (hex Hc)
  have hlim : s.heap.NoLimit := let ⟨_, _, _, _, T⟩ := top; T.nolimit
  refine wpAny_call (codeAny_call_def (fd := fnX name qual params body scope [] dV kV doc pm an cdv ct) (body := body) (binds := ps.zip (vs ++ exv)) (by have := amb.depth; omega) (kin _ _ hK) rfl hlim (codeRec_of kin hcd) rfl (hbind s vs kin hvs.length) hcell
    (fun x hx => hloc x.1 (List.of_mem_zip hx).1) (fun h₁ hns hk₁ => ?_) hco hgen hk)
  let c' : Cx := ⟨prog, w, K, s, Hc, s.heap.objs.size, A.deeper (envX qual scope s.heap.objs.size f cdv []), n⟩
  have ok : c'.Ok := ⟨kin, top, ⟨amb.hh, by show A.depth + 1 + n < recursionLimit; have := amb.depth; omega, by show A.units + 3 + 8 * n + 80 < cLine; have := amb.units; omega⟩, hH⟩
  have I₀ : Inv c' (fun _ => none) Hc (startS ps (ds ++ ex) others) { s with heap := h₁, toks := s.toks + (ps.zip (vs ++ exv)).length } := by
    refine ⟨_, fun _ => none, ⟨hns, hk₁, Nat.le_refl _⟩, fun a o e => ⟨hk₁ _ _ (hH _ _ e), fun z => ?_, rfl⟩, (fun _ _ e => nomatch e), (fun _ _ e => nomatch e), fun _ _ e => .inl e, ?_, fun p hp => ?_, rfl, rfl⟩
    · have := Heap.lt_size (hH _ _ e); rw [z] at this; exact absurd this (Nat.lt_irrefl _)
    · rw [startS_keys hps]; exact hnd
    · rcases startS_holds (others := others) (List.nodup_append.mp hnd).1 hps hvs' p hp with e | ⟨d, v, e, hl, r⟩
      · rw [e]; trivial
      · rw [e]; exact ⟨v, hl, r⟩
  refine wpAny_nope (wpAny_mono (h s Hc s.heap.objs.size _ ok _ Hc _ I₀) (fun fl s' ⟨H', fd, σ', l', I', r', q'⟩ => ?_) fun _ _ x => x)
  obtain ⟨m, O, I'⟩ := I'
  cases fd with
  | ret d =>
    obtain ⟨v, rfl, r⟩ := r'
    exact ⟨H', d, l', I'.fr.keep, fun a o e => (I'.hH a o e).1, I'.new, r, q', I'.os, I'.gens⟩
  | next =>
    cases (show fl = .next from r')
    exact ⟨H', .none, l', I'.fr.keep, fun a o e => (I'.hH a o e).1, I'.new, .none, q', I'.os, I'.gens⟩
  | brk => exact q'.elim
  | cont => exact q'.elim

def kwName (vs : List Value) : List (Str × Value) := match vs with | [_, _, v] => [(Str.ofString "name", v)] | _ => []
def pos2 (vs : List Value) : List Value := match vs with | [a, b, _] => [a, b] | _ => []

/-! ## names of the top that stand for an object; patterns -/
theorem Ev.globV {x : Str} {pos : Pos} {v : Value} {Q : D → Sg → Prop} (ok : c.Ok) (e : nsIn c.K mainGlobals x = some (some v)) (q : Q (.val v) σ)
    (hk : env.scope.kind = .function := by kernel_rfl!) (hx : env.kindOf x = some .globalImplicit := by kernel_rfl!) (hg : env.globals = mainGlobals := by kernel_rfl!) (hd : (x == ("__debug__" : Str)) = false := by decide) :
    Ev c (eval (.Name x pos) env) σ Q := fun X H s I => nameG ok I e ⟨H, _, σ, Le.refl _, I, .val _, q⟩ hk hx hg hd

structure Pat (K : Frag) (p : Addr) (vs : List Value) : Prop where
  at' : ∃ op ca oc v0 v1 v3 v4 n, K.lookup p = some op ∧ op.cls = .type "re.Pattern" ∧ op.dict = none ∧ op.data = .fields #[v0, v1, .int 0 0, v3, v4, .ref ca, .int 0 0] ∧ K.lookup ca = some oc ∧ oc.data = .seq vs.toArray n
theorem Pat.intro {K : Frag} {p : Addr} {vs : List Value} {op oc : Obj} {ca : Addr} {v0 v1 v3 v4 : Value} {n : Nat} (h1 : K.lookup p = some op) (h2 : K.lookup ca = some oc) (h3 : op.data = .fields #[v0, v1, .int 0 0, v3, v4, .ref ca, .int 0 0]) (h4 : op.cls = .type "re.Pattern") (h5 : op.dict = none) (h6 : oc.data = .seq vs.toArray n) : Pat K p vs :=
  ⟨⟨op, ca, oc, v0, v1, v3, v4, n, h1, h4, h5, h3, h2, h6⟩⟩
def codeN : Array Nat := #[14, 10, 4, 1, 1, 22, 0, 31, 16, 127, 0, 13, 7, 22, 0, 31, 16, 127, 0, 1]
def codeV : Array Nat := #[14, 14, 4, 1, 1, 9, 4294966783, 0, 0, 2147483648, 0, 0, 0, 0, 0, 13, 11, 9, 4294966783, 0, 0, 2147483648, 0, 0, 0, 0, 0, 1]
structure Cl (x : Str) : Prop where
  n : missed codeN x.cps = true
  v : missed codeV x.cps = true
  len : x.cps.size ≤ 100
theorem Pat.intro' {K : Frag} {p : Addr} {vs : List Value} {op oc : Obj} {ca : Addr} {v0 v1 v3 v4 : Value} {n : Nat} {code : Array Nat} (h1 : K.lookup p = some op) (h2 : K.lookup ca = some oc) (h3 : op.data = .fields #[v0, v1, .int 0 0, v3, v4, .ref ca, .int 0 0]) (h4 : op.cls = .type "re.Pattern") (h5 : op.dict = none) (h6 : oc.data = .seq vs.toArray n) (h7 : codeOf vs = code) : ∃ vs, Pat K p vs ∧ codeOf vs = code :=
  ⟨vs, ⟨⟨op, ca, oc, v0, v1, v3, v4, n, h1, h4, h5, h3, h2, h6⟩⟩, h7⟩
theorem Ev.search {o e : Expr} {apos pos : Pos} {Q : D → Sg → Prop} (ok : c.Ok)
    (h : Ev c (eval o env) σ fun d σ₁ => ∃ p vs, d = .val (.ref p) ∧ Pat c.K p vs ∧ Ev c (eval e env) σ₁ fun d' σ₂ => ∃ x, d' = .str x ∧ missed (codeOf vs) x.cps = true ∧ x.cps.size ≤ 100 ∧ Q .none σ₂)
    (hf : CallForm o "search" apos pos [e] env := by with_unfolding_all exact ⟨_, rfl⟩) (he : starEach [e] env = (false, eval e env) :: starEach [] env := by kernel_rfl!) : Ev c (eval (.Call (.Attribute o "search" apos) [e] [] pos) env) σ Q := by
  intro X H s I
  obtain ⟨pl, hf⟩ := hf
  refine MethodCall_ (pl := pl) (wpAny_mono (h X H s I) (fun v s₁ ⟨H₁, d, σ₁, l₁, I₁, r₁, p, vs, e', ⟨⟨op, ca, oc, v0, v1, v3, v4, n, k1, k2, k3, k4, k5, k6⟩⟩, h₁⟩ => ?_) fun _ _ x => x) hf
  subst e'
  cases r₁ with
  | val =>
    have kin := I₁.kIn ok
    refine getMethod_builtin (T := "re.Pattern") ⟨op, kin _ _ k1, k2⟩ plainAttrs_re slot_re_search type_re_search (fun a ea => ?_) ?_
    · cases ea; exact ⟨op, kin _ _ k1, k3⟩
    dsimp only
    have hp : (backTo pos (starEach [] env)).any (·.1) = false := rfl
    with_reducible refine callWith_method1 ?_ he hp
    refine wpAny_items_cons (wpAny_mono (h₁ X H₁ s₁ I₁) (fun v s₂ ⟨H₂, d, σ₂, l₂, I₂, r₂, x, e', hm, hx, q⟩ => wpAny_items_nil ?_) fun _ _ x => x) he
    subst e'
    have kin₂ := I₂.kIn ok
    cases r₂ with
    | str x u => exact call_search (kin₂ _ _ k1) k2 k4 (kin₂ _ _ k5) k6 hm hx ⟨H₂, _, σ₂, l₁.trans l₂, I₂, .none, q⟩

theorem Tr.ofNone {e : Expr} {whole : Sem Value} {Q : Bool → Sg → Prop} (h : Ev c whole σ fun a σ₁ => a = .none ∧ Q false σ₁)
    (he : isTrue e env whole = (do let v ← whole; standAt e.pos; holding [v] (truthy v)) := by kernel_rfl!) : Tr c (isTrue e env whole) σ Q :=
  fun X H s I => wpAny_isTrue_value (wpAny_mono (h X H s I) (fun _ s₁ ⟨H₁, _, σ₁, l₁, I₁, r₁, e, q⟩ => by
    subst e; cases r₁; exact truthy_none ⟨H₁, σ₁, l₁, I₁, q⟩) fun _ _ x => x) he
/-- type(e) is str: true of a text -/
theorem Tr.isStr {e : Expr} {x y : Str} {np cp yp pos : Pos} {whole : Sem Value} {Q : Bool → Sg → Prop} (ok : c.Ok) (hn : nsIn c.K mainGlobals x = some none) (hb : bootBuiltins x = some (.type "type")) (hn' : nsIn c.K mainGlobals y = some none) (hb' : bootBuiltins y = some (.type "str"))
    (h : Ev c (eval e env) σ fun d σ₁ => ∃ t, d = .str t ∧ Q true σ₁)
    (hm : behindInMarks .Is (.Name y yp) = false := by kernel_rfl!)
    (hne : x ≠ "__name__" := by decide) (hne' : y ≠ "__name__" := by decide) (hk : env.scope.kind = .function := by kernel_rfl!) (hx : env.kindOf x = some .globalImplicit := by kernel_rfl!) (hy : env.kindOf y = some .globalImplicit := by kernel_rfl!) (hg : env.globals = mainGlobals := by kernel_rfl!) (hbi : env.builtins = builtinsNs := by kernel_rfl!)
    (hd : (x == ("__debug__" : Str)) = false := by decide) (hd' : (y == ("__debug__" : Str)) = false := by decide)
    (he : starEach [e] env = (false, eval e env) :: starEach [] env := by kernel_rfl!) :
    Tr c (isTrue (.Compare (.Call (.Name x np) [e] [] cp) [.Is] [.Name y yp] pos) env whole) σ Q := by
  intro X H s I
  refine wpAny_isTrue_Compare1 (Call_Name rfl (nameB ok I hn hb hne ?_ hk hx hg hbi hd)) hm
  refine PyProof.Rows.callWith_type1 ?_ he
  refine wpAny_items_cons (wpAny_mono (h X H s I) (fun v s₁ ⟨H₁, d, σ₁, l₁, I₁, r₁, t, e', q⟩ => wpAny_items_nil ?_) fun _ _ x => x) he
  subst e'
  cases r₁ with
  | str t u =>
    refine call_type_of (Tx := "str") rfl (by decide +kernel) ?_
    refine nameB ok I₁ hn' hb' hne' ?_ hk hy hg hbi hd'
    exact wpAny_is_self rfl (wpAny_truthy_bool ⟨H₁, σ₁, l₁, I₁, q⟩)
end Mine

/-! Rules10 -/
namespace Mine
open PySem PySem.W PySem.Calls PyProof.Rows
variable {c : Cx} {env : Env} {σ : Sg}

structure HCls (K : Frag) : Prop where
  plain : plainGet K hdrC "_headers" = true
  dict : hasDictIn K hdrC = true
  attr : findIn K (.ref hdrC) "_headers" = some none
  noG : noGet K none = true
  seq : noSeq K hdrC = true
theorem getL_own (P : Params) (v : Value) (t : PySem.Tok) : getL "_headers" [hdrEntry P v t] = some (some v) := by rfl
theorem getL_conv (P : Params) (v : Value) (t : PySem.Tok) : getL "_convert_string_type" [hdrEntry P v t] = some none := by rfl
theorem getL_get (P : Params) (v : Value) (t : PySem.Tok) : getL "get" [hdrEntry P v t] = some none := by rfl
theorem getL_items (P : Params) (v : Value) (t : PySem.Tok) : getL "items" [hdrEntry P v t] = some none := by rfl

def HdrLV : LV → Prop
  | .d (.hdr _) => True
  | .own _ (.hdr _) => True
  | _ => False
theorem InvAt.inst {X H : PH} {s : Shared} {m : Str → Option Value} {O : Addr → Option Str} (I : InvAt c X H σ s m O) {x : Str} {lv : LV} (hl : Loc σ x lv) (hv : HdrLV lv) :
    ∃ a dx l t, m x = some (.ref a) ∧ PySem.W.InstAt s.heap a (instObj hdrC dx) hdrC (some (dictOf [hdrEntry c.w.params (.ref l) t] 1)) := by
  have hq := I.holds _ hl.mem
  cases lv with
  | unb => exact hv.elim
  | d d =>
    cases d with
    | hdr kvs =>
      obtain ⟨v, e, r⟩ := hq
      cases r with
      | @hdr a dx l _ q =>
        obtain ⟨t, vs, n, q1, q2, q3, q4⟩ := q
        exact ⟨a, dx, l, t, e, (I.hH _ _ q1).1, rfl, rfl, (I.hH _ _ q2).1⟩
    | _ => exact hv.elim
  | own a d =>
    cases d with
    | hdr kvs =>
      obtain ⟨e, _, dx, l, ⟨t, vs, n, q1, q2, q3, q4⟩, _⟩ := hq
      exact ⟨a, dx, l, t, e, q1, rfl, rfl, q2⟩
    | _ => exact hv.elim

def CallFormK (o : Expr) (name : Str) (apos pos : Pos) (args : List Expr) (kws : List Keyword) (env : Env) : Prop :=
  ∃ pl : Sem Bool, eval (.Call (.Attribute o name apos) args kws pos) env = (do
      let ov ← eval o env
      standAt apos.atName
      let (f, first) ← holding [ov] (getMethod ov name pl)
      callWith pos f first (backTo pos (starEach args env)) (backToKw pos (keywordEach kws env)))

/-- self._convert_string_type(e, name=b): the text itself -/
theorem conv_at {X H : PH} {s : Shared} {self : Str} {ps ap kp cp pos : Pos} {e : Expr} {k : Nat} {b : Bool} {f : Addr} {lv : LV} {Q : D → Sg → Prop} (I : Inv c X H σ s) (ok : c.Ok) (hC : HCls c.K) (hl : Loc σ self lv) (hlv : HdrLV lv)
    (hF : HFn c.K "_convert_string_type" f) (hkeep : keepIn c.K (.ref f) = true)
    (h : wpAny (model c.prog c.w) c.A (eval e env) (Post c X H fun d σ₁ => ∃ x n, d = .str x ∧ (∀ v, CallOkG c.prog c.w c.K n f pos2 kwName [.val v, .str x, .bool b] (fun d => d = .str x)) ∧ n ≤ c.lev ∧ Q (.str x) σ₁) nope s)
    (hf : CallFormK (.Name self ps) "_convert_string_type" ap pos [e] [⟨some "name", .Constant (.bool b) k cp, kp⟩] env := by with_unfolding_all exact ⟨_, rfl⟩)
    (hL : env.locals = c.L := by kernel_rfl!) (hk : env.scope.kind = .function := by kernel_rfl!) (hx : env.kindOf self = some .local := by kernel_rfl!) (hd : (self == ("__debug__" : Str)) = false := by decide)
    (he : starEach [e] env = (false, eval e env) :: starEach [] env := by kernel_rfl!) :
    wpAny (model c.prog c.w) c.A (eval (.Call (.Attribute (.Name self ps) "_convert_string_type" ap) [e] [⟨some "name", .Constant (.bool b) k cp, kp⟩] pos) env) (Post c X H Q) nope s := by
  obtain ⟨pl, hf⟩ := hf
  have I' := I
  obtain ⟨m, O, I'⟩ := I'
  obtain ⟨a, dx, l, t, hm, inst⟩ := I'.inst hl hlv
  refine methodCall_KW (pl := pl) (wpAny_Name (wpAny_loadName_local hk hx (hL ▸ I'.fr.ns) hm ?_) hd) hf
  refine method_inst I'.fr ok.kIn inst hC.plain hF.find hF.isF (getL_conv _ _ _) ?_
  dsimp only
  refine callWith_KW (I.kIn ok) hkeep (by rfl) ?_ (by rw [he]; rfl) he
  refine wpAny_items_cons (wpAny_mono h (fun v s₁ ⟨H₁, d, σ₁, l₁, I₁, r₁, x, n, e', C, hn, q⟩ => wpAny_items_nil ?_) fun _ _ x => x) he
  subst e'
  refine kwAll_cons (wpAny_Constant_bool (kwAll_nil ⟨I₁.kIn ok, ?_⟩))
  have c1 := C (.ref a) c.A s₁ H₁ [.ref a, v, .bool b] (ok.amb.le hn) (I₁.kIn ok) (I₁.top ok) I₁.inHeap (.cons (.val _) (.cons r₁ (.cons (.bool b) .nil)))
  exact wpAny_mono c1 (fun v s₂ bk => (I₁.back bk (fun d hd => by subst hd; exact q)).le l₁) fun _ _ x => x

/-- self._convert_string_type(e, name=b): the text itself -/
theorem Ev.conv {self : Str} {ps ap kp cp pos : Pos} {e : Expr} {k : Nat} {b : Bool} {f : Addr} {lv : LV} {Q : D → Sg → Prop} (ok : c.Ok) (hC : HCls c.K) (hl : Loc σ self lv) (hlv : HdrLV lv)
    (hF : HFn c.K "_convert_string_type" f) (hkeep : keepIn c.K (.ref f) = true)
    (h : Ev c (eval e env) σ fun d σ₁ => ∃ x n, d = .str x ∧ (∀ v, CallOkG c.prog c.w c.K n f pos2 kwName [.val v, .str x, .bool b] (fun d => d = .str x)) ∧ n ≤ c.lev ∧ Q (.str x) σ₁)
    (hf : CallFormK (.Name self ps) "_convert_string_type" ap pos [e] [⟨some "name", .Constant (.bool b) k cp, kp⟩] env := by with_unfolding_all exact ⟨_, rfl⟩)
    (hL : env.locals = c.L := by kernel_rfl!) (hk : env.scope.kind = .function := by kernel_rfl!) (hx : env.kindOf self = some .local := by kernel_rfl!) (hd : (self == ("__debug__" : Str)) = false := by decide)
    (he : starEach [e] env = (false, eval e env) :: starEach [] env := by kernel_rfl!) :
    Ev c (eval (.Call (.Attribute (.Name self ps) "_convert_string_type" ap) [e] [⟨some "name", .Constant (.bool b) k cp, kp⟩] pos) env) σ Q :=
  fun X H s I => conv_at I ok hC hl hlv hF hkeep (h X H s I) hf hL hk hx hd he

def pairD (kv : Str × Str) : D := .tup [.str kv.1, .str kv.2]
theorem Pairs.rall {P : Params} {H : PH} {vs : List Value} {kvs : List (Str × Str)} (p : Pairs H vs kvs) : RAll P H vs (kvs.map pairD) := by
  induction p with
  | nil => exact .nil
  | cons a b d _ ih => exact .cons (.tup a b d (.cons (.str _ _) (.cons (.str _ _) .nil))) ih

/-- x._headers of a lasting table -/
theorem Ev.attrH {x : Str} {px pos : Pos} {kvs : List (Str × Str)} {Q : D → Sg → Prop} (ok : c.Ok) (hC : HCls c.K) (hl : Loc σ x (.d (.hdr kvs))) (q : Q (.lst (kvs.map pairD)) σ)
    (hL : env.locals = c.L := by kernel_rfl!) (hk : env.scope.kind = .function := by kernel_rfl!) (hx : env.kindOf x = some .local := by kernel_rfl!) (hd : (x == ("__debug__" : Str)) = false := by decide) :
    Ev c (eval (.Attribute (.Name x px) "_headers" pos) env) σ Q := by
  intro X H s I
  have I' := I
  obtain ⟨m, O, I'⟩ := I'
  obtain ⟨v, hm, r⟩ := I'.holds _ hl.mem
  refine Attribute_name (wpAny_Name (wpAny_loadName_local hk hx (hL ▸ I'.fr.ns) hm ?_) hd)
  cases r with
  | @hdr a dx l _ hat =>
    have ⟨t, vs, n, q1, q2, q3, q4⟩ := hat
    have inst : PySem.W.InstAt s.heap a (instObj hdrC dx) hdrC (some (dictOf [hdrEntry c.w.params (.ref l) t] 1)) := ⟨(I'.hH _ _ q1).1, rfl, rfl, (I'.hH _ _ q2).1⟩
    exact get_own I'.fr ok.kIn inst hC.plain hC.dict hC.attr hC.noG (getL_own _ _ _) rfl ⟨H, _, σ, Le.refl _, I.toks _, .lst q3 rfl rfl q4.rall, q⟩
/-- x[:] of a list -/
theorem Ev.allL {value : Expr} {p pos : Pos} {Q : D → Sg → Prop}
    (h : Ev c (eval value env) σ fun o σ₁ => ∃ ds, o = .lst ds ∧ ds.length ≤ 16777216 ∧ Q (.lst ds) σ₁) :
    Ev c (eval (.Subscript value (.Slice none none none p) pos) env) σ Q := by
  intro X H s I
  refine Subscript_ (wpAny_mono (h X H s I) (fun o s₁ ⟨H₁, d, σ₁, l₁, I₁, r₁, ds, e, hsz, q⟩ => ?_) fun _ _ x => x)
  subst e
  cases r₁ with
  | @lst a ob n₀ vs _ e1 e2 e3 rr =>
    refine wpAny_Slice ?_
    rw [evalPart_none]
    refine wpAny_pure ?_
    refine wpAny_pure ?_
    refine wpAny_pure ?_
    obtain ⟨m₂, O₂, J₂⟩ := id I₁
    have hl : s₁.heap.IsList a vs.toArray := ⟨ob, (J₂.hH _ _ e1).1, e2, n₀, e3⟩
    have hz : vs.toArray.size ≤ sizeLine := by rw [sizeLine_eq, List.size_toArray, rr.length]; exact hsz
    refine tail_any (hl.push _).typeIs list_getitem_lookup (wpAny_getItem_list_slice (hl.push _) (Heap.IsSliceOf.new ..) .none .none .none (by simp) ?_ hz) (by with_unfolding_all rfl)
    rw [slicePick_all]
    have I₃ := I₁.push { cls := .type "slice", data := .fields #[.none, .none, .none] } s₁.toks
    obtain ⟨hle, I₄⟩ := I₃.pushH { cls := .type "list", data := .seq vs.toArray } s₁.toks
    exact ⟨_, _, σ₁, l₁.trans hle, I₄, .lst (by unfold PH.set; rw [if_pos rfl]) rfl rfl (rr.mono hle), q⟩

/-- x.get(e), x.items(): methods on a lasting table -/
theorem Ev.methH1 {x name : Str} {px ap pos : Pos} {e : Expr} {f : Addr} {kvs : List (Str × Str)} {Q : D → Sg → Prop} (ok : c.Ok) (hC : HCls c.K) (hl : Loc σ x (.d (.hdr kvs)))
    (hF : HFn c.K name f) (hkeep : keepIn c.K (.ref f) = true) (hg : ∀ P v t, getL name [hdrEntry P v t] = some none)
    (h : Ev c (eval e env) σ fun d σ₁ => ∃ q n, CallOkG c.prog c.w c.K n f id (fun _ => []) [.hdr kvs, d] q ∧ n ≤ c.lev ∧ ∀ d, q d → Q d σ₁)
    (hf : CallForm (.Name x px) name ap pos [e] env := by with_unfolding_all exact ⟨_, rfl⟩)
    (hL : env.locals = c.L := by kernel_rfl!) (hk : env.scope.kind = .function := by kernel_rfl!) (hx : env.kindOf x = some .local := by kernel_rfl!) (hd : (x == ("__debug__" : Str)) = false := by decide)
    (he : starEach [e] env = (false, eval e env) :: starEach [] env := by kernel_rfl!) :
    Ev c (eval (.Call (.Attribute (.Name x px) name ap) [e] [] pos) env) σ Q := by
  intro X H s I
  obtain ⟨pl, hf⟩ := hf
  have I' := I
  obtain ⟨m, O, I'⟩ := I'
  obtain ⟨a, dx, l, t, hm, inst⟩ := I'.inst hl trivial
  refine MethodCall_ (pl := pl) (wpAny_Name (wpAny_loadName_local hk hx (hL ▸ I'.fr.ns) hm ?_) hd) hf
  refine method_inst I'.fr ok.kIn inst hC.plain hF.find hF.isF (hg _ _ _) ?_
  dsimp only
  refine callWith_K (I.kIn ok) hkeep ?_ he
  obtain ⟨v₀, hm₀, r₀⟩ := I'.holds _ hl.mem
  have ev : v₀ = .ref a := by rw [hm] at hm₀; exact (Option.some.inj hm₀).symm
  subst ev
  refine wpAny_items_cons (wpAny_mono (h X H s I) (fun v s₁ ⟨H₁, d, σ₁, l₁, I₁, r₁, q, n, C, hn, hq⟩ => wpAny_items_nil ⟨I₁.kIn ok, ?_⟩) fun _ _ x => x) he
  have c1 := C c.A s₁ H₁ [.ref a, v] (ok.amb.le hn) (I₁.kIn ok) (I₁.top ok) I₁.inHeap (.cons (r₀.mono l₁) (.cons r₁ .nil))
  exact wpAny_mono c1 (fun v s₂ bk => (I₁.back bk hq).le l₁) fun _ _ x => x
theorem Ev.methH0 {x name : Str} {px ap pos : Pos} {f : Addr} {kvs : List (Str × Str)} {Q : D → Sg → Prop} (ok : c.Ok) (hC : HCls c.K) (hl : Loc σ x (.d (.hdr kvs)))
    (hF : HFn c.K name f) (hkeep : keepIn c.K (.ref f) = true) (hg : ∀ P v t, getL name [hdrEntry P v t] = some none)
    (h : ∃ q n, CallOkG c.prog c.w c.K n f id (fun _ => []) [.hdr kvs] q ∧ n ≤ c.lev ∧ ∀ d, q d → Q d σ)
    (hf : CallForm (.Name x px) name ap pos [] env := by with_unfolding_all exact ⟨_, rfl⟩)
    (hL : env.locals = c.L := by kernel_rfl!) (hk : env.scope.kind = .function := by kernel_rfl!) (hx : env.kindOf x = some .local := by kernel_rfl!) (hd : (x == ("__debug__" : Str)) = false := by decide) :
    Ev c (eval (.Call (.Attribute (.Name x px) name ap) [] [] pos) env) σ Q := by
  intro X H s I
  obtain ⟨pl, hf⟩ := hf
  have I' := I
  obtain ⟨m, O, I'⟩ := I'
  obtain ⟨a, dx, l, t, hm, inst⟩ := I'.inst hl trivial
  refine MethodCall_ (pl := pl) (wpAny_Name (wpAny_loadName_local hk hx (hL ▸ I'.fr.ns) hm ?_) hd) hf
  refine method_inst I'.fr ok.kIn inst hC.plain hF.find hF.isF (hg _ _ _) ?_
  dsimp only
  refine callWith_K0 (I.kIn ok) hkeep ?_
  obtain ⟨v₀, hm₀, r₀⟩ := I'.holds _ hl.mem
  have ev : v₀ = .ref a := by rw [hm] at hm₀; exact (Option.some.inj hm₀).symm
  subst ev
  obtain ⟨q, n, C, hn, hq⟩ := h
  have c1 := C c.A s H [.ref a] (ok.amb.le hn) (I.kIn ok) (I.top ok) I.inHeap (.cons r₀ .nil)
  exact wpAny_mono c1 (fun v s₂ bk => I.back bk hq) fun _ _ x => x
end Mine

/-! Rules11 -/
namespace Mine
open PySem PySem.W PySem.Calls PyProof.Rows
variable {c : Cx} {env : Env} {σ : Sg}

theorem Pairs.append {H : PH} {vs ws : List Value} {k l : List (Str × Str)} (p : Pairs H vs k) (q : Pairs H ws l) : Pairs H (vs ++ ws) (k ++ l) := by
  induction p with
  | nil => exact q
  | cons a b d _ ih => exact .cons a b d ih
theorem pair_inv {P : Params} {H : PH} {v : Value} {k x : Str} (r : R P H v (pairD (k, x))) : Pairs H [v] [(k, x)] := by
  cases r with
  | @tup b o n vs _ e1 e2 e3 rr =>
    cases rr with
    | cons r1 rr =>
      cases rr with
      | cons r2 rr =>
        cases rr
        cases r1
        cases r2
        exact .cons e1 e2 e3 .nil
theorem Pairs.length {H : PH} {vs : List Value} {k : List (Str × Str)} (p : Pairs H vs k) : vs.length = k.length := by
  induction p with
  | nil => rfl
  | cons a b d _ ih => simp [ih]

/-- self._headers.append(e), self's table its own -/
theorem St.appendH {x : Str} {px hp ap cp pos : Pos} {e : Expr} {a : Addr} {kvs₀ : List (Str × Str)} {Q : FD → Sg → Prop} (ok : c.Ok) (hC : HCls c.K) (hl₀ : Loc σ x (.own a (.hdr kvs₀)))
    (h : Ev c (eval e env) σ fun d σ₁ => ∃ k v kvs σ₂, d = pairD (k, v) ∧ Loc σ₁ x (.own a (.hdr kvs)) ∧ kvs.length ≤ 16777216 ∧ Upd σ₁ x (.own a (.hdr (kvs ++ [(k, v)]))) σ₂ ∧ Q .next σ₂)
    (hf : CallForm (.Attribute (.Name x px) "_headers" hp) "append" ap cp [e] env := by with_unfolding_all exact ⟨_, rfl⟩) (he : starEach [e] env = (false, eval e env) :: starEach [] env := by kernel_rfl!)
    (hi : interactive env = false := by kernel_rfl!) (hs : swapsWith (.Call (.Attribute (.Attribute (.Name x px) "_headers" hp) "append" ap) [e] [] cp) none pos.line env = pure false := by kernel_rfl!)
    (hL : env.locals = c.L := by kernel_rfl!) (hk : env.scope.kind = .function := by kernel_rfl!) (hx : env.kindOf x = some .local := by kernel_rfl!) (hd : (x == ("__debug__" : Str)) = false := by decide) :
    St c (exec (.Expr (.Call (.Attribute (.Attribute (.Name x px) "_headers" hp) "append" ap) [e] [] cp) pos) env) σ Q := by
  intro X H s I
  obtain ⟨pl, hf⟩ := hf
  refine wpAny_Expr ?_ hi hs
  have I' := I
  obtain ⟨m, O, I'⟩ := I'
  obtain ⟨hm, _, dx₀, l₀, ⟨t₀, vs₀, n₀, q1, q2, q3, q4⟩, _, _, _, _, _, el₀⟩ := I'.holds _ hl₀.mem
  have inst : PySem.W.InstAt s.heap a (instObj hdrC dx₀) hdrC (some (dictOf [hdrEntry c.w.params (.ref l₀) t₀] 1)) := ⟨q1, rfl, rfl, q2⟩
  refine MethodCall_ (pl := pl) (Attribute_name (wpAny_Name (wpAny_loadName_local hk hx (hL ▸ I'.fr.ns) hm ?_) hd)) hf
  refine get_own I'.fr ok.kIn inst hC.plain hC.dict hC.attr hC.noG (getL_own _ _ _) rfl ?_
  with_reducible refine Calls.getMethod_list_append q3 rfl rfl ?_
  dsimp only
  have hp : (backTo cp (starEach [] env)).any (·.1) = false := rfl
  with_reducible refine callWith_method1 ?_ he hp
  refine wpAny_items_cons (wpAny_mono (h X H _ (I.toks _)) (fun v s₁ ⟨H₁, d, σ₁, l₁, I₁, r₁, k, v', kvs, σ₂, e', hl₁, hz, hu, q⟩ => wpAny_items_nil ?_) fun _ _ x => x) he
  subst e'
  obtain ⟨m₁, O₁, I₁⟩ := I₁
  obtain ⟨hm₁, ho₁, dx, l, ⟨t, vs, n, p1, p2, p3, p4⟩, o2, o3, a1, a2, a3, el⟩ := I₁.holds _ hl₁.mem
  have e2 : l₀ = l := by rw [el₀, el]
  subst e2
  show wpAny _ _ (call (.builtin "list.append") [.ref l₀, v]) _ _ _
  refine append_at p3 (fun h' hs' e' => ?_) (by rw [sizeLine_eq, List.size_toArray, p4.length]; exact hz)
  refine ⟨H₁, .next, σ₂, l₁, ⟨m₁, O₁, I₁.change hl₁ (fun b o ne e => (hs'.2 b (fun z => ne (z ▸ o3))).trans e) (fun b e => ?_) hu
    ⟨dx, l₀, ⟨t, vs ++ [v], n + 1, (hs'.2 _ a2).trans p1, (hs'.2 _ a3).trans p2, ?_, p4.append (pair_inv r₁)⟩, o2, o3, a1, a2, a3, el⟩⟩, rfl, q⟩
  · by_cases hb : b = l₀
    · subst hb; exact ⟨_, e'⟩
    · obtain ⟨_, ⟨o, q⟩, _⟩ := I₁.hO b x e; exact ⟨o, (hs'.2 b hb).trans q⟩
  · have : (vs ++ [v]).toArray = vs.toArray.push v := by simp
    rw [this]; exact e'
end Mine

/-! Slice -/
namespace Mine
open PySem PySem.W PySem.Calls PyProof.Rows

/-- l[:] = D, both lists -/
theorem setItem_all {prog : Program} {w : World} {A : Around} {E : Value → Shared → Prop} {s : Shared} {l sl D : Addr} {items ys : Array Value} {n : Nat} {Q : Unit → Shared → Prop} (hl : s.heap.get? l = some { cls := .type "list", data := .seq items n })
    (hs : s.heap.IsSliceOf sl .none .none .none) (hD : s.heap.IsList D ys) (hne : l ≠ D) (hsz : items.size + ys.size ≤ 1000000)
    (h : ∀ h' n', Heap.SameBut l s.heap h' → h'.get? l = some { cls := .type "list", data := .seq ys n' } → Q () { s with heap := h' }) : wpAny (model prog w) A (setItem (.ref l) (.ref sl) (.ref D)) Q E s := by
  have hL : s.heap.IsList l items := ⟨_, hl, rfl, n, rfl⟩
  have hs' := hs
  obtain ⟨os, hos, hcs, hds⟩ := id hs
  have hTs : s.TypeIs (.ref sl) "slice" := ⟨os, hos, hcs⟩
  obtain ⟨oD, hoD, hcD, nD, hdD⟩ := id hD
  unfold setItem
  try with_reducible refine wpAny_holding ?_
  refine wpAny_bind (wpAny_sequenceKey hL.typeIs (by decide) ?_)
  refine wpAny_bind (wpAny_callSpecial?_slot (name := Str.ofString "__setitem__") hL.typeIs slot_list_setitem
    (wpAny_call_entry slot_list_setitem hL.typeIs entry_list_setitem ?_ (args_list_setitem _ _ _)))
  show wpAny _ _ (Builtin.List.listSubscript? (.ref sl) >>= _) _ _ s
  refine wpAny_bind ?_
  unfold Builtin.List.listSubscript?
  refine wpAny_bind (wpAny_specialOf hTs slice_no_index ?_)
  simp only [Option.isNone_none, if_true]
  refine wpAny_pure ?_
  show wpAny _ _ (typeOf (.ref sl) >>= _) _ _ s
  refine wpAny_bind (wpAny_typeOf hTs ?_)
  rw [if_neg (by decide)]
  rw [listSliceParts_eq]
  refine wpAny_bind (wpAny_bind (wpAny_field hos hds (x := .none) rfl (wpAny_bind (wpAny_listPart .none ?_))))
  rw [if_neg (by exact Bool.false_ne_true)]
  refine wpAny_bind (wpAny_field hos hds (x := .none) rfl (wpAny_bind (wpAny_listPart .none ?_)))
  refine wpAny_bind (wpAny_field hos hds (x := .none) rfl (wpAny_bind (wpAny_listPart .none (wpAny_pure ?_))))
  have e1 : Builtin.List.listSameRef (.ref l) (.ref D) = false := by show (l == D) = false; exact beq_eq_false_iff_ne.mpr hne
  rw [e1]
  simp only [Bool.false_eq_true, if_false]
  refine wpAny_bind ?_
  unfold Builtin.List.listAllItems
  refine wpAny_bind (wpAny_typeOf hD.typeIs ?_)
  rw [if_pos (by decide)]
  unfold Builtin.List.listItems
  refine wpAny_bind (wpAny_seqItems hoD hdD (wpAny_pure ?_))
  refine wpAny_bind (wpAny_bind (wpAny_seqItems hl rfl (wpAny_pure ?_)))
  refine wpAny_bind (wpAny_of_eq (sliceIndices_raw none none none items.size (by simp)) ?_)
  have eb : sliceBounds none none none items.size = (0, (items.size : Int), 1) := by rfl
  rw [eb]
  dsimp only
  rw [if_pos (by rfl)]
  refine wpAny_bind (wpAny_rule ?_)
  have et : Builtin.List.listTooLong (items.size + ys.size) = false := by
    unfold Builtin.List.listTooLong; rw [sizeLine_eq]; exact decide_eq_false (by omega)
  rw [et]
  simp only [Bool.false_eq_true, if_false]
  have ex : ∀ xs : Array Value, xs = items → xs.extract 0 (Int.toNat 0) ++ ys ++ xs.extract (max (0 : Int) (items.size : Int)).toNat = ys := by
    rintro xs rfl
    have : (max (0 : Int) (xs.size : Int)).toNat = xs.size := by omega
    rw [this]
    simp
  refine wpAny_bind ?_
  unfold Builtin.List.listUpdate
  refine wpAny_updateSeq hl rfl ?_ (by rw [sizeLine_eq]; omega) (by rw [sizeLine_eq, ex items rfl]; omega)
  refine wpAny_bind (wpAny_letGo ?_)
  have em : ∀ f : Array Value → Array Value, ∃ n', Obj.mapSeq f { cls := .type "list", data := .seq items n } = { cls := .type "list", data := .seq (f items) n' } := fun f => ⟨_, rfl⟩
  obtain ⟨n', em⟩ := em (fun xs => xs.extract 0 (Int.toNat 0) ++ ys ++ xs.extract (max (0 : Int) (items.size : Int)).toNat)
  refine wpAny_pure ⟨.none, rfl, wpAny_pure (h _ n' (Heap.SameBut.update ..) ?_)⟩
  rw [Heap.get?_update_self _ hl (by rw [em]; rfl), em, ex items rfl]
end Mine

/-! Filter -/
namespace Mine
open PySem PySem.W PySem.Calls PyProof.Rows

def keepV (H : PH) (low : Str) (v : Value) : Bool := match v with
  | .ref a => match H a with
    | some o => match o.data with
      | .seq xs _ => match (xs[0]? : Option Value) with
        | some (Value.str k _) => Txt.lower k != low
        | _ => false
      | _ => false
    | none => false
  | _ => false
theorem keepV_pair {H : PH} {low : Str} {a : Addr} {o : Obj} {n : Nat} {k v : Str} {t u : PySem.Tok} (h : H a = some o) (hd : o.data = .seq #[.str k t, .str v u] n) : keepV H low (.ref a) = (Txt.lower k != low) := by
  unfold keepV
  simp only [h, hd]
  rfl
theorem Pairs.filter {H : PH} {low : Str} {vs : List Value} {kvs : List (Str × Str)} (p : Pairs H vs kvs) : Pairs H (vs.filter (keepV H low)) (kvs.filter fun kv => Txt.lower kv.1 != low) := by
  induction p with
  | nil => exact .nil
  | @cons a o n k v t u vs kvs e1 e2 e3 p ih =>
    rw [List.filter_cons, List.filter_cons, keepV_pair e1 e3]
    dsimp only
    split
    · exact .cons e1 e2 e3 ih
    · exact ih
theorem Pairs.at' {H : PH} {vs : List Value} {kvs : List (Str × Str)} (p : Pairs H vs kvs) {i : Nat} {v : Value} (h : vs[i]? = some v) :
    ∃ a o n k x t u, v = .ref a ∧ H a = some o ∧ o.cls = .type "tuple" ∧ o.data = .seq #[.str k t, .str x u] n ∧ (k, x) ∈ kvs := by
  induction p generalizing i with
  | nil => simp at h
  | @cons a o n k x t u vs kvs e1 e2 e3 p ih =>
    cases i with
    | zero =>
      simp only [List.getElem?_cons_zero, Option.some.injEq] at h
      exact ⟨a, o, n, k, x, t, u, h.symm, e1, e2, e3, .head _⟩
    | succ i =>
      obtain ⟨a, o, n, k, x, t, u, h1, h2, h3, h4, h5⟩ := ih (by simpa using h)
      exact ⟨a, o, n, k, x, t, u, h1, h2, h3, h4, .tail _ h5⟩
theorem paired_eq {l₁ l₂ : List Value} (h : Paired (fun v y => y = v) l₁ l₂) : l₂ = l₁ := by
  induction h with
  | nil => rfl
  | cons a _ ih => rw [a, ih]

theorem filterH {prog : Program} {w : World} {A : Around} {E : Value → Shared → Prop} {s : Shared} {env : Env} {l ca : Addr} {vs : List Value} {n k0 : Nat} {low : Str} {tk₀ : PySem.Tok} {kvs : List (Str × Str)} {H : PH} {iter : Expr} {kv nm : Str} {px kp ip zp sp ap cp np tp pos : Pos} {scope : Scope} {Q : Value → Shared → Prop}
    (hh : A.handled = none)
    (hit : wpAny (model prog w) A (eval iter env) (fun v s' => v = .ref l ∧ ∃ tk, s' = { s with toks := tk }) E s)
    (hl : s.heap.get? l = some { cls := .type "list", data := .seq vs.toArray n }) (hp : Pairs H vs kvs) (hH : ∀ a o, H a = some o → s.heap.get? a = some o) (hc : s.heap.IsCell ca (some (.str low tk₀)))
    (hlen : kvs.length ≤ 1000000) (hlow : ∀ p ∈ kvs, p.1.length ≤ 5592405)
    (hclos : closureFor scope env = pure [(nm, ca)]) (hcell : ∀ y ∈ scope.names, y.2 ≠ .cell) (hkind : scope.kind = .function)
    (hnames : ∀ y ∈ scope.names, y.2 = .local → scope.names.lookup y.1 = some .local) (hx : scope.names.lookup kv = some .local)
    (hkv : ∀ C, (compEnvC scope [(nm, ca)] C env).kindOf kv = some .local) (hnm : ∀ C, (compEnvC scope [(nm, ca)] C env).kindOf nm = some .cell)
    (hd1 : (kv == ("__debug__" : Str)) = false) (hd2 : (nm == ("__debug__" : Str)) = false)
    (hcf : ∀ C, CallForm (.Subscript (.Name kv ip) (.Constant (.int 0) k0 zp) sp) "lower" ap cp [] (compEnvC scope [(nm, ca)] C env))
    (hm : behindInMarks .NotEq (.Name nm np) = false) (hs : ∀ x, foldedSetIterable iter env x = pure x)
    (h : ∀ D h' tk (ys : Array Value), s.heap.get? D = none → h'.IsList D ys → Pairs H ys.toList (kvs.filter fun kv => Txt.lower kv.1 != low) → (∀ b o, s.heap.get? b = some o → h'.get? b = some o) → Q (.ref D) { s with heap := h', toks := tk }) :
    wpAny (model prog w) A (eval (.ListComp (.Name kv kp) [⟨.Name kv px, iter, [.Compare (.Call (.Attribute (.Subscript (.Name kv ip) (.Constant (.int 0) k0 zp) sp) "lower" ap) [] [] cp) [.NotEq] [.Name nm np] tp], 0⟩] scope pos) env) Q E s := by
  refine wpAny_ListComp_free (keepV H low) (fun v y => y = v) hclos hcell hkind hnames hx (wpAny_mono hit (fun xv s₁ ⟨e, tk₁, es⟩ => ?_) fun _ _ x => x) hs
  subst e; subst es
  have hL : s.heap.IsList l vs.toArray := ⟨_, hl, rfl, n, rfl⟩
  refine wpAny_pyIter_list (s := { s with toks := tk₁ }) hL ?_
  have hne : l ≠ s.heap.objs.size := Nat.ne_of_lt (Heap.lt_size hl)
  refine ⟨s.heap.objs.size, [s.heap.objs.size, l], [s.heap.objs.size], vs.toArray.size, fun i v => vs.toArray[i]? = some v, fun i h => h.IsListIter s.heap.objs.size l i ∧ h.IsList l vs.toArray, rfl, Walks.list hh _ l hne vs.toArray, ?_, ⟨⟨_, Heap.get?_push_size _ rfl, rfl, rfl⟩, hL.push _⟩, ?_, ⟨?_, ?_⟩, ?_⟩
  · rw [sizeLine_eq, List.size_toArray, hp.length]; omega
  · intro b hb
    rw [Heap.size_push]
    rcases List.mem_cons.mp hb with rfl | hb
    · exact Nat.lt_succ_self _
    · rw [List.mem_singleton.mp hb]; exact Nat.lt_succ_of_lt (Heap.lt_size hl)
  · intro C i v s₃ m₃ E' hC hv hns hmv hk htk
    have hv' : vs[i]? = some v := by simpa using hv
    obtain ⟨a, o, n', k, x, t, u, rfl, e1, e2, e3, hin⟩ := hp.at' hv'
    have kk : ∀ b o, s.heap.get? b = some o → s₃.heap.get? b = some o := fun b o e => hk b o (by simp; exact Nat.ne_of_lt (Heap.lt_size e)) (Heap.get?_push_of_some _ e)
    have hkf : (compEnvC scope [(nm, ca)] C env).scope.kind = .function := hkind
    refine wpAny_tests_one (wpAny_isTrue_Compare1 ?_ hm)
    obtain ⟨pl, hf⟩ := hcf C
    refine MethodCall_ (pl := pl) ?_ hf
    refine Subscript_ (wpAny_Name (wpAny_loadName_local hkf (hkv C) hns hmv ?_) hd1)
    refine wpAny_Constant_int ?_
    have ht : IsTup s₃.heap a ([.str k t, .str x u] : List Value).toArray := ⟨o, kk _ _ (hH _ _ e1), e2, n', e3⟩
    refine item_tupleT (j := 0) ht (by decide) (by decide) (by rfl) (by rfl) ?_ (by with_unfolding_all rfl)
    with_reducible refine GM.lower ?_
    dsimp only
    with_reducible refine callWith_method0 ?_
    refine SCL.lower (hlow _ hin) fun _ => ?_
    refine wpAny_Name (wpAny_loadName_cell hkf (hnm C) (by simp [compEnvC]) (hc.keeps kk) ?_) hd2
    refine PyProof.Rows.ne_str ?_
    refine wpAny_truthy_bool ⟨?_, ?_⟩
    · rw [keepV_pair e1 e3]
    · exact ⟨_, _, rfl, fun b o e => e⟩
  · intro C i v s₃ m₃ E' hC hv hpv hns hmv hk htk
    exact wpAny_Name (wpAny_loadName_local (show (compEnvC scope [(nm, ca)] C env).scope.kind = .function from hkind) (hkv C) hns hmv ⟨rfl, ⟨_, _, rfl, fun b o e => e⟩⟩) hd1
  · intro D h' tk ys us hD hlD _ hlen' hP hF hk
    have e : us = vs := by
      apply List.ext_getElem?
      intro i
      by_cases hi : i < us.length
      · have := hP i us[i] (List.getElem?_eq_getElem hi)
        rw [List.getElem?_eq_getElem hi]
        simpa using this.symm
      · rw [List.getElem?_eq_none (by omega), List.getElem?_eq_none (by rw [List.size_toArray] at hlen'; omega)]
    subst e
    refine h D h' tk ys ?_ hlD (by rw [paired_eq hF]; exact hp.filter) (fun b o e => hk b o (by simp; exact Nat.ne_of_lt (Heap.lt_size e)) (Heap.get?_push_of_some _ e))
    cases z : s.heap.get? D with
    | none => rfl
    | some o =>
      have : (s.heap.push { cls := .type "list_iterator", data := .fields #[.ref l, .int 0 0] }).get? D = none := hD
      rw [Heap.get?_push_of_some _ z] at this; cases this
end Mine

/-! CellFr -/
namespace Mine
open PySem PySem.W PySem.Calls PyProof.Rows

/-! ## a method whose second name lies in a cell -/
open Classical in
theorem OwnCall.enterC {prog : Program} {w : World} {K : Frag} {n : Nat} {f : Addr} {u : Str} {kvs kvs' : List (Str × Str)} {name qual : Str} {params : Arguments} {body : List Stmt} {scope : Scope} {dV kV doc pm cdv ct oc : Value} {an od : Option Addr} {osl : Array (Option Value)}
    (self nm : Str) (hK : K.lookup f = some ⟨oc, od, .func (fnX name qual params body scope [] dV kV doc pm an cdv ct), osl⟩) (hcd : codeIn K cdv qual = true)
    (hbind : ∀ s v u, BindsTo s (fnX name qual params body scope [] dV kV doc pm an cdv ct) ⟨[v, u], []⟩ [(self, v), (nm, u)])
    (hl1 : scope.names.lookup self = some .local) (hl2 : scope.names.lookup nm = some .cell) (hcf : ∀ k, cellsFrom k scope.names [] = [(nm, k)])
    (hk1 : ∀ L, (envX qual scope L f cdv [(nm, L + 1)]).kindOf self = some .local) (hk2 : ∀ L, (envX qual scope L f cdv [(nm, L + 1)]).kindOf nm = some .cell) (hne : self ≠ nm)
    (h : ∀ (s₀ : Shared) (H₀ : PH) (L : Addr) (A : Around) (a : Addr), (Cx.mk prog w K s₀ H₀ L A n).Ok → ∀ (X H : PH) (s : Shared) (o : Obj) (t : PySem.Tok), Inv ⟨prog, w, K, s₀, H₀, L, A, n⟩ (X.set (L + 1) o) H [(self, .own a (.hdr kvs))] s → o.data = .cell (some (.str u t)) → X (L + 1) = none → s₀.heap.get? (L + 1) = none →
      wpAny (model prog w) A (execs body (envX qual scope L f cdv [(nm, L + 1)])) (fun fl s' => (fl = .next ∨ fl = .ret .none) ∧ ∃ H' o', Le H H' ∧ Inv ⟨prog, w, K, s₀, H₀, L, A, n⟩ (X.set (L + 1) o') H' [(self, .own a (.hdr kvs'))] s') nope s)
    (hco : scope.isCoroutine = false := by kernel_rfl!) (hgen : scope.isGenerator = false := by kernel_rfl!) (hk : scope.kind = .function := by kernel_rfl!) : OwnCall prog w K (n + 1) f kvs [.str u] kvs' := by
  intro s₀ H₀ L A lev ok hlev X H N s a vs B hd hvs
  cases hvs with
  | @cons v vs _ _ hr hvs =>
  cases hvs
  cases hr with
  | str _ t =>
  have kin : K.In s.heap := Frag.In.keeps (show K.In s₀.heap from ok.kIn) B.keep
  have hlim : s.heap.NoLimit := let ⟨_, _, _, _, T⟩ := ok.top; (TopRead.keeps T B.keep).nolimit
  have amb : Amb lev A := ok.amb
  refine wpAny_call (codeAny_call_function (by have := amb.depth; omega) (kin _ _ hK) rfl hco hgen rfl (codeRec_of kin hcd) (hbind s _ _ _ _ _ _ ?_))
  refine wpAny_newFunctionEnv_cells hk (fun x hx => ?_) fun env' he s' x => ?_
  · rcases List.mem_cons.mp hx with rfl | hx
    · exact .inl hl1
    · rw [List.mem_singleton.mp hx]; exact .inr ⟨hl2, by dsimp only; rw [hcf]; simp⟩
  have he' : env' = envX qual scope s.heap.objs.size f cdv [(nm, s.heap.objs.size + 1)] := by
    rw [he]; dsimp only; rw [hcf]; rfl
  clear he
  subst he'
  refine ⟨hlim.keeps x.toInCall.keep, codeAny_func ?_⟩
  have hcell := x.cell nm (s.heap.objs.size + 1) (by simp)
  have hns := x.toInCall.ns
  have hk₁ := x.toInCall.keep
  have em : bindL (envX qual scope s.heap.objs.size f cdv [(nm, s.heap.objs.size + 1)]).kindOf [(self, .ref a), (nm, .str u t)] (fun _ => none) self = some (.ref a) := by
    simp only [bindL, hk1, hk2]
    simp
  have ec : bindC (envX qual scope s.heap.objs.size f cdv [(nm, s.heap.objs.size + 1)]).kindOf [(self, .ref a), (nm, .str u t)] (fun _ => none) nm = some (.str u t) := by
    simp only [bindC, hk1, hk2]
    simp
  rw [ec] at hcell
  obtain ⟨o, ho, hod⟩ := hcell
  obtain ⟨h₁, tk, rfl, _⟩ := x.done
  let c' : Cx := ⟨prog, w, K, s₀, H₀, s.heap.objs.size, A.deeper (envX qual scope s.heap.objs.size f cdv [(nm, s.heap.objs.size + 1)]), n⟩
  have ok' : c'.Ok := ⟨ok.kIn, ok.top, ⟨amb.hh, by show A.depth + 1 + n < recursionLimit; have := amb.depth; omega, by show A.units + 3 + 8 * n + 80 < cLine; have := amb.units; omega⟩, ok.base⟩
  have lt : ∀ {b o}, s.heap.get? b = some o → b ≠ s.heap.objs.size := fun e z => by have := Heap.lt_size e; rw [z] at this; exact absurd this (Nat.lt_irrefl _)
  have lt1 : ∀ {b o}, s.heap.get? b = some o → b ≠ s.heap.objs.size + 1 := fun {b o} e z => by have h1 := Heap.lt_size e; rw [z] at h1; exact absurd (Nat.lt_of_succ_lt h1) (Nat.lt_irrefl _)
  have noc : s.heap.get? (s.heap.objs.size + 1) = none := Heap.get?_none_of_le (Nat.le_succ _)
  have Xc : X (s.heap.objs.size + 1) = none := by
    cases z : X (s.heap.objs.size + 1) with
    | none => rfl
    | some o => have := (B.hX _ o z).1; rw [noc] at this; cases this
  have Hc : H (s.heap.objs.size + 1) = none := by
    cases z : H (s.heap.objs.size + 1) with
    | none => rfl
    | some o => have := (B.hH _ o z).1; rw [noc] at this; cases this
  have Nc : ¬ N (s.heap.objs.size + 1) := fun z => by
    obtain ⟨⟨o, e⟩, _⟩ := B.hN _ z; rw [noc] at e; cases e
  have sc : s₀.heap.get? (s.heap.objs.size + 1) = none := by
    cases z : s₀.heap.get? (s.heap.objs.size + 1) with
    | none => rfl
    | some o => have := B.keep _ o z; rw [noc] at this; cases this
  obtain ⟨na, dx, l, ⟨th, us, k, q1, q2, q3, q4⟩, n1, n2, r⟩ := hd
  have I₀ : Inv c' (X.set (s.heap.objs.size + 1) o) H [(self, .own a (.hdr kvs))] { s with heap := h₁, toks := tk } := by
    refine ⟨_, fun b => if N b then some self else none, ⟨hns, fun b o e => hk₁ _ _ (B.keep b o e), B.above⟩, fun b o e => ?_, fun b o' e => ?_, fun b y e => ?_, B.new, by simp, fun p hp => ?_, B.os, B.gens⟩
    · obtain ⟨e1, e2⟩ := B.hH b o e; exact ⟨hk₁ _ _ e1, lt e1, if_neg e2⟩
    · unfold PH.set at e
      split at e
      · rename_i z; cases e; subst z
        exact ⟨ho, (by show s.heap.objs.size + 1 ≠ s.heap.objs.size; omega), if_neg Nc, Hc⟩
      · obtain ⟨e1, e2, e3⟩ := B.hX b o' e; exact ⟨hk₁ _ _ e1, lt e1, if_neg e2, e3⟩
    · have e' : (if N b then some self else none) = some y := e
      split at e'
      · rename_i hb
        obtain ⟨⟨o, e1⟩, e2⟩ := B.hN b hb
        exact ⟨lt e1, ⟨o, hk₁ _ _ e1⟩, e2⟩
      · cases e'
    · rw [List.mem_singleton.mp hp]
      exact ⟨em, if_pos na, dx, l, ⟨th, us, k, hk₁ _ _ q1, hk₁ _ _ q2, hk₁ _ _ q3, q4⟩, if_pos n1, if_pos n2, r⟩
  refine wpAny_nope (wpAny_mono (h s₀ H₀ s.heap.objs.size _ a ok' X H _ o t I₀ hod Xc sc) (fun fl s' ⟨hfl, H', o', l', m, O, I'⟩ => ?_) fun _ _ x => x)
  have fin : BackO ⟨prog, w, K, s₀, H₀, L, A, lev⟩ X H a kvs' .none s' := by
    refine ⟨rfl, H', fun b => O b = some self, l', ⟨I'.fr.keep, Nat.le_of_lt (Nat.lt_of_le_of_lt I'.fr.above I'.fr.ns.lt), fun b o e => ⟨(I'.hH b o e).1, by rw [(I'.hH b o e).2.2]; nofun⟩, fun b o e => ?_, fun b e => ?_, I'.new, I'.os, I'.gens⟩, (I'.hdrO .here).2⟩
    · have hb : b ≠ s.heap.objs.size + 1 := fun z => by rw [z, Xc] at e; cases e
      obtain ⟨e1, e2, e3, e4⟩ := I'.hX b o (by unfold PH.set; rw [if_neg hb]; exact e); exact ⟨e1, by rw [e3]; nofun, e4⟩
    · obtain ⟨_, e1, e2⟩ := I'.hO b self e; exact ⟨e1, e2⟩
  rcases hfl with rfl | rfl <;> exact fin
theorem lower_cell {prog : Program} {w : World} {A : Around} {E : Value → Shared → Prop} {s : Shared} {env : Env} {x : Str} {px ap cp : Pos} {ca : Addr} {u : Str} {t : PySem.Tok} {Q : Value → Shared → Prop} (hcell : s.heap.IsCell ca (some (.str u t))) (hl : u.length ≤ 5592405)
    (q : Q (.str (Txt.lower u) s.toks) { s with toks := s.toks + 1 }) (hf : CallForm (.Name x px) "lower" ap cp [] env) (hk : env.scope.kind = .function) (hx : env.kindOf x = some .cell) (hc : env.cells.lookup x = some ca) (hd : (x == ("__debug__" : Str)) = false) :
    wpAny (model prog w) A (eval (.Call (.Attribute (.Name x px) "lower" ap) [] [] cp) env) Q E s := by
  obtain ⟨pl, hf⟩ := hf
  refine MethodCall_ (pl := pl) (wpAny_Name (wpAny_loadName_cell hk hx hc hcell ?_) hd) hf
  with_reducible refine GM.lower ?_
  dsimp only
  with_reducible refine callWith_method0 ?_
  exact SCL.lower hl fun _ => q
end Mine

/-! Hget -/
namespace Mine
open PySem PySem.W PySem.Calls PyProof.Rows
def hget (kvs : List (Str × Str)) (low : Str) : D := match kvs.find? (fun kv => Txt.lower kv.1 == low) with
  | some kv => .str kv.2
  | none => .none
theorem pairs_get {kvs : List (Str × Str)} {i : Nat} {d : D} (h : (kvs.map pairD)[i]? = some d) : ∃ kv, kvs[i]? = some kv ∧ d = pairD kv := by
  simp only [List.getElem?_map, Option.map_eq_some_iff] at h
  obtain ⟨kv, h1, rfl⟩ := h
  exact ⟨kv, h1, rfl⟩
theorem find_at {kvs : List (Str × Str)} {low : Str} {i : Nat} {kv : Str × Str} (h : kvs[i]? = some kv) (hb : ∀ j kv', j < i → kvs[j]? = some kv' → (Txt.lower kv'.1 == low) = false) (hk : (Txt.lower kv.1 == low) = true) : hget kvs low = .str kv.2 := by
  have : kvs.find? (fun kv => Txt.lower kv.1 == low) = some kv := by
    induction kvs generalizing i with
    | nil => simp at h
    | cons p l ih =>
      cases i with
      | zero => simp only [List.getElem?_cons_zero, Option.some.injEq] at h; subst h; rw [List.find?_cons, hk]
      | succ i =>
        have h0 := hb 0 p (Nat.succ_pos _) rfl
        rw [List.find?_cons, h0]
        exact ih (by simpa using h) (fun j kv' hj e => hb (j + 1) kv' (Nat.succ_lt_succ hj) (by simpa using e))
  unfold hget; rw [this]
theorem find_no {kvs : List (Str × Str)} {low : Str} (hb : ∀ j kv', j < kvs.length → kvs[j]? = some kv' → (Txt.lower kv'.1 == low) = false) : hget kvs low = .none := by
  have : kvs.find? (fun kv => Txt.lower kv.1 == low) = none := by
    rw [List.find?_eq_none]
    intro kv hkv
    obtain ⟨j, hj, rfl⟩ := List.mem_iff_getElem.mp hkv
    rw [hb j _ hj (List.getElem?_eq_getElem hj)]; exact Bool.false_ne_true
  unfold hget; rw [this]
end Mine

/-! MkHdr -/
namespace Mine
open PySem PySem.W PySem.Calls PyProof.Rows
theorem enterDef {prog : Program} {w : World} {A : Around} {K : Frag} {f : Addr} {s : Shared} {args : Args} {binds : List (Str × Value)} {R : Result → Shared → Prop} {name qual : Str} {params : Arguments} {body : List Stmt} {scope : Scope} {dV kV doc pm cdv ct oc : Value} {an od : Option Addr} {osl : Array (Option Value)}
    (hK : K.lookup f = some ⟨oc, od, .func (fnX name qual params body scope [] dV kV doc pm an cdv ct), osl⟩) (hcd : codeIn K cdv qual = true) (kin : K.In s.heap) (hlim : s.heap.NoLimit) (hroom : A.depth < recursionLimit)
    (hbind : BindsTo s (fnX name qual params body scope [] dV kV doc pm an cdv ct) args binds) (hcell : ∀ x ∈ scope.names, x.2 ≠ .cell) (hloc : ∀ x ∈ binds, scope.names.lookup x.1 = some .local)
    (h : ∀ h₁, h₁.Ns s.heap.objs.size (fun x => binds.reverse.lookup x) → h₁.objs.size = s.heap.objs.size + 1 → (∀ b o, s.heap.get? b = some o → h₁.get? b = some o) →
      wpAny (model prog w) (A.deeper (envX qual scope s.heap.objs.size f cdv [])) (execs body (envX qual scope s.heap.objs.size f cdv [])) (fun f s' => R (.ok (.ret (match f with | .ret v => v | _ => .none))) s') nope { s with heap := h₁, toks := s.toks + binds.length })
    (hco : scope.isCoroutine = false := by kernel_rfl!) (hgen : scope.isGenerator = false := by kernel_rfl!) (hk : scope.kind = .function := by kernel_rfl!) : codeAny (model prog w) A (.call (.ref f) args) R s := by
  refine codeAny_call_function (fd := fnX name qual params body scope [] dV kV doc pm an cdv ct) hroom (kin _ _ hK) rfl hco hgen rfl (codeRec_of kin hcd) (hbind _ _ _ _ ?_)
  refine wpAny_newFunctionEnv hcell hloc (fun h₀ hns₀ hsb₀ => ⟨hlim.fresh _ hsb₀, codeAny_func ?_⟩) hk
  refine wpAny_nope (h h₀ hns₀ ?_ fun b o e => hsb₀.extBut b o (Nat.ne_of_lt (Heap.lt_size e)) (Heap.get?_push_of_some _ e))
  rw [hsb₀.1, Heap.size_push]
theorem loop_none {prog : Program} {w : World} {A : Around} {target : Expr} {body : List Stmt} {env : Env} {I l : Addr} {s : Shared} {R : Result → Shared → Prop} (hh : A.handled = none) (hit : s.heap.IsListIter I l 0) (hl : s.heap.IsList l #[]) (hne : l ≠ I)
    (h : ∀ h' tk, (∀ b o, b ≠ I → s.heap.get? b = some o → h'.get? b = some o) → R (.ok .next) { s with heap := h', toks := tk }) : codeAny (model prog w) A (.forLoop target (.ref I) body [] env) R s := by
  refine codeAny_forLoop_any (fun n s' => s' = s) ?_ 0 rfl
  rintro n s' rfl
  exact (Walks.list hh I l hne #[]).done s' _ _ ⟨hit, hl⟩ fun h' tk hk => wpAny_execs_nil (h h' tk (fun b o e => hk b o (by simpa using e)))
end Mine

/-! NewHdr -/
namespace Mine
open PySem PySem.W PySem.Calls PyProof.Rows
variable {c : Cx} {env : Env} {σ : Sg}
def InitPost (P : Params) (s : Shared) (r : Result) (s' : Shared) : Prop := r = .ok (.ret .none) ∧ ∃ h' tk t n, s' = { s with heap := h', toks := tk } ∧ (∀ b o, s.heap.get? b = some o → h'.get? b = some o) ∧
      h'.get? (s.heap.objs.size + 1) = some (instObj hdrC s.heap.objs.size) ∧ h'.get? s.heap.objs.size = some (dictOf [hdrEntry P (.ref (s.heap.objs.size + 3)) t] 1) ∧ h'.get? (s.heap.objs.size + 3) = some { cls := .type "list", data := .seq #[] n }
def InitOk (prog : Program) (w : World) (K : Frag) : Prop := ∀ (A : Around) (s : Shared), A.handled = none → A.depth + 3 < recursionLimit → K.In s.heap → (∃ p loose mg mb, TopRead p loose mg mb s.heap) →
    codeAny (model prog w) A (.call (.ref 112) ⟨[.ref (s.heap.objs.size + 1)], []⟩) (InitPost w.params s) { s with heap := (s.heap.push emptyDict).push (instObj hdrC s.heap.objs.size) }
structure HMk (K : Frag) : Prop where
  makes : makesIn K hdrC = true
  init : findIn K (.ref hdrC) "__init__" = some (some (.ref 112))
  initF : typeIn K (.ref 112) = some (.type "function")
  setA : findIn K (.ref hdrC) "__setattr__" = some (some (.builtin "object.__setattr__"))
  over : plainOver K hdrC = true
  taker : takerIn K hdrC "_headers" = some none
  dict : hasDictIn K hdrC = true

/-- x = Headers() -/
theorem St.newHdr {x y : Str} {px np cp pos : Pos} {Q : FD → Sg → Prop} (ok : c.Ok) (hI : InitOk c.prog c.w c.K) (hm : HMk c.K) (hn : nsIn c.K mainGlobals y = some (some (.ref hdrC))) (hkeep : keepIn c.K (.ref hdrC) = true) (hlev : 5 ≤ c.lev)
    (h : ∀ a, ∃ σ₂, Upd σ x (.own a (.hdr [])) σ₂ ∧ Q .next σ₂)
    (hs : swapsWith (.Call (.Name y np) [] [] cp) (some (.Name x px)) pos.line env = pure false := by kernel_rfl!) (hL : env.locals = c.L := by kernel_rfl!) (hk : env.scope.kind = .function := by kernel_rfl!) (hx : env.kindOf x = some .local := by kernel_rfl!)
    (hy : env.kindOf y = some .globalImplicit := by kernel_rfl!) (hg : env.globals = mainGlobals := by kernel_rfl!) (hd : (y == ("__debug__" : Str)) = false := by decide) :
    St c (exec (.Assign [.Name x px] (.Call (.Name y np) [] [] cp) pos) env) σ Q := by
  intro X H s I
  refine wpAny_Assign_Name (Call_Name rfl (nameG ok I hn ?_ hk hy hg hd)) hs
  refine callWith_K0 (I.kIn ok) hkeep ?_
  obtain ⟨σ₂, hu, q⟩ := h (s.heap.objs.size + 1)
  have kin := I.kIn ok
  have top := I.top ok
  refine wpAny_call ?_
  have main : codeAny (model c.prog c.w) c.A (.call (.ref hdrC) ⟨[], []⟩) (fun r s' => r = .ok (.ret (.ref (s.heap.objs.size + 1))) ∧ ∃ h' tk t n, s' = { s with heap := h', toks := tk } ∧ (∀ b o, s.heap.get? b = some o → h'.get? b = some o) ∧
      h'.get? (s.heap.objs.size + 1) = some (instObj hdrC s.heap.objs.size) ∧ h'.get? s.heap.objs.size = some (dictOf [hdrEntry c.w.params (.ref (s.heap.objs.size + 3)) t] 1) ∧ h'.get? (s.heap.objs.size + 3) = some { cls := .type "list", data := .seq #[] n }) s := by
    have hi := hI (c.A.under (.builtin "type.__call__" ⟨[.ref hdrC], []⟩)) s ok.amb.hh (by rw [depth_under_make]; have := ok.amb.depth; omega) kin top
    obtain ⟨hh, g, d, t, os⟩ := s
    refine make_core (makes_of kin hm.makes) (looks_findIn kin hm.init) (fun self => bind_fn kin self hm.initF) (.inl rfl) (codeAny_mono hi fun r s' hr => ?_)
    obtain ⟨rfl, hr⟩ := hr
    exact ⟨rfl, rfl, hr⟩
  refine codeAny_mono main fun r s' hr => ?_
  obtain ⟨rfl, h', tk, t, n, rfl, hk', e1, e2, e3⟩ := hr
  obtain ⟨m, O, I⟩ := I
  have nox : ∀ k, s.heap.get? (s.heap.objs.size + k) = none := fun k => Heap.get?_none_of_le (Nat.le_add_right _ _)
  have Fk := I.keep (s' := { s with heap := h', toks := tk }) hk' rfl rfl
  refine wpAny_storeName_local hx (hL ▸ Fk.fr.ns) (fun h₂ hn₂ hs₂ => ?_) (by rw [hk]; rfl)
  have hNd : ∀ b, (b = s.heap.objs.size + 1 ∨ b = s.heap.objs.size ∨ b = s.heap.objs.size + 3) → s.heap.get? b = none ∧ s.heap.objs.size ≤ b := fun b hb => by
    rcases hb with rfl | rfl | rfl
    · exact ⟨nox 1, Nat.le_add_right _ _⟩
    · exact ⟨nox 0, Nat.le_refl _⟩
    · exact ⟨nox 3, Nat.le_add_right _ _⟩
  refine ⟨H, .next, σ₂, Le.refl _, I.storeOwn (s' := { s with heap := h', toks := tk }) (fun b => b = s.heap.objs.size + 1 ∨ b = s.heap.objs.size ∨ b = s.heap.objs.size + 3) hk' hNd
    (fun b hb => by rcases hb with rfl | rfl | rfl <;> exact ⟨_, by assumption⟩) hu ?_ (.inl rfl) (hL ▸ hn₂) (hL ▸ hs₂) rfl rfl, rfl, q⟩
  exact ⟨s.heap.objs.size, s.heap.objs.size + 3, ⟨t, [], n, e1, e2, e3, .nil⟩, if_pos (.inr (.inl rfl)), if_pos (.inr (.inr rfl)), (by show (s.heap.objs.size + 1 : Nat) ≠ s.heap.objs.size; omega), (by show (s.heap.objs.size + 1 : Nat) ≠ s.heap.objs.size + 3; omega), (by show (s.heap.objs.size : Nat) ≠ s.heap.objs.size + 3; omega), rfl⟩
end Mine

/-! ReadR -/
namespace Mine
open PySem PySem.W PySem.Calls PyProof.Rows
variable {c : Cx} {env : Env} {σ : Sg}

theorem InvAt.freezeH {X H : PH} {s : Shared} {m : Str → Option Value} {O : Addr → Option Str} {σ' : Sg} {x : Str} {a : Addr} {kvs : List (Str × Str)} (I : InvAt c X H σ s m O) (hl : Loc σ x (.own a (.hdr kvs))) (hu : Upd σ x (.d (.hdr kvs)) σ') :
    ∃ H', m x = some (.ref a) ∧ Le H H' ∧ R c.w.params H' (.ref a) (.hdr kvs) ∧ Inv c X H' σ' s := by
  obtain ⟨hm, ho, dx, l, ⟨t, vs, n, q1, q2, q3, q4⟩, o2, o3, a1, a2, a3, el⟩ := I.holds _ hl.mem
  have hOx : ∀ b, (b = a ∨ b = dx ∨ b = l) → O b = some x := fun b hb => by rcases hb with rfl | rfl | rfl <;> assumption
  have hHn : ∀ b, (b = a ∨ b = dx ∨ b = l) → H b = none := fun b hb => by
    cases z : H b with
    | none => rfl
    | some o => have := (I.hH _ _ z).2.2; rw [hOx b hb] at this; cases this
  let H' : PH := fun b => if b = a ∨ b = dx ∨ b = l then s.heap.get? b else H b
  have hle : Le H H' := fun b o e => by
    show (if b = a ∨ b = dx ∨ b = l then s.heap.get? b else H b) = some o
    rw [if_neg (fun z => by rw [hHn b z] at e; cases e)]; exact e
  have hR : R c.w.params H' (.ref a) (.hdr kvs) := by
    refine .hdr (a := a) (dx := dx) (l := l) ⟨t, vs, n, ?_, ?_, ?_, q4.mono hle⟩
    · exact (if_pos (.inl rfl)).trans q1
    · exact (if_pos (.inr (.inl rfl))).trans q2
    · exact (if_pos (.inr (.inr rfl))).trans q3
  refine ⟨H', hm, hle, hR, m, fun b => if b = a ∨ b = dx ∨ b = l then none else O b, ?_⟩
  refine ⟨I.fr, fun b o e => ?_, fun b o e => ?_, fun b y e => ?_, fun b o e => ?_, hu.keys ▸ I.nodup, fun p hp => ?_, I.os, I.gens⟩
  · have e' : (if b = a ∨ b = dx ∨ b = l then s.heap.get? b else H b) = some o := e
    split at e'
    · rename_i z; exact ⟨e', (I.hO _ _ (hOx b z)).1, if_pos z⟩
    · rename_i z; exact ⟨(I.hH _ _ e').1, (I.hH _ _ e').2.1, by show (if b = a ∨ b = dx ∨ b = l then none else O b) = none; rw [if_neg z]; exact (I.hH _ _ e').2.2⟩
  · obtain ⟨p1, p2, p3, p4⟩ := I.hX b o e
    have hne : ¬ (b = a ∨ b = dx ∨ b = l) := fun z => by rw [hOx b z] at p3; cases p3
    exact ⟨p1, p2, (if_neg hne).trans p3, (if_neg hne).trans p4⟩
  · have e' : (if b = a ∨ b = dx ∨ b = l then none else O b) = some y := e
    split at e'
    · cases e'
    · exact I.hO b y e'
  · have e' : (if b = a ∨ b = dx ∨ b = l then s.heap.get? b else H b) = some o := e
    split at e'
    · rename_i z; exact .inr (Heap.get?_none_of_le (I.hO _ _ (hOx b z)).2.2)
    · exact I.new _ _ e'
  · rcases hu.mem I.nodup p hp with rfl | ⟨hp, hne⟩
    · exact ⟨_, hm, hR⟩
    · have hq := (I.holds p hp).mono (fun _ _ e => e) hle
      obtain ⟨y, lv⟩ := p
      have key : ∀ b, O b = some y → (if b = a ∨ b = dx ∨ b = l then none else O b) = some y := fun b e => by
        rw [if_neg (fun z => by rw [hOx b z] at e; exact hne (Option.some.inj e).symm)]; exact e
      cases lv with
      | unb => trivial
      | d d => exact hq
      | own b d =>
        obtain ⟨e1, e2, q⟩ := hq
        refine ⟨e1, key b e2, ?_⟩
        cases d with
        | lst ds => exact q
        | hdr kvs => obtain ⟨dx, l, q1, q2, q3, q4⟩ := q; exact ⟨dx, l, q1, key _ q2, key _ q3, q4⟩
        | dct kvs => exact q
        | _ => exact q.elim
theorem Ev.nameOwnH {x : Str} {pos : Pos} {a : Addr} {kvs : List (Str × Str)} {σ' : Sg} {Q : D → Sg → Prop} (hl : Loc σ x (.own a (.hdr kvs))) (hu : Upd σ x (.d (.hdr kvs)) σ') (q : Q (.hdr kvs) σ')
    (hL : env.locals = c.L := by kernel_rfl!) (hk : env.scope.kind = .function := by kernel_rfl!) (hx : env.kindOf x = some .local := by kernel_rfl!) (hd : (x == ("__debug__" : Str)) = false := by decide) :
    Ev c (eval (.Name x pos) env) σ Q := by
  rintro X H s ⟨m, O, I⟩
  obtain ⟨H', hm, hle, hR, I'⟩ := I.freezeH hl hu
  exact wpAny_Name (wpAny_loadName_local hk hx (hL ▸ I.fr.ns) hm ⟨H', _, σ', hle, I', hR, q⟩) hd

/-! ## reading the numbers back -/
def allSg : List Nat := [111, 120, 34, 97, 98, 65, 66, 122]
theorem lit_all : Str.ofString "ox\"abABz" = T allSg := by decide +kernel
theorem allSg_get {n : Nat} (h : n < 8) : allSg[n]? = some (allSg.getD n 0) := by
  have e : allSg[n]? = some (allSg[n]'h) := List.getElem?_eq_getElem h
  rw [List.getD_eq_getElem?_getD, e]; rfl
def hset (kvs : List (Str × Str)) (k v : Str) : List (Str × Str) := (kvs.filter fun kv => Txt.lower kv.1 != Txt.lower k) ++ [(k, v)]
structure S3 where
  kvs : List (Str × Str)
  name : List Nat
  words : List Nat
def rstep (s : S3) (code : Int) : S3 :=
  if code ≥ 256 then ⟨s.kvs, s.name, s.words ++ [allSg.getD (code - 256).toNat 0]⟩
  else if code = 51 then ⟨s.kvs, s.words, []⟩
  else if code = 13 ∨ code = 0 then ⟨hset s.kvs (T s.name) (T s.words), s.name, []⟩
  else ⟨s.kvs, s.name, s.words ++ (if code = 33 then [60, 60] else [62, 62])⟩
structure StepOk (s : S3) (code : Int) : Prop where
  hi : code < 264
  words : s.words.length ≤ 50
  put : code = 13 ∨ code = 0 → Cl (Txt.lower (T s.name)) ∧ Cl (T s.name) ∧ Cl (T s.words) ∧ s.name.length ≤ 100 ∧ s.kvs.length ≤ 100 ∧ ∀ p ∈ s.kvs, p.1.length ≤ 100
inductive Run : S3 → List Int → S3 → Prop
  | nil (s : S3) : Run s [] s
  | cons {s : S3} {code : Int} {cs : List Int} {t : S3} (h : StepOk s code) (r : Run (rstep s code) cs t) : Run s (code :: cs) t
theorem Run.at' {s : S3} {cs : List Int} {t : S3} {i : Nat} {code : Int} (h : Run s (cs.drop i) t) (hc : cs[i]? = some code) : StepOk s code ∧ Run (rstep s code) (cs.drop (i + 1)) t := by
  obtain ⟨hi, rfl⟩ := List.getElem?_eq_some_iff.mp hc
  rw [List.drop_eq_getElem_cons hi] at h
  cases h with
  | cons a b => exact ⟨a, b⟩
end Mine

/-! Talk -/
namespace Mine
open PySem PySem.W PySem.Calls PyProof.Rows
variable {c : Cx} {env : Env} {σ : Sg}
theorem dbl_eq : ∀ l : List Nat, StrLaws.dbl 34 l = dbl l
  | [] => rfl
  | k :: r => by
    have e : dbl (k :: r) = (if k = 34 then [34, 34] else [k]) ++ dbl r := by simp [dbl]
    rw [e]
    show (if k = 34 then k :: k :: StrLaws.dbl 34 r else k :: StrLaws.dbl 34 r) = _
    rw [dbl_eq r]
    split
    · rename_i h; subst h; rfl
    · rfl
/-- "lit" + x.replace('"', '""') -/
theorem Ev.quoted {x : Str} {px ap cp bp p0 p1 p2 : Pos} {s0 y z : Str} {k0 k1 k2 : Nat} {pl l : List Nat} {Q : D → Sg → Prop} (hl : Loc σ x (.d (.str (T l)))) (h0 : s0 = T pl) (hy : y = T [34]) (hz : z = T [34, 34]) (hlen : l.length ≤ 1000) (hpl : pl.length ≤ 1000)
    (q : Q (.str (T (pl ++ dbl l))) σ)
    (hf : CallForm (.Name x px) "replace" ap cp [.Constant (.str y) k1 p1, .Constant (.str z) k2 p2] env)
    (hL : env.locals = c.L) (hk : env.scope.kind = .function) (hx : env.kindOf x = some .local) (hd : (x == ("__debug__" : Str)) = false)
    (he1 : starEach [.Constant (.str y) k1 p1, .Constant (.str z) k2 p2] env = (false, eval (.Constant (.str y) k1 p1) env) :: starEach [.Constant (.str z) k2 p2] env)
    (he2 : starEach [.Constant (.str z) k2 p2] env = (false, eval (.Constant (.str z) k2 p2) env) :: starEach [] env) :
    Ev c (eval (.BinOp (.Constant (.str s0) k0 p0) .Add (.Call (.Attribute (.Name x px) "replace" ap) [.Constant (.str y) k1 p1, .Constant (.str z) k2 p2] [] cp) bp) env) σ Q := by
  intro X H s I
  obtain ⟨pl', hf⟩ := hf
  subst h0; subst hy; subst hz
  refine wpAny_BinOp (wpAny_Constant_str ?_)
  have I' := I
  obtain ⟨m, O, I'⟩ := I'
  obtain ⟨v, hm, r⟩ := I'.holds _ hl.mem
  cases r with
  | str _ t =>
  refine MethodCall_ (pl := pl') (wpAny_Name (wpAny_loadName_local hk hx (hL ▸ I'.fr.ns) hm ?_) hd) hf
  with_reducible refine GM.replace ?_
  dsimp only
  have hp : (backTo cp (starEach [.Constant (.str (T [34, 34])) k2 p2] env)).any (·.1) = false := by rw [he2]; rfl
  refine callWith_method1 ?_ he1 hp
  refine wpAny_items_cons (wpAny_Constant_str (wpAny_items_cons (wpAny_Constant_str (wpAny_items_nil ?_)) he2)) he1
  have hll : (T l).length = l.length := T_length l
  have hb : (T l).length + ((T l).length + 1) * (T [34, 34]).length ≤ 16777216 := by
    rw [hll, show (T [34, 34]).length = 2 from rfl]; omega
  refine SC.replace (Nat.succ_ne_zero _) (Nat.succ_ne_zero _) (Nat.ne_of_lt (Nat.lt_succ_self _)) (by decide) hb fun t' k => ?_
  have er : Txt.replace (T l) (T [34]) (T [34, 34]) = T (dbl l) := by
    rw [replace_dbl (T l) (T [34]) (T [34, 34]) 34 rfl rfl]
    show (⟨(StrLaws.dbl 34 l).toArray⟩ : Str) = T (dbl l)
    rw [dbl_eq]; rfl
  rw [er]
  have hdl := dbl_len l
  exact OpI.sound (OpI.addT (a := pl) (b := dbl l) (by omega)) (I.toks k) (.str _ _) (.str _ _) q

/-! ## the talk in plain words -/
def low (c : Nat) : Nat := if 65 ≤ c ∧ c ≤ 90 then c + 32 else c
structure TC where
  left : List Nat
  st : Nat
  right : List Nat
def TC.D (C : TC) : D := .tup [.str (T [low C.st]), .int (worth C.left), .int (worth C.right.reverse)]
abbrev Look := Nat → Nat → Option (Nat × Bool × Nat)
def tnext (look : Look) (C : TC) : Option TC := match look (low C.st) (C.right.headD 111) with
  | none => none
  | some (c, true, z) => some ⟨C.left ++ [c], z, C.right.drop 1⟩
  | some (c, false, z) => some ⟨C.left.take (C.left.length - 1), z, (C.left.getLastD 111) :: c :: C.right.drop 1⟩
def ttold (look : Look) : Nat → TC → List TC
  | 0, _ => []
  | n + 1, C => C :: (match tnext look C with | none => [] | some C' => ttold look n C')
def ar (d : Bool) : Nat := if d then 62 else 60
def Stc (c : Nat) : Prop := c = 97 ∨ c = 98 ∨ c = 65 ∨ c = 122
structure TOk (kvs : List (Str × Str)) (look : Look) : Prop where
  len : kvs.length ≤ 100
  keys : ∀ p ∈ kvs, p.1.length ≤ 100
  get : ∀ st s, Stc st → Sgn s → hget kvs (T [low st, s]) = (match look (low st) s with | none => .none | some (c, d, z) => .str (T [c, ar d, ar d, z]))
  sgn : ∀ st s c d z, Stc st → Sgn s → look (low st) s = some (c, d, z) → Sgn c ∧ Stc z
theorem lower_key {st s : Nat} (h1 : Stc st) (h2 : Sgn s) : Txt.lower (T [st, s]) = T [low st, s] := by
  rcases h1 with rfl | rfl | rfl | rfl <;> rcases h2 with rfl | rfl | rfl <;> decide +kernel
theorem lower_st {st : Nat} (h1 : Stc st) : Txt.lower (T [st]) = T [low st] := by
  rcases h1 with rfl | rfl | rfl | rfl <;> decide +kernel
theorem cl_key {st s : Nat} (h1 : Stc st) (h2 : Sgn s) : Cl (T [low st, s]) := by
  rcases h1 with rfl | rfl | rfl | rfl <;> rcases h2 with rfl | rfl | rfl <;> exact ⟨by decide +kernel, by decide +kernel, by decide +kernel⟩
theorem Ev.revT {value : Expr} {st : Expr} {p pos : Pos} {Q : D → Sg → Prop}
    (h : Ev c (eval value env) σ fun o σ₁ => ∃ l, o = .str (T l) ∧ l.length ≤ 16777216 ∧ Ev c (eval st env) σ₁ fun d σ₂ => d = .int (-1) ∧ Q (.str (T l.reverse)) σ₂) :
    Ev c (eval (.Subscript value (.Slice none none (some st) p) pos) env) σ Q :=
  Ev.revS (h.mono fun d σ' ⟨l, e, hl, q⟩ => ⟨T l, e, by rw [T_length]; exact hl, q.mono fun d σ'' ⟨e', q'⟩ => ⟨e', by
    have : (⟨(T l).cps.reverse⟩ : Str) = T l.reverse := by simp [T]
    rw [this]; exact q'⟩⟩)
theorem Ev.keep1 {e : Expr} {d₀ : D} {Q : D → Sg → Prop} (h : Ev c (eval e env) σ fun d σ' => d = d₀ ∧ σ' = σ) (q : Q d₀ σ) : Ev c (eval e env) σ Q := h.mono fun d σ' ⟨e1, e2⟩ => by subst e1; subst e2; exact q
theorem sgn_head {l : List Nat} (h : ∀ c ∈ l, Sgn c) : Sgn (l.headD 111) := by
  cases l with
  | nil => exact .inl rfl
  | cons a l => exact h a (.head _)
theorem count_T (l : List Nat) : Txt.count (T l) (T [34]) = ((dbl l).length : Int) - (l.length : Int) := by
  show Txt.count (T l) ⟨#[34]⟩ = _
  rw [count_cnt]
  show PyProof.Rows.cnt 34 l = _
  induction l with
  | nil => rfl
  | cons k r ih =>
    have e : dbl (k :: r) = (if k = 34 then [34, 34] else [k]) ++ dbl r := by simp [dbl]
    rw [cnt_cons, ih, e, List.length_append, List.length_cons]
    split <;> simp only [List.length_cons, List.length_nil] <;> omega
theorem rep_drop (l r : List Nat) : (rep l r).drop (5 + (dbl l).length + 1) = r := by
  unfold rep
  rw [List.drop_append, List.drop_of_length_le (by simp only [List.length_append, List.length_cons, List.length_nil]; omega)]
  have : 5 + (dbl l).length + 1 - ([50, 53, 55, 32, 34] ++ dbl l).length = 1 := by simp only [List.length_append, List.length_cons, List.length_nil]; omega
  rw [this]; rfl
end Mine

/-! LComp -/
namespace Mine
open PySem PySem.W PySem.Calls PyProof.Rows
variable {c : Cx} {env : Env} {σ : Sg}

/-! ## join -/
theorem strs_of {P : Params} {H : PH} {vs : List Value} : ∀ {xs : List Str}, RAll P H vs (xs.map D.str) → ∃ l : List (Str × PySem.Tok), vs = strValues l ∧ l.map (·.1) = xs := by
  induction vs with
  | nil => intro xs h; cases xs with | nil => exact ⟨[], rfl, rfl⟩ | cons x xs => cases h
  | cons v vs ih =>
    intro xs h
    cases xs with
    | nil => cases h
    | cons x xs =>
      cases h with
      | cons r rr =>
        obtain ⟨l, e1, e2⟩ := ih rr
        cases r with
        | str _ t => exact ⟨(x, t) :: l, by rw [e1]; rfl, by simp [e2]⟩
theorem joinOk_of {sep : Str} {xs : List Str} (h1 : sep.length ≤ 16) (h : (xs.map (·.length)).sum + xs.length * 16 ≤ 100000) : Builtin.Str.tooLong (xs.toArray.foldl (· + ·.length + sep.length) 0) = false := by
  have key : ∀ (l : List Str) (k : Nat), l.foldl (· + ·.length + sep.length) k ≤ k + (l.map (·.length)).sum + l.length * 16 := by
    intro l
    induction l with
    | nil => intro k; simp
    | cons x l ih =>
      intro k
      have := ih (k + x.length + sep.length)
      simp only [List.foldl_cons, List.map_cons, List.sum_cons, List.length_cons]
      omega
  have := key xs 0
  unfold Builtin.Str.tooLong
  rw [sizeLine_eq, List.foldl_toArray]
  exact decide_eq_false (by omega)
/-- sep.join(e): e a tuple or a list of texts -/
theorem Ev.join {o e : Expr} {apos pos : Pos} {Q : D → Sg → Prop}
    (h : Ev c (eval o env) σ fun d σ₁ => ∃ x, d = .str x ∧ x.length ≤ 16 ∧ Ev c (eval e env) σ₁ fun d' σ₂ => ∃ xs : List Str, (d' = .tup (xs.map D.str) ∨ d' = .lst (xs.map D.str)) ∧ (xs.map (·.length)).sum + xs.length * 16 ≤ 100000 ∧ Q (.str (Txt.join x xs)) σ₂)
    (hf : CallForm o "join" apos pos [e] env := by with_unfolding_all exact ⟨_, rfl⟩) (he : starEach [e] env = (false, eval e env) :: starEach [] env := by kernel_rfl!) : Ev c (eval (.Call (.Attribute o "join" apos) [e] [] pos) env) σ Q := by
  intro X H s I
  obtain ⟨pl, hf⟩ := hf
  refine MethodCall_ (pl := pl) (wpAny_mono (h X H s I) (fun v s₁ ⟨H₁, d, σ₁, l₁, I₁, r₁, x, e', hx, h₁⟩ => ?_) fun _ _ x => x) hf
  subst e'
  cases r₁ with
  | str x t =>
    with_reducible refine GM.join ?_
    dsimp only
    have hp : (backTo pos (starEach [] env)).any (·.1) = false := rfl
    with_reducible refine callWith_method1 ?_ he hp
    refine wpAny_items_cons (wpAny_mono (h₁ X H₁ s₁ I₁) (fun v s₂ ⟨H₂, d, σ₂, l₂, I₂, r₂, xs, e', hz, q⟩ => wpAny_items_nil ?_) fun _ _ x => x) he
    have hj := joinOk_of (sep := x) hx hz
    rcases e' with rfl | rfl
    · cases r₂ with
      | @tup a ob n vs _ e1 e2 e3 rr =>
        obtain ⟨l, ev, el⟩ := strs_of rr
        subst ev; subst el
        refine call_meets F.slot_str_join (typeIs_str _ _ _) F.entry_str_join (F.args_str_join_2 _ _) (meets_str_join_tuple x t a l hj) ⟨⟨ob, n, I₂.inHeap _ _ e1, e2, e3⟩, post_join l ⟨joinFit_length hj, fun t' k => ?_⟩⟩
        exact ⟨H₂, _, σ₂, l₁.trans l₂, I₂.toks _, .str _ _, q⟩
    · cases r₂ with
      | @lst a ob n vs _ e1 e2 e3 rr =>
        obtain ⟨l, ev, el⟩ := strs_of rr
        subst ev; subst el
        refine call_meets F.slot_str_join (typeIs_str _ _ _) F.entry_str_join (F.args_str_join_2 _ _) (meets_str_join_list x t a l hj) ⟨⟨ob, I₂.inHeap _ _ e1, e2, n, e3⟩, post_join l ⟨joinFit_length hj, fun t' k => ?_⟩⟩
        exact ⟨H₂, _, σ₂, l₁.trans l₂, I₂.toks _, .str _ _, q⟩
end Mine

/-! LComp2 -/
namespace Mine
open PySem PySem.W PySem.Calls PyProof.Rows
variable {c : Cx} {env : Env} {σ : Sg}

/-- the heap moves at one address that the frame does not own -/
theorem InvAt.skip {X H : PH} {s : Shared} {h' : Heap} {tk : Nat} {m : Str → Option Value} {O : Addr → Option Str} {C : Addr} (J : InvAt c X H σ s m O) (hk : ∀ b o, b ≠ C → s.heap.get? b = some o → h'.get? b = some o)
    (e0 : c.s₀.heap.get? C = none) (eL : C ≠ c.L) (eH : H C = none) (eX : X C = none) (eO : O C = none) : InvAt c X H σ { s with heap := h', toks := tk } m O := by
  have kH : ∀ b o, H b = some o → b ≠ C := fun b o e z => by rw [z, eH] at e; cases e
  have kX : ∀ b o, X b = some o → b ≠ C := fun b o e z => by rw [z, eX] at e; cases e
  have kO : ∀ b y, O b = some y → b ≠ C := fun b y e z => by rw [z, eO] at e; cases e
  refine ⟨⟨J.fr.ns.at' fun o e => hk _ _ (fun z => eL z.symm) e, fun b o e => hk _ _ (fun z => by rw [z, e0] at e; cases e) (J.fr.keep b o e), J.fr.above⟩, fun b o e => ?_, fun b o e => ?_, fun b y e => ?_, J.new, J.nodup, fun p hp => ?_, J.os, J.gens⟩
  · obtain ⟨q1, q2⟩ := J.hH b o e; exact ⟨hk _ _ (kH _ _ e) q1, q2⟩
  · obtain ⟨q1, q2⟩ := J.hX b o e; exact ⟨hk _ _ (kX _ _ e) q1, q2⟩
  · obtain ⟨q1, ⟨o, q2⟩, q3⟩ := J.hO b y e; exact ⟨q1, ⟨o, hk _ _ (kO _ _ e) q2⟩, q3⟩
  · have hq := J.holds p hp
    obtain ⟨y, lv⟩ := p
    cases lv with
    | unb => trivial
    | d d => exact hq
    | own a d =>
      obtain ⟨e, eo, q⟩ := hq
      refine ⟨e, eo, ?_⟩
      cases d with
      | lst ds => obtain ⟨vs, n, q1, q2⟩ := q; exact ⟨vs, n, hk _ _ (kO _ _ eo) q1, q2⟩
      | hdr kvs =>
        obtain ⟨dx, l, ⟨t, vs, n, q1, q2, q3, q4⟩, o2, o3, r⟩ := q
        exact ⟨dx, l, ⟨t, vs, n, hk _ _ (kO _ _ eo) q1, hk _ _ (kO _ _ o2) q2, hk _ _ (kO _ _ o3) q3, q4⟩, o2, o3, r⟩
      | dct kvs =>
        obtain ⟨vs, ⟨ob, es, ep, q1, q2⟩, q3⟩ := q
        exact ⟨vs, ⟨ob, es, ep, hk _ _ (kO _ _ eo) q1, q2⟩, q3⟩
      | _ => exact q.elim
/-- an outer object of the X part moves -/
theorem InvAt.moveX {X H : PH} {a : Addr} {o o' : Obj} {s : Shared} {h' : Heap} {tk : Nat} {m : Str → Option Value} {O : Addr → Option Str} (J : InvAt c X H σ s m O) (hX : X a = some o) (h0 : c.s₀.heap.get? a = none)
    (hk : ∀ b o, b ≠ a → s.heap.get? b = some o → h'.get? b = some o) (ho : h'.get? a = some o') : InvAt c (X.set a o') H σ { s with heap := h', toks := tk } m O := by
  have e : X.set a o = X := funext fun b => by
    unfold PH.set; split
    · rename_i z; rw [z, hX]
    · rfl
  exact InvAt.turnX (e.symm ▸ J) h0 hk ho
theorem InvAt.lessX {X X' H : PH} {s : Shared} {m : Str → Option Value} {O : Addr → Option Str} (J : InvAt c X' H σ s m O) (h : Le X X') : InvAt c X H σ s m O :=
  ⟨J.fr, J.hH, fun a o e => J.hX a o (h a o e), J.hO, J.new, J.nodup, J.holds, J.os, J.gens⟩

/-- all that a side frame at C leaves alone -/
def sideX (h : Heap) (H : PH) (C : Addr) : PH := fun b => if b = C ∨ (H b).isSome = true then none else h.get? b
theorem sideX_some {h : Heap} {H : PH} {C b : Addr} {o : Obj} : sideX h H C b = some o ↔ b ≠ C ∧ H b = none ∧ h.get? b = some o := by
  unfold sideX
  split
  · rename_i z
    constructor
    · intro e; cases e
    · rintro ⟨h1, h2, _⟩
      rcases z with z | z
      · exact absurd z h1
      · rw [h2] at z; cases z
  · rename_i z
    have h2 : H b = none := by
      cases e : H b with
      | none => rfl
      | some o => exact absurd (.inr (by rw [e]; rfl)) z
    exact ⟨fun e => ⟨fun q => z (.inl q), h2, e⟩, fun e => e.2.2⟩
theorem InvAt.side {X H : PH} {s : Shared} {m : Str → Option Value} {O : Addr → Option Str} {C : Addr} {mC : Str → Option Value} {x : Str} {v : Value} {d : D} (J : InvAt c X H σ s m O) (hn : s.heap.Ns C mC) (hx : mC x = some v) (r : R c.w.params H v d)
    (ha : c.s₀.heap.objs.size ≤ C) (eH : H C = none) : Inv { c with L := C } (sideX s.heap H C) H [(x, .d d)] s :=
  ⟨mC, fun _ => none, ⟨hn, J.fr.keep, ha⟩, fun b o e => ⟨(J.hH b o e).1, (fun z => by have z' : b = C := z; rw [z', eH] at e; cases e), rfl⟩,
    fun b o e => let ⟨p, q, t⟩ := sideX_some.mp e; ⟨t, p, rfl, q⟩, (fun _ _ e => nomatch e), J.new, by simp, fun p hp => by rw [List.mem_singleton.mp hp]; exact ⟨v, hx, r⟩, J.os, J.gens⟩
theorem InvAt.unside {X H H' : PH} {σ' : Sg} {s s' : Shared} {m : Str → Option Value} {O : Addr → Option Str} {C : Addr} (J : InvAt c X H σ s m O) (hl : Le H H') (K : Inv { c with L := C } (sideX s.heap H C) H' σ' s')
    (eL : C ≠ c.L) (eX : X C = none) (eO : O C = none) : InvAt c X H' σ s' m O := by
  obtain ⟨mC, OC, K⟩ := K
  have kk : ∀ b o, b ≠ C → H b = none → s.heap.get? b = some o → s'.heap.get? b = some o ∧ H' b = none := fun b o e1 e2 e3 => by
    obtain ⟨p, _, _, q⟩ := K.hX b o (sideX_some.mpr ⟨e1, e2, e3⟩); exact ⟨p, q⟩
  have hOH : ∀ b y, O b = some y → H b = none ∧ b ≠ C := fun b y e => by
    refine ⟨?_, fun z => ?_⟩
    · cases z : H b with
      | none => rfl
      | some o => rw [(J.hH b o z).2.2] at e; cases e
    · rw [z, eO] at e; cases e
  have hLn : H c.L = none := by
    cases z : H c.L with
    | none => rfl
    | some o => exact absurd rfl (J.hH _ o z).2.1
  obtain ⟨oL, _, _, hLs, _⟩ := id J.fr.ns
  refine ⟨⟨J.fr.ns.at' fun o e => (kk _ _ (fun z => eL z.symm) hLn e).1, K.fr.keep, J.fr.above⟩, fun b o e => ⟨(K.hH b o e).1, fun z => ?_, ?_⟩, fun b o e => ?_, fun b y e => ?_, K.new, J.nodup, fun p hp => ?_, K.os, K.gens⟩
  · have := (kk _ _ (fun z => eL z.symm) hLn hLs).2; rw [← z, e] at this; cases this
  · cases z : O b with
    | none => rfl
    | some y =>
      obtain ⟨_, ⟨o', q⟩, _⟩ := J.hO b y z
      have := (kk b o' (hOH b y z).2 (hOH b y z).1 q).2; rw [e] at this; cases this
  · obtain ⟨p1, p2, p3, p4⟩ := J.hX b o e
    obtain ⟨q1, q2⟩ := kk b o (fun z => by rw [z, eX] at e; cases e) p4 p1
    exact ⟨q1, p2, p3, q2⟩
  · obtain ⟨p1, ⟨o, p2⟩, p3⟩ := J.hO b y e
    exact ⟨p1, ⟨o, (kk b o (hOH b y e).2 (hOH b y e).1 p2).1⟩, p3⟩
  · have hq := J.holds p hp
    have kO : ∀ b y o, O b = some y → s.heap.get? b = some o → s'.heap.get? b = some o := fun b y o e q => (kk b o (hOH b y e).2 (hOH b y e).1 q).1
    obtain ⟨y, lv⟩ := p
    cases lv with
    | unb => trivial
    | d d => obtain ⟨w, e, r⟩ := hq; exact ⟨w, e, r.mono hl⟩
    | own a d =>
      obtain ⟨e, eo, q⟩ := hq
      refine ⟨e, eo, ?_⟩
      cases d with
      | lst ds => obtain ⟨vs, n, q1, q2⟩ := q; exact ⟨vs, n, kO _ _ _ eo q1, q2.mono hl⟩
      | hdr kvs =>
        obtain ⟨dx, l, ⟨t, vs, n, q1, q2, q3, q4⟩, o2, o3, r⟩ := q
        exact ⟨dx, l, ⟨t, vs, n, kO _ _ _ eo q1, kO _ _ _ o2 q2, kO _ _ _ o3 q3, q4.mono hl⟩, o2, o3, r⟩
      | dct kvs =>
        obtain ⟨vs, ⟨ob, es, ep, q1, q2⟩, q3⟩ := q
        exact ⟨vs, ⟨ob, es, ep, kO _ _ _ eo q1, q2⟩, q3.mono hl⟩
      | _ => exact q.elim
end Mine

/-! LComp3 -/
namespace Mine
open PySem PySem.W PySem.Calls PyProof.Rows
variable {c : Cx} {env : Env} {σ : Sg}
theorem InvAt.xToH {X H : PH} {D : Addr} {o : Obj} {s : Shared} {m : Str → Option Value} {O : Addr → Option Str} (J : InvAt c (X.set D o) H σ s m O) (hX : X D = none) (h0 : c.s₀.heap.get? D = none) : Le H (H.set D o) ∧ InvAt c X (H.set D o) σ s m O := by
  obtain ⟨p1, p2, p3, p4⟩ := J.hX D o (by unfold PH.set; rw [if_pos rfl])
  have hle : Le H (H.set D o) := fun b ob e => by unfold PH.set; rw [if_neg (fun z => by rw [z, p4] at e; cases e)]; exact e
  refine ⟨hle, J.fr, fun b ob e => ?_, fun b ob e => ?_, J.hO, fun b ob e => ?_, J.nodup, fun p hp => (J.holds p hp).mono (fun _ _ e => e) hle, J.os, J.gens⟩
  · unfold PH.set at e
    split at e
    · rename_i z; cases e; subst z; exact ⟨p1, p2, p3⟩
    · exact J.hH b ob e
  · have ne : b ≠ D := fun z => by rw [z, hX] at e; cases e
    obtain ⟨q1, q2, q3, q4⟩ := J.hX b ob (by unfold PH.set; rw [if_neg ne]; exact e)
    exact ⟨q1, q2, q3, by unfold PH.set; rw [if_neg ne]; exact q4⟩
  · unfold PH.set at e
    split at e
    · rename_i z; exact .inr (z ▸ h0)
    · exact J.new b ob e

theorem Ev.listComp {elt iter : Expr} {x : Str} {px : Pos} {scope : Scope} {pos : Pos} {Q : D → Sg → Prop} (ok : c.Ok)
    (h : Ev c (eval iter env) σ fun d σ₁ => ∃ ds es : List D, d = .lst ds ∧ ds.length ≤ 1000000 ∧ es.length = ds.length ∧
      (∀ (i : Nat) (d e : D), ds[i]? = some d → es[i]? = some e → ∀ C : Addr, Ev { c with L := C } (eval elt (compEnvC scope [] C env)) [(x, .d d)] (fun y _ => y = e)) ∧ Q (.lst es) σ₁)
    (hclos : closureFor scope env = pure []) (hcell : ∀ y ∈ scope.names, y.2 ≠ .cell) (hkind : scope.kind = .function)
    (hnames : ∀ y ∈ scope.names, y.2 = .local → scope.names.lookup y.1 = some .local) (hx : scope.names.lookup x = some .local) (hs : ∀ x, foldedSetIterable iter env x = pure x) :
    Ev c (eval (.ListComp elt [⟨.Name x px, iter, [], 0⟩] scope pos) env) σ Q := by
  intro X H s I
  rw [eval_ListComp]
  refine wpAny_comprehension_free (use := none) rfl hs hclos hkind hnames (wpAny_mono (h X H s I) (fun v s₁ ⟨H₁, d, σ₁, l₁, I₁, r₁, ds, es, e, hz, hlen, helt, q⟩ => ?_) fun _ _ x => x)
  subst e
  cases r₁ with
  | @lst a ob n vs _ e1 e2 e3 rr =>
  have hl : s₁.heap.IsList a vs.toArray := ⟨ob, I₁.inHeap _ _ e1, e2, n, e3⟩
  refine wpAny_pyIter_list hl ?_
  have hai : a < s₁.heap.objs.size := Heap.lt_size (I₁.inHeap _ _ e1)
  obtain ⟨m, O, I₁⟩ := I₁
  have hXn : ∀ k, X (s₁.heap.objs.size + k) = none := fun k => by
    cases z : X (s₁.heap.objs.size + k) with
    | none => rfl
    | some o => have := (I₁.hX _ o z).1; rw [Heap.get?_none_of_le (Nat.le_add_right _ _)] at this; cases this
  obtain ⟨I₂, hI0⟩ := I₁.addX (o := { cls := .type "list_iterator", data := .fields #[.ref a, .int 0 0] }) (tk := s₁.toks)
  obtain ⟨I₃, hD0⟩ := I₂.addX (o := { cls := .type "list", data := .seq ([] : List Value).toArray }) (tk := s₁.toks)
  refine wpAny_newObj_type (wpAny_newFunctionEnv hcell (by intro y hy; simp at hy) (fun h₁ hns₁ hsb₁ => ?_) hkind)
  dsimp only at hns₁ hsb₁ I₂ I₃ hD0 ⊢
  generalize hI0e : s₁.heap.objs.size = I0 at *
  generalize hh3 : (s₁.heap.push { cls := .type "list_iterator", dict := none, data := .fields #[.ref a, .int 0 0] }) = hA at *
  have hAs : hA.objs.size = I0 + 1 := by rw [← hh3, Heap.size_push, hI0e]
  generalize hh4 : (hA.push { cls := .type "list", dict := none, data := .seq ([] : List Value).toArray }) = hB at *
  have hBs : hB.objs.size = I0 + 2 := by rw [← hh4, Heap.size_push, hAs]
  rw [hBs] at hns₁ hsb₁
  rw [hAs] at I₃ hD0
  rw [hBs, hAs]
  have hne : a ≠ I0 := Nat.ne_of_lt hai
  have W := Walks.list (prog := c.prog) (w := c.w) ok.amb.hh I0 a hne vs.toArray
  have hvl : vs.length = ds.length := rr.length
  have noC : hB.get? (I0 + 2) = none := Heap.get?_none_of_le (by rw [hBs]; exact Nat.le_refl _)
  have old : ∀ b o, hB.get? b = some o → h₁.get? b = some o := fun b o e => hsb₁.extBut b o (fun z => by rw [z, noC] at e; cases e) (Heap.get?_push_of_some _ e)
  have I₄ := I₃.keep (s' := { s₁ with heap := h₁, toks := s₁.toks + ([] : List (Str × Value)).length }) old rfl rfl
  have eC0 : c.s₀.heap.get? (I0 + 2) = none := by
    cases z : c.s₀.heap.get? (I0 + 2) with
    | none => rfl
    | some o => have := I₃.fr.keep _ o z; rw [noC] at this; cases this
  have eCL : I0 + 2 ≠ c.L := fun z => by
    obtain ⟨oL, _, _, q, _⟩ := I₃.fr.ns
    rw [← z, noC] at q; cases q
  have eCO : O (I0 + 2) = none := by
    cases z : O (I0 + 2) with
    | none => rfl
    | some y => obtain ⟨_, ⟨o, q⟩, _⟩ := I₃.hO _ y z; rw [noC] at q; cases q
  have eCH : H₁ (I0 + 2) = none := by
    cases z : H₁ (I0 + 2) with
    | none => rfl
    | some o => have := (I₃.hH _ o z).1; rw [noC] at this; cases this
  have haC : c.s₀.heap.objs.size ≤ I0 + 2 := by
    have h1 := I₃.fr.above
    have h2 : c.L < hB.objs.size := I₃.fr.ns.lt
    rw [hBs] at h2
    exact Nat.le_of_lt (Nat.lt_of_le_of_lt h1 h2)
  have hIi : h₁.IsListIter I0 a 0 := by
    refine ⟨{ cls := .type "list_iterator", data := .fields #[.ref a, .int 0 0] }, old _ _ ?_, rfl, rfl⟩
    rw [← hh4]; refine Heap.get?_push_of_some _ ?_
    rw [← hh3, ← hI0e]; exact Heap.get?_push_size _ rfl
  have hLa : h₁.IsList a vs.toArray := by
    obtain ⟨o, p, r⟩ := hl
    refine ⟨o, old _ _ ?_, r⟩
    rw [← hh4]; refine Heap.get?_push_of_some _ ?_
    rw [← hh3]; exact Heap.get?_push_of_some _ p
  have Dne : I0 + 1 ≠ I0 := Nat.succ_ne_self _
  have n20 : I0 + 2 ≠ I0 := by show (I0 + 2 : Nat) ≠ I0; omega
  have n21 : I0 + 2 ≠ I0 + 1 := by show (I0 + 2 : Nat) ≠ I0 + 1; omega
  have loop : codeAny (model c.prog c.w) c.A (.compLoop (.ListComp elt [⟨.Name x px, iter, [], 0⟩] scope pos) 0 (.ref I0) (.ref (I0 + 1)) (compEnvC scope [] (I0 + 2) env)) (compPost (model c.prog c.w) c.A nope none (Post c X H Q) (.ref (I0 + 1)) (I0 + 2)) { s₁ with heap := h₁, toks := s₁.toks + ([] : List (Str × Value)).length } := by
    refine codeAny_compLoop_list (fun k s' => ∃ i H' X' oI us nD mC, k = ds.length + 1 - i ∧ i ≤ ds.length ∧ Le H₁ H' ∧ InvAt c X' H' σ₁ s' m O ∧ Le X X' ∧ X' I0 = some oI ∧ X' (I0 + 1) = some { cls := .type "list", data := .seq (List.toArray us) nD } ∧ X' (I0 + 2) = none ∧ H' (I0 + 2) = none ∧
      s'.heap.IsListIter I0 a i ∧ s'.heap.IsList a vs.toArray ∧ s'.heap.Ns (I0 + 2) mC ∧ RAll c.w.params H' us (es.take i)) ?_ (ds.length + 1) ⟨0, H₁, _, { cls := .type "list_iterator", data := .fields #[.ref a, .int 0 0] }, [], 0, _, rfl, Nat.zero_le _, Le.refl _, I₄, ?_, ?_, ?_, ?_, eCH, hIi, hLa, hns₁, .nil⟩
    · rintro k s' ⟨i, H', X', oI, us, nD, mC, rfl, hi, hle, J, hXX, hXI, hXD, hXC, hHC, hit, hla, hnC, hus⟩
      by_cases hlt : i < ds.length
      · refine W.item i s' _ _ (by rw [List.size_toArray, hvl]; exact hlt) ⟨hit, hla⟩ fun v h' tk hv hw' hk => ?_
        have hv' : vs[i]? = some v := by simpa using hv
        obtain ⟨d, hd, rd⟩ := rr.get' hv'
        have hei : i < es.length := by rw [hlen]; exact hlt
        have he : es[i]? = some es[i] := List.getElem?_eq_getElem hei
        obtain ⟨⟨oI', ho', hoc, hod⟩, hla'⟩ := hw'
        have kI : ∀ b o, b ≠ I0 → s'.heap.get? b = some o → h'.get? b = some o := fun b o ne e => hk b o (by simpa using ne) e
        have J₁ := J.moveX (tk := tk) hXI hI0 kI ho'
        have hnC' : h'.Ns (I0 + 2) mC := hnC.at' fun o e => kI _ o n20 e
        refine wpAny_assign_Name (wpAny_storeName_local (lookup_relabel_local hx) hnC' (fun h₂ hn₂ hs₂ => ?_) (by simp [compEnvC, relabel, hkind]))
        have hXC1 : (X'.set I0 oI') (I0 + 2) = none := by unfold PH.set; rw [if_neg n20]; exact hXC
        have J₂ := J₁.skip (C := I0 + 2) (h' := h₂) (tk := tk + 1) (fun b o ne e => (hs₂.2 b ne).trans e) eC0 eCL hHC hXC1 eCO
        have side := J₂.side hn₂ (if_pos rfl) (rd.mono hle) haC hHC
        refine wpAny_nope (wpAny_mono (helt i d _ hd he (I0 + 2) _ _ _ side) (fun y s₄ ⟨H'', e', σ'', l'', Kx, ry, qe⟩ => ?_) fun _ _ x => x)
        subst qe
        have J₃ := J₂.unside l'' Kx eCL hXC1 eCO
        have hXD3 : (X'.set I0 oI') (I0 + 1) = some { cls := .type "list", data := .seq (List.toArray us) nD } := by unfold PH.set; rw [if_neg Dne]; exact hXD
        have hD3 := (J₃.hX _ _ hXD3).1
        have hI3 := (J₃.hX I0 oI' (by unfold PH.set; rw [if_pos rfl])).1
        have hlen2 : us.length ≤ 1000000 := by rw [hus.length, List.length_take]; omega
        refine append_at hD3 (fun h₅ hs₅ e₅ => ?_) (by rw [sizeLine_eq, List.size_toArray]; omega)
        have J₄ := J₃.moveX (tk := s₄.toks) hXD3 hD0 (fun b o ne e => (hs₅.2 b ne).trans e) e₅
        obtain ⟨mK, OK, K'⟩ := Kx
        have hHC'' : H'' (I0 + 2) = none := by
          cases z : H'' (I0 + 2) with
          | none => rfl
          | some o => exact absurd rfl (K'.hH _ o z).2.1
        have hea : us ++ [y] = (us ++ [y]) := rfl
        refine ⟨ds.length + 1 - (i + 1), by omega, i + 1, H'', _, oI', us ++ [y], nD + 1, mK, rfl, hlt, hle.trans l'', J₄, fun b o e => ?_, ?_, ?_, ?_, hHC'', ?_, ?_, ?_, ?_⟩
        · have hbI : b ≠ I0 := fun z => by have := hXn 0; rw [z] at e; rw [Nat.add_zero] at this; rw [this] at e; cases e
          have hbD : b ≠ I0 + 1 := fun z => by rw [z, hXn 1] at e; cases e
          unfold PH.set; rw [if_neg hbD, if_neg hbI]; exact hXX b o e
        · unfold PH.set; rw [if_neg (Ne.symm Dne), if_pos rfl]
        · unfold PH.set; rw [if_pos rfl]
          have : (us ++ [y]).toArray = us.toArray.push y := by simp
          rw [this]
        · unfold PH.set; rw [if_neg n21, if_neg n20]; exact hXC
        · exact ⟨oI', (hs₅.2 _ (Ne.symm Dne)).trans hI3, hoc, hod⟩
        · exact ⟨ob, (J₄.hH a ob (l'' _ _ (hle _ _ e1))).1, e2, n, e3⟩
        · exact K'.fr.ns.at' fun o e => (hs₅.2 _ n21).trans e
        · rw [take_snoc he]; exact (hus.mono l'').append (.cons ry .nil)
      · have hie : i = ds.length := by omega
        subst hie
        have hsz : vs.toArray.size = ds.length := by rw [List.size_toArray, hvl]
        refine W.done s' _ _ (by rw [hsz]; exact ⟨hit, hla⟩) fun h' tk hk => ?_
        have kI : ∀ b o, b ≠ I0 → s'.heap.get? b = some o → h'.get? b = some o := fun b o ne e => hk b o (by simpa using ne) e
        obtain ⟨x1, x2, x3, x4⟩ := J.hX I0 oI hXI
        have hX0 : (X.set (I0 + 1) { cls := .type "list", data := .seq (List.toArray us) nD }) I0 = none := by unfold PH.set; rw [if_neg (Ne.symm Dne)]; exact hXn 0
        have hX2 : (X.set (I0 + 1) { cls := .type "list", data := .seq (List.toArray us) nD }) (I0 + 2) = none := by unfold PH.set; rw [if_neg n21]; exact hXn 2
        have J₀ : InvAt c (X.set (I0 + 1) { cls := .type "list", data := .seq (List.toArray us) nD }) H' σ₁ s' m O := J.lessX fun b o e => by
          unfold PH.set at e
          split at e
          · rename_i z; rw [z, hXD]; exact e
          · exact hXX b o e
        have J₁ := J₀.skip (C := I0) (h' := h') (tk := tk) kI hI0 x2 x4 hX0 x3
        refine ⟨mC, hnC.at' fun o e => kI _ o n20 e, fun h'' hs'' => ?_⟩
        have J₂ := J₁.skip (C := I0 + 2) (h' := h'') (tk := tk) (fun b o ne e => (hs''.2 b ne).trans e) eC0 eCL hHC hX2 eCO
        obtain ⟨hle', J₃⟩ := J₂.xToH (hXn 1) hD0
        rw [← hlen, List.take_length] at hus
        exact ⟨_, .lst es, σ₁, (l₁.trans hle).trans hle', ⟨m, O, J₃⟩, .lst (by unfold PH.set; rw [if_pos rfl]) rfl rfl (hus.mono hle'), q⟩
    · intro b o e
      have hbI : b ≠ I0 := fun z => by have := hXn 0; rw [z] at e; rw [Nat.add_zero] at this; rw [this] at e; cases e
      have hbD : b ≠ I0 + 1 := fun z => by rw [z, hXn 1] at e; cases e
      unfold PH.set; rw [if_neg hbD, if_neg hbI]; exact e
    · unfold PH.set; rw [if_neg (Ne.symm Dne), if_pos rfl]
    · unfold PH.set; rw [if_pos rfl]
    · unfold PH.set; rw [if_neg n21, if_neg n20]; exact hXn 2
  exact codeAny_compStart_list loop (W.self 0 _ _ _ ⟨hIi, hLa⟩ loop)
end Mine

/-! Start -/
namespace Mine
open PySem PySem.W PySem.Calls PyProof.Rows

/-! ## the law's own frame -/
theorem ints_rall {P : Params} {H : PH} {vs : List Value} {ns : List Int} (h : IntsAre vs ns) : RAll P H vs (ns.map D.int) := by
  induction h with
  | nil => exact .nil
  | cons n t _ ih => exact .cons (.int n t) ih
theorem start_law {prog : Program} {w : World} {K : Frag} {s₁ : Shared} {A : Around} {n : Nat} {l : Addr} {x : Str} {others : List Str} {vs : List Value} {ns : List Int} {h₁ : Heap} {tk : Nat} {m : Str → Option Value}
    (hL : s₁.heap.IsList l vs.toArray) (hI : IntsAre vs ns) (F : Fr s₁.heap s₁.heap.objs.size h₁ m) (hm : m x = some (.ref l)) (nd : (x :: others).Nodup) :
    ∃ H₀ : PH, (∀ a o, H₀ a = some o → s₁.heap.get? a = some o) ∧ Inv ⟨prog, w, K, s₁, H₀, s₁.heap.objs.size, A, n⟩ (fun _ => none) H₀ ((x, .d (.lst (ns.map D.int))) :: others.map fun y => (y, .unb)) { s₁ with heap := h₁, toks := tk } := by
  obtain ⟨o, ho, e1, k, e2⟩ := hL
  have hb : ∀ a o', PH.set (fun _ => none) l o a = some o' → s₁.heap.get? a = some o' := fun a o' e => by
    unfold PH.set at e
    split at e
    · rename_i z; cases e; rw [z]; exact ho
    · cases e
  refine ⟨PH.set (fun _ => none) l o, hb, m, fun _ => none, ⟨F, fun a o' e => ⟨F.keep _ _ (hb a o' e), fun z => ?_, rfl⟩, (fun _ _ e => nomatch e), (fun _ _ e => nomatch e), fun _ _ e => .inl e, ?_, fun p hp => ?_, rfl, rfl⟩⟩
  · have := Heap.lt_size (hb a o' e); rw [z] at this; exact absurd this (Nat.lt_irrefl _)
  · rw [List.map_cons, List.map_map]
    have : (others.map ((·.1) ∘ fun y => (y, LV.unb))) = others := by
      induction others with
      | nil => rfl
      | cons a r ih => rw [List.map_cons, ih (by rw [List.nodup_cons] at nd ⊢; exact ⟨fun q => nd.1 (.tail _ q), (List.nodup_cons.mp nd.2).2⟩)]; rfl
    rw [this]; exact nd
  · rcases List.mem_cons.mp hp with rfl | hp
    · exact ⟨_, hm, .lst (by unfold PH.set; rw [if_pos rfl]) e1 e2 (ints_rall hI)⟩
    · obtain ⟨y, _, rfl⟩ := List.mem_map.mp hp
      trivial
end Mine

/-! Law1 -/
namespace Mine
open PySem PySem.W PySem.Calls PyProof.Rows

/-! ## the rules as one text, and its numbers -/
def rtext (r : Rl) : List Nat := r.name ++ 45 :: 62 :: r.deed
def jtext : List Rl → List Nat
  | [] => []
  | [r] => rtext r
  | r :: rs => rtext r ++ 59 :: jtext rs
def rcodes (r : Rl) : List Int := [256 + place (stU (r.a + 2 * r.f)), 256 + place (sg r.b), 51, 256 + place (sg r.c), (if r.d = 1 then 34 else 33), 256 + place (stV r.e)]
def jcodes : List Rl → List Int
  | [] => []
  | [r] => rcodes r
  | r :: rs => rcodes r ++ 13 :: jcodes rs
theorem letter_U {b : Int} (h : 0 ≤ b) (h' : b < 4) : letter (stU b) = true := by
  have : b = 0 ∨ b = 1 ∨ b = 2 ∨ b = 3 := by omega
  rcases this with rfl | rfl | rfl | rfl <;> decide
theorem letter_V {b : Int} (h : 0 ≤ b) (h' : b < 4) : letter (stV b) = true := by
  have : b = 0 ∨ b = 1 ∨ b = 2 ∨ b = 3 := by omega
  rcases this with rfl | rfl | rfl | rfl <;> decide
theorem letter_sg {b : Int} (h : 0 ≤ b) (h' : b < 3) : letter (sg b) = true := by
  have : b = 0 ∨ b = 1 ∨ b = 2 := by omega
  rcases this with rfl | rfl | rfl <;> decide
theorem rtext_cons (r : Rl) : rtext r = stU (r.a + 2 * r.f) :: sg r.b :: 45 :: 62 :: sg r.c :: arrow r.d :: arrow r.d :: [stV r.e] := rfl
theorem jtext_head {r : Rl} (hr : r.Ok) (rs : List Rl) : ∃ t, jtext (r :: rs) = stU (r.a + 2 * r.f) :: t := by
  cases rs with
  | nil => exact ⟨_, rfl⟩
  | cons a l => exact ⟨_, rfl⟩
theorem tok_rule {r : Rl} (hr : r.Ok) {t : List Nat} {cs : List Int} (h : Tok t cs) : Tok (rtext r ++ t) (rcodes r ++ cs) := by
  have ⟨a0, a1, b0, b1, c0, c1, d0, d1, e0, e1, f0, f1⟩ := hr
  have lU := letter_U (b := r.a + 2 * r.f) (by omega) (by omega)
  have lb := letter_sg b0 b1
  have lc := letter_sg c0 c1
  have lV := letter_V e0 e1
  have h1 : Tok (stV r.e :: t) ((256 + place (stV r.e)) :: cs) := .sign lV h
  have h2 : Tok (arrow r.d :: arrow r.d :: stV r.e :: t) ((if r.d = 1 then 34 else 33) :: (256 + place (stV r.e)) :: cs) := by
    unfold arrow
    split
    · exact .gg lV h1
    · exact .ll lV h1
  exact .sign lU (.sign lb (.arrow lc (.sign lc h2)))
theorem tok_all : ∀ {rs : List Rl}, (∀ r ∈ rs, r.Ok) → Tok (jtext rs) (jcodes rs)
  | [], _ => .nil
  | [r], h => by
    have := tok_rule (h r (.head _)) .nil
    rwa [List.append_nil, List.append_nil] at this
  | r :: r' :: rs, h => by
    have ih := tok_all (rs := r' :: rs) fun r hr => h r (.tail _ hr)
    obtain ⟨t, e⟩ := jtext_head (h r' (.tail _ (.head _))) rs
    have ⟨a0, a1, b0, b1, c0, c1, d0, d1, e0, e1, f0, f1⟩ := h r' (.tail _ (.head _))
    have lU := letter_U (b := r'.a + 2 * r'.f) (by omega) (by omega)
    show Tok (rtext r ++ 59 :: jtext (r' :: rs)) (rcodes r ++ 13 :: jcodes (r' :: rs))
    rw [e] at ih ⊢
    exact tok_rule (h r (.head _)) (.semi lU ih)
theorem jtext_len : ∀ rs : List Rl, (jtext rs).length ≤ 9 * rs.length
  | [] => Nat.le_refl _
  | [r] => by show 8 ≤ 9 * 1; omega
  | r :: r' :: rs => by
    have ih := jtext_len (r' :: rs)
    show (rtext r ++ 59 :: jtext (r' :: rs)).length ≤ _
    have : (rtext r).length = 8 := rfl
    simp only [List.length_append, List.length_cons] at *
    omega
end Mine

/-! Law2 -/
namespace Mine
open PySem PySem.W PySem.Calls PyProof.Rows

theorem join_rule (r : Rl) : Txt.join (T [45, 62]) [T r.name, T r.deed] = T (rtext r) := by
  show Builtin.Str.glued _ _ = _
  rw [StrLaws.glued_eq_join]
  show T r.name ++ T [45, 62] ++ T r.deed = _
  rw [T_append, T_append]
  rfl
theorem join_all : ∀ rs : List Rl, Txt.join (T [59]) (rs.map fun r => T (rtext r)) = T (jtext rs) := by
  have key : ∀ rs : List Rl, Str.join (T [59]) (rs.map fun r => T (rtext r)) = T (jtext rs) := by
    intro rs
    induction rs with
    | nil => rfl
    | cons r rs ih =>
      cases rs with
      | nil => rfl
      | cons r' rs =>
        show T (rtext r) ++ T [59] ++ Str.join (T [59]) ((r' :: rs).map fun r => T (rtext r)) = T (rtext r ++ 59 :: jtext (r' :: rs))
        rw [ih, T_append, T_append, List.append_assoc]
        rfl
  intro rs
  show Builtin.Str.glued _ _ = _
  rw [StrLaws.glued_eq_join, key]
theorem Run.append {s t u : S3} {cs ds : List Int} (h : Run s cs t) (k : Run t ds u) : Run s (cs ++ ds) u := by
  induction h with
  | nil => exact k
  | cons a _ ih => exact .cons a (ih k)
theorem place_get {c : Nat} (h : letter c = true) : allSg.getD (256 + place c - 256).toNat 0 = c ∧ 0 ≤ place c ∧ place c < 8 := by
  rcases letter_cases h with rfl | rfl | rfl | rfl | rfl | rfl | rfl | rfl <;> decide
theorem step_sign {s : S3} {c : Nat} (h : letter c = true) (hw : s.words.length ≤ 50) : StepOk s (256 + place c) ∧ rstep s (256 + place c) = ⟨s.kvs, s.name, s.words ++ [c]⟩ := by
  obtain ⟨h1, h2, h3⟩ := place_get h
  refine ⟨⟨by omega, hw, fun z => by rcases z with z | z <;> omega⟩, ?_⟩
  unfold rstep
  rw [if_pos (by omega), h1]
theorem run_rule {r : Rl} (hr : r.Ok) (kvs : List (Str × Str)) (nm : List Nat) : Run ⟨kvs, nm, []⟩ (rcodes r) ⟨kvs, r.name, r.deed⟩ := by
  have ⟨a0, a1, b0, b1, c0, c1, d0, d1, e0, e1, f0, f1⟩ := hr
  have lU := letter_U (b := r.a + 2 * r.f) (by omega) (by omega)
  have lb := letter_sg b0 b1
  have lc := letter_sg c0 c1
  have lV := letter_V e0 e1
  have s1 := step_sign (s := ⟨kvs, nm, []⟩) lU (Nat.zero_le _)
  have s2 := step_sign (s := ⟨kvs, nm, [stU (r.a + 2 * r.f)]⟩) lb (by show (1 : Nat) ≤ _; omega)
  have s4 := step_sign (s := ⟨kvs, r.name, []⟩) lc (Nat.zero_le _)
  have s6 := step_sign (s := ⟨kvs, r.name, [sg r.c, arrow r.d, arrow r.d]⟩) lV (by show (3 : Nat) ≤ _; omega)
  refine .cons s1.1 ?_
  rw [s1.2]
  refine .cons s2.1 ?_
  rw [show (⟨kvs, nm, [] ++ [stU (r.a + 2 * r.f)]⟩ : S3) = ⟨kvs, nm, [stU (r.a + 2 * r.f)]⟩ from rfl, s2.2]
  refine .cons ⟨by decide, by show (2 : Nat) ≤ _; omega, fun z => by rcases z with z | z <;> cases z⟩ ?_
  show Run ⟨kvs, r.name, []⟩ _ _
  refine .cons s4.1 ?_
  rw [s4.2]
  have hd : (if r.d = 1 then (34 : Int) else 33) < 264 ∧ ¬ ((if r.d = 1 then (34 : Int) else 33) = 13 ∨ (if r.d = 1 then (34 : Int) else 33) = 0) ∧ rstep ⟨kvs, r.name, [] ++ [sg r.c]⟩ (if r.d = 1 then (34 : Int) else 33) = ⟨kvs, r.name, [sg r.c, arrow r.d, arrow r.d]⟩ := by
    unfold arrow
    split
    · exact ⟨by decide, by decide, rfl⟩
    · exact ⟨by decide, by decide, rfl⟩
  refine .cons ⟨hd.1, by show (1 : Nat) ≤ _; omega, fun z => absurd z hd.2.1⟩ ?_
  rw [hd.2.2]
  refine .cons s6.1 ?_
  rw [s6.2]
  exact .nil _
theorem cl_name {r : Rl} (hr : r.Ok) : Cl (T r.name) ∧ Cl (Txt.lower (T r.name)) := by
  have ⟨a0, a1, b0, b1, c0, c1, d0, d1, e0, e1, f0, f1⟩ := hr
  unfold Rl.name
  have hU : r.a + 2 * r.f = 0 ∨ r.a + 2 * r.f = 1 ∨ r.a + 2 * r.f = 2 ∨ r.a + 2 * r.f = 3 := by omega
  have hb : r.b = 0 ∨ r.b = 1 ∨ r.b = 2 := by omega
  rcases hU with h | h | h | h <;> rcases hb with k | k | k <;> rw [h, k] <;> exact ⟨⟨by decide +kernel, by decide +kernel, by decide +kernel⟩, ⟨by decide +kernel, by decide +kernel, by decide +kernel⟩⟩
theorem cl_deed {r : Rl} (hr : r.Ok) : Cl (T r.deed) := by
  have ⟨a0, a1, b0, b1, c0, c1, d0, d1, e0, e1, f0, f1⟩ := hr
  unfold Rl.deed
  have hV : r.e = 0 ∨ r.e = 1 ∨ r.e = 2 ∨ r.e = 3 := by omega
  have hc : r.c = 0 ∨ r.c = 1 ∨ r.c = 2 := by omega
  have hd : r.d = 0 ∨ r.d = 1 := by omega
  rcases hV with h | h | h | h <;> rcases hc with k | k | k <;> rcases hd with j | j <;> rw [h, k, j] <;> exact ⟨by decide +kernel, by decide +kernel, by decide +kernel⟩
end Mine

/-! Law3 -/
namespace Mine
open PySem PySem.W PySem.Calls PyProof.Rows

def hstep (kvs : List (Str × Str)) (r : Rl) : List (Str × Str) := hset kvs (T r.name) (T r.deed)
theorem hstep_len (kvs : List (Str × Str)) (r : Rl) : (hstep kvs r).length ≤ kvs.length + 1 := by
  unfold hstep hset
  rw [List.length_append]
  have := List.length_filter_le (fun kv : Str × Str => Txt.lower kv.1 != Txt.lower (T r.name)) kvs
  simp only [List.length_cons, List.length_nil]
  omega
theorem hstep_keys {kvs : List (Str × Str)} (r : Rl) (h : ∀ p ∈ kvs, p.1.length ≤ 100) : ∀ p ∈ hstep kvs r, p.1.length ≤ 100 := by
  intro p hp
  rcases List.mem_append.mp hp with hp | hp
  · exact h p (List.mem_filter.mp hp).1
  · rw [List.mem_singleton.mp hp]; show (2 : Nat) ≤ _; omega
theorem run_end {r : Rl} (hr : r.Ok) {kvs : List (Str × Str)} (h1 : kvs.length ≤ 100) (h2 : ∀ p ∈ kvs, p.1.length ≤ 100) {code : Int} (hc : code = 13 ∨ code = 0) :
    StepOk ⟨kvs, r.name, r.deed⟩ code ∧ rstep ⟨kvs, r.name, r.deed⟩ code = ⟨hstep kvs r, r.name, []⟩ := by
  refine ⟨⟨by omega, by show (4 : Nat) ≤ _; omega, fun _ => ⟨(cl_name hr).2, (cl_name hr).1, cl_deed hr, by show (2 : Nat) ≤ _; omega, h1, h2⟩⟩, ?_⟩
  unfold rstep
  rw [if_neg (by omega), if_neg (by omega), if_pos hc]
  rfl
theorem run_all : ∀ (rs : List Rl) (kvs : List (Str × Str)) (nm : List Nat), (∀ r ∈ rs, r.Ok) → rs ≠ [] → kvs.length + rs.length ≤ 100 → (∀ p ∈ kvs, p.1.length ≤ 100) →
    ∃ nm', Run ⟨kvs, nm, []⟩ (jcodes rs ++ [0]) ⟨rs.foldl hstep kvs, nm', []⟩
  | [], _, _, _, h, _, _ => absurd rfl h
  | [r], kvs, nm, hok, _, hl, hk => by
    have hr := hok r (.head _)
    obtain ⟨e1, e2⟩ := run_end hr (kvs := kvs) (by simp only [List.length_cons, List.length_nil] at hl; omega) hk (code := 0) (.inr rfl)
    exact ⟨r.name, (run_rule hr kvs nm).append (.cons e1 (by rw [e2]; exact .nil _))⟩
  | r :: r' :: rs, kvs, nm, hok, _, hl, hk => by
    have hr := hok r (.head _)
    obtain ⟨e1, e2⟩ := run_end hr (kvs := kvs) (by simp only [List.length_cons] at hl; omega) hk (code := 13) (.inl rfl)
    have hl2 := hstep_len kvs r
    obtain ⟨nm', ih⟩ := run_all (r' :: rs) (hstep kvs r) r.name (fun x hx => hok x (.tail _ hx)) (by simp) (by simp only [List.length_cons] at hl ⊢; omega) (hstep_keys r hk)
    refine ⟨nm', ?_⟩
    show Run _ ((rcodes r ++ 13 :: jcodes (r' :: rs)) ++ [0]) _
    rw [List.append_assoc]
    exact (run_rule hr kvs nm).append (.cons e1 (by rw [e2]; exact ih))
/-- the table as read back -/
def tabOf (rs : List Rl) : List (Str × Str) := rs.foldl hstep []
theorem tab_len (rs : List Rl) : (tabOf rs).length ≤ rs.length ∧ ∀ p ∈ tabOf rs, p.1.length ≤ 100 := by
  have key : ∀ (l : List Rl) (kvs : List (Str × Str)), (∀ p ∈ kvs, p.1.length ≤ 100) → (l.foldl hstep kvs).length ≤ kvs.length + l.length ∧ ∀ p ∈ l.foldl hstep kvs, p.1.length ≤ 100 := by
    intro l
    induction l with
    | nil => intro kvs h; exact ⟨Nat.le_refl _, h⟩
    | cons r l ih =>
      intro kvs h
      have h1 := hstep_len kvs r
      obtain ⟨p, q⟩ := ih (hstep kvs r) (hstep_keys r h)
      exact ⟨by rw [List.foldl_cons, List.length_cons]; omega, q⟩
  have := key rs [] (fun p hp => nomatch hp)
  exact ⟨by simpa [tabOf] using this.1, this.2⟩
end Mine

/-! Law4 -/
namespace Mine
open PySem PySem.W PySem.Calls PyProof.Rows

def kk (S : List Int) : List Rl → List Rl
  | [] => []
  | r :: l => if keyOf r ∈ S then kk S l else r :: kk (keyOf r :: S) l
theorem kk_same : ∀ (l : List Rl) (S S' : List Int), (∀ k, k ∈ S ↔ k ∈ S') → kk S l = kk S' l
  | [], _, _, _ => rfl
  | r :: l, S, S', h => by
    unfold kk
    by_cases hr : keyOf r ∈ S
    · rw [if_pos hr, if_pos ((h _).mp hr)]; exact kk_same l S S' h
    · rw [if_neg hr, if_neg (fun z => hr ((h _).mpr z)), kk_same l (keyOf r :: S) (keyOf r :: S') fun k => by simp only [List.mem_cons, h k]]
theorem kk_fold : ∀ (l : List Rl) (S : List Int) (K : List Rl), (l.foldl kstep (S, K)).2 = K ++ kk S l
  | [], S, K => by simp [kk]
  | r :: l, S, K => by
    have e : kstep (S, K) r = if keyOf r ∈ S then (S, K) else (S ++ [keyOf r], K ++ [r]) := rfl
    rw [List.foldl_cons, e]
    unfold kk
    by_cases hr : keyOf r ∈ S
    · rw [if_pos hr, if_pos hr]; exact kk_fold l S K
    · rw [if_neg hr, if_neg hr, kk_fold l, kk_same l (S ++ [keyOf r]) (keyOf r :: S) fun k => by simp only [List.mem_append, List.mem_cons, List.not_mem_nil, or_false]; exact Or.comm]
      simp
theorem kk_not : ∀ (l : List Rl) (S : List Int), ∀ x ∈ kk S l, keyOf x ∉ S
  | [], _, _, h => nomatch h
  | r :: l, S, x, h => by
    unfold kk at h
    by_cases hr : keyOf r ∈ S
    · rw [if_pos hr] at h; exact kk_not l S x h
    · rw [if_neg hr] at h
      rcases List.mem_cons.mp h with rfl | h
      · exact hr
      · exact fun z => kk_not l _ x h (.tail _ z)
theorem kk_cons : ∀ (l : List Rl) (S : List Int) (k : Int), kk (k :: S) l = (kk S l).filter fun r => decide (keyOf r ≠ k)
  | [], _, _ => rfl
  | r :: l, S, k => by
    unfold kk
    by_cases hr : keyOf r ∈ S
    · rw [if_pos (.tail _ hr), if_pos hr]; exact kk_cons l S k
    · by_cases hk : keyOf r = k
      · subst hk
        rw [if_pos (.head _), if_neg hr, List.filter_cons, if_neg (by simp)]
        symm
        rw [List.filter_eq_self]
        intro x hx
        exact decide_eq_true (fun z => kk_not l _ x hx (z ▸ .head _))
      · rw [if_neg (by intro z; rcases List.mem_cons.mp z with z | z; exact hk z; exact hr z), if_neg hr, List.filter_cons, if_pos (decide_eq_true hk), ← kk_cons l, kk_same l (keyOf r :: k :: S) (k :: keyOf r :: S) fun x => by simp only [List.mem_cons]; exact or_left_comm]
theorem kept_kk (rs : List Rl) : kept rs = (kk [] rs.reverse).reverse := by
  unfold kept kacc
  rw [kk_fold, List.nil_append]
theorem kept_snoc (rs : List Rl) (r : Rl) : kept (rs ++ [r]) = ((kept rs).filter fun x => decide (keyOf x ≠ keyOf r)) ++ [r] := by
  rw [kept_kk, kept_kk, List.reverse_append]
  show (kk [] (r :: rs.reverse)).reverse = _
  have e : kk [] (r :: rs.reverse) = r :: kk [keyOf r] rs.reverse := by
    conv => lhs; unfold kk
    rw [if_neg (by simp)]
  rw [e, kk_cons, List.reverse_cons, List.filter_reverse]
theorem kept_mem {rs : List Rl} : ∀ r ∈ kept rs, r ∈ rs := by
  have key : ∀ (l : List Rl) (S : List Int), ∀ x ∈ kk S l, x ∈ l := by
    intro l
    induction l with
    | nil => intro S x h; exact nomatch h
    | cons r l ih =>
      intro S x h
      unfold kk at h
      split at h
      · exact .tail _ (ih _ _ h)
      · rcases List.mem_cons.mp h with rfl | h
        · exact .head _
        · exact .tail _ (ih _ _ h)
  intro r h
  rw [kept_kk] at h
  exact List.mem_reverse.mp (key _ _ _ (List.mem_reverse.mp h))

def lname (r : Rl) : List Nat := [if r.a = 0 then 97 else 98, sg r.b]
theorem lower_name {r : Rl} (hr : r.Ok) : Txt.lower (T r.name) = T (lname r) := by
  have ⟨a0, a1, b0, b1, c0, c1, d0, d1, e0, e1, f0, f1⟩ := hr
  unfold Rl.name lname
  have ha : r.a = 0 ∨ r.a = 1 := by omega
  have hf : r.f = 0 ∨ r.f = 1 := by omega
  have hb : r.b = 0 ∨ r.b = 1 ∨ r.b = 2 := by omega
  rcases ha with h | h <;> rcases hf with j | j <;> rcases hb with k | k | k <;> rw [h, j, k] <;> decide +kernel
theorem lname_key {r r' : Rl} (hr : r.Ok) (hr' : r'.Ok) : lname r = lname r' ↔ keyOf r = keyOf r' := by
  have a0 := hr.a0
  have a1 := hr.a1
  have b0 := hr.b0
  have b1 := hr.b1
  have a0' := hr'.a0
  have a1' := hr'.a1
  have b0' := hr'.b0
  have b1' := hr'.b1
  unfold lname keyOf
  have ha : r.a = 0 ∨ r.a = 1 := by omega
  have hb : r.b = 0 ∨ r.b = 1 ∨ r.b = 2 := by omega
  have ha' : r'.a = 0 ∨ r'.a = 1 := by omega
  have hb' : r'.b = 0 ∨ r'.b = 1 ∨ r'.b = 2 := by omega
  rcases ha with h | h <;> rcases ha' with h' | h' <;> rcases hb with k | k | k <;> rcases hb' with k' | k' | k' <;> rw [h, h', k, k'] <;> decide
theorem tab_kept (rs : List Rl) (hok : ∀ r ∈ rs, r.Ok) : tabOf rs = (kept rs).map fun r => (T r.name, T r.deed) := by
  revert hok
  refine rev_ind (P := fun rs => (∀ r ∈ rs, r.Ok) → tabOf rs = (kept rs).map fun r => (T r.name, T r.deed)) (fun _ => rfl) (fun rs r ih hok => ?_) rs
  have hr := hok r (by simp)
  have hrs : ∀ x ∈ rs, x.Ok := fun x hx => hok x (by simp [hx])
  have e : tabOf (rs ++ [r]) = hstep (tabOf rs) r := by unfold tabOf; rw [List.foldl_append]; rfl
  rw [e, ih hrs, kept_snoc, List.map_append]
  unfold hstep hset
  rw [List.filter_map]
  congr 2
  apply List.filter_congr
  intro x hx
  have hx' := hrs x (kept_mem x hx)
  show (Txt.lower (T x.name) != Txt.lower (T r.name)) = _
  rw [lower_name hx', lower_name hr, T_bne]
  by_cases hk : keyOf x = keyOf r
  · have := (lname_key hx' hr).mpr hk
    simp [hk, this]
  · have : ¬ lname x = lname r := fun z => hk ((lname_key hx' hr).mp z)
    simp [hk, this]
end Mine

/-! Law5 -/
namespace Mine
open PySem PySem.W PySem.Calls PyProof.Rows

theorem find_congr {α : Type} {p q : α → Bool} : ∀ {l : List α}, (∀ x ∈ l, p x = q x) → l.find? p = l.find? q
  | [], _ => rfl
  | a :: l, h => by
    rw [List.find?_cons, List.find?_cons, h a (.head _), find_congr fun x hx => h x (.tail _ hx)]
theorem kept_find (rs : List Rl) (k : Int) : (kept rs).find? (fun x => decide (keyOf x = k)) = lk rs k := by
  refine rev_ind (P := fun rs => (kept rs).find? (fun x => decide (keyOf x = k)) = lk rs k) rfl (fun rs r ih => ?_) rs
  rw [kept_snoc, lk_snoc, List.find?_append, List.find?_filter]
  by_cases h : keyOf r = k
  · rw [if_pos h]
    have : (kept rs).find? (fun a => decide (decide (keyOf a ≠ keyOf r) = true ∧ decide (keyOf a = k) = true)) = none := by
      rw [List.find?_eq_none]
      intro x hx z
      simp only [decide_eq_true_eq] at z
      exact z.1 (z.2.trans h.symm)
    rw [this, List.find?_cons]
    simp [h]
  · rw [if_neg h]
    have : (fun a => decide (decide (keyOf a ≠ keyOf r) = true ∧ decide (keyOf a = k) = true)) = fun a => decide (keyOf a = k) := funext fun a => by
      by_cases z : keyOf a = k
      · have : keyOf a ≠ keyOf r := fun q => h (q ▸ z)
        simp [z, Ne.symm h]
      · simp [z]
    rw [this, ih, List.find?_cons]
    simp [h]
def stn (c : Nat) : Int := if c = 97 then 0 else if c = 98 then 1 else 2
def lookOf (rs : List Rl) : Look := fun st s => (lk rs (3 * stn st + dig s)).map fun r => (sg r.c, decide (r.d = 1), stV r.e)
theorem lk_memK {rs : List Rl} {k : Int} {r : Rl} (h : lk rs k = some r) : r ∈ rs ∧ keyOf r = k := by
  unfold lk at h
  have h1 := List.mem_of_find?_eq_some h
  have h2 := List.find?_some h
  exact ⟨List.mem_reverse.mp h1, by simpa using h2⟩
theorem lname_is {r : Rl} (hr : r.Ok) {st s : Nat} (h1 : Stc st) (h2 : Sgn s) : lname r = [low st, s] ↔ keyOf r = 3 * stn (low st) + dig s := by
  have a0 := hr.a0
  have a1 := hr.a1
  have b0 := hr.b0
  have b1 := hr.b1
  unfold lname keyOf
  have ha : r.a = 0 ∨ r.a = 1 := by omega
  have hb : r.b = 0 ∨ r.b = 1 ∨ r.b = 2 := by omega
  rcases ha with h | h <;> rcases hb with k | k | k <;> rcases h1 with rfl | rfl | rfl | rfl <;> rcases h2 with rfl | rfl | rfl <;> rw [h, k] <;> decide
theorem tok_of (rs : List Rl) (hok : ∀ r ∈ rs, r.Ok) (hl : rs.length ≤ 16) : TOk (tabOf rs) (lookOf rs) where
  len := by have := (tab_len rs).1; omega
  keys := (tab_len rs).2
  get := fun st s h1 h2 => by
    have e : hget (tabOf rs) (T [low st, s]) = match lk rs (3 * stn (low st) + dig s) with | some r => .str (T r.deed) | none => .none := by
      unfold hget
      rw [tab_kept rs hok, List.find?_map]
      have : (kept rs).find? ((fun kv : Str × Str => Txt.lower kv.1 == T [low st, s]) ∘ fun r => (T r.name, T r.deed)) = (kept rs).find? (fun x => decide (keyOf x = 3 * stn (low st) + dig s)) := by
        refine find_congr fun x hx => ?_
        have hx' := hok x (kept_mem x hx)
        show (Txt.lower (T x.name) == T [low st, s]) = _
        rw [lower_name hx', T_beq]
        by_cases hk : keyOf x = 3 * stn (low st) + dig s
        · rw [decide_eq_true ((lname_is hx' h1 h2).mpr hk), decide_eq_true hk]
        · rw [decide_eq_false (fun z => hk ((lname_is hx' h1 h2).mp z)), decide_eq_false hk]
      rw [this, kept_find]
      cases lk rs (3 * stn (low st) + dig s) with
      | none => rfl
      | some r => rfl
    rw [e]
    unfold lookOf
    cases hk : lk rs (3 * stn (low st) + dig s) with
    | none => rfl
    | some r =>
      obtain ⟨hm, _⟩ := lk_memK hk
      have hr := hok r hm
      have d0 := hr.d0
      have d1 := hr.d1
      show D.str (T r.deed) = _
      have hd : r.d = 0 ∨ r.d = 1 := by omega
      dsimp only [Option.map]
      unfold Rl.deed arrow ar
      rcases hd with h | h <;> rw [h] <;> rfl
  sgn := fun st s c d z h1 h2 h => by
    unfold lookOf at h
    cases hk : lk rs (3 * stn (low st) + dig s) with
    | none => rw [hk] at h; cases h
    | some r =>
      rw [hk] at h
      obtain ⟨hm, _⟩ := lk_memK hk
      have hr := hok r hm
      have c0 := hr.c0
      have c1 := hr.c1
      have e0 := hr.e0
      have e1 := hr.e1
      simp only [Option.map_some, Option.some.injEq, Prod.mk.injEq] at h
      obtain ⟨rfl, _, rfl⟩ := h
      have hc : r.c = 0 ∨ r.c = 1 ∨ r.c = 2 := by omega
      have he : r.e = 0 ∨ r.e = 1 ∨ r.e = 2 ∨ r.e = 3 := by omega
      refine ⟨?_, ?_⟩
      · rcases hc with h | h | h <;> rw [h] <;> unfold Sgn <;> decide
      · rcases he with h | h | h | h <;> rw [h] <;> unfold Stc <;> decide
end Mine

/-! Law6 -/
namespace Mine
open PySem PySem.W PySem.Calls PyProof.Rows

theorem dig_of {c : Nat} (h : Sgn c) : 0 ≤ dig c ∧ dig c < 3 := by rcases h with rfl | rfl | rfl <;> decide
theorem head_worth {l : List Nat} (h : ∀ c ∈ l, Sgn c) : worth l.reverse = 3 * worth (l.drop 1).reverse + dig (l.headD 111) := by
  cases l with
  | nil => rfl
  | cons a l => rw [List.reverse_cons, worth_snoc]; rfl
theorem last_worth (l : List Nat) : worth l = 3 * worth (l.take (l.length - 1)) + dig (l.getLastD 111) := by
  rcases List.eq_nil_or_concat l with rfl | ⟨l0, x, rfl⟩
  · rfl
  · rw [List.concat_eq_append, worth_snoc]; simp
theorem fmod3 (q d : Int) (h : 0 ≤ d ∧ d < 3) : (3 * q + d).fmod 3 = d ∧ (3 * q + d).fdiv 3 = q := by
  have e1 : (3 * q + d).fmod 3 = (3 * q + d) % 3 := Int.fmod_eq_emod_of_nonneg _ (by decide)
  have e2 : (3 * q + d).fdiv 3 = (3 * q + d) / 3 := Int.fdiv_eq_ediv_of_nonneg _ (by decide)
  rw [e1, e2]
  omega
structure Rel (C : TC) (cf : Cf) : Prop where
  l : cf.l = worth C.left
  r : cf.r = worth C.right.reverse
  st : cf.st = stn (low C.st)
  ok : Stc C.st
  sl : ∀ c ∈ C.left, Sgn c
  sr : ∀ c ∈ C.right, Sgn c
theorem Rel.same {C : TC} {cf : Cf} (h : Rel C cf) : TC.D C = Cf.D cf := by
  unfold TC.D Cf.D
  rw [h.l, h.r, h.st]
  rcases h.ok with e | e | e | e <;> rw [e] <;> rfl
theorem dig_sg {b : Int} (h : 0 ≤ b) (h' : b < 3) : dig (sg b) = b := by
  have : b = 0 ∨ b = 1 ∨ b = 2 := by omega
  rcases this with rfl | rfl | rfl <;> rfl
theorem stn_nxt {e : Int} (h : 0 ≤ e) (h' : e < 4) : nxt e = stn (low (stV e)) := by
  have : e = 0 ∨ e = 1 ∨ e = 2 ∨ e = 3 := by omega
  rcases this with rfl | rfl | rfl | rfl <;> rfl
theorem sgn_sg {b : Int} (h : 0 ≤ b) (h' : b < 3) : Sgn (sg b) := by
  have : b = 0 ∨ b = 1 ∨ b = 2 := by omega
  rcases this with rfl | rfl | rfl <;> unfold Sgn <;> decide
theorem stc_V {e : Int} (h : 0 ≤ e) (h' : e < 4) : Stc (stV e) := by
  have : e = 0 ∨ e = 1 ∨ e = 2 ∨ e = 3 := by omega
  rcases this with rfl | rfl | rfl | rfl <;> unfold Stc <;> decide
theorem talk_numbers (rs : List Rl) (hok : ∀ r ∈ rs, r.Ok) : ∀ (n : Nat) (C : TC) (cf : Cf), Rel C cf → (ttold (lookOf rs) n C).map TC.D = (ntold rs n cf).map Cf.D
  | 0, _, _, _ => rfl
  | n + 1, C, cf, h => by
    have hs := sgn_head h.sr
    have hd := dig_of hs
    have hw := head_worth h.sr
    obtain ⟨m1, m2⟩ := fmod3 (worth (C.right.drop 1).reverse) (dig (C.right.headD 111)) hd
    have hm : cf.r.fmod 3 = dig (C.right.headD 111) := by rw [h.r, hw]; exact m1
    have hl : lookOf rs (low C.st) (C.right.headD 111) = (lk rs (3 * cf.st + cf.r.fmod 3)).map fun r => (sg r.c, decide (r.d = 1), stV r.e) := by
      unfold lookOf; rw [hm, h.st]
    rw [ttold, ntold, List.map_cons, List.map_cons, h.same]
    congr 1
    unfold tnext nstep
    rw [hl]
    cases hk : lk rs (3 * cf.st + cf.r.fmod 3) with
    | none => rfl
    | some r =>
      have hr := hok r (lk_memK hk).1
      have c0 := hr.c0
      have c1 := hr.c1
      have hc := dig_sg c0 c1
      have hr1 : cf.r - cf.r.fmod 3 + r.c = 3 * worth (C.right.drop 1).reverse + r.c := by rw [hm, h.r, hw]; omega
      obtain ⟨k1, k2⟩ := fmod3 (worth (C.right.drop 1).reverse) r.c ⟨c0, c1⟩
      have hlw := last_worth C.left
      dsimp only [Option.map]
      by_cases h1 : r.d = 1
      · have e1 : nnext cf r = ⟨nxt r.e, 3 * cf.l + r.c, worth (C.right.drop 1).reverse⟩ := by unfold nnext; rw [if_pos h1, hr1, k1, k2]
        rw [e1]
        simp only [h1, decide_true]
        refine talk_numbers rs hok n _ _ ⟨?_, rfl, stn_nxt hr.e0 hr.e1, stc_V hr.e0 hr.e1, fun c hcc => ?_, fun c hcc => h.sr c (List.mem_of_mem_drop hcc)⟩
        · show 3 * cf.l + r.c = worth (C.left ++ [sg r.c])
          rw [worth_snoc, hc, h.l]
        · rcases List.mem_append.mp hcc with z | z
          · exact h.sl c z
          · rw [List.mem_singleton.mp z]; exact sgn_sg c0 c1
      · have hlast : Sgn (C.left.getLastD 111) := by
          rcases List.eq_nil_or_concat C.left with z | ⟨l0, x, z⟩
          · rw [z]; exact .inl rfl
          · have hx : x ∈ C.left := by rw [z]; simp
            have : C.left.getLastD 111 = x := by rw [z]; simp
            rw [this]; exact h.sl x hx
        obtain ⟨j1, j2⟩ := fmod3 (worth (C.left.take (C.left.length - 1))) (dig (C.left.getLastD 111)) (dig_of hlast)
        have e1 : nnext cf r = ⟨nxt r.e, worth (C.left.take (C.left.length - 1)), 3 * (3 * worth (C.right.drop 1).reverse + r.c) + dig (C.left.getLastD 111)⟩ := by
          unfold nnext; rw [if_neg h1, hr1, h.l, hlw, j1, j2]
        rw [e1]
        simp only [h1, decide_false]
        refine talk_numbers rs hok n _ _ ⟨rfl, ?_, stn_nxt hr.e0 hr.e1, stc_V hr.e0 hr.e1, fun c hcc => h.sl c (List.mem_of_mem_take hcc), fun c hcc => ?_⟩
        · show _ = worth (C.left.getLastD 111 :: sg r.c :: C.right.drop 1).reverse
          rw [List.reverse_cons, List.reverse_cons, worth_snoc, worth_snoc, hc]
        · rcases List.mem_cons.mp hcc with rfl | hcc
          · exact hlast
          · rcases List.mem_cons.mp hcc with rfl | hcc
            · exact sgn_sg c0 c1
            · exact h.sr c (List.mem_of_mem_drop hcc)
end Mine

/-! Law7 -/
namespace Mine
open PySem PySem.W PySem.Calls PyProof.Rows

theorem strOk_T (l : List Nat) (h : ∀ c ∈ l, c < 1114112) : PyData.strOk (T l) = true := by
  unfold PyData.strOk T
  simpa using h
theorem stU_lt (k : Int) : stU k < 1114112 := by unfold stU; repeat' split
                                                 all_goals decide
theorem stV_lt (k : Int) : stV k < 1114112 := by unfold stV; repeat' split
                                                 all_goals decide
theorem sg_lt (k : Int) : sg k < 1114112 := by unfold sg; repeat' split
                                               all_goals decide
theorem st3_lt (k : Int) : st3 k < 1114112 := by unfold st3; repeat' split
                                                 all_goals decide
theorem arrow_lt (k : Int) : arrow k < 1114112 := by unfold arrow; split <;> decide
theorem pair_ok (r : Rl) : kqdOk 8 (toDat r.pair) = true := by
  have h1 := strOk_T r.name (by intro c hc; simp only [Rl.name, List.mem_cons, List.not_mem_nil, or_false] at hc; rcases hc with rfl | rfl; exact stU_lt _; exact sg_lt _)
  have h2 := strOk_T r.deed (by intro c hc; simp only [Rl.deed, List.mem_cons, List.not_mem_nil, or_false] at hc; rcases hc with rfl | rfl | rfl | rfl; exact sg_lt _; exact arrow_lt _; exact arrow_lt _; exact stV_lt _)
  simp [Rl.pair, toDat, toDats, kqdOk, h1, h2]
theorem cf_ok (c : Cf) : kqdOk 8 (toDat (Cf.D c)) = true := by
  have h1 := strOk_T [st3 c.st] (by intro c hc; simp only [List.mem_cons, List.not_mem_nil, or_false] at hc; rcases hc with rfl; exact st3_lt _)
  simp [Cf.D, toDat, toDats, kqdOk, h1]
theorem kept_ok (rs : List Rl) : ∀ d ∈ (kept rs).map Rl.pair, kqdOk 8 (toDat d) = true := fun d hd => by
  obtain ⟨r, _, rfl⟩ := List.mem_map.mp hd
  exact pair_ok r
theorem told_ok (l : List Cf) : ∀ d ∈ l.map Cf.D, kqdOk 8 (toDat d) = true := fun d hd => by
  obtain ⟨r, _, rfl⟩ := List.mem_map.mp hd
  exact cf_ok r
end Mine

/-! Kdef -/
namespace Mine
open PySem PySem.W PySem.Calls PyProof.Rows

/-! the part of the heap that the walk knows whole, as the top of the text leaves it; the defs' own trees are read off the row -/
noncomputable def kpb : List Stmt := PySem.Challenge.pw_wf0084_01.main.body
noncomputable def kst (l : List Stmt) (i : Nat) : Stmt := l.getD i (.Pass ⟨0, 0, 0, 0⟩)
noncomputable def kbd : Stmt → List Stmt
  | .FunctionDef _ _ b _ _ _ _ _ _ _ => b
  | .ClassDef _ _ _ b _ _ _ _ _ _ _ => b
  | _ => []
noncomputable def kpr : Stmt → Arguments
  | .FunctionDef _ a _ _ _ _ _ _ _ _ => a
  | _ => ⟨[], [], none, [], [], none, []⟩
noncomputable def ksc : Stmt → Scope
  | .FunctionDef _ _ _ _ _ _ s _ _ _ => s
  | .ClassDef _ _ _ _ _ _ s _ _ _ _ => s
  | _ => PySem.Challenge.pw_wf0084_01.main.scope
set_option maxHeartbeats 4000000 in
noncomputable def Kh (P : Params) : Frag :=
  ((nat_lit 2), PySem.Obj.mk PySem.Value.none Option.none (PySem.Data.dict #[PySem.DictEntry.mk (PySem.PyData.keyHash P (PySem.Str.ofString "impo\x72t.loaded._sre")) (PySem.Value.str (PySem.Str.ofString "impo\x72t.loaded._sre") 183) (PySem.Value.bool Bool.true), PySem.DictEntry.mk (PySem.PyData.keyHash P (PySem.Str.ofString "class._frozen_importlib.BuiltinImporter")) (PySem.Value.str (PySem.Str.ofString "class._frozen_importlib.BuiltinImporter") 185) (PySem.Value.ref 14), PySem.DictEntry.mk (PySem.PyData.keyHash P (PySem.Str.ofString "watched.impo\x72t")) (PySem.Value.str (PySem.Str.ofString "watched.impo\x72t") 206) (PySem.Value.ref 18), PySem.DictEntry.mk (PySem.PyData.keyHash P (PySem.Str.ofString "class._frozen_importlib.ModuleSpec")) (PySem.Value.str (PySem.Str.ofString "class._frozen_importlib.ModuleSpec") 216) (PySem.Value.ref 22), PySem.DictEntry.mk (PySem.PyData.keyHash P (PySem.Str.ofString "sys.modules.booked-epoch")) (PySem.Value.str (PySem.Str.ofString "sys.modules.booked-epoch") 245) (PySem.Value.int 3 0), PySem.DictEntry.mk (PySem.PyData.keyHash P (PySem.Str.ofString "impo\x72t.later-laid._sre")) (PySem.Value.str (PySem.Str.ofString "impo\x72t.later-laid._sre") 270) (PySem.Value.bool Bool.true), PySem.DictEntry.mk (PySem.PyData.keyHash P (PySem.Str.ofString "watched.library")) (PySem.Value.str (PySem.Str.ofString "watched.library") 272) (PySem.Value.ref 27), PySem.DictEntry.mk (PySem.PyData.keyHash P (PySem.Str.ofString "watched.library-objects")) (PySem.Value.str (PySem.Str.ofString "watched.library-objects") 0) (PySem.Value.str (PySem.Str.ofString "\x0c") 0), PySem.DictEntry.mk (PySem.PyData.keyHash P (PySem.Str.ofString "watched.library-deep._sre")) (PySem.Value.str (PySem.Str.ofString "watched.library-deep._sre") 273) (PySem.Value.str (PySem.Str.ofString "\x04\x00\x00\x0b\x04\x00\x00\x0b\x04\x00\x00\x03\x04\x00\x00\x0b\x08\x04dict\x02") 0), PySem.DictEntry.mk (PySem.PyData.keyHash P (PySem.Str.ofString "type.__subclasses__.Exception.0")) (PySem.Value.str (PySem.Str.ofString "type.__subclasses__.Exception.0") 307) (PySem.Value.int 48 0), PySem.DictEntry.mk (PySem.PyData.keyHash P (PySem.Str.ofString "type.__subclasses__.Exception.n")) (PySem.Value.str (PySem.Str.ofString "type.__subclasses__.Exception.n") 308) (PySem.Value.int 1 0)] 11) #[]) ::
  ((nat_lit 3), PySem.Obj.mk (PySem.Value.type "dict") Option.none (PySem.Data.dict #[PySem.DictEntry.mk (PySem.PyData.keyHash P (PySem.Str.ofString "__name__")) (PySem.Value.str (PySem.Str.ofString "__name__") 165) (PySem.Value.str (PySem.Str.ofString "law_wf0084_01") 769), PySem.DictEntry.mk (PySem.PyData.keyHash P (PySem.Str.ofString "__doc__")) (PySem.Value.str (PySem.Str.ofString "__doc__") 166) PySem.Value.none, PySem.DictEntry.mk (PySem.PyData.keyHash P (PySem.Str.ofString "__package__")) (PySem.Value.str (PySem.Str.ofString "__package__") 167) PySem.Value.none, PySem.DictEntry.mk (PySem.PyData.keyHash P (PySem.Str.ofString "__loader__")) (PySem.Value.str (PySem.Str.ofString "__loader__") 168) (PySem.Value.builtin "__main__.__loader__#opaque"), PySem.DictEntry.mk (PySem.PyData.keyHash P (PySem.Str.ofString "__spec__")) (PySem.Value.str (PySem.Str.ofString "__spec__") 169) PySem.Value.none, PySem.DictEntry.mk (PySem.PyData.keyHash P (PySem.Str.ofString "__annotations__")) (PySem.Value.str (PySem.Str.ofString "__annotations__") 170) (PySem.Value.ref 6), PySem.DictEntry.mk (PySem.PyData.keyHash P (PySem.Str.ofString "__builtins__")) (PySem.Value.str (PySem.Str.ofString "__builtins__") 171) (PySem.Value.ref 4), PySem.DictEntry.mk (PySem.PyData.keyHash P (PySem.Str.ofString "__file__")) (PySem.Value.str (PySem.Str.ofString "__file__") 173) (PySem.Value.str (PySem.Str.ofString "/claim/cut.py") 172), PySem.DictEntry.mk (PySem.PyData.keyHash P (PySem.Str.ofString "__cached__")) (PySem.Value.str (PySem.Str.ofString "__cached__") 174) PySem.Value.none, PySem.DictEntry.mk (PySem.PyData.keyHash P (PySem.Str.ofString "_sre")) (PySem.Value.str (PySem.Str.ofString "_sre") 275) (PySem.Value.ref 12), PySem.DictEntry.mk (PySem.PyData.keyHash P (PySem.Str.ofString "_wall")) (PySem.Value.str (PySem.Str.ofString "_wall") 288) (PySem.Value.ref 38), PySem.DictEntry.mk (PySem.PyData.keyHash P (PySem.Str.ofString "Error")) (PySem.Value.str (PySem.Str.ofString "Error") 310) (PySem.Value.ref 48), PySem.DictEntry.mk (PySem.PyData.keyHash P (PySem.Str.ofString "error_reply")) (PySem.Value.str (PySem.Str.ofString "error_reply") 326) (PySem.Value.ref 61), PySem.DictEntry.mk (PySem.PyData.keyHash P (PySem.Str.ofString "parse257")) (PySem.Value.str (PySem.Str.ofString "parse257") 337) (PySem.Value.ref 70), PySem.DictEntry.mk (PySem.PyData.keyHash P (PySem.Str.ofString "ENDMARKER")) (PySem.Value.str (PySem.Str.ofString "ENDMARKER") 341) (PySem.Value.int 0 340), PySem.DictEntry.mk (PySem.PyData.keyHash P (PySem.Str.ofString "LPAR")) (PySem.Value.str (PySem.Str.ofString "LPAR") 343) (PySem.Value.int 7 342), PySem.DictEntry.mk (PySem.PyData.keyHash P (PySem.Str.ofString "RPAR")) (PySem.Value.str (PySem.Str.ofString "RPAR") 345) (PySem.Value.int 8 344), PySem.DictEntry.mk (PySem.PyData.keyHash P (PySem.Str.ofString "LSQB")) (PySem.Value.str (PySem.Str.ofString "LSQB") 347) (PySem.Value.int 9 346), PySem.DictEntry.mk (PySem.PyData.keyHash P (PySem.Str.ofString "RSQB")) (PySem.Value.str (PySem.Str.ofString "RSQB") 349) (PySem.Value.int 10 348), PySem.DictEntry.mk (PySem.PyData.keyHash P (PySem.Str.ofString "COLON")) (PySem.Value.str (PySem.Str.ofString "COLON") 351) (PySem.Value.int 11 350), PySem.DictEntry.mk (PySem.PyData.keyHash P (PySem.Str.ofString "COMMA")) (PySem.Value.str (PySem.Str.ofString "COMMA") 353) (PySem.Value.int 12 352), PySem.DictEntry.mk (PySem.PyData.keyHash P (PySem.Str.ofString "SEMI")) (PySem.Value.str (PySem.Str.ofString "SEMI") 355) (PySem.Value.int 13 354), PySem.DictEntry.mk (PySem.PyData.keyHash P (PySem.Str.ofString "PLUS")) (PySem.Value.str (PySem.Str.ofString "PLUS") 357) (PySem.Value.int 14 356), PySem.DictEntry.mk (PySem.PyData.keyHash P (PySem.Str.ofString "MINUS")) (PySem.Value.str (PySem.Str.ofString "MINUS") 359) (PySem.Value.int 15 358), PySem.DictEntry.mk (PySem.PyData.keyHash P (PySem.Str.ofString "STAR")) (PySem.Value.str (PySem.Str.ofString "STAR") 361) (PySem.Value.int 16 360), PySem.DictEntry.mk (PySem.PyData.keyHash P (PySem.Str.ofString "SLASH")) (PySem.Value.str (PySem.Str.ofString "SLASH") 363) (PySem.Value.int 17 362), PySem.DictEntry.mk (PySem.PyData.keyHash P (PySem.Str.ofString "VBAR")) (PySem.Value.str (PySem.Str.ofString "VBAR") 365) (PySem.Value.int 18 364), PySem.DictEntry.mk (PySem.PyData.keyHash P (PySem.Str.ofString "AMPER")) (PySem.Value.str (PySem.Str.ofString "AMPER") 367) (PySem.Value.int 19 366), PySem.DictEntry.mk (PySem.PyData.keyHash P (PySem.Str.ofString "LESS")) (PySem.Value.str (PySem.Str.ofString "LESS") 369) (PySem.Value.int 20 368), PySem.DictEntry.mk (PySem.PyData.keyHash P (PySem.Str.ofString "GREATER")) (PySem.Value.str (PySem.Str.ofString "GREATER") 371) (PySem.Value.int 21 370), PySem.DictEntry.mk (PySem.PyData.keyHash P (PySem.Str.ofString "EQUAL")) (PySem.Value.str (PySem.Str.ofString "EQUAL") 373) (PySem.Value.int 22 372), PySem.DictEntry.mk (PySem.PyData.keyHash P (PySem.Str.ofString "DOT")) (PySem.Value.str (PySem.Str.ofString "DOT") 375) (PySem.Value.int 23 374), PySem.DictEntry.mk (PySem.PyData.keyHash P (PySem.Str.ofString "PERCENT")) (PySem.Value.str (PySem.Str.ofString "PERCENT") 377) (PySem.Value.int 24 376), PySem.DictEntry.mk (PySem.PyData.keyHash P (PySem.Str.ofString "LBRACE")) (PySem.Value.str (PySem.Str.ofString "LBRACE") 379) (PySem.Value.int 25 378), PySem.DictEntry.mk (PySem.PyData.keyHash P (PySem.Str.ofString "RBRACE")) (PySem.Value.str (PySem.Str.ofString "RBRACE") 381) (PySem.Value.int 26 380), PySem.DictEntry.mk (PySem.PyData.keyHash P (PySem.Str.ofString "EQEQUAL")) (PySem.Value.str (PySem.Str.ofString "EQEQUAL") 383) (PySem.Value.int 27 382), PySem.DictEntry.mk (PySem.PyData.keyHash P (PySem.Str.ofString "NOTEQUAL")) (PySem.Value.str (PySem.Str.ofString "NOTEQUAL") 385) (PySem.Value.int 28 384), PySem.DictEntry.mk (PySem.PyData.keyHash P (PySem.Str.ofString "LESSEQUAL")) (PySem.Value.str (PySem.Str.ofString "LESSEQUAL") 387) (PySem.Value.int 29 386), PySem.DictEntry.mk (PySem.PyData.keyHash P (PySem.Str.ofString "GREATEREQUAL")) (PySem.Value.str (PySem.Str.ofString "GREATEREQUAL") 389) (PySem.Value.int 30 388), PySem.DictEntry.mk (PySem.PyData.keyHash P (PySem.Str.ofString "TILDE")) (PySem.Value.str (PySem.Str.ofString "TILDE") 391) (PySem.Value.int 31 390), PySem.DictEntry.mk (PySem.PyData.keyHash P (PySem.Str.ofString "CIRCUMFLEX")) (PySem.Value.str (PySem.Str.ofString "CIRCUMFLEX") 393) (PySem.Value.int 32 392), PySem.DictEntry.mk (PySem.PyData.keyHash P (PySem.Str.ofString "LEFTSHIFT")) (PySem.Value.str (PySem.Str.ofString "LEFTSHIFT") 395) (PySem.Value.int 33 394), PySem.DictEntry.mk (PySem.PyData.keyHash P (PySem.Str.ofString "RIGHTSHIFT")) (PySem.Value.str (PySem.Str.ofString "RIGHTSHIFT") 397) (PySem.Value.int 34 396), PySem.DictEntry.mk (PySem.PyData.keyHash P (PySem.Str.ofString "DOUBLESTAR")) (PySem.Value.str (PySem.Str.ofString "DOUBLESTAR") 399) (PySem.Value.int 35 398), PySem.DictEntry.mk (PySem.PyData.keyHash P (PySem.Str.ofString "PLUSEQUAL")) (PySem.Value.str (PySem.Str.ofString "PLUSEQUAL") 401) (PySem.Value.int 36 400), PySem.DictEntry.mk (PySem.PyData.keyHash P (PySem.Str.ofString "MINEQUAL")) (PySem.Value.str (PySem.Str.ofString "MINEQUAL") 403) (PySem.Value.int 37 402), PySem.DictEntry.mk (PySem.PyData.keyHash P (PySem.Str.ofString "STAREQUAL")) (PySem.Value.str (PySem.Str.ofString "STAREQUAL") 405) (PySem.Value.int 38 404), PySem.DictEntry.mk (PySem.PyData.keyHash P (PySem.Str.ofString "SLASHEQUAL")) (PySem.Value.str (PySem.Str.ofString "SLASHEQUAL") 407) (PySem.Value.int 39 406), PySem.DictEntry.mk (PySem.PyData.keyHash P (PySem.Str.ofString "PERCENTEQUAL")) (PySem.Value.str (PySem.Str.ofString "PERCENTEQUAL") 409) (PySem.Value.int 40 408), PySem.DictEntry.mk (PySem.PyData.keyHash P (PySem.Str.ofString "AMPEREQUAL")) (PySem.Value.str (PySem.Str.ofString "AMPEREQUAL") 411) (PySem.Value.int 41 410), PySem.DictEntry.mk (PySem.PyData.keyHash P (PySem.Str.ofString "VBAREQUAL")) (PySem.Value.str (PySem.Str.ofString "VBAREQUAL") 413) (PySem.Value.int 42 412), PySem.DictEntry.mk (PySem.PyData.keyHash P (PySem.Str.ofString "CIRCUMFLEXEQUAL")) (PySem.Value.str (PySem.Str.ofString "CIRCUMFLEXEQUAL") 415) (PySem.Value.int 43 414), PySem.DictEntry.mk (PySem.PyData.keyHash P (PySem.Str.ofString "LEFTSHIFTEQUAL")) (PySem.Value.str (PySem.Str.ofString "LEFTSHIFTEQUAL") 417) (PySem.Value.int 44 416), PySem.DictEntry.mk (PySem.PyData.keyHash P (PySem.Str.ofString "RIGHTSHIFTEQUAL")) (PySem.Value.str (PySem.Str.ofString "RIGHTSHIFTEQUAL") 419) (PySem.Value.int 45 418), PySem.DictEntry.mk (PySem.PyData.keyHash P (PySem.Str.ofString "DOUBLESTAREQUAL")) (PySem.Value.str (PySem.Str.ofString "DOUBLESTAREQUAL") 421) (PySem.Value.int 46 420), PySem.DictEntry.mk (PySem.PyData.keyHash P (PySem.Str.ofString "DOUBLESLASH")) (PySem.Value.str (PySem.Str.ofString "DOUBLESLASH") 423) (PySem.Value.int 47 422), PySem.DictEntry.mk (PySem.PyData.keyHash P (PySem.Str.ofString "DOUBLESLASHEQUAL")) (PySem.Value.str (PySem.Str.ofString "DOUBLESLASHEQUAL") 425) (PySem.Value.int 48 424), PySem.DictEntry.mk (PySem.PyData.keyHash P (PySem.Str.ofString "AT")) (PySem.Value.str (PySem.Str.ofString "AT") 427) (PySem.Value.int 49 426), PySem.DictEntry.mk (PySem.PyData.keyHash P (PySem.Str.ofString "ATEQUAL")) (PySem.Value.str (PySem.Str.ofString "ATEQUAL") 429) (PySem.Value.int 50 428), PySem.DictEntry.mk (PySem.PyData.keyHash P (PySem.Str.ofString "RARROW")) (PySem.Value.str (PySem.Str.ofString "RARROW") 431) (PySem.Value.int 51 430), PySem.DictEntry.mk (PySem.PyData.keyHash P (PySem.Str.ofString "ELLIPSIS")) (PySem.Value.str (PySem.Str.ofString "ELLIPSIS") 433) (PySem.Value.int 52 432), PySem.DictEntry.mk (PySem.PyData.keyHash P (PySem.Str.ofString "COLONEQUAL")) (PySem.Value.str (PySem.Str.ofString "COLONEQUAL") 435) (PySem.Value.int 53 434), PySem.DictEntry.mk (PySem.PyData.keyHash P (PySem.Str.ofString "EXCLAMATION")) (PySem.Value.str (PySem.Str.ofString "EXCLAMATION") 437) (PySem.Value.int 54 436), PySem.DictEntry.mk (PySem.PyData.keyHash P (PySem.Str.ofString "NT_OFFSET")) (PySem.Value.str (PySem.Str.ofString "NT_OFFSET") 439) (PySem.Value.int 256 438), PySem.DictEntry.mk (PySem.PyData.keyHash P (PySem.Str.ofString "EXACT_TOKEN_TYPES")) (PySem.Value.str (PySem.Str.ofString "EXACT_TOKEN_TYPES") 536) (PySem.Value.ref 71), PySem.DictEntry.mk (PySem.PyData.keyHash P (PySem.Str.ofString "ISNONTERMINAL")) (PySem.Value.str (PySem.Str.ofString "ISNONTERMINAL") 543) (PySem.Value.ref 80), PySem.DictEntry.mk (PySem.PyData.keyHash P (PySem.Str.ofString "ISEOF")) (PySem.Value.str (PySem.Str.ofString "ISEOF") 550) (PySem.Value.ref 87), PySem.DictEntry.mk (PySem.PyData.keyHash P (PySem.Str.ofString "_name_disallowed_re")) (PySem.Value.str (PySem.Str.ofString "_name_disallowed_re") 578) (PySem.Value.ref 92), PySem.DictEntry.mk (PySem.PyData.keyHash P (PySem.Str.ofString "_value_disallowed_re")) (PySem.Value.str (PySem.Str.ofString "_value_disallowed_re") 612) (PySem.Value.ref 97), PySem.DictEntry.mk (PySem.PyData.keyHash P (PySem.Str.ofString "Headers")) (PySem.Value.str (PySem.Str.ofString "Headers") 768) (PySem.Value.ref 220), PySem.DictEntry.mk (PySem.PyData.keyHash P (PySem.Str.ofString "_law_rules")) (PySem.Value.str (PySem.Str.ofString "_law_rules") 780) (PySem.Value.ref 231), PySem.DictEntry.mk (PySem.PyData.keyHash P (PySem.Str.ofString "_law_tape")) (PySem.Value.str (PySem.Str.ofString "_law_tape") 791) (PySem.Value.ref 238), PySem.DictEntry.mk (PySem.PyData.keyHash P (PySem.Str.ofString "_law_written")) (PySem.Value.str (PySem.Str.ofString "_law_written") 800) (PySem.Value.ref 245), PySem.DictEntry.mk (PySem.PyData.keyHash P (PySem.Str.ofString "_law_cut")) (PySem.Value.str (PySem.Str.ofString "_law_cut") 811) (PySem.Value.ref 252), PySem.DictEntry.mk (PySem.PyData.keyHash P (PySem.Str.ofString "_law_read")) (PySem.Value.str (PySem.Str.ofString "_law_read") 822) (PySem.Value.ref 259), PySem.DictEntry.mk (PySem.PyData.keyHash P (PySem.Str.ofString "_law_kept")) (PySem.Value.str (PySem.Str.ofString "_law_kept") 832) (PySem.Value.ref 266), PySem.DictEntry.mk (PySem.PyData.keyHash P (PySem.Str.ofString "_law_worth")) (PySem.Value.str (PySem.Str.ofString "_law_worth") 841) (PySem.Value.ref 273), PySem.DictEntry.mk (PySem.PyData.keyHash P (PySem.Str.ofString "_law_talk")) (PySem.Value.str (PySem.Str.ofString "_law_talk") 855) (PySem.Value.ref 280), PySem.DictEntry.mk (PySem.PyData.keyHash P (PySem.Str.ofString "_law_numbers")) (PySem.Value.str (PySem.Str.ofString "_law_numbers") 869) (PySem.Value.ref 287), PySem.DictEntry.mk (PySem.PyData.keyHash P (PySem.Str.ofString "law")) (PySem.Value.str (PySem.Str.ofString "law") 875) (PySem.Value.ref 292)] 80) #[]) ::
  ((nat_lit 32), PySem.Obj.mk (PySem.Value.type "tuple") Option.none (PySem.Data.seq #[]) #[]) ::
  ((nat_lit 34), PySem.Obj.mk (PySem.Value.type "tuple") Option.none (PySem.Data.seq #[PySem.Value.str (PySem.Str.ofString "k") 285]) #[]) ::
  ((nat_lit 35), PySem.Obj.mk (PySem.Value.type "tuple") Option.none (PySem.Data.seq #[]) #[]) ::
  ((nat_lit 37), PySem.Obj.mk (PySem.Value.type "code") Option.none (PySem.Data.fields #[PySem.Value.str (PySem.Str.ofString "_wall") 282, PySem.Value.str (PySem.Str.ofString "_wall") 283, PySem.Value.str (PySem.Str.ofString "/claim/cut.py") 284, PySem.Value.int 2 0, PySem.Value.int 1 0, PySem.Value.int 0 0, PySem.Value.int 0 0, PySem.Value.int 3 0, PySem.Value.ref 32, PySem.Value.bool Bool.true, PySem.Value.int 276 0, PySem.Value.ref 33, PySem.Value.none, PySem.Value.ref 34, PySem.Value.ref 35, PySem.Value.ref 36, PySem.Value.int 286 0, PySem.Value.int 2 0, PySem.Value.str (PySem.Str.ofString "/claim/cut.py") 287]) #[]) ::
  ((nat_lit 38), PySem.Obj.mk (PySem.Value.type "function") Option.none (PySem.Data.func (PySem.FuncData.mk (PySem.Str.ofString "_wall") (PySem.Str.ofString "_wall") (kpr (kst kpb 1)) (PySem.FuncBody.stmts (kbd (kst kpb 1))) (ksc (kst kpb 1)) 3 [] PySem.Value.none PySem.Value.none PySem.Value.none (PySem.Value.str (PySem.Str.ofString "__main__") 164) Option.none (PySem.Value.ref 37) PySem.Value.none 0)) #[]) ::
  ((nat_lit 39), PySem.Obj.mk (PySem.Value.type "tuple") Option.none (PySem.Data.seq #[PySem.Value.type "Exception"]) #[]) ::
  ((nat_lit 46), PySem.Obj.mk (PySem.Value.type "tuple") Option.none (PySem.Data.seq #[]) #[]) ::
  ((nat_lit 47), PySem.Obj.mk (PySem.Value.type "dict") Option.none (PySem.Data.dict #[PySem.DictEntry.mk (PySem.PyData.keyHash P (PySem.Str.ofString "__module__")) (PySem.Value.str (PySem.Str.ofString "__module__") 298) (PySem.Value.str (PySem.Str.ofString "cpy313.ftplib") 289), PySem.DictEntry.mk (PySem.PyData.keyHash P (PySem.Str.ofString "__firstlineno__")) (PySem.Value.str (PySem.Str.ofString "__firstlineno__") 302) (PySem.Value.int 6 301), PySem.DictEntry.mk (PySem.PyData.keyHash P (PySem.Str.ofString "__static_attributes__")) (PySem.Value.str (PySem.Str.ofString "__static_attributes__") 303) (PySem.Value.ref 46), PySem.DictEntry.mk (PySem.PyData.keyHash P (PySem.Str.ofString "__weakref__")) (PySem.Value.str (PySem.Str.ofString "__weakref__") 305) (PySem.Value.ref 49), PySem.DictEntry.mk (PySem.PyData.keyHash P (PySem.Str.ofString "__doc__")) (PySem.Value.str (PySem.Str.ofString "__doc__") 306) PySem.Value.none] 3) #[]) ::
  ((nat_lit 48), PySem.Obj.mk (PySem.Value.type "type") Option.none (PySem.Data.cls (PySem.ClassData.mk (PySem.Str.ofString "Error") [PySem.Value.type "Exception"] [PySem.Value.ref 48, PySem.Value.type "Exception", PySem.Value.type "BaseException", PySem.Value.type "object"] 47 (PySem.Str.ofString "Error") Bool.true [] [PySem.Value.ref 61] Bool.false Option.none Bool.false)) #[Option.some (PySem.Value.ref 39), Option.none, Option.some (PySem.Value.str (PySem.Str.ofString "Error") 291), Option.some (PySem.Value.str (PySem.Str.ofString "Error") 299), Option.some (PySem.Value.builtin "Exception.__new__"), Option.some (PySem.Value.bool Bool.true)]) ::
  ((nat_lit 49), PySem.Obj.mk (PySem.Value.type "getset_descriptor") Option.none (PySem.Data.fields #[PySem.Value.str (PySem.Str.ofString "__weakref__") 304, PySem.Value.ref 48, PySem.Value.builtin "ExceptionGroup.__weakref__", PySem.Value.none]) #[]) ::
  ((nat_lit 52), PySem.Obj.mk (PySem.Value.type "tuple") Option.none (PySem.Data.seq #[PySem.Value.ref 48]) #[]) ::
  ((nat_lit 59), PySem.Obj.mk (PySem.Value.type "tuple") Option.none (PySem.Data.seq #[]) #[]) ::
  ((nat_lit 60), PySem.Obj.mk (PySem.Value.type "dict") Option.none (PySem.Data.dict #[PySem.DictEntry.mk (PySem.PyData.keyHash P (PySem.Str.ofString "__module__")) (PySem.Value.str (PySem.Str.ofString "__module__") 318) (PySem.Value.str (PySem.Str.ofString "cpy313.ftplib") 289), PySem.DictEntry.mk (PySem.PyData.keyHash P (PySem.Str.ofString "__firstlineno__")) (PySem.Value.str (PySem.Str.ofString "__firstlineno__") 322) (PySem.Value.int 8 321), PySem.DictEntry.mk (PySem.PyData.keyHash P (PySem.Str.ofString "__static_attributes__")) (PySem.Value.str (PySem.Str.ofString "__static_attributes__") 323) (PySem.Value.ref 59), PySem.DictEntry.mk (PySem.PyData.keyHash P (PySem.Str.ofString "__doc__")) (PySem.Value.str (PySem.Str.ofString "__doc__") 324) PySem.Value.none] 2) #[]) ::
  ((nat_lit 61), PySem.Obj.mk (PySem.Value.type "type") Option.none (PySem.Data.cls (PySem.ClassData.mk (PySem.Str.ofString "error_reply") [PySem.Value.ref 48] [PySem.Value.ref 61, PySem.Value.ref 48, PySem.Value.type "Exception", PySem.Value.type "BaseException", PySem.Value.type "object"] 60 (PySem.Str.ofString "error_reply") Bool.true [] [] Bool.false Option.none Bool.false)) #[Option.some (PySem.Value.ref 52), Option.none, Option.some (PySem.Value.str (PySem.Str.ofString "error_reply") 311), Option.some (PySem.Value.str (PySem.Str.ofString "error_reply") 319), Option.some (PySem.Value.builtin "Exception.__new__"), Option.some (PySem.Value.bool Bool.true)]) ::
  ((nat_lit 64), PySem.Obj.mk (PySem.Value.type "tuple") Option.none (PySem.Data.seq #[]) #[]) ::
  ((nat_lit 66), PySem.Obj.mk (PySem.Value.type "tuple") Option.none (PySem.Data.seq #[PySem.Value.str (PySem.Str.ofString "resp") 330, PySem.Value.str (PySem.Str.ofString "dirname") 331, PySem.Value.str (PySem.Str.ofString "i") 332, PySem.Value.str (PySem.Str.ofString "n") 333, PySem.Value.str (PySem.Str.ofString "c") 334]) #[]) ::
  ((nat_lit 67), PySem.Obj.mk (PySem.Value.type "tuple") Option.none (PySem.Data.seq #[]) #[]) ::
  ((nat_lit 69), PySem.Obj.mk (PySem.Value.type "code") Option.none (PySem.Data.fields #[PySem.Value.str (PySem.Str.ofString "parse257") 327, PySem.Value.str (PySem.Str.ofString "parse257") 328, PySem.Value.str (PySem.Str.ofString "/claim/cut.py") 329, PySem.Value.int 10 0, PySem.Value.int 1 0, PySem.Value.int 0 0, PySem.Value.int 0 0, PySem.Value.int 3 0, PySem.Value.ref 64, PySem.Value.bool Bool.true, PySem.Value.int 276 0, PySem.Value.ref 65, PySem.Value.none, PySem.Value.ref 66, PySem.Value.ref 67, PySem.Value.ref 68, PySem.Value.int 335 0, PySem.Value.int 10 0, PySem.Value.str (PySem.Str.ofString "/claim/cut.py") 336]) #[]) ::
  ((nat_lit 70), PySem.Obj.mk (PySem.Value.type "function") Option.none (PySem.Data.func (PySem.FuncData.mk (PySem.Str.ofString "parse257") (PySem.Str.ofString "parse257") (kpr (kst kpb 5)) (PySem.FuncBody.stmts (kbd (kst kpb 5))) (ksc (kst kpb 5)) 3 [] PySem.Value.none PySem.Value.none PySem.Value.none (PySem.Value.str (PySem.Str.ofString "cpy313.ftplib") 289) Option.none (PySem.Value.ref 69) PySem.Value.none 0)) #[]) ::
  ((nat_lit 71), PySem.Obj.mk (PySem.Value.type "dict") Option.none (PySem.Data.dict #[PySem.DictEntry.mk (PySem.PyData.keyHash P (PySem.Str.ofString "!")) (PySem.Value.str (PySem.Str.ofString "!") 440) (PySem.Value.int 54 436), PySem.DictEntry.mk (PySem.PyData.keyHash P (PySem.Str.ofString "!=")) (PySem.Value.str (PySem.Str.ofString "!=") 442) (PySem.Value.int 28 384), PySem.DictEntry.mk (PySem.PyData.keyHash P (PySem.Str.ofString "%")) (PySem.Value.str (PySem.Str.ofString "%") 444) (PySem.Value.int 24 376), PySem.DictEntry.mk (PySem.PyData.keyHash P (PySem.Str.ofString "%=")) (PySem.Value.str (PySem.Str.ofString "%=") 446) (PySem.Value.int 40 408), PySem.DictEntry.mk (PySem.PyData.keyHash P (PySem.Str.ofString "&")) (PySem.Value.str (PySem.Str.ofString "&") 448) (PySem.Value.int 19 366), PySem.DictEntry.mk (PySem.PyData.keyHash P (PySem.Str.ofString "&=")) (PySem.Value.str (PySem.Str.ofString "&=") 450) (PySem.Value.int 41 410), PySem.DictEntry.mk (PySem.PyData.keyHash P (PySem.Str.ofString "(")) (PySem.Value.str (PySem.Str.ofString "(") 452) (PySem.Value.int 7 342), PySem.DictEntry.mk (PySem.PyData.keyHash P (PySem.Str.ofString ")")) (PySem.Value.str (PySem.Str.ofString ")") 454) (PySem.Value.int 8 344), PySem.DictEntry.mk (PySem.PyData.keyHash P (PySem.Str.ofString "*")) (PySem.Value.str (PySem.Str.ofString "*") 456) (PySem.Value.int 16 360), PySem.DictEntry.mk (PySem.PyData.keyHash P (PySem.Str.ofString "**")) (PySem.Value.str (PySem.Str.ofString "**") 458) (PySem.Value.int 35 398), PySem.DictEntry.mk (PySem.PyData.keyHash P (PySem.Str.ofString "**=")) (PySem.Value.str (PySem.Str.ofString "**=") 460) (PySem.Value.int 46 420), PySem.DictEntry.mk (PySem.PyData.keyHash P (PySem.Str.ofString "*=")) (PySem.Value.str (PySem.Str.ofString "*=") 462) (PySem.Value.int 38 404), PySem.DictEntry.mk (PySem.PyData.keyHash P (PySem.Str.ofString "+")) (PySem.Value.str (PySem.Str.ofString "+") 464) (PySem.Value.int 14 356), PySem.DictEntry.mk (PySem.PyData.keyHash P (PySem.Str.ofString "+=")) (PySem.Value.str (PySem.Str.ofString "+=") 466) (PySem.Value.int 36 400), PySem.DictEntry.mk (PySem.PyData.keyHash P (PySem.Str.ofString ",")) (PySem.Value.str (PySem.Str.ofString ",") 468) (PySem.Value.int 12 352), PySem.DictEntry.mk (PySem.PyData.keyHash P (PySem.Str.ofString "-")) (PySem.Value.str (PySem.Str.ofString "-") 470) (PySem.Value.int 15 358), PySem.DictEntry.mk (PySem.PyData.keyHash P (PySem.Str.ofString "-=")) (PySem.Value.str (PySem.Str.ofString "-=") 472) (PySem.Value.int 37 402), PySem.DictEntry.mk (PySem.PyData.keyHash P (PySem.Str.ofString "->")) (PySem.Value.str (PySem.Str.ofString "->") 474) (PySem.Value.int 51 430), PySem.DictEntry.mk (PySem.PyData.keyHash P (PySem.Str.ofString ".")) (PySem.Value.str (PySem.Str.ofString ".") 476) (PySem.Value.int 23 374), PySem.DictEntry.mk (PySem.PyData.keyHash P (PySem.Str.ofString "...")) (PySem.Value.str (PySem.Str.ofString "...") 478) (PySem.Value.int 52 432), PySem.DictEntry.mk (PySem.PyData.keyHash P (PySem.Str.ofString "/")) (PySem.Value.str (PySem.Str.ofString "/") 480) (PySem.Value.int 17 362), PySem.DictEntry.mk (PySem.PyData.keyHash P (PySem.Str.ofString "//")) (PySem.Value.str (PySem.Str.ofString "//") 482) (PySem.Value.int 47 422), PySem.DictEntry.mk (PySem.PyData.keyHash P (PySem.Str.ofString "//=")) (PySem.Value.str (PySem.Str.ofString "//=") 484) (PySem.Value.int 48 424), PySem.DictEntry.mk (PySem.PyData.keyHash P (PySem.Str.ofString "/=")) (PySem.Value.str (PySem.Str.ofString "/=") 486) (PySem.Value.int 39 406), PySem.DictEntry.mk (PySem.PyData.keyHash P (PySem.Str.ofString ":")) (PySem.Value.str (PySem.Str.ofString ":") 488) (PySem.Value.int 11 350), PySem.DictEntry.mk (PySem.PyData.keyHash P (PySem.Str.ofString ":=")) (PySem.Value.str (PySem.Str.ofString ":=") 490) (PySem.Value.int 53 434), PySem.DictEntry.mk (PySem.PyData.keyHash P (PySem.Str.ofString ";")) (PySem.Value.str (PySem.Str.ofString ";") 492) (PySem.Value.int 13 354), PySem.DictEntry.mk (PySem.PyData.keyHash P (PySem.Str.ofString "<")) (PySem.Value.str (PySem.Str.ofString "<") 494) (PySem.Value.int 20 368), PySem.DictEntry.mk (PySem.PyData.keyHash P (PySem.Str.ofString "<<")) (PySem.Value.str (PySem.Str.ofString "<<") 496) (PySem.Value.int 33 394), PySem.DictEntry.mk (PySem.PyData.keyHash P (PySem.Str.ofString "<<=")) (PySem.Value.str (PySem.Str.ofString "<<=") 498) (PySem.Value.int 44 416), PySem.DictEntry.mk (PySem.PyData.keyHash P (PySem.Str.ofString "<=")) (PySem.Value.str (PySem.Str.ofString "<=") 500) (PySem.Value.int 29 386), PySem.DictEntry.mk (PySem.PyData.keyHash P (PySem.Str.ofString "=")) (PySem.Value.str (PySem.Str.ofString "=") 502) (PySem.Value.int 22 372), PySem.DictEntry.mk (PySem.PyData.keyHash P (PySem.Str.ofString "==")) (PySem.Value.str (PySem.Str.ofString "==") 504) (PySem.Value.int 27 382), PySem.DictEntry.mk (PySem.PyData.keyHash P (PySem.Str.ofString ">")) (PySem.Value.str (PySem.Str.ofString ">") 506) (PySem.Value.int 21 370), PySem.DictEntry.mk (PySem.PyData.keyHash P (PySem.Str.ofString ">=")) (PySem.Value.str (PySem.Str.ofString ">=") 508) (PySem.Value.int 30 388), PySem.DictEntry.mk (PySem.PyData.keyHash P (PySem.Str.ofString ">>")) (PySem.Value.str (PySem.Str.ofString ">>") 509) (PySem.Value.int 34 396), PySem.DictEntry.mk (PySem.PyData.keyHash P (PySem.Str.ofString ">>=")) (PySem.Value.str (PySem.Str.ofString ">>=") 510) (PySem.Value.int 45 418), PySem.DictEntry.mk (PySem.PyData.keyHash P (PySem.Str.ofString "@")) (PySem.Value.str (PySem.Str.ofString "@") 511) (PySem.Value.int 49 426), PySem.DictEntry.mk (PySem.PyData.keyHash P (PySem.Str.ofString "@=")) (PySem.Value.str (PySem.Str.ofString "@=") 512) (PySem.Value.int 50 428), PySem.DictEntry.mk (PySem.PyData.keyHash P (PySem.Str.ofString "[")) (PySem.Value.str (PySem.Str.ofString "[") 513) (PySem.Value.int 9 346), PySem.DictEntry.mk (PySem.PyData.keyHash P (PySem.Str.ofString "]")) (PySem.Value.str (PySem.Str.ofString "]") 514) (PySem.Value.int 10 348), PySem.DictEntry.mk (PySem.PyData.keyHash P (PySem.Str.ofString "^")) (PySem.Value.str (PySem.Str.ofString "^") 515) (PySem.Value.int 32 392), PySem.DictEntry.mk (PySem.PyData.keyHash P (PySem.Str.ofString "^=")) (PySem.Value.str (PySem.Str.ofString "^=") 516) (PySem.Value.int 43 414), PySem.DictEntry.mk (PySem.PyData.keyHash P (PySem.Str.ofString "{")) (PySem.Value.str (PySem.Str.ofString "{") 517) (PySem.Value.int 25 378), PySem.DictEntry.mk (PySem.PyData.keyHash P (PySem.Str.ofString "|")) (PySem.Value.str (PySem.Str.ofString "|") 518) (PySem.Value.int 18 364), PySem.DictEntry.mk (PySem.PyData.keyHash P (PySem.Str.ofString "|=")) (PySem.Value.str (PySem.Str.ofString "|=") 519) (PySem.Value.int 42 412), PySem.DictEntry.mk (PySem.PyData.keyHash P (PySem.Str.ofString "}")) (PySem.Value.str (PySem.Str.ofString "}") 520) (PySem.Value.int 26 380), PySem.DictEntry.mk (PySem.PyData.keyHash P (PySem.Str.ofString "~")) (PySem.Value.str (PySem.Str.ofString "~") 521) (PySem.Value.int 31 390)] 48) #[]) ::
  ((nat_lit 74), PySem.Obj.mk (PySem.Value.type "tuple") Option.none (PySem.Data.seq #[]) #[]) ::
  ((nat_lit 76), PySem.Obj.mk (PySem.Value.type "tuple") Option.none (PySem.Data.seq #[PySem.Value.str (PySem.Str.ofString "x") 540]) #[]) ::
  ((nat_lit 77), PySem.Obj.mk (PySem.Value.type "tuple") Option.none (PySem.Data.seq #[]) #[]) ::
  ((nat_lit 79), PySem.Obj.mk (PySem.Value.type "code") Option.none (PySem.Data.fields #[PySem.Value.str (PySem.Str.ofString "ISNONTERMINAL") 537, PySem.Value.str (PySem.Str.ofString "ISNONTERMINAL") 538, PySem.Value.str (PySem.Str.ofString "/claim/cut.py") 539, PySem.Value.int 79 0, PySem.Value.int 1 0, PySem.Value.int 0 0, PySem.Value.int 0 0, PySem.Value.int 3 0, PySem.Value.ref 74, PySem.Value.bool Bool.true, PySem.Value.int 276 0, PySem.Value.ref 75, PySem.Value.none, PySem.Value.ref 76, PySem.Value.ref 77, PySem.Value.ref 78, PySem.Value.int 541 0, PySem.Value.int 79 0, PySem.Value.str (PySem.Str.ofString "/claim/cut.py") 542]) #[]) ::
  ((nat_lit 80), PySem.Obj.mk (PySem.Value.type "function") Option.none (PySem.Data.func (PySem.FuncData.mk (PySem.Str.ofString "ISNONTERMINAL") (PySem.Str.ofString "ISNONTERMINAL") (kpr (kst kpb 58)) (PySem.FuncBody.stmts (kbd (kst kpb 58))) (ksc (kst kpb 58)) 3 [] PySem.Value.none PySem.Value.none PySem.Value.none (PySem.Value.str (PySem.Str.ofString "cpy313.token") 338) Option.none (PySem.Value.ref 79) PySem.Value.none 0)) #[]) ::
  ((nat_lit 81), PySem.Obj.mk (PySem.Value.type "tuple") Option.none (PySem.Data.seq #[]) #[]) ::
  ((nat_lit 83), PySem.Obj.mk (PySem.Value.type "tuple") Option.none (PySem.Data.seq #[PySem.Value.str (PySem.Str.ofString "x") 547]) #[]) ::
  ((nat_lit 84), PySem.Obj.mk (PySem.Value.type "tuple") Option.none (PySem.Data.seq #[]) #[]) ::
  ((nat_lit 86), PySem.Obj.mk (PySem.Value.type "code") Option.none (PySem.Data.fields #[PySem.Value.str (PySem.Str.ofString "ISEOF") 544, PySem.Value.str (PySem.Str.ofString "ISEOF") 545, PySem.Value.str (PySem.Str.ofString "/claim/cut.py") 546, PySem.Value.int 81 0, PySem.Value.int 1 0, PySem.Value.int 0 0, PySem.Value.int 0 0, PySem.Value.int 3 0, PySem.Value.ref 81, PySem.Value.bool Bool.true, PySem.Value.int 276 0, PySem.Value.ref 82, PySem.Value.none, PySem.Value.ref 83, PySem.Value.ref 84, PySem.Value.ref 85, PySem.Value.int 548 0, PySem.Value.int 81 0, PySem.Value.str (PySem.Str.ofString "/claim/cut.py") 549]) #[]) ::
  ((nat_lit 87), PySem.Obj.mk (PySem.Value.type "function") Option.none (PySem.Data.func (PySem.FuncData.mk (PySem.Str.ofString "ISEOF") (PySem.Str.ofString "ISEOF") (kpr (kst kpb 59)) (PySem.FuncBody.stmts (kbd (kst kpb 59))) (ksc (kst kpb 59)) 3 [] PySem.Value.none PySem.Value.none PySem.Value.none (PySem.Value.str (PySem.Str.ofString "cpy313.token") 338) Option.none (PySem.Value.ref 86) PySem.Value.none 0)) #[]) ::
  ((nat_lit 91), PySem.Obj.mk (PySem.Value.type "tuple") Option.none (PySem.Data.seq #[PySem.Value.int 14 0, PySem.Value.int 10 0, PySem.Value.int 4 0, PySem.Value.int 1 0, PySem.Value.int 1 0, PySem.Value.int 22 0, PySem.Value.int 0 0, PySem.Value.int 31 0, PySem.Value.int 16 0, PySem.Value.int 127 0, PySem.Value.int 0 0, PySem.Value.int 13 0, PySem.Value.int 7 0, PySem.Value.int 22 0, PySem.Value.int 0 0, PySem.Value.int 31 0, PySem.Value.int 16 0, PySem.Value.int 127 0, PySem.Value.int 0 0, PySem.Value.int 1 0]) #[]) ::
  ((nat_lit 92), PySem.Obj.mk (PySem.Value.type "re.Pattern") Option.none (PySem.Data.fields #[PySem.Value.str (PySem.Str.ofString "[\\x00-\\x1F\\x7F]") 554, PySem.Value.int 32 577, PySem.Value.int 0 0, PySem.Value.none, PySem.Value.none, PySem.Value.ref 91, PySem.Value.int 0 0]) #[]) ::
  ((nat_lit 96), PySem.Obj.mk (PySem.Value.type "tuple") Option.none (PySem.Data.seq #[PySem.Value.int 14 0, PySem.Value.int 14 0, PySem.Value.int 4 0, PySem.Value.int 1 0, PySem.Value.int 1 0, PySem.Value.int 9 0, PySem.Value.int 4294966783 0, PySem.Value.int 0 0, PySem.Value.int 0 0, PySem.Value.int 2147483648 0, PySem.Value.int 0 0, PySem.Value.int 0 0, PySem.Value.int 0 0, PySem.Value.int 0 0, PySem.Value.int 0 0, PySem.Value.int 13 0, PySem.Value.int 11 0, PySem.Value.int 9 0, PySem.Value.int 4294966783 0, PySem.Value.int 0 0, PySem.Value.int 0 0, PySem.Value.int 2147483648 0, PySem.Value.int 0 0, PySem.Value.int 0 0, PySem.Value.int 0 0, PySem.Value.int 0 0, PySem.Value.int 0 0, PySem.Value.int 1 0]) #[]) ::
  ((nat_lit 97), PySem.Obj.mk (PySem.Value.type "re.Pattern") Option.none (PySem.Data.fields #[PySem.Value.str (PySem.Str.ofString "[\\x00-\\x08\\x0A-\\x1F\\x7F]") 580, PySem.Value.int 32 611, PySem.Value.int 0 0, PySem.Value.none, PySem.Value.none, PySem.Value.ref 96, PySem.Value.int 0 0]) #[]) ::
  ((nat_lit 105), PySem.Obj.mk (PySem.Value.type "tuple") Option.none (PySem.Data.seq #[PySem.Value.none]) #[]) ::
  ((nat_lit 106), PySem.Obj.mk (PySem.Value.type "tuple") Option.none (PySem.Data.seq #[]) #[]) ::
  ((nat_lit 108), PySem.Obj.mk (PySem.Value.type "tuple") Option.none (PySem.Data.seq #[PySem.Value.str (PySem.Str.ofString "self") 628, PySem.Value.str (PySem.Str.ofString "headers") 629, PySem.Value.str (PySem.Str.ofString "k") 630, PySem.Value.str (PySem.Str.ofString "v") 631]) #[]) ::
  ((nat_lit 109), PySem.Obj.mk (PySem.Value.type "tuple") Option.none (PySem.Data.seq #[]) #[]) ::
  ((nat_lit 111), PySem.Obj.mk (PySem.Value.type "code") Option.none (PySem.Data.fields #[PySem.Value.str (PySem.Str.ofString "__init__") 625, PySem.Value.str (PySem.Str.ofString "Headers.__init__") 626, PySem.Value.str (PySem.Str.ofString "/claim/cut.py") 627, PySem.Value.int 88 0, PySem.Value.int 2 0, PySem.Value.int 0 0, PySem.Value.int 0 0, PySem.Value.int 3 0, PySem.Value.ref 106, PySem.Value.bool Bool.true, PySem.Value.int 276 0, PySem.Value.ref 107, PySem.Value.none, PySem.Value.ref 108, PySem.Value.ref 109, PySem.Value.ref 110, PySem.Value.int 632 0, PySem.Value.int 88 0, PySem.Value.str (PySem.Str.ofString "/claim/cut.py") 633]) #[]) ::
  ((nat_lit 112), PySem.Obj.mk (PySem.Value.type "function") Option.none (PySem.Data.func (PySem.FuncData.mk (PySem.Str.ofString "__init__") (PySem.Str.ofString "Headers.__init__") (kpr (kst (kbd (kst kpb 63)) 0)) (PySem.FuncBody.stmts (kbd (kst (kbd (kst kpb 63)) 0))) (ksc (kst (kbd (kst kpb 63)) 0)) 3 [] (PySem.Value.ref 105) PySem.Value.none PySem.Value.none (PySem.Value.str (PySem.Str.ofString "cpy313.wsgiref.headers") 551) Option.none (PySem.Value.ref 111) PySem.Value.none 0)) #[]) ::
  ((nat_lit 113), PySem.Obj.mk (PySem.Value.type "tuple") Option.none (PySem.Data.seq #[]) #[]) ::
  ((nat_lit 115), PySem.Obj.mk (PySem.Value.type "tuple") Option.none (PySem.Data.seq #[PySem.Value.str (PySem.Str.ofString "self") 638, PySem.Value.str (PySem.Str.ofString "value") 639, PySem.Value.str (PySem.Str.ofString "name") 640, PySem.Value.str (PySem.Str.ofString "regex") 641]) #[]) ::
  ((nat_lit 116), PySem.Obj.mk (PySem.Value.type "tuple") Option.none (PySem.Data.seq #[]) #[]) ::
  ((nat_lit 118), PySem.Obj.mk (PySem.Value.type "code") Option.none (PySem.Data.fields #[PySem.Value.str (PySem.Str.ofString "_convert_string_type") 635, PySem.Value.str (PySem.Str.ofString "Headers._convert_string_type") 636, PySem.Value.str (PySem.Str.ofString "/claim/cut.py") 637, PySem.Value.int 98 0, PySem.Value.int 2 0, PySem.Value.int 0 0, PySem.Value.int 1 0, PySem.Value.int 3 0, PySem.Value.ref 113, PySem.Value.bool Bool.true, PySem.Value.int 276 0, PySem.Value.ref 114, PySem.Value.none, PySem.Value.ref 115, PySem.Value.ref 116, PySem.Value.ref 117, PySem.Value.int 642 0, PySem.Value.int 98 0, PySem.Value.str (PySem.Str.ofString "/claim/cut.py") 643]) #[]) ::
  ((nat_lit 119), PySem.Obj.mk (PySem.Value.type "function") Option.none (PySem.Data.func (PySem.FuncData.mk (PySem.Str.ofString "_convert_string_type") (PySem.Str.ofString "Headers._convert_string_type") (kpr (kst (kbd (kst kpb 63)) 1)) (PySem.FuncBody.stmts (kbd (kst (kbd (kst kpb 63)) 1))) (ksc (kst (kbd (kst kpb 63)) 1)) 3 [] PySem.Value.none PySem.Value.none PySem.Value.none (PySem.Value.str (PySem.Str.ofString "cpy313.wsgiref.headers") 551) Option.none (PySem.Value.ref 118) PySem.Value.none 0)) #[]) ::
  ((nat_lit 120), PySem.Obj.mk (PySem.Value.type "tuple") Option.none (PySem.Data.seq #[]) #[]) ::
  ((nat_lit 122), PySem.Obj.mk (PySem.Value.type "tuple") Option.none (PySem.Data.seq #[PySem.Value.str (PySem.Str.ofString "self") 648]) #[]) ::
  ((nat_lit 123), PySem.Obj.mk (PySem.Value.type "tuple") Option.none (PySem.Data.seq #[]) #[]) ::
  ((nat_lit 125), PySem.Obj.mk (PySem.Value.type "code") Option.none (PySem.Data.fields #[PySem.Value.str (PySem.Str.ofString "__len__") 645, PySem.Value.str (PySem.Str.ofString "Headers.__len__") 646, PySem.Value.str (PySem.Str.ofString "/claim/cut.py") 647, PySem.Value.int 106 0, PySem.Value.int 1 0, PySem.Value.int 0 0, PySem.Value.int 0 0, PySem.Value.int 3 0, PySem.Value.ref 120, PySem.Value.bool Bool.true, PySem.Value.int 276 0, PySem.Value.ref 121, PySem.Value.none, PySem.Value.ref 122, PySem.Value.ref 123, PySem.Value.ref 124, PySem.Value.int 649 0, PySem.Value.int 106 0, PySem.Value.str (PySem.Str.ofString "/claim/cut.py") 650]) #[]) ::
  ((nat_lit 126), PySem.Obj.mk (PySem.Value.type "function") Option.none (PySem.Data.func (PySem.FuncData.mk (PySem.Str.ofString "__len__") (PySem.Str.ofString "Headers.__len__") (kpr (kst (kbd (kst kpb 63)) 2)) (PySem.FuncBody.stmts (kbd (kst (kbd (kst kpb 63)) 2))) (ksc (kst (kbd (kst kpb 63)) 2)) 3 [] PySem.Value.none PySem.Value.none PySem.Value.none (PySem.Value.str (PySem.Str.ofString "cpy313.wsgiref.headers") 551) Option.none (PySem.Value.ref 125) PySem.Value.none 0)) #[]) ::
  ((nat_lit 127), PySem.Obj.mk (PySem.Value.type "tuple") Option.none (PySem.Data.seq #[]) #[]) ::
  ((nat_lit 129), PySem.Obj.mk (PySem.Value.type "tuple") Option.none (PySem.Data.seq #[PySem.Value.str (PySem.Str.ofString "self") 655, PySem.Value.str (PySem.Str.ofString "name") 656, PySem.Value.str (PySem.Str.ofString "val") 657]) #[]) ::
  ((nat_lit 130), PySem.Obj.mk (PySem.Value.type "tuple") Option.none (PySem.Data.seq #[]) #[]) ::
  ((nat_lit 132), PySem.Obj.mk (PySem.Value.type "code") Option.none (PySem.Data.fields #[PySem.Value.str (PySem.Str.ofString "__setitem__") 652, PySem.Value.str (PySem.Str.ofString "Headers.__setitem__") 653, PySem.Value.str (PySem.Str.ofString "/claim/cut.py") 654, PySem.Value.int 109 0, PySem.Value.int 3 0, PySem.Value.int 0 0, PySem.Value.int 0 0, PySem.Value.int 3 0, PySem.Value.ref 127, PySem.Value.bool Bool.true, PySem.Value.int 276 0, PySem.Value.ref 128, PySem.Value.none, PySem.Value.ref 129, PySem.Value.ref 130, PySem.Value.ref 131, PySem.Value.int 658 0, PySem.Value.int 109 0, PySem.Value.str (PySem.Str.ofString "/claim/cut.py") 659]) #[]) ::
  ((nat_lit 133), PySem.Obj.mk (PySem.Value.type "function") Option.none (PySem.Data.func (PySem.FuncData.mk (PySem.Str.ofString "__setitem__") (PySem.Str.ofString "Headers.__setitem__") (kpr (kst (kbd (kst kpb 63)) 3)) (PySem.FuncBody.stmts (kbd (kst (kbd (kst kpb 63)) 3))) (ksc (kst (kbd (kst kpb 63)) 3)) 3 [] PySem.Value.none PySem.Value.none PySem.Value.none (PySem.Value.str (PySem.Str.ofString "cpy313.wsgiref.headers") 551) Option.none (PySem.Value.ref 132) PySem.Value.none 0)) #[]) ::
  ((nat_lit 134), PySem.Obj.mk (PySem.Value.type "tuple") Option.none (PySem.Data.seq #[]) #[]) ::
  ((nat_lit 137), PySem.Obj.mk (PySem.Value.type "code") Option.none (PySem.Data.fields #[PySem.Value.str (PySem.Str.ofString "__delitem__") 661, PySem.Value.str (PySem.Str.ofString "Headers.__delitem__") 662, PySem.Value.str (PySem.Str.ofString "/claim/cut.py") 663, PySem.Value.int 113 0, PySem.Value.int 2 0, PySem.Value.int 0 0, PySem.Value.int 0 0, PySem.Value.int 3 0, PySem.Value.ref 134, PySem.Value.bool Bool.true, PySem.Value.int 276 0, PySem.Value.ref 135, PySem.Value.none, PySem.Value.none, PySem.Value.none, PySem.Value.ref 136, PySem.Value.int 664 0, PySem.Value.int 113 0, PySem.Value.str (PySem.Str.ofString "/claim/cut.py") 665]) #[]) ::
  ((nat_lit 138), PySem.Obj.mk (PySem.Value.type "function") Option.none (PySem.Data.func (PySem.FuncData.mk (PySem.Str.ofString "__delitem__") (PySem.Str.ofString "Headers.__delitem__") (kpr (kst (kbd (kst kpb 63)) 4)) (PySem.FuncBody.stmts (kbd (kst (kbd (kst kpb 63)) 4))) (ksc (kst (kbd (kst kpb 63)) 4)) 3 [] PySem.Value.none PySem.Value.none PySem.Value.none (PySem.Value.str (PySem.Str.ofString "cpy313.wsgiref.headers") 551) Option.none (PySem.Value.ref 137) PySem.Value.none 0)) #[]) ::
  ((nat_lit 139), PySem.Obj.mk (PySem.Value.type "tuple") Option.none (PySem.Data.seq #[]) #[]) ::
  ((nat_lit 141), PySem.Obj.mk (PySem.Value.type "tuple") Option.none (PySem.Data.seq #[PySem.Value.str (PySem.Str.ofString "self") 670, PySem.Value.str (PySem.Str.ofString "name") 671]) #[]) ::
  ((nat_lit 142), PySem.Obj.mk (PySem.Value.type "tuple") Option.none (PySem.Data.seq #[]) #[]) ::
  ((nat_lit 144), PySem.Obj.mk (PySem.Value.type "code") Option.none (PySem.Data.fields #[PySem.Value.str (PySem.Str.ofString "__getitem__") 667, PySem.Value.str (PySem.Str.ofString "Headers.__getitem__") 668, PySem.Value.str (PySem.Str.ofString "/claim/cut.py") 669, PySem.Value.int 117 0, PySem.Value.int 2 0, PySem.Value.int 0 0, PySem.Value.int 0 0, PySem.Value.int 3 0, PySem.Value.ref 139, PySem.Value.bool Bool.true, PySem.Value.int 276 0, PySem.Value.ref 140, PySem.Value.none, PySem.Value.ref 141, PySem.Value.ref 142, PySem.Value.ref 143, PySem.Value.int 672 0, PySem.Value.int 117 0, PySem.Value.str (PySem.Str.ofString "/claim/cut.py") 673]) #[]) ::
  ((nat_lit 145), PySem.Obj.mk (PySem.Value.type "function") Option.none (PySem.Data.func (PySem.FuncData.mk (PySem.Str.ofString "__getitem__") (PySem.Str.ofString "Headers.__getitem__") (kpr (kst (kbd (kst kpb 63)) 5)) (PySem.FuncBody.stmts (kbd (kst (kbd (kst kpb 63)) 5))) (ksc (kst (kbd (kst kpb 63)) 5)) 3 [] PySem.Value.none PySem.Value.none PySem.Value.none (PySem.Value.str (PySem.Str.ofString "cpy313.wsgiref.headers") 551) Option.none (PySem.Value.ref 144) PySem.Value.none 0)) #[]) ::
  ((nat_lit 146), PySem.Obj.mk (PySem.Value.type "tuple") Option.none (PySem.Data.seq #[]) #[]) ::
  ((nat_lit 148), PySem.Obj.mk (PySem.Value.type "tuple") Option.none (PySem.Data.seq #[PySem.Value.str (PySem.Str.ofString "self") 678, PySem.Value.str (PySem.Str.ofString "name") 679]) #[]) ::
  ((nat_lit 149), PySem.Obj.mk (PySem.Value.type "tuple") Option.none (PySem.Data.seq #[]) #[]) ::
  ((nat_lit 151), PySem.Obj.mk (PySem.Value.type "code") Option.none (PySem.Data.fields #[PySem.Value.str (PySem.Str.ofString "__contains__") 675, PySem.Value.str (PySem.Str.ofString "Headers.__contains__") 676, PySem.Value.str (PySem.Str.ofString "/claim/cut.py") 677, PySem.Value.int 120 0, PySem.Value.int 2 0, PySem.Value.int 0 0, PySem.Value.int 0 0, PySem.Value.int 3 0, PySem.Value.ref 146, PySem.Value.bool Bool.true, PySem.Value.int 276 0, PySem.Value.ref 147, PySem.Value.none, PySem.Value.ref 148, PySem.Value.ref 149, PySem.Value.ref 150, PySem.Value.int 680 0, PySem.Value.int 120 0, PySem.Value.str (PySem.Str.ofString "/claim/cut.py") 681]) #[]) ::
  ((nat_lit 152), PySem.Obj.mk (PySem.Value.type "function") Option.none (PySem.Data.func (PySem.FuncData.mk (PySem.Str.ofString "__contains__") (PySem.Str.ofString "Headers.__contains__") (kpr (kst (kbd (kst kpb 63)) 6)) (PySem.FuncBody.stmts (kbd (kst (kbd (kst kpb 63)) 6))) (ksc (kst (kbd (kst kpb 63)) 5)) 3 [] PySem.Value.none PySem.Value.none PySem.Value.none (PySem.Value.str (PySem.Str.ofString "cpy313.wsgiref.headers") 551) Option.none (PySem.Value.ref 151) PySem.Value.none 0)) #[]) ::
  ((nat_lit 153), PySem.Obj.mk (PySem.Value.type "tuple") Option.none (PySem.Data.seq #[]) #[]) ::
  ((nat_lit 155), PySem.Obj.mk (PySem.Value.type "tuple") Option.none (PySem.Data.seq #[PySem.Value.str (PySem.Str.ofString "self") 686, PySem.Value.str (PySem.Str.ofString "name") 687]) #[]) ::
  ((nat_lit 156), PySem.Obj.mk (PySem.Value.type "tuple") Option.none (PySem.Data.seq #[]) #[]) ::
  ((nat_lit 158), PySem.Obj.mk (PySem.Value.type "code") Option.none (PySem.Data.fields #[PySem.Value.str (PySem.Str.ofString "get_all") 683, PySem.Value.str (PySem.Str.ofString "Headers.get_all") 684, PySem.Value.str (PySem.Str.ofString "/claim/cut.py") 685, PySem.Value.int 123 0, PySem.Value.int 2 0, PySem.Value.int 0 0, PySem.Value.int 0 0, PySem.Value.int 3 0, PySem.Value.ref 153, PySem.Value.bool Bool.true, PySem.Value.int 276 0, PySem.Value.ref 154, PySem.Value.none, PySem.Value.ref 155, PySem.Value.ref 156, PySem.Value.ref 157, PySem.Value.int 688 0, PySem.Value.int 123 0, PySem.Value.str (PySem.Str.ofString "/claim/cut.py") 689]) #[]) ::
  ((nat_lit 159), PySem.Obj.mk (PySem.Value.type "function") Option.none (PySem.Data.func (PySem.FuncData.mk (PySem.Str.ofString "get_all") (PySem.Str.ofString "Headers.get_all") (kpr (kst (kbd (kst kpb 63)) 7)) (PySem.FuncBody.stmts (kbd (kst (kbd (kst kpb 63)) 7))) (ksc (kst (kbd (kst kpb 63)) 7)) 3 [] PySem.Value.none PySem.Value.none PySem.Value.none (PySem.Value.str (PySem.Str.ofString "cpy313.wsgiref.headers") 551) Option.none (PySem.Value.ref 158) PySem.Value.none 0)) #[]) ::
  ((nat_lit 160), PySem.Obj.mk (PySem.Value.type "tuple") Option.none (PySem.Data.seq #[PySem.Value.none]) #[]) ::
  ((nat_lit 161), PySem.Obj.mk (PySem.Value.type "tuple") Option.none (PySem.Data.seq #[]) #[]) ::
  ((nat_lit 163), PySem.Obj.mk (PySem.Value.type "tuple") Option.none (PySem.Data.seq #[PySem.Value.str (PySem.Str.ofString "self") 694, PySem.Value.str (PySem.Str.ofString "name") 695, PySem.Value.str (PySem.Str.ofString "default") 696, PySem.Value.str (PySem.Str.ofString "k") 697, PySem.Value.str (PySem.Str.ofString "v") 698]) #[]) ::
  ((nat_lit 164), PySem.Obj.mk (PySem.Value.type "tuple") Option.none (PySem.Data.seq #[]) #[]) ::
  ((nat_lit 166), PySem.Obj.mk (PySem.Value.type "code") Option.none (PySem.Data.fields #[PySem.Value.str (PySem.Str.ofString "get") 691, PySem.Value.str (PySem.Str.ofString "Headers.get") 692, PySem.Value.str (PySem.Str.ofString "/claim/cut.py") 693, PySem.Value.int 126 0, PySem.Value.int 3 0, PySem.Value.int 0 0, PySem.Value.int 0 0, PySem.Value.int 3 0, PySem.Value.ref 161, PySem.Value.bool Bool.true, PySem.Value.int 276 0, PySem.Value.ref 162, PySem.Value.none, PySem.Value.ref 163, PySem.Value.ref 164, PySem.Value.ref 165, PySem.Value.int 699 0, PySem.Value.int 126 0, PySem.Value.str (PySem.Str.ofString "/claim/cut.py") 700]) #[]) ::
  ((nat_lit 167), PySem.Obj.mk (PySem.Value.type "function") Option.none (PySem.Data.func (PySem.FuncData.mk (PySem.Str.ofString "get") (PySem.Str.ofString "Headers.get") (kpr (kst (kbd (kst kpb 63)) 8)) (PySem.FuncBody.stmts (kbd (kst (kbd (kst kpb 63)) 8))) (ksc (kst (kbd (kst kpb 63)) 8)) 3 [] (PySem.Value.ref 160) PySem.Value.none PySem.Value.none (PySem.Value.str (PySem.Str.ofString "cpy313.wsgiref.headers") 551) Option.none (PySem.Value.ref 166) PySem.Value.none 0)) #[]) ::
  ((nat_lit 168), PySem.Obj.mk (PySem.Value.type "tuple") Option.none (PySem.Data.seq #[]) #[]) ::
  ((nat_lit 171), PySem.Obj.mk (PySem.Value.type "code") Option.none (PySem.Data.fields #[PySem.Value.str (PySem.Str.ofString "keys") 702, PySem.Value.str (PySem.Str.ofString "Headers.keys") 703, PySem.Value.str (PySem.Str.ofString "/claim/cut.py") 704, PySem.Value.int 133 0, PySem.Value.int 1 0, PySem.Value.int 0 0, PySem.Value.int 0 0, PySem.Value.int 3 0, PySem.Value.ref 168, PySem.Value.bool Bool.true, PySem.Value.int 276 0, PySem.Value.ref 169, PySem.Value.none, PySem.Value.none, PySem.Value.none, PySem.Value.ref 170, PySem.Value.int 705 0, PySem.Value.int 133 0, PySem.Value.str (PySem.Str.ofString "/claim/cut.py") 706]) #[]) ::
  ((nat_lit 172), PySem.Obj.mk (PySem.Value.type "function") Option.none (PySem.Data.func (PySem.FuncData.mk (PySem.Str.ofString "keys") (PySem.Str.ofString "Headers.keys") (kpr (kst (kbd (kst kpb 63)) 9)) (PySem.FuncBody.stmts (kbd (kst (kbd (kst kpb 63)) 9))) (ksc (kst (kbd (kst kpb 63)) 9)) 3 [] PySem.Value.none PySem.Value.none PySem.Value.none (PySem.Value.str (PySem.Str.ofString "cpy313.wsgiref.headers") 551) Option.none (PySem.Value.ref 171) PySem.Value.none 0)) #[]) ::
  ((nat_lit 173), PySem.Obj.mk (PySem.Value.type "tuple") Option.none (PySem.Data.seq #[]) #[]) ::
  ((nat_lit 176), PySem.Obj.mk (PySem.Value.type "code") Option.none (PySem.Data.fields #[PySem.Value.str (PySem.Str.ofString "values") 708, PySem.Value.str (PySem.Str.ofString "Headers.values") 709, PySem.Value.str (PySem.Str.ofString "/claim/cut.py") 710, PySem.Value.int 136 0, PySem.Value.int 1 0, PySem.Value.int 0 0, PySem.Value.int 0 0, PySem.Value.int 3 0, PySem.Value.ref 173, PySem.Value.bool Bool.true, PySem.Value.int 276 0, PySem.Value.ref 174, PySem.Value.none, PySem.Value.none, PySem.Value.none, PySem.Value.ref 175, PySem.Value.int 711 0, PySem.Value.int 136 0, PySem.Value.str (PySem.Str.ofString "/claim/cut.py") 712]) #[]) ::
  ((nat_lit 177), PySem.Obj.mk (PySem.Value.type "function") Option.none (PySem.Data.func (PySem.FuncData.mk (PySem.Str.ofString "values") (PySem.Str.ofString "Headers.values") (kpr (kst (kbd (kst kpb 63)) 10)) (PySem.FuncBody.stmts (kbd (kst (kbd (kst kpb 63)) 10))) (ksc (kst (kbd (kst kpb 63)) 9)) 3 [] PySem.Value.none PySem.Value.none PySem.Value.none (PySem.Value.str (PySem.Str.ofString "cpy313.wsgiref.headers") 551) Option.none (PySem.Value.ref 176) PySem.Value.none 0)) #[]) ::
  ((nat_lit 178), PySem.Obj.mk (PySem.Value.type "tuple") Option.none (PySem.Data.seq #[]) #[]) ::
  ((nat_lit 180), PySem.Obj.mk (PySem.Value.type "tuple") Option.none (PySem.Data.seq #[PySem.Value.str (PySem.Str.ofString "self") 717]) #[]) ::
  ((nat_lit 181), PySem.Obj.mk (PySem.Value.type "tuple") Option.none (PySem.Data.seq #[]) #[]) ::
  ((nat_lit 183), PySem.Obj.mk (PySem.Value.type "code") Option.none (PySem.Data.fields #[PySem.Value.str (PySem.Str.ofString "items") 714, PySem.Value.str (PySem.Str.ofString "Headers.items") 715, PySem.Value.str (PySem.Str.ofString "/claim/cut.py") 716, PySem.Value.int 139 0, PySem.Value.int 1 0, PySem.Value.int 0 0, PySem.Value.int 0 0, PySem.Value.int 3 0, PySem.Value.ref 178, PySem.Value.bool Bool.true, PySem.Value.int 276 0, PySem.Value.ref 179, PySem.Value.none, PySem.Value.ref 180, PySem.Value.ref 181, PySem.Value.ref 182, PySem.Value.int 718 0, PySem.Value.int 139 0, PySem.Value.str (PySem.Str.ofString "/claim/cut.py") 719]) #[]) ::
  ((nat_lit 184), PySem.Obj.mk (PySem.Value.type "function") Option.none (PySem.Data.func (PySem.FuncData.mk (PySem.Str.ofString "items") (PySem.Str.ofString "Headers.items") (kpr (kst (kbd (kst kpb 63)) 11)) (PySem.FuncBody.stmts (kbd (kst (kbd (kst kpb 63)) 11))) (ksc (kst (kbd (kst kpb 63)) 11)) 3 [] PySem.Value.none PySem.Value.none PySem.Value.none (PySem.Value.str (PySem.Str.ofString "cpy313.wsgiref.headers") 551) Option.none (PySem.Value.ref 183) PySem.Value.none 0)) #[]) ::
  ((nat_lit 185), PySem.Obj.mk (PySem.Value.type "tuple") Option.none (PySem.Data.seq #[]) #[]) ::
  ((nat_lit 187), PySem.Obj.mk (PySem.Value.type "tuple") Option.none (PySem.Data.seq #[PySem.Value.str (PySem.Str.ofString "self") 724]) #[]) ::
  ((nat_lit 188), PySem.Obj.mk (PySem.Value.type "tuple") Option.none (PySem.Data.seq #[]) #[]) ::
  ((nat_lit 190), PySem.Obj.mk (PySem.Value.type "code") Option.none (PySem.Data.fields #[PySem.Value.str (PySem.Str.ofString "__repr__") 721, PySem.Value.str (PySem.Str.ofString "Headers.__repr__") 722, PySem.Value.str (PySem.Str.ofString "/claim/cut.py") 723, PySem.Value.int 142 0, PySem.Value.int 1 0, PySem.Value.int 0 0, PySem.Value.int 0 0, PySem.Value.int 3 0, PySem.Value.ref 185, PySem.Value.bool Bool.true, PySem.Value.int 276 0, PySem.Value.ref 186, PySem.Value.none, PySem.Value.ref 187, PySem.Value.ref 188, PySem.Value.ref 189, PySem.Value.int 725 0, PySem.Value.int 142 0, PySem.Value.str (PySem.Str.ofString "/claim/cut.py") 726]) #[]) ::
  ((nat_lit 191), PySem.Obj.mk (PySem.Value.type "function") Option.none (PySem.Data.func (PySem.FuncData.mk (PySem.Str.ofString "__repr__") (PySem.Str.ofString "Headers.__repr__") (kpr (kst (kbd (kst kpb 63)) 12)) (PySem.FuncBody.stmts (kbd (kst (kbd (kst kpb 63)) 12))) (ksc (kst (kbd (kst kpb 63)) 11)) 3 [] PySem.Value.none PySem.Value.none PySem.Value.none (PySem.Value.str (PySem.Str.ofString "cpy313.wsgiref.headers") 551) Option.none (PySem.Value.ref 190) PySem.Value.none 0)) #[]) ::
  ((nat_lit 192), PySem.Obj.mk (PySem.Value.type "tuple") Option.none (PySem.Data.seq #[]) #[]) ::
  ((nat_lit 195), PySem.Obj.mk (PySem.Value.type "code") Option.none (PySem.Data.fields #[PySem.Value.str (PySem.Str.ofString "__str__") 728, PySem.Value.str (PySem.Str.ofString "Headers.__str__") 729, PySem.Value.str (PySem.Str.ofString "/claim/cut.py") 730, PySem.Value.int 145 0, PySem.Value.int 1 0, PySem.Value.int 0 0, PySem.Value.int 0 0, PySem.Value.int 3 0, PySem.Value.ref 192, PySem.Value.bool Bool.true, PySem.Value.int 276 0, PySem.Value.ref 193, PySem.Value.none, PySem.Value.none, PySem.Value.none, PySem.Value.ref 194, PySem.Value.int 731 0, PySem.Value.int 145 0, PySem.Value.str (PySem.Str.ofString "/claim/cut.py") 732]) #[]) ::
  ((nat_lit 196), PySem.Obj.mk (PySem.Value.type "function") Option.none (PySem.Data.func (PySem.FuncData.mk (PySem.Str.ofString "__str__") (PySem.Str.ofString "Headers.__str__") (kpr (kst (kbd (kst kpb 63)) 13)) (PySem.FuncBody.stmts (kbd (kst (kbd (kst kpb 63)) 13))) (ksc (kst (kbd (kst kpb 63)) 13)) 3 [] PySem.Value.none PySem.Value.none PySem.Value.none (PySem.Value.str (PySem.Str.ofString "cpy313.wsgiref.headers") 551) Option.none (PySem.Value.ref 195) PySem.Value.none 0)) #[]) ::
  ((nat_lit 197), PySem.Obj.mk (PySem.Value.type "tuple") Option.none (PySem.Data.seq #[]) #[]) ::
  ((nat_lit 199), PySem.Obj.mk (PySem.Value.type "tuple") Option.none (PySem.Data.seq #[PySem.Value.str (PySem.Str.ofString "self") 737]) #[]) ::
  ((nat_lit 200), PySem.Obj.mk (PySem.Value.type "tuple") Option.none (PySem.Data.seq #[]) #[]) ::
  ((nat_lit 202), PySem.Obj.mk (PySem.Value.type "code") Option.none (PySem.Data.fields #[PySem.Value.str (PySem.Str.ofString "__bytes__") 734, PySem.Value.str (PySem.Str.ofString "Headers.__bytes__") 735, PySem.Value.str (PySem.Str.ofString "/claim/cut.py") 736, PySem.Value.int 148 0, PySem.Value.int 1 0, PySem.Value.int 0 0, PySem.Value.int 0 0, PySem.Value.int 3 0, PySem.Value.ref 197, PySem.Value.bool Bool.true, PySem.Value.int 276 0, PySem.Value.ref 198, PySem.Value.none, PySem.Value.ref 199, PySem.Value.ref 200, PySem.Value.ref 201, PySem.Value.int 738 0, PySem.Value.int 148 0, PySem.Value.str (PySem.Str.ofString "/claim/cut.py") 739]) #[]) ::
  ((nat_lit 203), PySem.Obj.mk (PySem.Value.type "function") Option.none (PySem.Data.func (PySem.FuncData.mk (PySem.Str.ofString "__bytes__") (PySem.Str.ofString "Headers.__bytes__") (kpr (kst (kbd (kst kpb 63)) 14)) (PySem.FuncBody.stmts (kbd (kst (kbd (kst kpb 63)) 14))) (ksc (kst (kbd (kst kpb 63)) 14)) 3 [] PySem.Value.none PySem.Value.none PySem.Value.none (PySem.Value.str (PySem.Str.ofString "cpy313.wsgiref.headers") 551) Option.none (PySem.Value.ref 202) PySem.Value.none 0)) #[]) ::
  ((nat_lit 204), PySem.Obj.mk (PySem.Value.type "tuple") Option.none (PySem.Data.seq #[]) #[]) ::
  ((nat_lit 206), PySem.Obj.mk (PySem.Value.type "tuple") Option.none (PySem.Data.seq #[PySem.Value.str (PySem.Str.ofString "self") 744, PySem.Value.str (PySem.Str.ofString "name") 745, PySem.Value.str (PySem.Str.ofString "value") 746]) #[]) ::
  ((nat_lit 207), PySem.Obj.mk (PySem.Value.type "tuple") Option.none (PySem.Data.seq #[]) #[]) ::
  ((nat_lit 209), PySem.Obj.mk (PySem.Value.type "code") Option.none (PySem.Data.fields #[PySem.Value.str (PySem.Str.ofString "setdefault") 741, PySem.Value.str (PySem.Str.ofString "Headers.setdefault") 742, PySem.Value.str (PySem.Str.ofString "/claim/cut.py") 743, PySem.Value.int 151 0, PySem.Value.int 3 0, PySem.Value.int 0 0, PySem.Value.int 0 0, PySem.Value.int 3 0, PySem.Value.ref 204, PySem.Value.bool Bool.true, PySem.Value.int 276 0, PySem.Value.ref 205, PySem.Value.none, PySem.Value.ref 206, PySem.Value.ref 207, PySem.Value.ref 208, PySem.Value.int 747 0, PySem.Value.int 151 0, PySem.Value.str (PySem.Str.ofString "/claim/cut.py") 748]) #[]) ::
  ((nat_lit 210), PySem.Obj.mk (PySem.Value.type "function") Option.none (PySem.Data.func (PySem.FuncData.mk (PySem.Str.ofString "setdefault") (PySem.Str.ofString "Headers.setdefault") (kpr (kst (kbd (kst kpb 63)) 15)) (PySem.FuncBody.stmts (kbd (kst (kbd (kst kpb 63)) 15))) (ksc (kst (kbd (kst kpb 63)) 15)) 3 [] PySem.Value.none PySem.Value.none PySem.Value.none (PySem.Value.str (PySem.Str.ofString "cpy313.wsgiref.headers") 551) Option.none (PySem.Value.ref 209) PySem.Value.none 0)) #[]) ::
  ((nat_lit 211), PySem.Obj.mk (PySem.Value.type "tuple") Option.none (PySem.Data.seq #[]) #[]) ::
  ((nat_lit 213), PySem.Obj.mk (PySem.Value.type "tuple") Option.none (PySem.Data.seq #[PySem.Value.str (PySem.Str.ofString "self") 753, PySem.Value.str (PySem.Str.ofString "_name") 754, PySem.Value.str (PySem.Str.ofString "_value") 755, PySem.Value.str (PySem.Str.ofString "_params") 756]) #[]) ::
  ((nat_lit 214), PySem.Obj.mk (PySem.Value.type "tuple") Option.none (PySem.Data.seq #[]) #[]) ::
  ((nat_lit 216), PySem.Obj.mk (PySem.Value.type "code") Option.none (PySem.Data.fields #[PySem.Value.str (PySem.Str.ofString "add_header") 750, PySem.Value.str (PySem.Str.ofString "Headers.add_header") 751, PySem.Value.str (PySem.Str.ofString "/claim/cut.py") 752, PySem.Value.int 154 0, PySem.Value.int 3 0, PySem.Value.int 0 0, PySem.Value.int 0 0, PySem.Value.int 11 0, PySem.Value.ref 211, PySem.Value.bool Bool.true, PySem.Value.int 276 0, PySem.Value.ref 212, PySem.Value.none, PySem.Value.ref 213, PySem.Value.ref 214, PySem.Value.ref 215, PySem.Value.int 757 0, PySem.Value.int 154 0, PySem.Value.str (PySem.Str.ofString "/claim/cut.py") 758]) #[]) ::
  ((nat_lit 217), PySem.Obj.mk (PySem.Value.type "function") Option.none (PySem.Data.func (PySem.FuncData.mk (PySem.Str.ofString "add_header") (PySem.Str.ofString "Headers.add_header") (kpr (kst (kbd (kst kpb 63)) 16)) (PySem.FuncBody.stmts (kbd (kst (kbd (kst kpb 63)) 16))) (ksc (kst (kbd (kst kpb 63)) 16)) 3 [] PySem.Value.none PySem.Value.none PySem.Value.none (PySem.Value.str (PySem.Str.ofString "cpy313.wsgiref.headers") 551) Option.none (PySem.Value.ref 216) PySem.Value.none 0)) #[]) ::
  ((nat_lit 218), PySem.Obj.mk (PySem.Value.type "tuple") Option.none (PySem.Data.seq #[PySem.Value.str (PySem.Str.ofString "_headers") 760]) #[]) ::
  ((nat_lit 219), PySem.Obj.mk (PySem.Value.type "dict") Option.none (PySem.Data.dict #[PySem.DictEntry.mk (PySem.PyData.keyHash P (PySem.Str.ofString "__module__")) (PySem.Value.str (PySem.Str.ofString "__module__") 620) (PySem.Value.str (PySem.Str.ofString "cpy313.wsgiref.headers") 551), PySem.DictEntry.mk (PySem.PyData.keyHash P (PySem.Str.ofString "__firstlineno__")) (PySem.Value.str (PySem.Str.ofString "__firstlineno__") 624) (PySem.Value.int 86 623), PySem.DictEntry.mk (PySem.PyData.keyHash P (PySem.Str.ofString "__init__")) (PySem.Value.str (PySem.Str.ofString "__init__") 634) (PySem.Value.ref 112), PySem.DictEntry.mk (PySem.PyData.keyHash P (PySem.Str.ofString "_convert_string_type")) (PySem.Value.str (PySem.Str.ofString "_convert_string_type") 644) (PySem.Value.ref 119), PySem.DictEntry.mk (PySem.PyData.keyHash P (PySem.Str.ofString "__len__")) (PySem.Value.str (PySem.Str.ofString "__len__") 651) (PySem.Value.ref 126), PySem.DictEntry.mk (PySem.PyData.keyHash P (PySem.Str.ofString "__setitem__")) (PySem.Value.str (PySem.Str.ofString "__setitem__") 660) (PySem.Value.ref 133), PySem.DictEntry.mk (PySem.PyData.keyHash P (PySem.Str.ofString "__delitem__")) (PySem.Value.str (PySem.Str.ofString "__delitem__") 666) (PySem.Value.ref 138), PySem.DictEntry.mk (PySem.PyData.keyHash P (PySem.Str.ofString "__getitem__")) (PySem.Value.str (PySem.Str.ofString "__getitem__") 674) (PySem.Value.ref 145), PySem.DictEntry.mk (PySem.PyData.keyHash P (PySem.Str.ofString "__contains__")) (PySem.Value.str (PySem.Str.ofString "__contains__") 682) (PySem.Value.ref 152), PySem.DictEntry.mk (PySem.PyData.keyHash P (PySem.Str.ofString "get_all")) (PySem.Value.str (PySem.Str.ofString "get_all") 690) (PySem.Value.ref 159), PySem.DictEntry.mk (PySem.PyData.keyHash P (PySem.Str.ofString "get")) (PySem.Value.str (PySem.Str.ofString "get") 701) (PySem.Value.ref 167), PySem.DictEntry.mk (PySem.PyData.keyHash P (PySem.Str.ofString "keys")) (PySem.Value.str (PySem.Str.ofString "keys") 707) (PySem.Value.ref 172), PySem.DictEntry.mk (PySem.PyData.keyHash P (PySem.Str.ofString "values")) (PySem.Value.str (PySem.Str.ofString "values") 713) (PySem.Value.ref 177), PySem.DictEntry.mk (PySem.PyData.keyHash P (PySem.Str.ofString "items")) (PySem.Value.str (PySem.Str.ofString "items") 720) (PySem.Value.ref 184), PySem.DictEntry.mk (PySem.PyData.keyHash P (PySem.Str.ofString "__repr__")) (PySem.Value.str (PySem.Str.ofString "__repr__") 727) (PySem.Value.ref 191), PySem.DictEntry.mk (PySem.PyData.keyHash P (PySem.Str.ofString "__str__")) (PySem.Value.str (PySem.Str.ofString "__str__") 733) (PySem.Value.ref 196), PySem.DictEntry.mk (PySem.PyData.keyHash P (PySem.Str.ofString "__bytes__")) (PySem.Value.str (PySem.Str.ofString "__bytes__") 740) (PySem.Value.ref 203), PySem.DictEntry.mk (PySem.PyData.keyHash P (PySem.Str.ofString "setdefault")) (PySem.Value.str (PySem.Str.ofString "setdefault") 749) (PySem.Value.ref 210), PySem.DictEntry.mk (PySem.PyData.keyHash P (PySem.Str.ofString "add_header")) (PySem.Value.str (PySem.Str.ofString "add_header") 759) (PySem.Value.ref 217), PySem.DictEntry.mk (PySem.PyData.keyHash P (PySem.Str.ofString "__static_attributes__")) (PySem.Value.str (PySem.Str.ofString "__static_attributes__") 761) (PySem.Value.ref 218), PySem.DictEntry.mk (PySem.PyData.keyHash P (PySem.Str.ofString "__dict__")) (PySem.Value.str (PySem.Str.ofString "__dict__") 763) (PySem.Value.ref 221), PySem.DictEntry.mk (PySem.PyData.keyHash P (PySem.Str.ofString "__weakref__")) (PySem.Value.str (PySem.Str.ofString "__weakref__") 765) (PySem.Value.ref 222), PySem.DictEntry.mk (PySem.PyData.keyHash P (PySem.Str.ofString "__doc__")) (PySem.Value.str (PySem.Str.ofString "__doc__") 766) PySem.Value.none] 4) #[]) ::
  ((nat_lit 220), PySem.Obj.mk (PySem.Value.type "type") Option.none (PySem.Data.cls (PySem.ClassData.mk (PySem.Str.ofString "Headers") [PySem.Value.type "object"] [PySem.Value.ref 220, PySem.Value.type "object"] 219 (PySem.Str.ofString "Headers") Bool.true [] [] Bool.false Option.none Bool.false)) #[Option.none, Option.none, Option.some (PySem.Value.str (PySem.Str.ofString "Headers") 613), Option.some (PySem.Value.str (PySem.Str.ofString "Headers") 621), Option.some (PySem.Value.builtin "object.__new__"), Option.some (PySem.Value.bool Bool.true)]) ::
  ((nat_lit 221), PySem.Obj.mk (PySem.Value.type "getset_descriptor") Option.none (PySem.Data.fields #[PySem.Value.str (PySem.Str.ofString "__dict__") 762, PySem.Value.ref 220, PySem.Value.builtin "function.__dict__", PySem.Value.builtin "function.__dict__#set"]) #[]) ::
  ((nat_lit 222), PySem.Obj.mk (PySem.Value.type "getset_descriptor") Option.none (PySem.Data.fields #[PySem.Value.str (PySem.Str.ofString "__weakref__") 764, PySem.Value.ref 220, PySem.Value.builtin "ExceptionGroup.__weakref__", PySem.Value.none]) #[]) ::
  ((nat_lit 225), PySem.Obj.mk (PySem.Value.type "tuple") Option.none (PySem.Data.seq #[]) #[]) ::
  ((nat_lit 227), PySem.Obj.mk (PySem.Value.type "tuple") Option.none (PySem.Data.seq #[PySem.Value.str (PySem.Str.ofString "script") 774, PySem.Value.str (PySem.Str.ofString "rules") 775, PySem.Value.str (PySem.Str.ofString "x") 776, PySem.Value.str (PySem.Str.ofString "v") 777]) #[]) ::
  ((nat_lit 228), PySem.Obj.mk (PySem.Value.type "tuple") Option.none (PySem.Data.seq #[]) #[]) ::
  ((nat_lit 230), PySem.Obj.mk (PySem.Value.type "code") Option.none (PySem.Data.fields #[PySem.Value.str (PySem.Str.ofString "_law_rules") 771, PySem.Value.str (PySem.Str.ofString "_law_rules") 772, PySem.Value.str (PySem.Str.ofString "/claim/cut.py") 773, PySem.Value.int 157 0, PySem.Value.int 1 0, PySem.Value.int 0 0, PySem.Value.int 0 0, PySem.Value.int 3 0, PySem.Value.ref 225, PySem.Value.bool Bool.true, PySem.Value.int 276 0, PySem.Value.ref 226, PySem.Value.none, PySem.Value.ref 227, PySem.Value.ref 228, PySem.Value.ref 229, PySem.Value.int 778 0, PySem.Value.int 157 0, PySem.Value.str (PySem.Str.ofString "/claim/cut.py") 779]) #[]) ::
  ((nat_lit 231), PySem.Obj.mk (PySem.Value.type "function") Option.none (PySem.Data.func (PySem.FuncData.mk (PySem.Str.ofString "_law_rules") (PySem.Str.ofString "_law_rules") (kpr (kst kpb 65)) (PySem.FuncBody.stmts (kbd (kst kpb 65))) (ksc (kst kpb 65)) 3 [] PySem.Value.none PySem.Value.none PySem.Value.none (PySem.Value.str (PySem.Str.ofString "law_wf0084_01") 769) Option.none (PySem.Value.ref 230) PySem.Value.none 0)) #[]) ::
  ((nat_lit 232), PySem.Obj.mk (PySem.Value.type "tuple") Option.none (PySem.Data.seq #[]) #[]) ::
  ((nat_lit 234), PySem.Obj.mk (PySem.Value.type "tuple") Option.none (PySem.Data.seq #[PySem.Value.str (PySem.Str.ofString "script") 784, PySem.Value.str (PySem.Str.ofString "left") 785, PySem.Value.str (PySem.Str.ofString "right") 786, PySem.Value.str (PySem.Str.ofString "x") 787, PySem.Value.str (PySem.Str.ofString "y") 788]) #[]) ::
  ((nat_lit 235), PySem.Obj.mk (PySem.Value.type "tuple") Option.none (PySem.Data.seq #[]) #[]) ::
  ((nat_lit 237), PySem.Obj.mk (PySem.Value.type "code") Option.none (PySem.Data.fields #[PySem.Value.str (PySem.Str.ofString "_law_tape") 781, PySem.Value.str (PySem.Str.ofString "_law_tape") 782, PySem.Value.str (PySem.Str.ofString "/claim/cut.py") 783, PySem.Value.int 164 0, PySem.Value.int 1 0, PySem.Value.int 0 0, PySem.Value.int 0 0, PySem.Value.int 3 0, PySem.Value.ref 232, PySem.Value.bool Bool.true, PySem.Value.int 276 0, PySem.Value.ref 233, PySem.Value.none, PySem.Value.ref 234, PySem.Value.ref 235, PySem.Value.ref 236, PySem.Value.int 789 0, PySem.Value.int 164 0, PySem.Value.str (PySem.Str.ofString "/claim/cut.py") 790]) #[]) ::
  ((nat_lit 238), PySem.Obj.mk (PySem.Value.type "function") Option.none (PySem.Data.func (PySem.FuncData.mk (PySem.Str.ofString "_law_tape") (PySem.Str.ofString "_law_tape") (kpr (kst kpb 66)) (PySem.FuncBody.stmts (kbd (kst kpb 66))) (ksc (kst kpb 66)) 3 [] PySem.Value.none PySem.Value.none PySem.Value.none (PySem.Value.str (PySem.Str.ofString "law_wf0084_01") 769) Option.none (PySem.Value.ref 237) PySem.Value.none 0)) #[]) ::
  ((nat_lit 239), PySem.Obj.mk (PySem.Value.type "tuple") Option.none (PySem.Data.seq #[]) #[]) ::
  ((nat_lit 241), PySem.Obj.mk (PySem.Value.type "tuple") Option.none (PySem.Data.seq #[PySem.Value.str (PySem.Str.ofString "rule") 795, PySem.Value.str (PySem.Str.ofString "name") 796, PySem.Value.str (PySem.Str.ofString "side") 797]) #[]) ::
  ((nat_lit 242), PySem.Obj.mk (PySem.Value.type "tuple") Option.none (PySem.Data.seq #[]) #[]) ::
  ((nat_lit 244), PySem.Obj.mk (PySem.Value.type "code") Option.none (PySem.Data.fields #[PySem.Value.str (PySem.Str.ofString "_law_written") 792, PySem.Value.str (PySem.Str.ofString "_law_written") 793, PySem.Value.str (PySem.Str.ofString "/claim/cut.py") 794, PySem.Value.int 174 0, PySem.Value.int 1 0, PySem.Value.int 0 0, PySem.Value.int 0 0, PySem.Value.int 3 0, PySem.Value.ref 239, PySem.Value.bool Bool.true, PySem.Value.int 276 0, PySem.Value.ref 240, PySem.Value.none, PySem.Value.ref 241, PySem.Value.ref 242, PySem.Value.ref 243, PySem.Value.int 798 0, PySem.Value.int 174 0, PySem.Value.str (PySem.Str.ofString "/claim/cut.py") 799]) #[]) ::
  ((nat_lit 245), PySem.Obj.mk (PySem.Value.type "function") Option.none (PySem.Data.func (PySem.FuncData.mk (PySem.Str.ofString "_law_written") (PySem.Str.ofString "_law_written") (kpr (kst kpb 67)) (PySem.FuncBody.stmts (kbd (kst kpb 67))) (ksc (kst kpb 67)) 3 [] PySem.Value.none PySem.Value.none PySem.Value.none (PySem.Value.str (PySem.Str.ofString "law_wf0084_01") 769) Option.none (PySem.Value.ref 244) PySem.Value.none 0)) #[]) ::
  ((nat_lit 246), PySem.Obj.mk (PySem.Value.type "tuple") Option.none (PySem.Data.seq #[]) #[]) ::
  ((nat_lit 248), PySem.Obj.mk (PySem.Value.type "tuple") Option.none (PySem.Data.seq #[PySem.Value.str (PySem.Str.ofString "text") 804, PySem.Value.str (PySem.Str.ofString "codes") 805, PySem.Value.str (PySem.Str.ofString "at") 806, PySem.Value.str (PySem.Str.ofString "size") 807, PySem.Value.str (PySem.Str.ofString "piece") 808]) #[]) ::
  ((nat_lit 249), PySem.Obj.mk (PySem.Value.type "tuple") Option.none (PySem.Data.seq #[]) #[]) ::
  ((nat_lit 251), PySem.Obj.mk (PySem.Value.type "code") Option.none (PySem.Data.fields #[PySem.Value.str (PySem.Str.ofString "_law_cut") 801, PySem.Value.str (PySem.Str.ofString "_law_cut") 802, PySem.Value.str (PySem.Str.ofString "/claim/cut.py") 803, PySem.Value.int 178 0, PySem.Value.int 1 0, PySem.Value.int 0 0, PySem.Value.int 0 0, PySem.Value.int 3 0, PySem.Value.ref 246, PySem.Value.bool Bool.true, PySem.Value.int 276 0, PySem.Value.ref 247, PySem.Value.none, PySem.Value.ref 248, PySem.Value.ref 249, PySem.Value.ref 250, PySem.Value.int 809 0, PySem.Value.int 178 0, PySem.Value.str (PySem.Str.ofString "/claim/cut.py") 810]) #[]) ::
  ((nat_lit 252), PySem.Obj.mk (PySem.Value.type "function") Option.none (PySem.Data.func (PySem.FuncData.mk (PySem.Str.ofString "_law_cut") (PySem.Str.ofString "_law_cut") (kpr (kst kpb 68)) (PySem.FuncBody.stmts (kbd (kst kpb 68))) (ksc (kst kpb 68)) 3 [] PySem.Value.none PySem.Value.none PySem.Value.none (PySem.Value.str (PySem.Str.ofString "law_wf0084_01") 769) Option.none (PySem.Value.ref 251) PySem.Value.none 0)) #[]) ::
  ((nat_lit 253), PySem.Obj.mk (PySem.Value.type "tuple") Option.none (PySem.Data.seq #[]) #[]) ::
  ((nat_lit 255), PySem.Obj.mk (PySem.Value.type "tuple") Option.none (PySem.Data.seq #[PySem.Value.str (PySem.Str.ofString "text") 815, PySem.Value.str (PySem.Str.ofString "table") 816, PySem.Value.str (PySem.Str.ofString "name") 817, PySem.Value.str (PySem.Str.ofString "words") 818, PySem.Value.str (PySem.Str.ofString "code") 819]) #[]) ::
  ((nat_lit 256), PySem.Obj.mk (PySem.Value.type "tuple") Option.none (PySem.Data.seq #[]) #[]) ::
  ((nat_lit 258), PySem.Obj.mk (PySem.Value.type "code") Option.none (PySem.Data.fields #[PySem.Value.str (PySem.Str.ofString "_law_read") 812, PySem.Value.str (PySem.Str.ofString "_law_read") 813, PySem.Value.str (PySem.Str.ofString "/claim/cut.py") 814, PySem.Value.int 193 0, PySem.Value.int 1 0, PySem.Value.int 0 0, PySem.Value.int 0 0, PySem.Value.int 3 0, PySem.Value.ref 253, PySem.Value.bool Bool.true, PySem.Value.int 276 0, PySem.Value.ref 254, PySem.Value.none, PySem.Value.ref 255, PySem.Value.ref 256, PySem.Value.ref 257, PySem.Value.int 820 0, PySem.Value.int 193 0, PySem.Value.str (PySem.Str.ofString "/claim/cut.py") 821]) #[]) ::
  ((nat_lit 259), PySem.Obj.mk (PySem.Value.type "function") Option.none (PySem.Data.func (PySem.FuncData.mk (PySem.Str.ofString "_law_read") (PySem.Str.ofString "_law_read") (kpr (kst kpb 69)) (PySem.FuncBody.stmts (kbd (kst kpb 69))) (ksc (kst kpb 69)) 3 [] PySem.Value.none PySem.Value.none PySem.Value.none (PySem.Value.str (PySem.Str.ofString "law_wf0084_01") 769) Option.none (PySem.Value.ref 258) PySem.Value.none 0)) #[]) ::
  ((nat_lit 260), PySem.Obj.mk (PySem.Value.type "tuple") Option.none (PySem.Data.seq #[]) #[]) ::
  ((nat_lit 262), PySem.Obj.mk (PySem.Value.type "tuple") Option.none (PySem.Data.seq #[PySem.Value.str (PySem.Str.ofString "rules") 826, PySem.Value.str (PySem.Str.ofString "seen") 827, PySem.Value.str (PySem.Str.ofString "kept") 828, PySem.Value.str (PySem.Str.ofString "rule") 829]) #[]) ::
  ((nat_lit 263), PySem.Obj.mk (PySem.Value.type "tuple") Option.none (PySem.Data.seq #[]) #[]) ::
  ((nat_lit 265), PySem.Obj.mk (PySem.Value.type "code") Option.none (PySem.Data.fields #[PySem.Value.str (PySem.Str.ofString "_law_kept") 823, PySem.Value.str (PySem.Str.ofString "_law_kept") 824, PySem.Value.str (PySem.Str.ofString "/claim/cut.py") 825, PySem.Value.int 209 0, PySem.Value.int 1 0, PySem.Value.int 0 0, PySem.Value.int 0 0, PySem.Value.int 3 0, PySem.Value.ref 260, PySem.Value.bool Bool.true, PySem.Value.int 276 0, PySem.Value.ref 261, PySem.Value.none, PySem.Value.ref 262, PySem.Value.ref 263, PySem.Value.ref 264, PySem.Value.int 830 0, PySem.Value.int 209 0, PySem.Value.str (PySem.Str.ofString "/claim/cut.py") 831]) #[]) ::
  ((nat_lit 266), PySem.Obj.mk (PySem.Value.type "function") Option.none (PySem.Data.func (PySem.FuncData.mk (PySem.Str.ofString "_law_kept") (PySem.Str.ofString "_law_kept") (kpr (kst kpb 70)) (PySem.FuncBody.stmts (kbd (kst kpb 70))) (ksc (kst kpb 70)) 3 [] PySem.Value.none PySem.Value.none PySem.Value.none (PySem.Value.str (PySem.Str.ofString "law_wf0084_01") 769) Option.none (PySem.Value.ref 265) PySem.Value.none 0)) #[]) ::
  ((nat_lit 267), PySem.Obj.mk (PySem.Value.type "tuple") Option.none (PySem.Data.seq #[]) #[]) ::
  ((nat_lit 269), PySem.Obj.mk (PySem.Value.type "tuple") Option.none (PySem.Data.seq #[PySem.Value.str (PySem.Str.ofString "signs") 836, PySem.Value.str (PySem.Str.ofString "worth") 837, PySem.Value.str (PySem.Str.ofString "sign") 838]) #[]) ::
  ((nat_lit 270), PySem.Obj.mk (PySem.Value.type "tuple") Option.none (PySem.Data.seq #[]) #[]) ::
  ((nat_lit 272), PySem.Obj.mk (PySem.Value.type "code") Option.none (PySem.Data.fields #[PySem.Value.str (PySem.Str.ofString "_law_worth") 833, PySem.Value.str (PySem.Str.ofString "_law_worth") 834, PySem.Value.str (PySem.Str.ofString "/claim/cut.py") 835, PySem.Value.int 217 0, PySem.Value.int 1 0, PySem.Value.int 0 0, PySem.Value.int 0 0, PySem.Value.int 3 0, PySem.Value.ref 267, PySem.Value.bool Bool.true, PySem.Value.int 276 0, PySem.Value.ref 268, PySem.Value.none, PySem.Value.ref 269, PySem.Value.ref 270, PySem.Value.ref 271, PySem.Value.int 839 0, PySem.Value.int 217 0, PySem.Value.str (PySem.Str.ofString "/claim/cut.py") 840]) #[]) ::
  ((nat_lit 273), PySem.Obj.mk (PySem.Value.type "function") Option.none (PySem.Data.func (PySem.FuncData.mk (PySem.Str.ofString "_law_worth") (PySem.Str.ofString "_law_worth") (kpr (kst kpb 71)) (PySem.FuncBody.stmts (kbd (kst kpb 71))) (ksc (kst kpb 71)) 3 [] PySem.Value.none PySem.Value.none PySem.Value.none (PySem.Value.str (PySem.Str.ofString "law_wf0084_01") 769) Option.none (PySem.Value.ref 272) PySem.Value.none 0)) #[]) ::
  ((nat_lit 274), PySem.Obj.mk (PySem.Value.type "tuple") Option.none (PySem.Data.seq #[]) #[]) ::
  ((nat_lit 276), PySem.Obj.mk (PySem.Value.type "tuple") Option.none (PySem.Data.seq #[PySem.Value.str (PySem.Str.ofString "table") 845, PySem.Value.str (PySem.Str.ofString "reply") 846, PySem.Value.str (PySem.Str.ofString "told") 847, PySem.Value.str (PySem.Str.ofString "turn") 848, PySem.Value.str (PySem.Str.ofString "left") 849, PySem.Value.str (PySem.Str.ofString "rest") 850, PySem.Value.str (PySem.Str.ofString "deed") 851, PySem.Value.str (PySem.Str.ofString "right") 852]) #[]) ::
  ((nat_lit 277), PySem.Obj.mk (PySem.Value.type "tuple") Option.none (PySem.Data.seq #[]) #[]) ::
  ((nat_lit 279), PySem.Obj.mk (PySem.Value.type "code") Option.none (PySem.Data.fields #[PySem.Value.str (PySem.Str.ofString "_law_talk") 842, PySem.Value.str (PySem.Str.ofString "_law_talk") 843, PySem.Value.str (PySem.Str.ofString "/claim/cut.py") 844, PySem.Value.int 222 0, PySem.Value.int 2 0, PySem.Value.int 0 0, PySem.Value.int 0 0, PySem.Value.int 3 0, PySem.Value.ref 274, PySem.Value.bool Bool.true, PySem.Value.int 276 0, PySem.Value.ref 275, PySem.Value.none, PySem.Value.ref 276, PySem.Value.ref 277, PySem.Value.ref 278, PySem.Value.int 853 0, PySem.Value.int 222 0, PySem.Value.str (PySem.Str.ofString "/claim/cut.py") 854]) #[]) ::
  ((nat_lit 280), PySem.Obj.mk (PySem.Value.type "function") Option.none (PySem.Data.func (PySem.FuncData.mk (PySem.Str.ofString "_law_talk") (PySem.Str.ofString "_law_talk") (kpr (kst kpb 72)) (PySem.FuncBody.stmts (kbd (kst kpb 72))) (ksc (kst kpb 72)) 3 [] PySem.Value.none PySem.Value.none PySem.Value.none (PySem.Value.str (PySem.Str.ofString "law_wf0084_01") 769) Option.none (PySem.Value.ref 279) PySem.Value.none 0)) #[]) ::
  ((nat_lit 281), PySem.Obj.mk (PySem.Value.type "tuple") Option.none (PySem.Data.seq #[]) #[]) ::
  ((nat_lit 283), PySem.Obj.mk (PySem.Value.type "tuple") Option.none (PySem.Data.seq #[PySem.Value.str (PySem.Str.ofString "rules") 859, PySem.Value.str (PySem.Str.ofString "left") 860, PySem.Value.str (PySem.Str.ofString "right") 861, PySem.Value.str (PySem.Str.ofString "last") 862, PySem.Value.str (PySem.Str.ofString "rule") 863, PySem.Value.str (PySem.Str.ofString "told") 864, PySem.Value.str (PySem.Str.ofString "state") 865, PySem.Value.str (PySem.Str.ofString "turn") 866]) #[]) ::
  ((nat_lit 284), PySem.Obj.mk (PySem.Value.type "tuple") Option.none (PySem.Data.seq #[]) #[]) ::
  ((nat_lit 286), PySem.Obj.mk (PySem.Value.type "code") Option.none (PySem.Data.fields #[PySem.Value.str (PySem.Str.ofString "_law_numbers") 856, PySem.Value.str (PySem.Str.ofString "_law_numbers") 857, PySem.Value.str (PySem.Str.ofString "/claim/cut.py") 858, PySem.Value.int 237 0, PySem.Value.int 3 0, PySem.Value.int 0 0, PySem.Value.int 0 0, PySem.Value.int 3 0, PySem.Value.ref 281, PySem.Value.bool Bool.true, PySem.Value.int 276 0, PySem.Value.ref 282, PySem.Value.none, PySem.Value.ref 283, PySem.Value.ref 284, PySem.Value.ref 285, PySem.Value.int 867 0, PySem.Value.int 237 0, PySem.Value.str (PySem.Str.ofString "/claim/cut.py") 868]) #[]) ::
  ((nat_lit 287), PySem.Obj.mk (PySem.Value.type "function") Option.none (PySem.Data.func (PySem.FuncData.mk (PySem.Str.ofString "_law_numbers") (PySem.Str.ofString "_law_numbers") (kpr (kst kpb 73)) (PySem.FuncBody.stmts (kbd (kst kpb 73))) (ksc (kst kpb 73)) 3 [] PySem.Value.none PySem.Value.none PySem.Value.none (PySem.Value.str (PySem.Str.ofString "law_wf0084_01") 769) Option.none (PySem.Value.ref 286) PySem.Value.none 0)) #[]) ::
  ((nat_lit 288), PySem.Obj.mk (PySem.Value.type "tuple") Option.none (PySem.Data.seq #[]) #[]) ::
  ((nat_lit 291), PySem.Obj.mk (PySem.Value.type "code") Option.none (PySem.Data.fields #[PySem.Value.str (PySem.Str.ofString "law") 870, PySem.Value.str (PySem.Str.ofString "law") 871, PySem.Value.str (PySem.Str.ofString "/claim/cut.py") 872, PySem.Value.int 255 0, PySem.Value.int 1 0, PySem.Value.int 0 0, PySem.Value.int 0 0, PySem.Value.int 3 0, PySem.Value.ref 288, PySem.Value.bool Bool.true, PySem.Value.int 276 0, PySem.Value.ref 289, PySem.Value.none, PySem.Value.none, PySem.Value.none, PySem.Value.ref 290, PySem.Value.int 873 0, PySem.Value.int 255 0, PySem.Value.str (PySem.Str.ofString "/claim/cut.py") 874]) #[]) ::
  ((nat_lit 292), PySem.Obj.mk (PySem.Value.type "function") Option.none (PySem.Data.func (PySem.FuncData.mk (PySem.Str.ofString "law") (PySem.Str.ofString "law") (kpr (kst kpb 74)) (PySem.FuncBody.stmts (kbd (kst kpb 74))) (ksc (kst kpb 74)) 3 [] PySem.Value.none PySem.Value.none PySem.Value.none (PySem.Value.str (PySem.Str.ofString "law_wf0084_01") 769) Option.none (PySem.Value.ref 291) PySem.Value.none 0)) #[]) ::
  []
end Mine
namespace Mine
open PySem PySem.W PySem.Calls PyProof.Rows
set_option maxHeartbeats 4000000
set_option pp.deepTerms.threshold 4
local macro_rules | `(tactic| walk_at "loc") => `(tactic| (with_reducible repeat' (first | exact Loc.here | refine Loc.there ?_)); done)
local macro_rules | `(tactic| walk_at "upd") => `(tactic| with_reducible first | exact Upd.here | exact Upd.there Upd.here | exact Upd.there (Upd.there Upd.here) | exact Upd.there (Upd.there (Upd.there Upd.here)) | exact Upd.there (Upd.there (Upd.there (Upd.there Upd.here))) | exact Upd.there (Upd.there (Upd.there (Upd.there (Upd.there Upd.here)))) | exact Upd.there (Upd.there (Upd.there (Upd.there (Upd.there (Upd.there Upd.here))))) | exact Upd.there (Upd.there (Upd.there (Upd.there (Upd.there (Upd.there (Upd.there Upd.here)))))) | exact Upd.there (Upd.there (Upd.there (Upd.there (Upd.there (Upd.there (Upd.there (Upd.there Upd.here))))))) | exact Upd.there (Upd.there (Upd.there (Upd.there (Upd.there (Upd.there (Upd.there (Upd.there (Upd.there Upd.here)))))))) | exact Upd.there (Upd.there (Upd.there (Upd.there (Upd.there (Upd.there (Upd.there (Upd.there (Upd.there (Upd.there Upd.here))))))))) | exact Upd.there (Upd.there (Upd.there (Upd.there (Upd.there (Upd.there (Upd.there (Upd.there (Upd.there (Upd.there (Upd.there Upd.here)))))))))))
local macro_rules | `(tactic| walk_at "sz") => `(tactic| ((try simp only [List.length_append, List.length_cons, List.length_nil, List.length_map, T_length, List.length_reverse, List.length_take]); omega))
local macro_rules | `(tactic| walk_at "forL") => `(tactic| ((with_reducible refine' St.forL ?s0 ?_); (case s0 => assumption)))
local macro_rules | `(tactic| walk_at "forS") => `(tactic| ((with_reducible refine' St.forS ?s0 ?_); (case s0 => assumption)))
local macro_rules | `(tactic| walk_at "revL") => `(tactic| (with_reducible refine Ev.revL ?_))
local macro_rules | `(tactic| walk_at "revS") => `(tactic| (with_reducible refine Ev.revS ?_))
local macro_rules | `(tactic| walk_at "takeL") => `(tactic| (with_reducible refine Ev.takeL ?_))
local macro_rules | `(tactic| walk_at "m") => `(tactic| first
  | with_reducible first | refine Seq.next ?_ | refine Seq.ret ?_ | refine Seq.brk ?_ | refine St.cons ?_ | refine St.nil ?_
  | ((with_reducible refine' Ev.name ?s0 ?_); (case s0 => walk_at "loc"))
  | ((with_reducible refine' Ev.nameOwn ?s0 ?s5 ?_); (case s0 => walk_at "loc"); (case s5 => walk_at "upd"))
  | with_reducible first | refine Ev.int ?_ | refine Ev.strT lit_nil ?_ | refine Ev.strT lit_gg ?_ | refine Ev.strT lit_ll ?_ | refine Ev.strT lit_ar ?_ | refine Ev.strT lit_257q ?_ | refine Ev.strT lit_257 ?_ | refine Ev.strT lit_sq ?_ | refine Ev.strT lit_q ?_ | refine Ev.strT lit_qq ?_ | refine Ev.strT lit_qa ?_ | refine Ev.strT lit_o ?_ | refine Ev.strT lit_rt ?_ | refine Ev.str ?_ | refine Ev.cbool ?_ | refine Ev.cnone ?_ | refine Ev.bin ?_ | refine' Ev.cmp ?_
  | ((with_reducible refine' Tr.notInOwn ?s0 ?_); (case s0 => assumption))
  | with_reducible first | refine' Tr.cmp ?_ | refine ⟨_, OpI.addI, ?_⟩ | refine ⟨_, OpI.subI, ?_⟩ | refine ⟨_, CmpI.eqI, ?_⟩ | refine ⟨_, CmpI.neI, ?_⟩ | refine ⟨_, CmpI.ltI, ?_⟩ | refine ⟨_, CmpI.gtI, ?_⟩ | refine ⟨_, CmpI.geI, ?_⟩ | refine ⟨_, CmpI.eqT, ?_⟩ | refine ⟨_, CmpI.neT, ?_⟩ | refine St.ite ?_ | refine St.ret ?_ | refine St.brk ?_ | refine' St.newList ?_ | refine' St.newDict ?_ | refine' St.putI ?_
  | ((with_reducible refine' Ev.getI ?s0 ?s9 ?_ (hf := ?s1)); (case s0 => assumption); (case s1 => exact ⟨_, rfl⟩); (case s9 => walk_at "loc"))
  | ((with_reducible refine' St.assignSw ?s0 ?_ (hw := ?s2) (hxa := ?s5) (hxb := ?s6)); (case s0 => assumption); (case s2 => exact rfl); (case s5 => exact rfl); (case s6 => exact rfl))
  | with_reducible refine' St.assign ?_
  | ((with_reducible refine' upd_intro ?u ?_); (case u => walk_at "upd"))
  | with_reducible first | refine LoopQ.next ?_ | refine LoopQ.brk ?_ | refine LoopQ.ret ?_ | refine RetQ.ret ?_ | refine Ev.neg ?_ | refine Ev.ifExp ?_ | refine Ev.or2 ?_ | refine Tr.or2 ?_ | refine Tr.and2 ?_ | refine Ev.tuple ?_ | refine EvL.nil ?_ | refine' EvL.cons ?_ | refine Ev.sliceT ?_
  | ((with_reducible first | refine' Ev.find ?_ (hf := ?s1) | refine' Ev.count ?_ (hf := ?s1) | refine' Ev.lower ?_ (hf := ?s1)); (case s1 => exact ⟨_, rfl⟩))
  | with_reducible first | refine Part.none ?_ | refine Part.some ?_
  | ((with_reducible refine' And.intro (a := (_ : Nat) ≤ _) ?s1 ?_); (case s1 => walk_at "sz"))
  | ((with_reducible first | refine' St.append ?s0 ?_ (hf := ?s1) | refine' St.extend ?s0 ?_ (hf := ?s1)); (case s0 => walk_at "loc"); (case s1 => exact ⟨_, rfl⟩))
  | ((with_reducible refine' app_intro ?s0 ?s1 ?s2 ?_); (case s0 => walk_at "loc"); (case s2 => walk_at "upd"); (case s1 => walk_at "sz"))
  | ((with_reducible refine' ext_intro ?s0 ?s1 ?s2 ?_); (case s0 => walk_at "loc"); (case s2 => walk_at "upd"); (case s1 => walk_at "sz"))
  | ((with_reducible refine' NinAt.intro ?s0 ?_); (case s0 => walk_at "loc"))
  | ((with_reducible refine' sw_intro ?s0 ?s1 ?_); (case s0 => walk_at "upd"); (case s1 => walk_at "upd"))
  | ((with_reducible refine' put_intro ?s0 ?_); (case s0 => walk_at "loc"))
  | ((with_reducible refine' put_intro2 ?s0 ?s1 ?s2 ?_); (case s0 => walk_at "loc"); (case s2 => walk_at "upd"); (case s1 => walk_at "sz"))
  | ((with_reducible refine' GetAt.intro ?s0 ?_); (case s0 => walk_at "loc"))
  | with_reducible first | refine ⟨_, rfl, ?_⟩ | refine And.intro rfl ?_
  | ((with_reducible refine' As.name ?s0 ?_); (case s0 => walk_at "upd"))
  | ((with_reducible first | refine' ⟨_, Item.ox ?s1 ?s2, ?_⟩ | refine' ⟨_, Item.Z ?s1 ?s2, ?_⟩ | refine' ⟨_, Item.nxt ?s1 ?s2, ?_⟩ | refine' ⟨_, Item.U ?s1 ?s2, ?_⟩ | refine' ⟨_, Item.V ?s1 ?s2, ?_⟩); (case s1 => omega); (case s2 => omega))
  | ((with_reducible refine' ⟨_, CmpI.isN true ?s1, ?_⟩); (case s1 => exact rfl))
  | ((with_reducible refine' ⟨_, CmpI.isN false ?s1, ?_⟩); (case s1 => exact rfl))
  | ((with_reducible refine' ⟨_, OpI.addT ?s1, ?_⟩); (case s1 => walk_at "sz"))
  | ((with_reducible refine' ⟨_, Item.tup ?s1 ?s2 ?s3, ?_⟩); (case s1 => decide); (case s2 => decide); (case s3 => exact rfl))
  | ((with_reducible first | refine ⟨_, OpI.modI ?s1, ?_⟩ | refine ⟨_, OpI.divI ?s1 ?s2, ?_⟩); (case s1 => decide); (try (case s2 => decide)))
  | ((with_reducible refine ⟨_, OpI.mulI ?s1, ?_⟩); (case s1 => exact IntMulOk.of_left (by decide +kernel)))
  | ((with_reducible refine' Ev.globI ?s0 ?s5 ?_); (case s0 => assumption); (case s5 => dsimp only; k_is))
  | ((fail_if_success (with_reducible refine Ev.revL ?_)); (with_reducible refine' Ev.item ?_)))
local macro_rules | `(tactic| walk_at "lit") => `(tactic| ((generalize eb : kbd _ = bb); (conv at eb => lhs; whnf); (subst eb); (generalize es : ksc _ = ss); (conv at es => lhs; whnf); (subst es)))


theorem fn_ISEOF (w : World) (i : Int) : CallOk PySem.Challenge.rw_wf0084_01.row.toRowW.prog w (Kh w.params) 1 87 [.int i] (fun d => d = .bool (i == 0)) := by
  k_fill
  refine' CallOk.enter [Str.ofString "x"] [] ?k1 ?k2 ?k3 ?k4 ?k5 ?k6 ?k7 ?_ ?k8 ?k9 ?k10
  case k1 => k_is
  case k2 => k_is
  case k3 => intro s vs h; match vs, h with | [v0], _ => exact BindsTo.of_eq rfl
  case k4 => rfl
  case k5 => decide +kernel
  case k6 => decide +kernel
  case k7 => decide +kernel
  case k8 => rfl
  case k9 => rfl
  case k10 => rfl
  intro s₀ H₀ L A ok
  walk_at "lit"
  simp only [startS, List.zip_cons_cons, List.zip_nil_left, List.zip_nil_right, List.map_cons, List.map_nil, List.cons_append, List.nil_append]
  repeat' (walk_at "m")
  rfl

theorem fn_ISNT (w : World) (i : Int) : CallOk PySem.Challenge.rw_wf0084_01.row.toRowW.prog w (Kh w.params) 1 80 [.int i] (fun d => d = .bool (decide (i ≥ 256))) := by
  k_fill
  refine' CallOk.enter [Str.ofString "x"] [] ?k1 ?k2 ?k3 ?k4 ?k5 ?k6 ?k7 ?_ ?k8 ?k9 ?k10
  case k1 => k_is
  case k2 => k_is
  case k3 => intro s vs h; match vs, h with | [v0], _ => exact BindsTo.of_eq rfl
  case k4 => rfl
  case k5 => decide +kernel
  case k6 => decide +kernel
  case k7 => decide +kernel
  case k8 => rfl
  case k9 => rfl
  case k10 => rfl
  intro s₀ H₀ L A ok
  walk_at "lit"
  simp only [startS, List.zip_cons_cons, List.zip_nil_left, List.zip_nil_right, List.map_cons, List.map_nil, List.cons_append, List.nil_append]
  repeat' (walk_at "m")
  rfl

theorem fn_written (w : World) (r : Rl) (hr : r.Ok) : CallOk PySem.Challenge.rw_wf0084_01.row.toRowW.prog w (Kh w.params) 1 245 [r.D] (fun d => d = r.pair) := by
  k_fill
  refine' CallOk.enter [Str.ofString "rule"] [Str.ofString "name", Str.ofString "side"] ?k1 ?k2 ?k3 ?k4 ?k5 ?k6 ?k7 ?_ ?k8 ?k9 ?k10
  case k1 => k_is
  case k2 => k_is
  case k3 => intro s vs h; match vs, h with | [v0], _ => exact BindsTo.of_eq rfl
  case k4 => rfl
  case k5 => decide +kernel
  case k6 => decide +kernel
  case k7 => decide +kernel
  case k8 => rfl
  case k9 => rfl
  case k10 => rfl
  intro s₀ H₀ L A ok
  walk_at "lit"
  simp only [startS, List.zip_cons_cons, List.zip_nil_left, List.zip_nil_right, List.map_cons, List.map_nil, List.cons_append, List.nil_append]
  have ⟨a0, a1, b0, b1, c0, c1, d0, d1, e0, e1, f0, f1⟩ := hr
  unfold Rl.D
  repeat' (walk_at "m")
  refine ⟨fun hd => ?_, fun hd => ?_⟩
  all_goals (repeat' (walk_at "m"))
  · have e : r.d = 1 := by simpa using hd
    simp [Rl.pair, Rl.name, Rl.deed, arrow, e]
  · have e : ¬ r.d = 1 := by simpa using hd
    simp [Rl.pair, Rl.name, Rl.deed, arrow, e]

theorem fn_worth (w : World) (l : List Nat) (hl : ∀ c ∈ l, Sgn c) : CallOk PySem.Challenge.rw_wf0084_01.row.toRowW.prog w (Kh w.params) 1 273 [.str (T l)] (fun d => d = .int (worth l)) := by
  k_fill
  refine' CallOk.enter [Str.ofString "signs"] [Str.ofString "worth", Str.ofString "sign"] ?k1 ?k2 ?k3 ?k4 ?k5 ?k6 ?k7 ?_ ?k8 ?k9 ?k10
  case k1 => k_is
  case k2 => k_is
  case k3 => intro s vs h; match vs, h with | [v0], _ => exact BindsTo.of_eq rfl
  case k4 => rfl
  case k5 => decide +kernel
  case k6 => decide +kernel
  case k7 => decide +kernel
  case k8 => rfl
  case k9 => rfl
  case k10 => rfl
  intro s₀ H₀ L A ok
  walk_at "lit"
  simp only [startS, List.zip_cons_cons, List.zip_nil_left, List.zip_nil_right, List.map_cons, List.map_nil, List.cons_append, List.nil_append]
  repeat' (walk_at "m")
  walk_at "forS"
  repeat' (walk_at "m")
  refine ⟨_, fun i σ => ∃ lv, σ = [(Str.ofString "signs", .d (.str (T l))), (Str.ofString "worth", .d (.int (worth (l.take i)))), (Str.ofString "sign", lv)], rfl, ascii_T (fun c hc => ?_), ⟨_, rfl⟩, fun i d σ₂ hd hj => ?_, fun σ₂ hj => ?_⟩
  · rcases hl c hc with rfl | rfl | rfl <;> decide
  · obtain ⟨lv, rfl⟩ := hj
    obtain ⟨c, hc, rfl⟩ := signs_T hd
    repeat' (walk_at "m")
    rw [find_ox (hl c (List.mem_of_getElem? hc))]
    repeat' (walk_at "m")
    dsimp only
    rw [take_snoc hc, worth_snoc]
    exact ⟨_, rfl⟩
  · obtain ⟨lv, rfl⟩ := hj
    rw [T_length, List.take_length]
    repeat' (walk_at "m")
    rfl



theorem at_written (w : World) : PySem.Challenge.rw_wf0084_01 = PySem.Challenge.rw_wf0084_01 → Fn (Kh w.params) (Str.ofString "_law_written") 245 := by
  k_fill
  intro _
  refine' Fn.of ?k1 ?k2
  case k1 => k_is
  case k2 => k_is

local macro_rules | `(tactic| walk_at "cwritten") => `(tactic| ((with_reducible refine' Ev.call ?s0 (at_written _ rfl) ?_ (hk := ?s1) (hx := ?s2) (hg := ?s3) (hd := ?s4) (he := ?s5)); (case s0 => assumption); (case s1 => exact rfl); (case s2 => exact rfl); (case s3 => exact rfl); (case s4 => decide); (case s5 => exact rfl)))

theorem fn_kept (w : World) (rs : List Rl) (hr : ∀ r ∈ rs, r.Ok) (hn : rs.length ≤ 16) : CallOk PySem.Challenge.rw_wf0084_01.row.toRowW.prog w (Kh w.params) 2 266 [.lst (rs.map Rl.D)] (fun d => d = .lst ((kept rs).map Rl.pair)) := by
  k_fill
  refine' CallOk.enter [Str.ofString "rules"] [Str.ofString "seen", Str.ofString "kept", Str.ofString "rule"] ?k1 ?k2 ?k3 ?k4 ?k5 ?k6 ?k7 ?_ ?k8 ?k9 ?k10
  case k1 => k_is
  case k2 => k_is
  case k3 => intro s vs h; match vs, h with | [v0], _ => exact BindsTo.of_eq rfl
  case k4 => rfl
  case k5 => decide +kernel
  case k6 => decide +kernel
  case k7 => decide +kernel
  case k8 => rfl
  case k9 => rfl
  case k10 => rfl
  intro s₀ H₀ L A ok
  walk_at "lit"
  simp only [startS, List.zip_cons_cons, List.zip_nil_left, List.zip_nil_right, List.map_cons, List.map_nil, List.cons_append, List.nil_append]
  repeat' (walk_at "m")
  intro a1
  repeat' (walk_at "m")
  intro a2
  repeat' (walk_at "m")
  walk_at "forL"
  walk_at "revL"
  repeat' (walk_at "m")
  have hlen : rs.reverse.length = rs.length := List.length_reverse
  refine ⟨_, fun i σ => ∃ lv, σ = [(Str.ofString "rules", .d (.lst (rs.map Rl.D))), (Str.ofString "seen", .own a1 (.lst ((kacc (rs.reverse.take i)).1.map D.int))), (Str.ofString "kept", .own a2 (.lst ((kacc (rs.reverse.take i)).2.map Rl.pair))), (Str.ofString "rule", lv)], rfl, ⟨_, rfl⟩, fun i d σ₂ hd hj => ?_, fun σ₂ hj => ?_⟩
  · obtain ⟨lv, rfl⟩ := hj
    rw [← List.map_reverse] at hd
    obtain ⟨r, hr', rfl⟩ := map_get hd
    have hmem : r ∈ rs := List.mem_reverse.mp (List.mem_of_getElem? hr')
    have hk := kacc_len (rs.reverse.take i)
    have hk2 : (rs.reverse.take i).length ≤ 16 := by rw [List.length_take]; omega
    have hs : kacc (rs.reverse.take (i + 1)) = kstep (kacc (rs.reverse.take i)) r := by rw [take_snoc hr', kacc_snoc]
    unfold Rl.D
    repeat' (walk_at "m")
    refine ⟨fun hb => ?_, fun hb => ?_⟩
    · have hb' : keyOf r ∉ (kacc (rs.reverse.take i)).1 := by simpa [keyOf] using hb
      repeat' (walk_at "m")
      walk_at "cwritten"
      repeat' (walk_at "m")
      refine ⟨_, _, fn_written w r (hr r hmem), (Nat.le_of_ble_eq_true rfl), ?_⟩
      rintro _ rfl
      repeat' (walk_at "m")
      dsimp only
      rw [hs, kstep, if_neg hb']
      simp only [List.map_append, List.map_cons, List.map_nil, keyOf]
      exact ⟨_, rfl⟩
    · have hb' : keyOf r ∈ (kacc (rs.reverse.take i)).1 := by simpa [keyOf] using hb
      repeat' (walk_at "m")
      dsimp only
      rw [hs, kstep, if_pos hb']
      exact ⟨_, rfl⟩
  · obtain ⟨lv, rfl⟩ := hj
    have e : rs.reverse.take (List.map Rl.D rs).reverse.length = rs.reverse := List.take_of_length_le (by simp)
    rw [e]
    have hk := kacc_len rs.reverse
    repeat' (walk_at "m")
    walk_at "revL"
    repeat' (walk_at "m")
    rw [kept, List.map_reverse]



theorem fn_rules (w : World) (ns : List Int) (hn : ns.length ≤ 63) : CallOk PySem.Challenge.rw_wf0084_01.row.toRowW.prog w (Kh w.params) 1 231 [.lst (ns.map D.int)] (fun d => d = .lst ((rulesOf ns).map Rl.D)) := by
  k_fill
  refine' CallOk.enter [Str.ofString "script"] [Str.ofString "rules", Str.ofString "x", Str.ofString "v"] ?k1 ?k2 ?k3 ?k4 ?k5 ?k6 ?k7 ?_ ?k8 ?k9 ?k10
  case k1 => k_is
  case k2 => k_is
  case k3 => intro s vs h; match vs, h with | [v0], _ => exact BindsTo.of_eq rfl
  case k4 => rfl
  case k5 => decide +kernel
  case k6 => decide +kernel
  case k7 => decide +kernel
  case k8 => rfl
  case k9 => rfl
  case k10 => rfl
  intro s₀ H₀ L A ok
  walk_at "lit"
  simp only [startS, List.zip_cons_cons, List.zip_nil_left, List.zip_nil_right, List.map_cons, List.map_nil, List.cons_append, List.nil_append]
  repeat' (walk_at "m")
  intro a1
  repeat' (walk_at "m")
  walk_at "forL"
  walk_at "takeL"
  repeat' (walk_at "m")
  refine ⟨_, fun i σ => ∃ lx lv, σ = [(Str.ofString "script", .d (.lst (ns.map D.int))), (Str.ofString "rules", .own a1 (.lst ((base6 ++ (ns.take 6 |>.take i).map ruleOf).map Rl.D))), (Str.ofString "x", lx), (Str.ofString "v", lv)], rfl, ⟨_, _, rfl⟩, fun i d σ₂ hd hj => ?_, fun σ₂ hj => ?_⟩
  · obtain ⟨lx, lv, rfl⟩ := hj
    rw [← List.map_take] at hd
    obtain ⟨x, hx, rfl⟩ := map_get hd
    have h6 : base6.length = 6 := rfl
    repeat' (walk_at "m")
    dsimp only
    rw [take_snoc hx]
    simp only [List.map_append, List.map_cons, List.map_nil, List.append_assoc]
    exact ⟨_, _, rfl⟩
  · obtain ⟨lx, lv, rfl⟩ := hj
    repeat' (walk_at "m")
    have e : (ns.take 6 |>.take ((ns.map D.int).take 6).length) = ns.take 6 := List.take_of_length_le (by simp)
    rw [e]; rfl

theorem fn_tape (w : World) (ns : List Int) (hn : ns.length ≤ 63) : CallOk PySem.Challenge.rw_wf0084_01.row.toRowW.prog w (Kh w.params) 1 238 [.lst (ns.map D.int)] (fun d => d = .tup [.str (T (tape ns).1), .str (T (tape ns).2)]) := by
  k_fill
  refine' CallOk.enter [Str.ofString "script"] [Str.ofString "left", Str.ofString "right", Str.ofString "x", Str.ofString "y"] ?k1 ?k2 ?k3 ?k4 ?k5 ?k6 ?k7 ?_ ?k8 ?k9 ?k10
  case k1 => k_is
  case k2 => k_is
  case k3 => intro s vs h; match vs, h with | [v0], _ => exact BindsTo.of_eq rfl
  case k4 => rfl
  case k5 => decide +kernel
  case k6 => decide +kernel
  case k7 => decide +kernel
  case k8 => rfl
  case k9 => rfl
  case k10 => rfl
  intro s₀ H₀ L A ok
  walk_at "lit"
  simp only [startS, List.zip_cons_cons, List.zip_nil_left, List.zip_nil_right, List.map_cons, List.map_nil, List.cons_append, List.nil_append]
  repeat' (walk_at "m")
  walk_at "forL"
  walk_at "takeL"
  repeat' (walk_at "m")
  refine ⟨_, fun i σ => ∃ lx lv, σ = [(Str.ofString "script", .d (.lst (ns.map D.int))), (Str.ofString "left", .d (.str (T (tacc (ns.take 6 |>.take i)).1))), (Str.ofString "right", .d (.str (T (tacc (ns.take 6 |>.take i)).2))), (Str.ofString "x", lx), (Str.ofString "y", lv)], rfl, ⟨_, _, rfl⟩, fun i d σ₂ hd hj => ?_, fun σ₂ hj => ?_⟩
  · obtain ⟨lx, lv, rfl⟩ := hj
    rw [← List.map_take] at hd
    obtain ⟨x, hx, rfl⟩ := map_get hd
    have hl := tacc_ok (ns.take 6 |>.take i)
    have hl2 : (ns.take 6 |>.take i).length ≤ 6 := by simp only [List.length_take]; omega
    have hs : tacc (ns.take 6 |>.take (i + 1)) = tstep (tacc (ns.take 6 |>.take i)) x := by rw [take_snoc hx, tacc_snoc]
    have hf := fmod_lt' ((x.fdiv 288).fdiv 2) (show (0 : Int) < 3 by decide)
    repeat' (walk_at "m")
    refine ⟨fun hb => ?_, fun hb => ?_⟩
    · have hb' : (x.fdiv 288).fmod 2 = 0 := by simpa using hb
      repeat' (walk_at "m")
      dsimp only
      rw [hs, tstep, if_pos hb']
      exact ⟨_, _, rfl⟩
    · have hb' : ¬ (x.fdiv 288).fmod 2 = 0 := by simpa using hb
      repeat' (walk_at "m")
      dsimp only
      rw [hs, tstep, if_neg hb']
      exact ⟨_, _, rfl⟩
  · obtain ⟨lx, lv, rfl⟩ := hj
    repeat' (walk_at "m")
    have e : (ns.take 6 |>.take ((ns.map D.int).take 6).length) = ns.take 6 := List.take_of_length_le (by simp)
    rw [e]; rfl



theorem bi_range (w : World) : PySem.Challenge.rw_wf0084_01 = PySem.Challenge.rw_wf0084_01 → nsIn (Kh w.params) mainGlobals (Str.ofString "range") = some none ∧ bootBuiltins (Str.ofString "range") = some (.type "range") := by
  k_fill
  intro _
  refine' ⟨?k1, ?k2⟩
  case k1 => k_is
  case k2 => boot_fast

theorem fn_numbers (w : World) (rs : List Rl) (hr : ∀ r ∈ rs, r.Ok) (hn : rs.length ≤ 16) (l r : Int) : CallOk PySem.Challenge.rw_wf0084_01.row.toRowW.prog w (Kh w.params) 1 287 [.lst (rs.map Rl.D), .int l, .int r] (fun d => d = .lst ((ntold rs 17 ⟨0, l, r⟩).map Cf.D)) := by
  k_fill
  refine' CallOk.enter [Str.ofString "rules", Str.ofString "left", Str.ofString "right"] [Str.ofString "last", Str.ofString "rule", Str.ofString "told", Str.ofString "state", Str.ofString "turn"] ?k1 ?k2 ?k3 ?k4 ?k5 ?k6 ?k7 ?_ ?k8 ?k9 ?k10
  case k1 => k_is
  case k2 => k_is
  case k3 => intro s vs h; match vs, h with | [v0, v1, v2], _ => exact BindsTo.of_eq rfl
  case k4 => rfl
  case k5 => decide +kernel
  case k6 => decide +kernel
  case k7 => decide +kernel
  case k8 => rfl
  case k9 => rfl
  case k10 => rfl
  intro s₀ H₀ L A ok
  walk_at "lit"
  simp only [startS, List.zip_cons_cons, List.zip_nil_left, List.zip_nil_right, List.map_cons, List.map_nil, List.cons_append, List.nil_append]
  repeat' (walk_at "m")
  intro a1
  repeat' (walk_at "m")
  walk_at "forL"
  repeat' (walk_at "m")
  refine ⟨_, fun i σ => ∃ lv, σ = [(Str.ofString "rules", .d (.lst (rs.map Rl.D))), (Str.ofString "left", .d (.int l)), (Str.ofString "right", .d (.int r)), (Str.ofString "last", .own a1 (.dct (lastOf (rs.take i)))), (Str.ofString "rule", lv), (Str.ofString "told", .unb), (Str.ofString "state", .unb), (Str.ofString "turn", .unb)], rfl, ⟨_, rfl⟩, fun i d σ₂ hd hj => ?_, fun σ₂ hj => ?_⟩
  · obtain ⟨lv, rfl⟩ := hj
    obtain ⟨r, hr', rfl⟩ := map_get hd
    have hl := lastOf_len (rs.take i)
    have hl2 : (rs.take i).length ≤ 16 := by rw [List.length_take]; omega
    unfold Rl.D
    repeat' (walk_at "m")
    dsimp only
    rw [take_snoc hr', lastOf_snoc]
    exact ⟨_, rfl⟩
  · obtain ⟨lv, rfl⟩ := hj
    have e : rs.take (rs.map Rl.D).length = rs := List.take_of_length_le (by simp)
    rw [e]
    repeat' (walk_at "m")
    intro a2
    repeat' (walk_at "m")
    refine St.forR (n := 17) ok (bi_range w rfl).1 (bi_range w rfl).2 (by decide) (fun i σ => ∃ (cf : Cf) (acc : List Cf) (lv lt : LV), 0 ≤ cf.st ∧ cf.st < 3 ∧ acc.length = i ∧ acc ++ ntold rs (17 - i) cf = ntold rs 17 ⟨0, l, r⟩ ∧
      σ = [(Str.ofString "rules", .d (.lst (rs.map Rl.D))), (Str.ofString "left", .d (.int cf.l)), (Str.ofString "right", .d (.int cf.r)), (Str.ofString "last", .own a1 (.dct (lastOf rs))), (Str.ofString "rule", lv), (Str.ofString "told", .own a2 (.lst (acc.map Cf.D))), (Str.ofString "state", .d (.int cf.st)), (Str.ofString "turn", lt)])
      ⟨⟨0, l, r⟩, [], _, _, Int.le_refl 0, (show (0 : Int) < 3 by decide), rfl, rfl, rfl⟩ (fun i σ₂ hi hj => ?_) (fun σ₂ hj => ?_)
    · obtain ⟨cf, acc, lv, lt, s0, s1, hacc, hrun, rfl⟩ := hj
      have h17 : 17 - i = (17 - (i + 1)) + 1 := by omega
      rw [h17, ntold] at hrun
      repeat' (walk_at "m")
      rw [dGet_last]
      cases hk : lk rs (3 * cf.st + cf.r.fmod 3) with
      | none =>
        have hn : nstep rs cf = none := by rw [nstep, hk]; rfl
        rw [hn] at hrun
        simp only [Option.map_none, Option.getD_none]
        repeat' (walk_at "m")
        refine ⟨fun _ => ?_, fun h => nomatch h⟩
        repeat' (walk_at "m")
        rw [← hrun, List.map_append]
        rfl
      | some rl =>
        have hs : nstep rs cf = some (nnext cf rl) := by rw [nstep, hk]; rfl
        rw [hs] at hrun
        have ⟨a0, a1, b0, b1, c0, c1, d0, d1, e0, e1, f0, f1⟩ := hr rl (lk_mem hk)
        have hx := nxt_ok rl.e
        simp only [Option.map_some, Option.getD_some]
        unfold Rl.D
        repeat' (walk_at "m")
        refine ⟨(fun h => nomatch h), fun _ => ?_⟩
        repeat' (walk_at "m")
        refine ⟨fun hb => ?_, fun hb => ?_⟩
        · have hb' : rl.d = 1 := by simpa using hb
          repeat' (walk_at "m")
          refine ⟨nnext cf rl, acc ++ [cf], .d rl.D, .d (.int i), ?_, ?_, by simp [hacc], by rw [← hrun]; simp, ?_⟩
          · unfold nnext; rw [if_pos hb']; exact hx.1
          · unfold nnext; rw [if_pos hb']; exact hx.2
          · unfold nnext; rw [if_pos hb', List.map_append]; rfl
        · have hb' : ¬ rl.d = 1 := by simpa using hb
          repeat' (walk_at "m")
          refine ⟨nnext cf rl, acc ++ [cf], .d rl.D, .d (.int i), ?_, ?_, by simp [hacc], by rw [← hrun]; simp, ?_⟩
          · unfold nnext; rw [if_neg hb']; exact hx.1
          · unfold nnext; rw [if_neg hb']; exact hx.2
          · unfold nnext; rw [if_neg hb', List.map_append]; rfl
    · obtain ⟨cf, acc, lv, lt, s0, s1, hacc, hrun, rfl⟩ := hj
      repeat' (walk_at "m")
      have e : acc = ntold rs 17 ⟨0, l, r⟩ := by simpa [ntold] using hrun
      rw [e]



theorem bi_len (w : World) : PySem.Challenge.rw_wf0084_01 = PySem.Challenge.rw_wf0084_01 → nsIn (Kh w.params) mainGlobals (Str.ofString "len") = some none ∧ bootBuiltins (Str.ofString "len") = some (.builtin "len") := by
  k_fill
  intro _
  refine' ⟨?k1, ?k2⟩
  case k1 => k_is
  case k2 => boot_fast

local macro_rules | `(tactic| walk_at "len") => `(tactic| ((with_reducible refine' Ev.lenT ?s0 (bi_len _ rfl).1 (bi_len _ rfl).2 ?_ (hne := ?s1) (hk := ?s2) (hx := ?s3) (hg := ?s4) (hbi := ?s5) (hd := ?s6) (he := ?s7)); (case s0 => assumption); (case s1 => decide); (case s2 => exact rfl); (case s3 => exact rfl); (case s4 => exact rfl); (case s5 => exact rfl); (case s6 => decide); (case s7 => exact rfl)))
local macro_rules | `(tactic| walk_at "it") => `(tactic| (with_reducible refine' ⟨_, Item.T ?s1 ?s2 ?s3, ?_⟩))

theorem fn_parse (w : World) (l rest : List Nat) (hl : l.length ≤ 100) (hr : rest.length ≤ 100) (hq : rest.head? ≠ some 34) : CallOk PySem.Challenge.rw_wf0084_01.row.toRowW.prog w (Kh w.params) 1 70 [.str (T (rep l rest))] (fun d => d = .str (T l)) := by
  k_fill
  refine' CallOk.enter [Str.ofString "resp"] [Str.ofString "dirname", Str.ofString "i", Str.ofString "n", Str.ofString "c"] ?k1 ?k2 ?k3 ?k4 ?k5 ?k6 ?k7 ?_ ?k8 ?k9 ?k10
  case k1 => k_is
  case k2 => k_is
  case k3 => intro s vs h; match vs, h with | [v0], _ => exact BindsTo.of_eq rfl
  case k4 => rfl
  case k5 => decide +kernel
  case k6 => decide +kernel
  case k7 => decide +kernel
  case k8 => rfl
  case k9 => rfl
  case k10 => rfl
  intro s₀ H₀ L A ok
  walk_at "lit"
  simp only [startS, List.zip_cons_cons, List.zip_nil_left, List.zip_nil_right, List.map_cons, List.map_nil, List.cons_append, List.nil_append]
  have hdl := dbl_len l
  have hp : (rep l rest).length ≤ 400 := by simp only [rep, List.length_append, List.length_cons, List.length_nil]; omega
  have h1 : cutL (rep l rest) none (some 3) = [50, 53, 55] := by exact cutL_to' (i := 3) _ 3 rfl
  have h2 : cutL (rep l rest) (some 3) (some 5) = [32, 34] := by exact cutL_mid' (i := 3) (j := 5) _ 3 5 rfl rfl
  generalize hP : rep l rest = P at hp h1 h2 ⊢
  unfold rep at hP
  repeat' (walk_at "m")
  rw [h1]
  refine ⟨(fun h => absurd h (by decide)), fun _ => ?_⟩
  repeat' (walk_at "m")
  rw [h2]
  refine ⟨(fun h => absurd h (by decide)), fun _ => ?_⟩
  repeat' (walk_at "m")
  refine Ev.lenT ok (bi_len w rfl).1 (bi_len w rfl).2 ?_
  repeat' (walk_at "m")
  refine St.while (fun n σ => ∃ d t lv, l = d ++ t ∧ n = t.length ∧ σ = [(Str.ofString "resp", .d (.str (T P))), (Str.ofString "dirname", .d (.str (T d))), (Str.ofString "i", .d (.int ((5 + (dbl d).length : Nat) : Int))), (Str.ofString "n", .d (.int (P.length : Int))), (Str.ofString "c", lv)]) l.length ⟨[], l, _, rfl, rfl, rfl⟩ ?_
  rintro n σ ⟨d, t, lv, hdt, rfl, rfl⟩
  have hk : ∀ j, P[5 + (dbl d).length + j]? = (dbl t ++ 34 :: rest)[j]? := fun j => by
    have e : P = ([50, 53, 55, 32, 34] ++ dbl d) ++ (dbl t ++ 34 :: rest) := by rw [← hP, hdt, dbl_append]; simp
    rw [e, List.getElem?_append_right (by simp only [List.length_append, List.length_cons, List.length_nil]; omega)]
    congr 1
    simp only [List.length_append, List.length_cons, List.length_nil]; omega
  have hlen : P.length = 5 + (dbl d).length + ((dbl t).length + 1 + rest.length) := by
    rw [← hP, hdt, dbl_append]; simp only [List.length_append, List.length_cons, List.length_nil]; omega
  have hd1 := dbl_len d
  have hdl' : d.length ≤ 100 := by rw [hdt, List.length_append] at hl; omega
  repeat' (walk_at "m")
  refine ⟨fun _ => ?_, fun h => ?_⟩
  rotate_left
  · exfalso
    have h' : ¬ (((5 + (dbl d).length : Nat) : Int) < (P.length : Int)) := of_decide_eq_false h
    omega
  repeat' (walk_at "m")
  cases t with
  | nil =>
    simp only [show dbl [] = [] from rfl, List.nil_append, List.length_nil] at hk hlen
    refine' ⟨_, Item.T (c := 34) ?s1 ?s2 ?s3, ?_⟩
    case s1 => omega
    case s2 => rw [Int.toNat_natCast]; exact hk 0
    case s3 => omega
    repeat' (walk_at "m")
    refine ⟨fun _ => ?_, fun h => absurd h (by decide)⟩
    repeat' (walk_at "m")
    have el : l = d := by rw [hdt, List.append_nil]
    refine ⟨fun hb => ?_, fun hb => ?_⟩
    · refine ⟨fun _ => ?_, fun h => absurd h (by decide)⟩
      repeat' (walk_at "m")
      rw [el]
    · have hb' : ¬ (((5 + (dbl d).length : Nat) : Int) + 1 ≥ (P.length : Int)) := of_decide_eq_false hb
      repeat' (walk_at "m")
      cases rest with
      | nil => exfalso; simp only [List.length_nil] at hlen; omega
      | cons y r =>
        have hy : y ≠ 34 := fun e => hq (by rw [e]; rfl)
        refine' ⟨_, Item.T (c := y) ?t1 ?t2 ?t3, ?_⟩
        case t1 => omega
        case t2 =>
          have e : (((5 + (dbl d).length : Nat) : Int) + 1).toNat = 5 + (dbl d).length + 1 := by omega
          rw [e]; exact hk 1
        case t3 => omega
        repeat' (walk_at "m")
        refine ⟨fun _ => ?_, fun h => ?_⟩
        · repeat' (walk_at "m")
          rw [el]
        · exfalso
          simp [hy] at h
  | cons x t =>
    by_cases hx : x = 34
    · subst hx
      have ed : dbl (34 :: t) = 34 :: 34 :: dbl t := rfl
      simp only [ed, List.cons_append, List.length_cons] at hk hlen
      refine' ⟨_, Item.T (c := 34) ?s1 ?s2 ?s3, ?_⟩
      case s1 => omega
      case s2 => rw [Int.toNat_natCast]; exact hk 0
      case s3 => omega
      repeat' (walk_at "m")
      refine ⟨fun _ => ?_, fun h => absurd h (by decide)⟩
      repeat' (walk_at "m")
      refine ⟨fun hb => ?_, fun hb => ?_⟩
      · exfalso
        have hb' : (((5 + (dbl d).length : Nat) : Int) + 1 ≥ (P.length : Int)) := of_decide_eq_true hb
        omega
      · repeat' (walk_at "m")
        refine' ⟨_, Item.T (c := 34) ?t1 ?t2 ?t3, ?_⟩
        case t1 => omega
        case t2 =>
          have e : (((5 + (dbl d).length : Nat) : Int) + 1).toNat = 5 + (dbl d).length + 1 := by omega
          rw [e]; exact hk 1
        case t3 => omega
        repeat' (walk_at "m")
        refine ⟨fun h => absurd h (by decide), fun _ => ?_⟩
        repeat' (walk_at "m")
        have e : (((5 + (dbl d).length : Nat) : Int) + 1 + 1) = ((5 + (dbl (d ++ [34])).length : Nat) : Int) := by
          rw [dbl_append]; simp only [List.length_append, show (dbl [34]).length = 2 from rfl]; omega
        refine ⟨t.length, Nat.lt_succ_self _, d ++ [34], t, .d (.str (T [34])), by rw [hdt]; simp, rfl, ?_⟩
        rw [e]
    · have ed : dbl (x :: t) = x :: dbl t := by simp [dbl, hx]
      have ed1 : dbl [x] = [x] := by simp [dbl, hx]
      simp only [ed, List.cons_append, List.length_cons] at hk hlen
      refine' ⟨_, Item.T (c := x) ?s1 ?s2 ?s3, ?_⟩
      case s1 => omega
      case s2 => rw [Int.toNat_natCast]; exact hk 0
      case s3 => omega
      repeat' (walk_at "m")
      refine ⟨fun h => ?_, fun _ => ?_⟩
      · exfalso
        simp [hx] at h
      repeat' (walk_at "m")
      have e : (((5 + (dbl d).length : Nat) : Int) + 1) = ((5 + (dbl (d ++ [x])).length : Nat) : Int) := by
        rw [dbl_append, ed1]; simp only [List.length_append, List.length_cons, List.length_nil]; omega
      refine ⟨t.length, Nat.lt_succ_self _, d ++ [x], t, .d (.str (T [x])), by rw [hdt]; simp, rfl, ?_⟩
      rw [e]



theorem exact_at (w : World) : PySem.Challenge.rw_wf0084_01 = PySem.Challenge.rw_wf0084_01 → ∃ es n, Exact (Kh w.params) w.params 71 es n := by
  k_fill
  intro _
  refine' Exact.intro ?k1 ?k2 ?k3 ?k4 ?k5 ?k6 ?k7 ?k8 ?k9 ?j6 ?j7 ?j8 ?j9
  case k1 => k_is
  case k2 => k_is
  case k3 => k_keys
  case k4 => repeat (first | exact True.intro | refine And.intro ⟨_, _, rfl, (by decide +kernel)⟩ ?_)
  case k5 => decide
  case k6 => k_is
  case k7 => k_is
  case k8 => k_is
  case k9 => k_is
  case j6 => rfl
  case j7 => rfl
  case j8 => rfl
  case j9 => rfl
local macro_rules | `(tactic| walk_at "inX") => `(tactic| first | ((with_reducible refine' Tr.inX ?s0 ?s9 ?_ (hm := ?s1) (hk := ?s2) (hx := ?s3) (hg := ?s4)); (case s0 => assumption); (case s9 => assumption); (case s1 => with_unfolding_all rfl); (case s2 => exact rfl); (case s3 => exact rfl); (case s4 => exact rfl)) | ((with_reducible refine' Tr.notInX ?s0 ?s9 ?_ (hm := ?s1) (hk := ?s2) (hx := ?s3) (hg := ?s4)); (case s0 => assumption); (case s9 => assumption); (case s1 => with_unfolding_all rfl); (case s2 => exact rfl); (case s3 => exact rfl); (case s4 => exact rfl)) | ((with_reducible refine' Ev.itemX ?s0 ?s9 ?_ (hk := ?s2) (hx := ?s3) (hg := ?s4) (hs := ?s5)); (case s0 => assumption); (case s9 => assumption); (case s2 => exact rfl); (case s3 => exact rfl); (case s4 => exact rfl); (case s5 => intros; with_unfolding_all rfl)))

theorem fn_cut (w : World) (text : List Nat) (cs : List Int) (hc : Tok text cs) (hl : text.length ≤ 200) : CallOk PySem.Challenge.rw_wf0084_01.row.toRowW.prog w (Kh w.params) 1 252 [.str (T text)] (fun d => d = .lst ((cs ++ [0]).map D.int)) := by
  k_fill
  refine' CallOk.enter [Str.ofString "text"] [Str.ofString "codes", Str.ofString "at", Str.ofString "size", Str.ofString "piece"] ?k1 ?k2 ?k3 ?k4 ?k5 ?k6 ?k7 ?_ ?k8 ?k9 ?k10
  case k1 => k_is
  case k2 => k_is
  case k3 => intro s vs h; match vs, h with | [v0], _ => exact BindsTo.of_eq rfl
  case k4 => rfl
  case k5 => decide +kernel
  case k6 => decide +kernel
  case k7 => decide +kernel
  case k8 => rfl
  case k9 => rfl
  case k10 => rfl
  intro s₀ H₀ L A ok
  walk_at "lit"
  simp only [startS, List.zip_cons_cons, List.zip_nil_left, List.zip_nil_right, List.map_cons, List.map_nil, List.cons_append, List.nil_append]
  obtain ⟨es, nx, hX⟩ := exact_at w rfl
  have hcl := hc.len
  repeat' (walk_at "m")
  intro a1
  repeat' (walk_at "m")
  refine St.while (fun n σ => ∃ d t done rest ls lp, text = d ++ t ∧ n = t.length ∧ Tok t rest ∧ cs = done ++ rest ∧ σ = [(Str.ofString "text", .d (.str (T text))), (Str.ofString "codes", .own a1 (.lst (done.map D.int))), (Str.ofString "at", .d (.int (d.length : Int))), (Str.ofString "size", ls), (Str.ofString "piece", lp)]) text.length ⟨[], text, [], cs, _, _, rfl, rfl, hc, rfl, rfl⟩ ?_
  rintro n σ ⟨d, t, done, rest, ls, lp, htx, rfl, hk, hcs, rfl⟩
  have hlen : text.length = d.length + t.length := by rw [htx, List.length_append]
  have hlc : cs.length = done.length + rest.length := by rw [hcs, List.length_append]
  repeat' (walk_at "m")
  refine Ev.lenT ok (bi_len w rfl).1 (bi_len w rfl).2 ?_
  repeat' (walk_at "m")
  refine ⟨fun hb => ?_, fun hb => ?_⟩
  · have hb' : ((d.length : Int) < (text.length : Int)) := of_decide_eq_true hb
    have ht : t ≠ [] := fun e => by subst e; simp only [List.length_nil] at hlen; omega
    obtain ⟨sz, r, code, rest', tk, rfl, hk'⟩ := hk.step ht
    have cut : ∀ k : Nat, cutL text (some (d.length : Int)) (some ((d.length : Int) + (k : Int))) = t.take k := fun k => by
      rw [cutL_mid' (i := (d.length : Int)) (j := (d.length : Int) + (k : Int)) text d.length (d.length + k) rfl (by omega), htx, List.drop_left', Nat.add_sub_cancel_left]
      rfl
    repeat' (walk_at "m")
    refine St.whileE (fun n σ => ∃ lp, sz + n ≤ 3 ∧ σ = [(Str.ofString "text", .d (.str (T text))), (Str.ofString "codes", .own a1 (.lst (done.map D.int))), (Str.ofString "at", .d (.int (d.length : Int))), (Str.ofString "size", .d (.int ((sz + n : Nat) : Int))), (Str.ofString "piece", lp)])
      (fun σ => ∃ lp, σ = [(Str.ofString "text", .d (.str (T text))), (Str.ofString "codes", .own a1 (.lst (done.map D.int))), (Str.ofString "at", .d (.int (d.length : Int))), (Str.ofString "size", .d (.int (sz : Int))), (Str.ofString "piece", lp)]) (3 - sz) ⟨lp, ?_, ?_⟩ (fun σ hσ => ?_) (fun n σ hσ => ?_)
    · have := tk.hi; omega
    · have : sz + (3 - sz) = 3 := by have := tk.hi; omega
      rw [this]; rfl
    · obtain ⟨lp', rfl⟩ := hσ
      repeat' (first | walk_at "inX" | walk_at "m")
      rw [cut]
      repeat' (first | walk_at "inX" | walk_at "m")
      refine ⟨_, r, rfl, tk.here, fun hr => ?_, fun hr => ?_⟩
      · obtain ⟨i, rfl⟩ := Option.isSome_iff_exists.mp hr
        obtain rfl := tk.yes i rfl
        repeat' (first | walk_at "inX" | walk_at "m")
        refine ⟨_, i, rfl, tk.here, ?_⟩
        repeat' (first | walk_at "inX" | walk_at "m")
        refine ⟨(t.drop sz).length, by rw [List.length_drop]; have := tk.lo; have := tk.len; omega, d ++ t.take sz, t.drop sz, done ++ [i], rest', .d (.int (sz : Int)), .d (.str (T (t.take sz))), by rw [htx, List.append_assoc, List.take_append_drop], rfl, hk', by rw [hcs]; simp, ?_⟩
        have e : ((d ++ t.take sz).length : Int) = (d.length : Int) + (sz : Int) := by
          rw [List.length_append, List.length_take]; have := tk.len; omega
        rw [e, List.map_append]
        rfl
      · have hn : r = none := by cases r with | none => rfl | some i => cases hr
        repeat' (first | walk_at "inX" | walk_at "m")
        rw [← tk.no hn]
        refine ⟨(t.drop sz).length, by rw [List.length_drop]; have := tk.lo; have := tk.len; omega, d ++ t.take sz, t.drop sz, done ++ [code], rest', .d (.int (sz : Int)), .d (.str (T (t.take sz))), by rw [htx, List.append_assoc, List.take_append_drop], rfl, hk', by rw [hcs]; simp, ?_⟩
        have e : ((d ++ t.take sz).length : Int) = (d.length : Int) + (sz : Int) := by
          rw [List.length_append, List.length_take]; have := tk.len; omega
        rw [e, List.map_append]
        rfl
    · obtain ⟨lp', h3, rfl⟩ := hσ
      repeat' (walk_at "m")
      refine ⟨fun hz => ⟨fun h => (nomatch h), fun _ => ?_⟩, fun hz => ?_⟩
      · have hz' : ¬ ((sz + n : Nat) : Int) > 1 := of_decide_eq_false hz
        have : n = 0 := by have := tk.lo; omega
        subst this
        exact ⟨lp', rfl⟩
      · have hz' : ((sz + n : Nat) : Int) > 1 := of_decide_eq_true hz
        walk_at "inX"
        repeat' (walk_at "m")
        rw [cut]
        by_cases h0 : n = 0
        · subst h0
          refine ⟨_, r, rfl, tk.here, fun h => ?_, fun h => ⟨lp', rfl⟩⟩
          have := tk.big (by have := tk.hi; omega)
          rw [this] at h; cases h
        · refine ⟨_, none, rfl, tk.over _ (by omega) h3, fun _ => ?_, fun h => nomatch h⟩
          repeat' (walk_at "m")
          have e : (((sz + n : Nat) : Int) - 1) = ((sz + (n - 1) : Nat) : Int) := by omega
          rw [e]
          exact ⟨n - 1, by omega, lp', by omega, rfl⟩
  · have hb' : ¬ ((d.length : Int) < (text.length : Int)) := of_decide_eq_false hb
    have ht : t = [] := List.eq_nil_of_length_eq_zero (by omega)
    subst ht
    cases hk
    rw [List.append_nil] at hcs
    subst hcs
    repeat' (walk_at "m")
    rw [List.map_append]
    rfl



theorem bi_type (w : World) : PySem.Challenge.rw_wf0084_01 = PySem.Challenge.rw_wf0084_01 → nsIn (Kh w.params) mainGlobals (Str.ofString "type") = some none ∧ bootBuiltins (Str.ofString "type") = some (.type "type") := by
  k_fill
  intro _
  refine' ⟨?k1, ?k2⟩
  case k1 => k_is
  case k2 => boot_fast

theorem bi_str (w : World) : PySem.Challenge.rw_wf0084_01 = PySem.Challenge.rw_wf0084_01 → nsIn (Kh w.params) mainGlobals (Str.ofString "str") = some none ∧ bootBuiltins (Str.ofString "str") = some (.type "str") := by
  k_fill
  intro _
  refine' ⟨?k1, ?k2⟩
  case k1 => k_is
  case k2 => boot_fast

theorem pat_n (w : World) : PySem.Challenge.rw_wf0084_01 = PySem.Challenge.rw_wf0084_01 → ∃ vs, Pat (Kh w.params) 92 vs ∧ codeOf vs = codeN := by
  k_fill
  intro _
  refine' Pat.intro' ?k1 ?k2 ?k3 ?k4 ?k5 ?k6 ?k7
  case k1 => k_is
  case k3 => rfl
  case k2 => k_is
  case k4 => rfl
  case k5 => rfl
  case k6 => rfl
  case k7 => decide +kernel
theorem pat_n_name (w : World) : PySem.Challenge.rw_wf0084_01 = PySem.Challenge.rw_wf0084_01 → nsIn (Kh w.params) mainGlobals (Str.ofString "_name_disallowed_re") = some (some (.ref 92)) := by
  k_fill
  intro _
  k_is

theorem pat_v (w : World) : PySem.Challenge.rw_wf0084_01 = PySem.Challenge.rw_wf0084_01 → ∃ vs, Pat (Kh w.params) 97 vs ∧ codeOf vs = codeV := by
  k_fill
  intro _
  refine' Pat.intro' ?k1 ?k2 ?k3 ?k4 ?k5 ?k6 ?k7
  case k1 => k_is
  case k3 => rfl
  case k2 => k_is
  case k4 => rfl
  case k5 => rfl
  case k6 => rfl
  case k7 => decide +kernel
theorem pat_v_name (w : World) : PySem.Challenge.rw_wf0084_01 = PySem.Challenge.rw_wf0084_01 → nsIn (Kh w.params) mainGlobals (Str.ofString "_value_disallowed_re") = some (some (.ref 97)) := by
  k_fill
  intro _
  k_is

local macro_rules | `(tactic| walk_at "isStr") => `(tactic| ((with_reducible refine' Tr.isStr ?s0 ?s1 ?s2 ?s3 ?s4 ?_ (hm := ?t1) (hne := ?t2) (hne' := ?t3) (hk := ?t4) (hx := ?t5) (hy := ?t6) (hg := ?t7) (hbi := ?t8) (hd := ?t9) (hd' := ?t10) (he := ?t11)); (case s0 => assumption); (case s1 => assumption); (case s2 => assumption); (case s3 => assumption); (case s4 => assumption); (case t1 => with_unfolding_all rfl); (case t2 => decide); (case t3 => decide); (case t4 => exact rfl); (case t5 => exact rfl); (case t6 => exact rfl); (case t7 => exact rfl); (case t8 => exact rfl); (case t9 => decide); (case t10 => decide); (case t11 => exact rfl)))

theorem fn_conv (w : World) (v : Value) (x : Str) (b : Bool) (hx : Cl x) : CallOkG PySem.Challenge.rw_wf0084_01.row.toRowW.prog w (Kh w.params) 1 119 pos2 kwName [.val v, .str x, .bool b] (fun d => d = .str x) := by
  k_fill
  refine' CallOkG.enter (ex := []) (exv := []) [Str.ofString "self", Str.ofString "value", Str.ofString "name"] [Str.ofString "regex"] ?k1 ?k2 ?k3 ?k0 ?k4 ?k5 ?k6 ?k7 ?_ ?k8 ?k9 ?k10
  case k1 => k_is
  case k2 => k_is
  case k3 => intro s vs kin h; match vs, h with | [v0, v1, v2], _ => exact BindsTo.of_eq rfl
  case k0 => intro H; exact .nil
  case k4 => rfl
  case k5 => decide +kernel
  case k6 => decide +kernel
  case k7 => decide +kernel
  case k8 => rfl
  case k9 => rfl
  case k10 => rfl
  intro s₀ H₀ L A ok
  walk_at "lit"
  simp only [startS, List.zip_cons_cons, List.zip_nil_left, List.zip_nil_right, List.map_cons, List.map_nil, List.cons_append, List.nil_append]
  obtain ⟨vn, pn, en⟩ := pat_n w rfl
  obtain ⟨vv, pv, ev⟩ := pat_v w rfl
  obtain ⟨bt1, bt2⟩ := bi_type w rfl
  obtain ⟨bs1, bs2⟩ := bi_str w rfl
  repeat' (first | walk_at "isStr" | walk_at "m")
  refine ⟨fun _ => ?_, fun h => nomatch h⟩
  repeat' (first | walk_at "isStr" | walk_at "m")
  refine Tr.value ?_
  repeat' (walk_at "m")
  refine ⟨b, Tru.bool b, fun hb => ?_, fun hb => ?_⟩
  · subst hb
    refine Ev.globV ok (pat_n_name w rfl) ?_
    repeat' (walk_at "m")
    refine Tr.ofNone (Ev.search ok ?_)
    repeat' (walk_at "m")
    refine ⟨_, vn, rfl, pn, ?_⟩
    repeat' (walk_at "m")
    refine ⟨en ▸ hx.n, hx.len, rfl, fun h => (nomatch h), fun _ => ?_⟩
    repeat' (walk_at "m")
    rfl
  · subst hb
    refine Ev.globV ok (pat_v_name w rfl) ?_
    repeat' (walk_at "m")
    refine Tr.ofNone (Ev.search ok ?_)
    repeat' (walk_at "m")
    refine ⟨_, vv, rfl, pv, ?_⟩
    repeat' (walk_at "m")
    refine ⟨ev ▸ hx.v, hx.len, rfl, fun h => (nomatch h), fun _ => ?_⟩
    repeat' (walk_at "m")
    rfl



theorem hcls_at (w : World) : PySem.Challenge.rw_wf0084_01 = PySem.Challenge.rw_wf0084_01 → HCls (Kh w.params) := by
  k_fill
  intro _
  refine' ⟨?k1, ?k2, ?k3, ?k4, ?k5⟩
  all_goals k_is

theorem hfn_conv (w : World) : PySem.Challenge.rw_wf0084_01 = PySem.Challenge.rw_wf0084_01 → HFn (Kh w.params) "_convert_string_type" 119 ∧ keepIn (Kh w.params) (.ref 119) = true := by
  k_fill
  intro _
  refine' ⟨⟨?k1, ?k2⟩, ?k3⟩
  all_goals k_is

theorem hfn_del (w : World) : PySem.Challenge.rw_wf0084_01 = PySem.Challenge.rw_wf0084_01 → HFn (Kh w.params) "__delitem__" 138 ∧ keepIn (Kh w.params) (.ref 138) = true := by
  k_fill
  intro _
  refine' ⟨⟨?k1, ?k2⟩, ?k3⟩
  all_goals k_is

theorem hfn_set (w : World) : PySem.Challenge.rw_wf0084_01 = PySem.Challenge.rw_wf0084_01 → HFn (Kh w.params) "__setitem__" 133 ∧ keepIn (Kh w.params) (.ref 133) = true := by
  k_fill
  intro _
  refine' ⟨⟨?k1, ?k2⟩, ?k3⟩
  all_goals k_is

theorem hfn_get (w : World) : PySem.Challenge.rw_wf0084_01 = PySem.Challenge.rw_wf0084_01 → HFn (Kh w.params) "get" 167 ∧ keepIn (Kh w.params) (.ref 167) = true := by
  k_fill
  intro _
  refine' ⟨⟨?k1, ?k2⟩, ?k3⟩
  all_goals k_is

theorem hfn_items (w : World) : PySem.Challenge.rw_wf0084_01 = PySem.Challenge.rw_wf0084_01 → HFn (Kh w.params) "items" 184 ∧ keepIn (Kh w.params) (.ref 184) = true := by
  k_fill
  intro _
  refine' ⟨⟨?k1, ?k2⟩, ?k3⟩
  all_goals k_is

theorem fn_del (w : World) (kvs : List (Str × Str)) (u : Str) (hu : Cl (Txt.lower u)) (hul : u.length ≤ 100) (hkl : kvs.length ≤ 100) (hks : ∀ p ∈ kvs, p.1.length ≤ 100) :
    OwnCall PySem.Challenge.rw_wf0084_01.row.toRowW.prog w (Kh w.params) 2 138 kvs [.str u] (kvs.filter fun kv => Txt.lower kv.1 != Txt.lower u) := by
  k_fill
  refine' OwnCall.enterC (Str.ofString "self") (Str.ofString "name") ?k1 ?k2 ?k3 ?k4 ?k5 ?k6 ?k7 ?k8 ?k9 ?_ ?c1 ?c2 ?c3
  case k1 => k_is
  case k2 => k_is
  case k3 => intro s v u; exact BindsTo.of_eq rfl
  case k4 => decide +kernel
  case k5 => decide +kernel
  case k6 => intro k; rfl
  case k7 => intro L; rfl
  case k8 => intro L; rfl
  case k9 => decide
  case c1 => rfl
  case c2 => rfl
  case c3 => rfl
  intro s₀ H₀ L A a ok X H s o t I hod Xc sc
  walk_at "lit"
  have hC := hcls_at w rfl
  have hF := hfn_conv w rfl
  have hcell : s.heap.IsCell (L + 1) (some (.str u t)) := by
    obtain ⟨m, O, I'⟩ := I
    exact ⟨o, (I'.hX (L + 1) o (by unfold PH.set; rw [if_pos rfl])).1, hod⟩
  refine wpAny_execs_cons (wpAny_Assign_Name (wpAny_mono (conv_at (Q := fun d σ₁ => d = .str (Txt.lower u) ∧ σ₁ = [(Str.ofString "self", .own a (.hdr kvs))]) I ok hC .here trivial hF.1 hF.2 ?_) (fun v s₁ ⟨H₁, d, σ₁, l₁, I₁, r₁, e1, e2⟩ => ?_) fun _ _ x => x) rfl)
  · exact lower_cell hcell (by omega) ⟨H, _, _, Le.refl _, I.toks _, .str _ _, _, 1, rfl, fun v => fn_conv w v _ true hu, Nat.le_refl _, rfl, rfl⟩ ⟨_, rfl⟩ rfl rfl rfl (by decide)
  · subst e1; subst e2
    cases r₁ with
    | str _ t₁ =>
    obtain ⟨m₁, O₁, I₁⟩ := I₁
    have hc₁ : s₁.heap.get? (L + 1) = some o := (I₁.hX _ o (by unfold PH.set; rw [if_pos rfl])).1
    refine wpAny_storeName_cell rfl rfl rfl ⟨o, hc₁, hod⟩ fun h₂ ⟨o', ho', hod'⟩ hs₂ => ?_
    have I₂ := I₁.turnX (tk := s₁.toks) sc (fun b o ne e => (hs₂.2 b ne).trans e) ho'
    obtain ⟨hm, ho, dx, l, ⟨th, vs, n, q1, q2, q3, q4⟩, o2, o3, a1, a2, a3, el⟩ := I₂.holds _ (.head _)
    have get : ∀ {h : Heap} {tk : Nat}, InvAt ⟨PySem.Challenge.rw_wf0084_01.row.toRowW.prog, w, (Kh w.params), s₀, H₀, L, A, 1⟩ (X.set (L + 1) o') H₁ [(Str.ofString "self", .own a (.hdr kvs))] { s₁ with heap := h, toks := tk } m₁ O₁ → (∀ b ob, h₂.get? b = some ob → h.get? b = some ob) → ∀ {px ap : Pos} {env : Env} {Q : Value → Shared → Prop} {E : Value → Shared → Prop}, env.locals = L → env.scope.kind = .function → env.kindOf (Str.ofString "self") = some .local → Q (.ref l) { s₁ with heap := h, toks := tk + 1 } →
        wpAny (model PySem.Challenge.rw_wf0084_01.row.toRowW.prog w) A (eval (.Attribute (.Name (Str.ofString "self") px) "_headers" ap) env) Q E { s₁ with heap := h, toks := tk } := by
      intro h tk J hk px ap env Q E eL ek ex q
      exact Attribute_name (wpAny_Name (wpAny_loadName_local ek ex (eL ▸ J.fr.ns) hm (get_own J.fr ok.kIn ⟨hk _ _ q1, rfl, rfl, hk _ _ q2⟩ hC.plain hC.dict hC.attr hC.noG (getL_own _ _ _) rfl q)) (by decide))
    refine wpAny_execs_cons (wpAny_Assign_Subscript (filterH (H := H₁) (l := l) (ca := L + 1) (low := Txt.lower u) (tk₀ := t₁) (vs := vs) (n := n) (kvs := kvs) ok.amb.hh ?f1 q3 q4 (fun b ob e => (I₂.hH b ob e).1) ⟨o', ho', hod'⟩ (by omega) (fun p hp => by have := hks p hp; omega) ?f2 ?f3 ?f4 ?f5 ?f6 ?f7 ?f8 ?f9 ?f10 ?f11 ?f12 ?f13 ?f14) ?f15)
    case f1 => exact get I₂ (fun _ _ e => e) rfl rfl rfl ⟨rfl, _, rfl⟩
    case f2 => rfl
    case f3 => decide +kernel
    case f4 => rfl
    case f5 => decide +kernel
    case f6 => decide +kernel
    case f7 => intro C; rfl
    case f8 => intro C; rfl
    case f9 => decide
    case f10 => decide
    case f11 => intro C; exact ⟨_, rfl⟩
    case f12 => with_unfolding_all rfl
    case f13 => intro x; rfl
    case f15 => rfl
    intro D h₃ tk₃ ys hD hlD hpD hk₃
    have I₃ := I₂.keep (s' := { s₁ with heap := h₃, toks := tk₃ }) hk₃ rfl rfl
    refine get I₃ hk₃ rfl rfl rfl ?_
    refine wpAny_Slice ?_
    rw [evalPart_none]
    refine wpAny_pure ?_
    refine wpAny_pure ?_
    refine wpAny_pure ?_
    have I₄ := I₃.keep (s' := { s₁ with heap := h₃.push { cls := .type "slice", data := .fields #[.none, .none, .none] }, toks := tk₃ + 1 }) (fun _ _ e => Heap.get?_push_of_some _ e) rfl rfl
    have ln : l ≠ D := fun z => by rw [← z, q3] at hD; cases hD
    have ylen : ys.size ≤ 100 := by
      have := hpD.length
      have := List.length_filter_le (fun kv : Str × Str => Txt.lower kv.1 != Txt.lower u) kvs
      simp only [Array.length_toList] at *
      omega
    refine setItem_all (items := vs.toArray) (ys := ys) (n := n) (Heap.get?_push_of_some _ (hk₃ _ _ q3)) (Heap.IsSliceOf.new ..) (hlD.push _) ln (by have := q4.length; rw [List.size_toArray]; omega) fun h₅ n₅ hs₅ e₅ => ?_
    refine wpAny_execs_nil ⟨.inl rfl, H₁, o', l₁, m₁, O₁, I₄.change (tk := tk₃ + 1) .here (fun b ob ne e => (hs₅.2 b (fun z => ne (z ▸ o3))).trans e) (fun b e => ?_) .here ?_⟩
    · by_cases hb : b = l
      · subst hb; exact ⟨_, e₅⟩
      · obtain ⟨_, ⟨ob, q⟩, _⟩ := I₄.hO b _ e; exact ⟨ob, (hs₅.2 b hb).trans q⟩
    · refine ⟨dx, l, ⟨th, ys.toList, n₅, (hs₅.2 _ a2).trans (Heap.get?_push_of_some _ (hk₃ _ _ q1)), (hs₅.2 _ a3).trans (Heap.get?_push_of_some _ (hk₃ _ _ q2)), by simpa using e₅, hpD⟩, o2, o3, a1, a2, a3, el⟩



theorem fn_set (w : World) (kvs : List (Str × Str)) (u x : Str) (hu : Cl (Txt.lower u)) (hu' : Cl u) (hx : Cl x) (hul : u.length ≤ 100) (hkl : kvs.length ≤ 100) (hks : ∀ p ∈ kvs, p.1.length ≤ 100) :
    OwnCall PySem.Challenge.rw_wf0084_01.row.toRowW.prog w (Kh w.params) 3 133 kvs [.str u, .str x] ((kvs.filter fun kv => Txt.lower kv.1 != Txt.lower u) ++ [(u, x)]) := by
  k_fill
  refine' OwnCall.enter (Str.ofString "self") [Str.ofString "name", Str.ofString "val"] [] ?k1 ?k2 ?k3 ?k4 ?k5 ?k6 ?k7 ?_ ?k8 ?k9 ?k10
  case k1 => k_is
  case k2 => k_is
  case k3 => intro s v vs h; match vs, h with | [v0, v1], _ => exact BindsTo.of_eq rfl
  case k4 => rfl
  case k5 => decide +kernel
  case k6 => decide +kernel
  case k7 => decide +kernel
  case k8 => rfl
  case k9 => rfl
  case k10 => rfl
  intro s₀ H₀ L A a ok
  walk_at "lit"
  simp only [startS, List.zip_cons_cons, List.zip_nil_left, List.zip_nil_right, List.map_cons, List.map_nil, List.cons_append, List.nil_append]
  have hC := hcls_at w rfl
  have hF := hfn_conv w rfl
  have hfl := List.length_filter_le (fun kv : Str × Str => Txt.lower kv.1 != Txt.lower u) kvs
  refine St.cons (St.delH ok (hfn_del w rfl).1 hC.seq .here ?_)
  repeat' (walk_at "m")
  refine ⟨kvs, _, 2, _, .here, fn_del w kvs u hu hul hkl hks, (Nat.le_of_ble_eq_true rfl), .here, ?_⟩
  repeat' (walk_at "m")
  refine St.appendH ok hC .here ?_
  repeat' (walk_at "m")
  refine Ev.conv ok hC .here trivial hF.1 hF.2 ?_
  repeat' (walk_at "m")
  refine ⟨_, 1, rfl, fun v => fn_conv w v _ true hu', (Nat.le_of_ble_eq_true rfl), ?_⟩
  repeat' (walk_at "m")
  refine Ev.conv ok hC .here trivial hF.1 hF.2 ?_
  repeat' (walk_at "m")
  refine ⟨_, 1, rfl, fun v => fn_conv w v _ false hx, (Nat.le_of_ble_eq_true rfl), ?_⟩
  repeat' (walk_at "m")
  refine ⟨_, _, _, _, rfl, .here, by omega, .here, ?_⟩
  repeat' (walk_at "m")
  exact ⟨trivial, .here⟩



theorem fn_get (w : World) (kvs : List (Str × Str)) (u : Str) (hu : Cl (Txt.lower u)) (hul : u.length ≤ 100) (hkl : kvs.length ≤ 100) (hks : ∀ p ∈ kvs, p.1.length ≤ 100) : CallOkG PySem.Challenge.rw_wf0084_01.row.toRowW.prog w (Kh w.params) 2 167 id (fun _ => []) [.hdr kvs, .str u] (fun d => d = hget kvs (Txt.lower u)) := by
  k_fill
  refine' CallOkG.enter (ex := [.none]) (exv := [.none]) [Str.ofString "self", Str.ofString "name", Str.ofString "default"] [Str.ofString "k", Str.ofString "v"] ?k1 ?k2 ?k3 ?k0 ?k4 ?k5 ?k6 ?k7 ?_ ?k8 ?k9 ?k10
  case k1 => k_is
  case k2 => k_is
  case k3 => intro s vs kin h; match vs, h with | [v0, v1], _ => exact binds_K kin rfl (by k_is) rfl rfl rfl
  case k0 => intro H; exact .cons .none .nil
  case k4 => rfl
  case k5 => decide +kernel
  case k6 => decide +kernel
  case k7 => decide +kernel
  case k8 => rfl
  case k9 => rfl
  case k10 => rfl
  intro s₀ H₀ L A ok
  walk_at "lit"
  simp only [startS, List.zip_cons_cons, List.zip_nil_left, List.zip_nil_right, List.map_cons, List.map_nil, List.cons_append, List.nil_append]
  have hC := hcls_at w rfl
  have hF := hfn_conv w rfl
  refine St.cons (St.assign (Ev.conv ok hC .here trivial hF.1 hF.2 ?_))
  repeat' (walk_at "m")
  refine ⟨_, 1, rfl, fun v => fn_conv w v _ true hu, (Nat.le_of_ble_eq_true rfl), ?_⟩
  repeat' (walk_at "m")
  walk_at "forL"
  refine Ev.attrH ok hC .here ?_
  refine ⟨_, fun i σ => ∃ lk lv, σ = [(Str.ofString "self", .d (.hdr kvs)), (Str.ofString "name", .d (.str (Txt.lower u))), (Str.ofString "default", .d .none), (Str.ofString "k", lk), (Str.ofString "v", lv)] ∧ (∀ j kv', j < i → kvs[j]? = some kv' → (Txt.lower kv'.1 == Txt.lower u) = false), rfl, ⟨_, _, rfl, fun j kv' h => nomatch h⟩, fun i d σ₂ hd hj => ?_, fun σ₂ hj => ?_⟩
  · obtain ⟨lk, lv, rfl, hb⟩ := hj
    obtain ⟨kv, hkv, rfl⟩ := pairs_get hd
    have hkl := hks kv (List.mem_of_getElem? hkv)
    refine As.tuple2 ok ?_
    repeat' (walk_at "m")
    refine ⟨_, CmpI.eqS, fun hz => ?_, fun hz => ?_⟩
    · repeat' (walk_at "m")
      exact (find_at hkv hb hz).symm
    · repeat' (walk_at "m")
      dsimp only
      refine ⟨_, _, rfl, fun j kv' hj e => ?_⟩
      by_cases hji : j = i
      · subst hji; rw [hkv] at e; cases e; exact hz
      · exact hb j kv' (by omega) e
  · obtain ⟨lk, lv, rfl, hb⟩ := hj
    repeat' (walk_at "m")
    exact (find_no (fun j kv' h => hb j kv' (by simpa using h))).symm

theorem fn_items (w : World) (kvs : List (Str × Str)) (hkl : kvs.length ≤ 100) : CallOkG PySem.Challenge.rw_wf0084_01.row.toRowW.prog w (Kh w.params) 1 184 id (fun _ => []) [.hdr kvs] (fun d => d = .lst (kvs.map pairD)) := by
  k_fill
  refine' CallOkG.enter (ex := []) (exv := []) [Str.ofString "self"] [] ?k1 ?k2 ?k3 ?k0 ?k4 ?k5 ?k6 ?k7 ?_ ?k8 ?k9 ?k10
  case k1 => k_is
  case k2 => k_is
  case k3 => intro s vs kin h; match vs, h with | [v0], _ => exact BindsTo.of_eq rfl
  case k0 => intro H; exact .nil
  case k4 => rfl
  case k5 => decide +kernel
  case k6 => decide +kernel
  case k7 => decide +kernel
  case k8 => rfl
  case k9 => rfl
  case k10 => rfl
  intro s₀ H₀ L A ok
  walk_at "lit"
  simp only [startS, List.zip_cons_cons, List.zip_nil_left, List.zip_nil_right, List.map_cons, List.map_nil, List.cons_append, List.nil_append]
  have hC := hcls_at w rfl
  refine St.cons (St.ret (Ev.allL (Ev.attrH ok hC .here ⟨kvs.map pairD, rfl, (by rw [List.length_map]; omega), ?_⟩)))
  repeat' (walk_at "m")
  rfl



theorem bi_list (w : World) : PySem.Challenge.rw_wf0084_01 = PySem.Challenge.rw_wf0084_01 → nsIn (Kh w.params) mainGlobals (Str.ofString "list") = some none ∧ bootBuiltins (Str.ofString "list") = some (.type "list") := by
  k_fill
  intro _
  refine' ⟨?k1, ?k2⟩
  case k1 => k_is
  case k2 => boot_fast

theorem hmk_at (w : World) : PySem.Challenge.rw_wf0084_01 = PySem.Challenge.rw_wf0084_01 → HMk (Kh w.params) := by
  k_fill
  intro _
  refine' ⟨?k1, ?k2, ?k3, ?k4, ?k5, ?k6, ?k7⟩
  all_goals k_is
theorem mk_init (w : World) (A : Around) (s : Shared) (hh : A.handled = none) (room : A.depth + 3 < recursionLimit) (kin : (Kh w.params).In s.heap) (top : ∃ p loose mg mb, TopRead p loose mg mb s.heap) :
    codeAny (model PySem.Challenge.rw_wf0084_01.row.toRowW.prog w) A (.call (.ref 112) ⟨[.ref (s.heap.objs.size + 1)], []⟩) (fun r s' => r = .ok (.ret .none) ∧ ∃ h' tk t n, s' = { s with heap := h', toks := tk } ∧ (∀ b o, s.heap.get? b = some o → h'.get? b = some o) ∧
      h'.get? (s.heap.objs.size + 1) = some (instObj hdrC s.heap.objs.size) ∧ h'.get? s.heap.objs.size = some (dictOf [hdrEntry w.params (.ref (s.heap.objs.size + 3)) t] 1) ∧ h'.get? (s.heap.objs.size + 3) = some { cls := .type "list", data := .seq #[] n })
      { s with heap := (s.heap.push emptyDict).push (instObj hdrC s.heap.objs.size) } := by
  k_fill
  have hm := hmk_at w rfl
  have hlim : s.heap.NoLimit := let ⟨_, _, _, _, T⟩ := top; T.nolimit
  have k1 : ∀ b o, s.heap.get? b = some o → ((s.heap.push emptyDict).push (instObj hdrC s.heap.objs.size)).get? b = some o := fun b o e => Heap.get?_push_of_some _ (Heap.get?_push_of_some _ e)
  have hsz : ((s.heap.push emptyDict).push (instObj hdrC s.heap.objs.size)).objs.size = s.heap.objs.size + 2 := by rw [Heap.size_push, Heap.size_push]
  refine' enterDef (K := Kh w.params) (binds := [(Str.ofString "self", .ref (s.heap.objs.size + 1)), (Str.ofString "headers", .none)]) ?k1 ?k2 ?k3 ?k4 ?k5 ?k6 ?k7 ?k8 ?_ ?k9 ?k10 ?k11
  case k1 => k_is
  case k2 => k_is
  case k3 => exact kin.keeps k1
  case k4 => exact hlim.keeps k1
  case k5 => omega
  case k6 => exact binds_K (s := { s with heap := (s.heap.push emptyDict).push (instObj hdrC s.heap.objs.size) }) (kin.keeps k1) rfl (by k_is) rfl rfl rfl
  case k7 => decide +kernel
  case k8 =>
    intro x hx
    rcases List.mem_cons.mp hx with rfl | hx
    · show List.lookup (Str.ofString "self") _ = some NameKind.local; decide +kernel
    · rw [List.mem_singleton.mp hx]; show List.lookup (Str.ofString "headers") _ = some NameKind.local; decide +kernel
  case k9 => rfl
  case k10 => rfl
  case k11 => rfl
  dsimp only
  rw [hsz]
  intro h₁ hns hz₁ hk₁
  have nox : s.heap.get? (s.heap.objs.size + 1) = none := Heap.get?_none_of_le (Nat.le_succ _)
  have nod : s.heap.get? s.heap.objs.size = none := Heap.get?_none_of_le (Nat.le_refl _)
  have F₁ : Fr s.heap (s.heap.objs.size + 2) h₁ _ := ⟨hns, fun b o e => hk₁ _ _ (k1 _ _ e), Nat.le_add_right _ _⟩
  have e1 : ((s.heap.push emptyDict).push (instObj hdrC s.heap.objs.size)).get? (s.heap.objs.size + 1) = some (instObj hdrC s.heap.objs.size) := by
    have := Heap.get?_push_size (s.heap.push emptyDict) (o := instObj hdrC s.heap.objs.size) rfl
    rwa [Heap.size_push] at this
  have e2 : ((s.heap.push emptyDict).push (instObj hdrC s.heap.objs.size)).get? s.heap.objs.size = some emptyDict := Heap.get?_push_of_some _ (Heap.get?_push_size _ rfl)
  have N₁ : News s.heap (s.heap.objs.size + 2) h₁ [(s.heap.objs.size + 1, instObj hdrC s.heap.objs.size), (s.heap.objs.size, emptyDict)] := by
    intro p hp
    rcases List.mem_cons.mp hp with rfl | hp
    · exact ⟨hk₁ _ _ e1, by show s.heap.objs.size + 1 ≠ s.heap.objs.size + 2; omega, nox⟩
    · rw [List.mem_singleton.mp hp]
      exact ⟨hk₁ _ _ e2, by show s.heap.objs.size ≠ s.heap.objs.size + 2; omega, nod⟩
  obtain ⟨pp, loose, mg, mb, T⟩ := top
  refine wpAny_execs_cons (wpAny_Assign_Name (wpAny_IfExp (wpAny_isTrue_Compare1 (wpAny_Name (wpAny_loadName_local rfl rfl F₁.ns rfl ?_) (by decide)) (by with_unfolding_all rfl))) rfl)
  refine wpAny_Constant_none ?_
  refine wpAny_isNot_self rfl ?_
  refine wpAny_truthy_bool ?_
  simp only [Bool.false_eq_true, if_false]
  refine wpAny_List (wpAny_items_nil ⟨by rw [sizeLine_eq]; exact Nat.zero_le _, ?_⟩)
  have F₂ := F₁.push { cls := .type "list", data := .seq ([] : List Value).toArray }
  have N₂ := N₁.push F₁ { cls := .type "list", data := .seq ([] : List Value).toArray }
  have hz₂ : h₁.objs.size = s.heap.objs.size + 3 := by rw [hz₁]
  rw [hz₂] at N₂
  simp only [hz₂]
  refine wpAny_storeName_local rfl F₂.ns (fun h₂ hn₂ hs₂ => ?_) rfl
  have F₃ := F₂.set hn₂ hs₂
  have N₃ := N₂.set hs₂
  dsimp only
  have hm₃ : (fun x => if x = Str.ofString "headers" then some (Value.ref (s.heap.objs.size + 3)) else [(Str.ofString "self", Value.ref (s.heap.objs.size + 1)), (Str.ofString "headers", Value.none)].reverse.lookup x) (Str.ofString "headers") = some (Value.ref (s.heap.objs.size + 3)) := by simp
  have hs₃ : (fun x => if x = Str.ofString "headers" then some (Value.ref (s.heap.objs.size + 3)) else [(Str.ofString "self", Value.ref (s.heap.objs.size + 1)), (Str.ofString "headers", Value.none)].reverse.lookup x) (Str.ofString "self") = some (Value.ref (s.heap.objs.size + 1)) := by rfl
  have hl₃ := (N₃ _ (.head _)).1
  obtain ⟨bt1, bt2⟩ := bi_type w rfl
  obtain ⟨bl1, bl2⟩ := bi_list w rfl
  refine wpAny_execs_cons (wpAny_If (wpAny_isTrue_Compare1 (Call_Name rfl (nameX_B F₃ kin T bt1 bt2 (by decide) ?_)) (by with_unfolding_all rfl)))
  refine PyProof.Rows.callWith_type1 ?_ rfl
  refine wpAny_items_cons (wpAny_Name (wpAny_loadName_local rfl rfl F₃.ns hm₃ (wpAny_items_nil ?_)) (by decide)) rfl
  refine call_type_of (Tx := "list") ⟨_, hl₃, rfl⟩ (by decide +kernel) ?_
  refine nameX_B F₃ kin T bl1 bl2 (by decide) ?_
  refine wpAny_isNot_self rfl (wpAny_truthy_bool ?_)
  simp only [Bool.false_eq_true, if_false]
  refine wpAny_execs_nil ?_
  refine wpAny_execs_cons (plainObj_wpAny_Assign_Attribute (wpAny_Name (wpAny_loadName_local rfl rfl F₃.ns hm₃ (wpAny_Name (wpAny_loadName_local rfl rfl F₃.ns hs₃ ?_) (by decide))) (by decide)) rfl)
  have I₃ : PySem.W.InstAt h₂ (s.heap.objs.size + 1) (instObj hdrC s.heap.objs.size) hdrC (some (dictOf [] 0)) := ⟨(N₃ _ (.tail _ (.head _))).1, rfl, rfl, (N₃ _ (.tail _ (.tail _ (.head _)))).1⟩
  refine set_dict F₃ kin N₃ I₃ rfl hm.setA hm.over hm.taker hm.dict rfl rfl (.tail (by show s.heap.objs.size + 3 ≠ s.heap.objs.size; omega) (.tail (by show s.heap.objs.size + 1 ≠ s.heap.objs.size; omega) (.head (fun p hp => nomatch hp)))) (Nat.le_of_ble_eq_true rfl) fun h₄ F₄ N₄ => ?_
  dsimp only at F₄ N₄ ⊢
  have hl₄ := (N₄ _ (.head _)).1
  have hx₄ := (N₄ _ (.tail _ (.head _))).1
  have hd₄ := (N₄ _ (.tail _ (.tail _ (.head _)))).1
  have hL₄ : h₄.IsList (s.heap.objs.size + 3) #[] := ⟨_, hl₄, rfl, 0, rfl⟩
  refine wpAny_execs_cons (wpAny_If (wpAny_isTrue_value (wpAny_Constant_bool (wpAny_truthy_bool ?_)) rfl))
  simp only [if_true]
  refine wpAny_execs_cons (wpAny_For (wpAny_Name (wpAny_loadName_local rfl rfl F₄.ns hm₃ ?_) (by decide)) (by intro _; rfl))
  refine wpAny_pyIter_list hL₄ ?_
  refine loop_none hh ⟨_, Heap.get?_push_size _ rfl, rfl, rfl⟩ (hL₄.push _) (Nat.ne_of_lt (Heap.lt_size hl₄)) fun h₅ tk hk => ?_
  have kk : ∀ b o, h₄.get? b = some o → h₅.get? b = some o := fun b o e => hk b o (Nat.ne_of_lt (Heap.lt_size e)) (Heap.get?_push_of_some _ e)
  refine wpAny_execs_nil (wpAny_execs_nil ⟨rfl, h₅, tk, _, 0, rfl, fun b o e => kk _ _ (F₄.keep b o e), kk _ _ hx₄, kk _ _ hd₄, kk _ _ hl₄⟩)
theorem init_ok (w : World) : InitOk PySem.Challenge.rw_wf0084_01.row.toRowW.prog w (Kh w.params) := fun A s hh room kin top => mk_init w A s hh room kin top
theorem hdr_name (w : World) : PySem.Challenge.rw_wf0084_01 = PySem.Challenge.rw_wf0084_01 → nsIn (Kh w.params) mainGlobals (Str.ofString "Headers") = some (some (.ref hdrC)) ∧ keepIn (Kh w.params) (.ref hdrC) = true := by
  k_fill
  intro _
  refine' ⟨?k1, ?k2⟩
  all_goals k_is



theorem at_isnt (w : World) : PySem.Challenge.rw_wf0084_01 = PySem.Challenge.rw_wf0084_01 → Fn (Kh w.params) (Str.ofString "ISNONTERMINAL") 80 := by
  k_fill
  intro _
  refine' Fn.of ?k1 ?k2
  case k1 => k_is
  case k2 => k_is

theorem at_iseof (w : World) : PySem.Challenge.rw_wf0084_01 = PySem.Challenge.rw_wf0084_01 → Fn (Kh w.params) (Str.ofString "ISEOF") 87 := by
  k_fill
  intro _
  refine' Fn.of ?k1 ?k2
  case k1 => k_is
  case k2 => k_is

theorem at_cut (w : World) : PySem.Challenge.rw_wf0084_01 = PySem.Challenge.rw_wf0084_01 → Fn (Kh w.params) (Str.ofString "_law_cut") 252 := by
  k_fill
  intro _
  refine' Fn.of ?k1 ?k2
  case k1 => k_is
  case k2 => k_is

local macro_rules | `(tactic| walk_at "call") => `(tactic| ((with_reducible refine' Ev.call ?s0 ?s9 ?_ (hk := ?s1) (hx := ?s2) (hg := ?s3) (hd := ?s4) (he := ?s5)); (case s0 => assumption); (case s9 => assumption); (case s1 => exact rfl); (case s2 => exact rfl); (case s3 => exact rfl); (case s4 => decide); (case s5 => exact rfl)))
local macro_rules | `(tactic| walk_at "tv") => `(tactic| ((with_reducible refine' Tr.value ?_ (he := ?s1)); (case s1 => exact rfl)))

theorem fn_read (w : World) (text : List Nat) (cs : List Int) (hc : Tok text cs) (hl : text.length ≤ 200) (fin : S3) (hrun : Run ⟨[], [], []⟩ (cs ++ [0]) fin) : CallOk PySem.Challenge.rw_wf0084_01.row.toRowW.prog w (Kh w.params) 6 259 [.str (T text)] (fun d => d = .hdr fin.kvs) := by
  k_fill
  refine' CallOk.enter [Str.ofString "text"] [Str.ofString "table", Str.ofString "name", Str.ofString "words", Str.ofString "code"] ?k1 ?k2 ?k3 ?k4 ?k5 ?k6 ?k7 ?_ ?k8 ?k9 ?k10
  case k1 => k_is
  case k2 => k_is
  case k3 => intro s vs h; match vs, h with | [v0], _ => exact BindsTo.of_eq rfl
  case k4 => rfl
  case k5 => decide +kernel
  case k6 => decide +kernel
  case k7 => decide +kernel
  case k8 => rfl
  case k9 => rfl
  case k10 => rfl
  intro s₀ H₀ L A ok
  walk_at "lit"
  simp only [startS, List.zip_cons_cons, List.zip_nil_left, List.zip_nil_right, List.map_cons, List.map_nil, List.cons_append, List.nil_append]
  have Fn1 := at_isnt w rfl
  have Fn2 := at_iseof w rfl
  have Fn3 := at_cut w rfl
  refine St.cons (St.newHdr ok (init_ok w) (hmk_at w rfl) (hdr_name w rfl).1 (hdr_name w rfl).2 (Nat.le_of_ble_eq_true rfl) fun a1 => ⟨_, .there .here, ?_⟩)
  repeat' (walk_at "m")
  walk_at "forL"
  walk_at "call"
  repeat' (walk_at "m")
  refine ⟨_, _, fn_cut w text cs hc hl, (Nat.le_of_ble_eq_true rfl), ?_⟩
  rintro _ rfl
  refine ⟨_, fun i σ => ∃ st lc, Run st ((cs ++ [0]).drop i) fin ∧ σ = [(Str.ofString "text", .d (.str (T text))), (Str.ofString "table", .own a1 (.hdr st.kvs)), (Str.ofString "name", .d (.str (T st.name))), (Str.ofString "words", .d (.str (T st.words))), (Str.ofString "code", lc)], rfl, ⟨⟨[], [], []⟩, _, hrun, rfl⟩, fun i d σ₂ hd hj => ?_, fun σ₂ hj => ?_⟩
  · obtain ⟨st, lc, hrun, rfl⟩ := hj
    obtain ⟨code, hcode, rfl⟩ := map_get hd
    obtain ⟨sok, hrun'⟩ := hrun.at' hcode
    have hw := sok.words
    repeat' (walk_at "m")
    walk_at "tv"
    walk_at "call"
    repeat' (walk_at "m")
    refine ⟨_, _, fn_ISNT w code, (Nat.le_of_ble_eq_true rfl), ?_⟩
    rintro _ rfl
    refine ⟨_, Tru.bool _, fun hb => ?_, fun hb => ?_⟩
    · have hb' : code ≥ 256 := of_decide_eq_true hb
      have hi := sok.hi
      repeat' (walk_at "m")
      rw [lit_all]
      refine ⟨_, Item.T (by omega) (allSg_get (by omega)) (by show (8 : Nat) ≤ _; omega), ?_⟩
      repeat' (walk_at "m")
      have e : rstep st code = ⟨st.kvs, st.name, st.words ++ [allSg.getD (code - 256).toNat 0]⟩ := by unfold rstep; rw [if_pos hb']
      rw [e] at hrun'
      dsimp only
      exact ⟨_, _, hrun', rfl⟩
    · have hb' : ¬ code ≥ 256 := of_decide_eq_false hb
      repeat' (walk_at "m")
      refine ⟨fun hc => ?_, fun hc => ?_⟩
      · have h51 : code = 51 := by simpa using hc
        repeat' (walk_at "m")
        have e : rstep st code = ⟨st.kvs, st.words, []⟩ := by unfold rstep; rw [if_neg hb', if_pos h51]
        rw [e] at hrun'
        dsimp only
        exact ⟨_, _, hrun', rfl⟩
      · have h51 : ¬ code = 51 := by simpa using hc
        repeat' (walk_at "m")
        refine ⟨fun hd13 => ?_, fun hd13 => ?_⟩
        · have h13 : code = 13 ∨ code = 0 := .inl (by simpa using hd13)
          obtain ⟨p1, p2, p3, p4, p5, p6⟩ := sok.put h13
          refine ⟨fun _ => ?_, fun h => nomatch h⟩
          refine St.cons (St.putH (a := a1) ok (hfn_set w rfl).1 (hcls_at w rfl).seq ?_)
          repeat' (walk_at "m")
          refine ⟨st.kvs, .there .here, ?_⟩
          repeat' (walk_at "m")
          refine ⟨st.kvs, _, 3, _, .there .here, fn_set w st.kvs (T st.name) (T st.words) p1 p2 p3 (by rw [T_length]; exact p4) p5 p6, (Nat.le_of_ble_eq_true rfl), .there .here, ?_⟩
          repeat' (walk_at "m")
          have e : rstep st code = ⟨hset st.kvs (T st.name) (T st.words), st.name, []⟩ := by unfold rstep; rw [if_neg hb', if_neg h51, if_pos h13]
          rw [e] at hrun'
          dsimp only
          exact ⟨_, _, hrun', rfl⟩
        · walk_at "tv"
          walk_at "call"
          repeat' (walk_at "m")
          refine ⟨_, _, fn_ISEOF w code, (Nat.le_of_ble_eq_true rfl), ?_⟩
          rintro _ rfl
          refine ⟨_, Tru.bool _, fun hz => ?_, fun hz => ?_⟩
          · have h13 : code = 13 ∨ code = 0 := .inr (by simpa using hz)
            obtain ⟨p1, p2, p3, p4, p5, p6⟩ := sok.put h13
            refine St.cons (St.putH (a := a1) ok (hfn_set w rfl).1 (hcls_at w rfl).seq ?_)
            repeat' (walk_at "m")
            refine ⟨st.kvs, .there .here, ?_⟩
            repeat' (walk_at "m")
            refine ⟨st.kvs, _, 3, _, .there .here, fn_set w st.kvs (T st.name) (T st.words) p1 p2 p3 (by rw [T_length]; exact p4) p5 p6, (Nat.le_of_ble_eq_true rfl), .there .here, ?_⟩
            repeat' (walk_at "m")
            have e : rstep st code = ⟨hset st.kvs (T st.name) (T st.words), st.name, []⟩ := by unfold rstep; rw [if_neg hb', if_neg h51, if_pos h13]
            rw [e] at hrun'
            dsimp only
            exact ⟨_, _, hrun', rfl⟩
          · have h13 : ¬ (code = 13 ∨ code = 0) := by
              rintro (h | h)
              · simp [h] at hd13
              · simp [h] at hz
            repeat' (walk_at "m")
            refine ⟨fun h33 => ?_, fun h33 => ?_⟩
            · have h33' : code = 33 := by simpa using h33
              repeat' (walk_at "m")
              have e : rstep st code = ⟨st.kvs, st.name, st.words ++ [60, 60]⟩ := by unfold rstep; rw [if_neg hb', if_neg h51, if_neg h13, if_pos h33']
              rw [e] at hrun'
              dsimp only
              exact ⟨_, _, hrun', rfl⟩
            · have h33' : ¬ code = 33 := by simpa using h33
              repeat' (walk_at "m")
              have e : rstep st code = ⟨st.kvs, st.name, st.words ++ [62, 62]⟩ := by unfold rstep; rw [if_neg hb', if_neg h51, if_neg h13, if_neg h33']
              rw [e] at hrun'
              dsimp only
              exact ⟨_, _, hrun', rfl⟩
  · obtain ⟨st, lc, hrun, rfl⟩ := hj
    rw [List.length_map, List.drop_length] at hrun
    cases hrun
    refine St.cons (St.ret (Ev.nameOwnH (.there .here) (.there .here) ?_))
    repeat' (walk_at "m")
    rfl



theorem at_parse (w : World) : PySem.Challenge.rw_wf0084_01 = PySem.Challenge.rw_wf0084_01 → Fn (Kh w.params) (Str.ofString "parse257") 70 := by
  k_fill
  intro _
  refine' Fn.of ?k1 ?k2
  case k1 => k_is
  case k2 => k_is

theorem at_worth (w : World) : PySem.Challenge.rw_wf0084_01 = PySem.Challenge.rw_wf0084_01 → Fn (Kh w.params) (Str.ofString "_law_worth") 273 := by
  k_fill
  intro _
  refine' Fn.of ?k1 ?k2
  case k1 => k_is
  case k2 => k_is


local macro_rules | `(tactic| walk_at "len") => `(tactic| ((with_reducible refine' Ev.lenT ?s0 ?s8 ?s9 ?_ (hne := ?s1) (hk := ?s2) (hx := ?s3) (hg := ?s4) (hbi := ?s5) (hd := ?s6) (he := ?s7)); (case s0 => assumption); (case s8 => assumption); (case s9 => assumption); (case s1 => decide); (case s2 => exact rfl); (case s3 => exact rfl); (case s4 => exact rfl); (case s5 => exact rfl); (case s6 => decide); (case s7 => exact rfl)))
local macro_rules | `(tactic| walk_at "inX") => `(tactic| first | ((with_reducible refine' Ev.itemX ?s0 ?s9 ?_ (hk := ?s2) (hx := ?s3) (hg := ?s4) (hs := ?s5)); (case s0 => assumption); (case s9 => assumption); (case s2 => exact rfl); (case s3 => exact rfl); (case s4 => exact rfl); (case s5 => intros; with_unfolding_all rfl)))

local macro_rules | `(tactic| walk_at "quoted") => `(tactic| ((with_reducible refine' Ev.quoted ?s0 lit_257q lit_q lit_qq ?s1 ?s2 ?_ ?f1 ?f2 ?f3 ?f4 ?f5 ?f6 ?f7); (case s0 => walk_at "loc"); (case s1 => ((try simp only [List.length_append, List.length_cons, List.length_nil, List.length_take]); omega)); (case s2 => decide); (case f1 => exact ⟨_, rfl⟩); (case f2 => exact rfl); (case f3 => exact rfl); (case f4 => exact rfl); (case f5 => decide); (case f6 => exact rfl); (case f7 => exact rfl)))

theorem fn_talk (w : World) (kvs : List (Str × Str)) (look : Look) (hT : TOk kvs look) (C₀ : TC) (h1 : ∀ c ∈ C₀.left, Sgn c) (h2 : ∀ c ∈ C₀.right, Sgn c) (h3 : Stc C₀.st) (h4 : C₀.left.length ≤ 20) (h5 : C₀.right.length ≤ 20) : CallOk PySem.Challenge.rw_wf0084_01.row.toRowW.prog w (Kh w.params) 3 280 [.hdr kvs, .str (T (rep C₀.left (C₀.st :: C₀.right)))] (fun d => d = .lst ((ttold look 17 C₀).map TC.D)) := by
  k_fill
  refine' CallOk.enter [Str.ofString "table", Str.ofString "reply"] [Str.ofString "told", Str.ofString "turn", Str.ofString "left", Str.ofString "rest", Str.ofString "deed", Str.ofString "right"] ?k1 ?k2 ?k3 ?k4 ?k5 ?k6 ?k7 ?_ ?k8 ?k9 ?k10
  case k1 => k_is
  case k2 => k_is
  case k3 => intro s vs h; match vs, h with | [v0, v1], _ => exact BindsTo.of_eq rfl
  case k4 => rfl
  case k5 => decide +kernel
  case k6 => decide +kernel
  case k7 => decide +kernel
  case k8 => rfl
  case k9 => rfl
  case k10 => rfl
  intro s₀ H₀ L A ok
  walk_at "lit"
  simp only [startS, List.zip_cons_cons, List.zip_nil_left, List.zip_nil_right, List.map_cons, List.map_nil, List.cons_append, List.nil_append]
  have Fn1 := at_parse w rfl
  have Fn2 := at_worth w rfl
  obtain ⟨bl1, bl2⟩ := bi_len w rfl
  obtain ⟨es, nx, hX⟩ := exact_at w rfl
  have hC := hcls_at w rfl
  repeat' (walk_at "m")
  intro a1
  repeat' (walk_at "m")
  refine St.forR (n := 17) ok (bi_range w rfl).1 (bi_range w rfl).2 (by decide) (fun i σ => ∃ (C : TC) (acc : List TC) (lt ll lr ld lri : LV), (∀ c ∈ C.left, Sgn c) ∧ (∀ c ∈ C.right, Sgn c) ∧ Stc C.st ∧ C.left.length ≤ 20 + i ∧ C.right.length ≤ 20 + i ∧ acc.length = i ∧ acc ++ ttold look (17 - i) C = ttold look 17 C₀ ∧ σ = [(Str.ofString "table", .d (.hdr kvs)), (Str.ofString "reply", .d (.str (T (rep C.left (C.st :: C.right))))), (Str.ofString "told", .own a1 (.lst (acc.map TC.D))), (Str.ofString "turn", lt), (Str.ofString "left", ll), (Str.ofString "rest", lr), (Str.ofString "deed", ld), (Str.ofString "right", lri)])
    ⟨C₀, [], _, _, _, _, _, h1, h2, h3, h4, h5, rfl, rfl, rfl⟩ (fun i σ₂ hi hj => ?_) (fun σ₂ hj => ?_)
  · obtain ⟨C, acc, lt, ll, lr, ld, lri, c1, c2, c3, c4, c5, hacc, hrun, rfl⟩ := hj
    have h17 : 17 - i = (17 - (i + 1)) + 1 := by omega
    rw [h17, ttold] at hrun
    have hdl := dbl_len C.left
    have hrl : (rep C.left (C.st :: C.right)).length ≤ 400 := by simp only [rep, List.length_append, List.length_cons, List.length_nil]; omega
    have hst : C.st ≠ 34 := by rcases c3 with h | h | h | h <;> rw [h] <;> decide
    repeat' (walk_at "m")
    walk_at "call"
    repeat' (walk_at "m")
    refine ⟨_, _, fn_parse w C.left (C.st :: C.right) (by omega) (by rw [List.length_cons]; omega) (by simp [hst]), (Nat.le_of_ble_eq_true rfl), ?_⟩
    rintro _ rfl
    repeat' (walk_at "m")
    walk_at "len"
    repeat' (walk_at "m")
    have er : ∀ i : Int, i = ((5 + (dbl C.left).length + 1 : Nat) : Int) → cutL (rep C.left (C.st :: C.right)) (some i) none = C.st :: C.right := fun i hi => by rw [cutL_from' _ _ hi, rep_drop]
    have e1 : cutL (C.st :: C.right) none (some 1) = [C.st] := by exact cutL_to' (i := 1) _ 1 rfl
    have e2 : cutL (C.st :: C.right) (some 1) none = C.right := by exact cutL_from' (i := 1) _ 1 rfl
    have e3 : cutL (C.st :: C.right) (some 1) (some 2) = C.right.take 1 := by exact cutL_mid' (i := 1) (j := 2) _ 1 2 rfl rfl
    have e4 : cutL (C.st :: C.right) (some 2) none = C.right.drop 1 := by exact cutL_from' (i := 2) _ 2 rfl
    have cl : (C.st :: C.right).length ≤ 60 := by rw [List.length_cons]; omega
    rw [count_T, er _ (by omega)]
    generalize hR : C.st :: C.right = RR at *
    repeat' (walk_at "m")
    rw [e1, lower_st c3]
    refine ⟨by show (1 : Nat) ≤ _; decide, ?_⟩
    repeat' (walk_at "m")
    walk_at "call"
    repeat' (walk_at "m")
    refine ⟨_, _, fn_worth w C.left c1, (Nat.le_of_ble_eq_true rfl), ?_⟩
    rintro _ rfl
    repeat' (walk_at "m")
    walk_at "call"
    repeat' (walk_at "m")
    refine Ev.revT ?_
    repeat' (walk_at "m")
    rw [e2]
    refine ⟨by omega, ?_⟩
    repeat' (walk_at "m")
    refine ⟨_, _, fn_worth w C.right.reverse (fun c hc => c2 c (List.mem_reverse.mp hc)), (Nat.le_of_ble_eq_true rfl), ?_⟩
    rintro _ rfl
    repeat' (walk_at "m")
    have hsg := sgn_head c2
    refine Ev.methH1 ok hC .here (hfn_get w rfl).1 (hfn_get w rfl).2 getL_get (Ev.keep1 (d₀ := .str (T [C.st, C.right.headD 111])) ?key ⟨_, _, fn_get w kvs (T [C.st, C.right.headD 111]) (by rw [lower_key c3 hsg]; exact cl_key c3 hsg) (by show (2 : Nat) ≤ _; decide) hT.len hT.keys, (Nat.le_of_ble_eq_true rfl), ?_⟩)
    case key =>
      repeat' (walk_at "m")
      rw [e1, e3]
      cases hrr : C.right with
      | nil =>
        refine ⟨_, Tru.T (by decide), fun h => absurd h (by decide), fun _ => ?_⟩
        repeat' (walk_at "m")
        rfl
      | cons x xs =>
        rw [show List.take 1 (x :: xs) = [x] from rfl]
        refine ⟨_, Tru.T (by show (1 : Nat) < _; decide), fun _ => ?_, fun h => by simp at h⟩
        repeat' (walk_at "m")
        rfl
    rw [lower_key c3 hsg, hT.get _ _ c3 hsg]
    rintro _ rfl
    cases hlk : look (low C.st) (C.right.headD 111) with
    | none =>
      have hn : tnext look C = none := by unfold tnext; rw [hlk]
      rw [hn] at hrun
      dsimp only
      repeat' (walk_at "m")
      refine ⟨fun _ => ?_, fun h => nomatch h⟩
      repeat' (walk_at "m")
      rw [← hrun]
      simp
      rfl
    | some p =>
      obtain ⟨cc, dd, z⟩ := p
      dsimp only
      have hz := hT.sgn _ _ cc dd z c3 hsg hlk
      repeat' (walk_at "m")
      refine ⟨fun h => (nomatch h), fun _ => ?_⟩
      repeat' (first | walk_at "inX" | walk_at "m")
      have g1 : cutL [cc, ar dd, ar dd, z] (some 1) (some 3) = [ar dd, ar dd] := by exact cutL_mid' (i := 1) (j := 3) _ 1 3 rfl rfl
      have g2 : cutL [cc, ar dd, ar dd, z] none (some 1) = [cc] := by exact cutL_to' (i := 1) _ 1 rfl
      have g3 : cutL [cc, ar dd, ar dd, z] (some 3) none = [z] := by exact cutL_from' (i := 3) _ 3 rfl
      have hlt : (C.right.drop 1).length ≤ 40 := by rw [List.length_drop]; omega
      rw [g1]
      cases dd with
      | true =>
        refine ⟨_, 34, rfl, .gg, ?_⟩
        repeat' (first | walk_at "inX" | walk_at "m")
        refine ⟨fun _ => ?_, fun h => nomatch h⟩
        repeat' (first | walk_at "inX" | walk_at "m")
        rw [g2]
        have hdl2 := dbl_len (C.left ++ [cc])
        have hll2 : (C.left ++ [cc]).length ≤ 40 := by rw [List.length_append, List.length_cons, List.length_nil]; omega
        repeat' (first | walk_at "inX" | walk_at "quoted" | walk_at "m")
        rw [g3]
        repeat' (first | walk_at "quoted" | walk_at "m")
        rw [e4]
        repeat' (first | walk_at "quoted" | walk_at "m")
        have hn : tnext look C = some ⟨C.left ++ [cc], z, C.right.drop 1⟩ := by unfold tnext; rw [hlk]
        rw [hn] at hrun
        have ere : rep (C.left ++ [cc]) (z :: (C.right.drop 1)) = [50, 53, 55, 32, 34] ++ dbl (C.left ++ [cc]) ++ [34] ++ [z] ++ (C.right.drop 1) := by simp [rep]
        refine ⟨⟨C.left ++ [cc], z, C.right.drop 1⟩, acc ++ [C], .d (.int (i : Int)), .d (.str (T (C.left ++ [cc]))), .d (.str (T RR)), .d (.str (T [cc, ar true, ar true, z])), .d (.str (T (C.right.drop 1))), ?_, ?_, hz.2, ?_, ?_, by rw [List.length_append, hacc]; rfl, by rw [List.append_assoc]; exact hrun, ?_⟩
        · intro c hc; rcases List.mem_append.mp hc with h | h
          · exact c1 c h
          · rw [List.mem_singleton.mp h]; exact hz.1
        · intro c hc; exact c2 c (List.mem_of_mem_drop hc)
        · show (C.left ++ [cc]).length ≤ _; simp only [List.length_append, List.length_cons, List.length_nil, List.length_take]; omega
        · show (C.right.drop 1).length ≤ _; simp only [List.length_append, List.length_cons, List.length_nil, List.length_drop]; omega
        · rw [ere, List.map_append]; rfl
      | false =>
        refine ⟨_, 33, rfl, .ll, ?_⟩
        repeat' (first | walk_at "inX" | walk_at "m")
        refine ⟨fun h => (nomatch h), fun _ => ?_⟩
        repeat' (first | walk_at "inX" | walk_at "m")
        have hd0 : cutL C.left (some (-1)) none = C.left.drop (C.left.length - 1) := cutL_fromNeg _
        have ht0 : cutL C.left none (some (-1)) = C.left.take (C.left.length - 1) := cutL_toNeg _
        have hdl2 := dbl_len (C.left.take (C.left.length - 1))
        have hll2 : (C.left.take (C.left.length - 1)).length ≤ 40 := by rw [List.length_take]; omega
        rw [hd0, ht0]
        rcases List.eq_nil_or_concat C.left with hnil | ⟨l0, x, hx⟩
        · have hdr : C.left.drop (C.left.length - 1) = [] := by rw [hnil]; rfl
          rw [hdr]
          refine ⟨_, Tru.T (by decide), fun h => absurd h (by decide), fun _ => ?_⟩
          repeat' (first | walk_at "inX" | walk_at "quoted" | walk_at "m")
          rw [g2]
          repeat' (first | walk_at "inX" | walk_at "quoted" | walk_at "m")
          rw [e4]
          repeat' (first | walk_at "inX" | walk_at "quoted" | walk_at "m")
          rw [g3]
          repeat' (first | walk_at "quoted" | walk_at "m")
          have hn : tnext look C = some ⟨C.left.take (C.left.length - 1), z, 111 :: cc :: C.right.drop 1⟩ := by unfold tnext; rw [hlk]; rw [hnil]; rfl
          rw [hn] at hrun
          have ere : rep (C.left.take (C.left.length - 1)) (z :: (111 :: cc :: C.right.drop 1)) = [50, 53, 55, 32, 34] ++ dbl (C.left.take (C.left.length - 1)) ++ [34] ++ [z] ++ (111 :: cc :: C.right.drop 1) := by simp [rep]
          refine ⟨⟨C.left.take (C.left.length - 1), z, 111 :: cc :: C.right.drop 1⟩, acc ++ [C], .d (.int (i : Int)), .d (.str (T (C.left.take (C.left.length - 1)))), .d (.str (T RR)), .d (.str (T [cc, ar false, ar false, z])), .d (.str (T (111 :: cc :: C.right.drop 1))), ?_, ?_, hz.2, ?_, ?_, by rw [List.length_append, hacc]; rfl, by rw [List.append_assoc]; exact hrun, ?_⟩
          · intro c hc; exact c1 c (List.mem_of_mem_take hc)
          · intro c hc
            rcases List.mem_cons.mp hc with rfl | hc
            · exact .inl rfl
            · rcases List.mem_cons.mp hc with rfl | hc
              · exact hz.1
              · exact c2 c (List.mem_of_mem_drop hc)
          · show (C.left.take (C.left.length - 1)).length ≤ _; simp only [List.length_append, List.length_cons, List.length_nil, List.length_take]; omega
          · show (111 :: cc :: C.right.drop 1).length ≤ _; simp only [List.length_append, List.length_cons, List.length_nil, List.length_drop]; omega
          · rw [ere, List.map_append]; rfl
        · have hdr : C.left.drop (C.left.length - 1) = [x] := by rw [hx]; simp
          rw [hdr]
          refine ⟨_, Tru.T (by show (1 : Nat) < _; decide), fun _ => ?_, fun h => by simp at h⟩
          repeat' (first | walk_at "inX" | walk_at "quoted" | walk_at "m")
          rw [g2]
          repeat' (first | walk_at "inX" | walk_at "quoted" | walk_at "m")
          rw [e4]
          repeat' (first | walk_at "inX" | walk_at "quoted" | walk_at "m")
          rw [g3]
          repeat' (first | walk_at "quoted" | walk_at "m")
          have hn : tnext look C = some ⟨C.left.take (C.left.length - 1), z, x :: cc :: C.right.drop 1⟩ := by unfold tnext; rw [hlk]; rw [hx]; simp
          rw [hn] at hrun
          have ere : rep (C.left.take (C.left.length - 1)) (z :: (x :: cc :: C.right.drop 1)) = [50, 53, 55, 32, 34] ++ dbl (C.left.take (C.left.length - 1)) ++ [34] ++ [z] ++ (x :: cc :: C.right.drop 1) := by simp [rep]
          refine ⟨⟨C.left.take (C.left.length - 1), z, x :: cc :: C.right.drop 1⟩, acc ++ [C], .d (.int (i : Int)), .d (.str (T (C.left.take (C.left.length - 1)))), .d (.str (T RR)), .d (.str (T [cc, ar false, ar false, z])), .d (.str (T (x :: cc :: C.right.drop 1))), ?_, ?_, hz.2, ?_, ?_, by rw [List.length_append, hacc]; rfl, by rw [List.append_assoc]; exact hrun, ?_⟩
          · intro c hc; exact c1 c (List.mem_of_mem_take hc)
          · intro c hc
            rcases List.mem_cons.mp hc with rfl | hc
            · exact c1 c (by rw [hx]; simp)
            · rcases List.mem_cons.mp hc with rfl | hc
              · exact hz.1
              · exact c2 c (List.mem_of_mem_drop hc)
          · show (C.left.take (C.left.length - 1)).length ≤ _; simp only [List.length_append, List.length_cons, List.length_nil, List.length_take]; omega
          · show (x :: cc :: C.right.drop 1).length ≤ _; simp only [List.length_append, List.length_cons, List.length_nil, List.length_drop]; omega
          · rw [ere, List.map_append]; rfl
  · obtain ⟨C, acc, lt, ll, lr, ld, lri, c1, c2, c3, c4, c5, hacc, hrun, rfl⟩ := hj
    repeat' (walk_at "m")
    rw [show 17 - 17 = 0 from rfl, ttold, List.append_nil] at hrun
    rw [hrun]



theorem at_rules (w : World) : PySem.Challenge.rw_wf0084_01 = PySem.Challenge.rw_wf0084_01 → Fn (Kh w.params) (Str.ofString "_law_rules") 231 := by
  k_fill
  intro _
  refine' Fn.of ?k1 ?k2
  case k1 => k_is
  case k2 => k_is

theorem at_tape (w : World) : PySem.Challenge.rw_wf0084_01 = PySem.Challenge.rw_wf0084_01 → Fn (Kh w.params) (Str.ofString "_law_tape") 238 := by
  k_fill
  intro _
  refine' Fn.of ?k1 ?k2
  case k1 => k_is
  case k2 => k_is

theorem at_read (w : World) : PySem.Challenge.rw_wf0084_01 = PySem.Challenge.rw_wf0084_01 → Fn (Kh w.params) (Str.ofString "_law_read") 259 := by
  k_fill
  intro _
  refine' Fn.of ?k1 ?k2
  case k1 => k_is
  case k2 => k_is

theorem at_kept (w : World) : PySem.Challenge.rw_wf0084_01 = PySem.Challenge.rw_wf0084_01 → Fn (Kh w.params) (Str.ofString "_law_kept") 266 := by
  k_fill
  intro _
  refine' Fn.of ?k1 ?k2
  case k1 => k_is
  case k2 => k_is

theorem at_talk (w : World) : PySem.Challenge.rw_wf0084_01 = PySem.Challenge.rw_wf0084_01 → Fn (Kh w.params) (Str.ofString "_law_talk") 280 := by
  k_fill
  intro _
  refine' Fn.of ?k1 ?k2
  case k1 => k_is
  case k2 => k_is

theorem at_numbers (w : World) : PySem.Challenge.rw_wf0084_01 = PySem.Challenge.rw_wf0084_01 → Fn (Kh w.params) (Str.ofString "_law_numbers") 287 := by
  k_fill
  intro _
  refine' Fn.of ?k1 ?k2
  case k1 => k_is
  case k2 => k_is




local macro_rules | `(tactic| walk_at "neL") => `(tactic| ((with_reducible refine' Tr.neL ?s0 ?_ (hm := ?s1)); (case s0 => assumption); (case s1 => with_unfolding_all rfl)))
local macro_rules | `(tactic| walk_at "eqL") => `(tactic| ((with_reducible refine' Ev.eqL ?s0 ?_ (hm := ?s1)); (case s0 => assumption); (case s1 => with_unfolding_all rfl)))

theorem law_body (w : World) (ns : List Int) (hn : ns.length ≤ 63) (fa : Addr) (cd : Value) (s₀ : Shared) (H₀ : PH) (L : Addr) (A : Around) (ok : (Cx.mk PySem.Challenge.rw_wf0084_01.row.toRowW.prog w (Kh w.params) s₀ H₀ L A 8).Ok) :
    St ⟨PySem.Challenge.rw_wf0084_01.row.toRowW.prog, w, Kh w.params, s₀, H₀, L, A, 8⟩ (execs (kbd (kst kpb 74)) (envX (Str.ofString "law") (ksc (kst kpb 74)) L fa cd []))
      [(Str.ofString "script", .d (.lst (ns.map D.int))), (Str.ofString "rules", .unb), (Str.ofString "left", .unb), (Str.ofString "right", .unb), (Str.ofString "table", .unb), (Str.ofString "reply", .unb)] (RetQ fun d => d = .bool true) := by
  k_fill
  walk_at "lit"
  have Fn1 := at_rules w rfl
  have Fn2 := at_tape w rfl
  have Fn3 := at_read w rfl
  have Fn4 := at_kept w rfl
  have Fn5 := at_talk w rfl
  have Fn6 := at_numbers w rfl
  have Fn7 := at_worth w rfl
  have Fn8 := at_written w rfl
  have hC := hcls_at w rfl
  have hok := rulesOf_ok ns
  have hrl := rulesOf_len ns
  have htl : (ns.take 6).length ≤ 6 := by rw [List.length_take]; omega
  obtain ⟨tl1, tl2, ts1, ts2⟩ : (tape ns).1.length ≤ 6 ∧ (tape ns).2.length ≤ 14 ∧ (∀ c ∈ (tape ns).1, Sgn c) ∧ (∀ c ∈ (tape ns).2, Sgn c) := by
    obtain ⟨a, b, c, d⟩ := tacc_ok (ns.take 6)
    exact ⟨Nat.le_trans a htl, Nat.le_trans b (by omega), c, d⟩
  repeat' (walk_at "m")
  walk_at "call"
  repeat' (walk_at "m")
  refine ⟨_, _, fn_rules w ns hn, (Nat.le_of_ble_eq_true rfl), ?_⟩
  rintro _ rfl
  have hne : rulesOf ns ≠ [] := by unfold rulesOf base6; simp
  generalize rulesOf ns = rs at *
  repeat' (walk_at "m")
  refine St.assign2 ok ?_
  walk_at "call"
  repeat' (walk_at "m")
  refine ⟨_, _, fn_tape w ns hn, (Nat.le_of_ble_eq_true rfl), ?_⟩
  rintro _ rfl
  generalize (tape ns).1 = left at *
  generalize (tape ns).2 = right at *
  have hdl := dbl_len left
  refine As.tuple2 ok ?_
  repeat' (walk_at "m")
  walk_at "call"
  repeat' (walk_at "m")
  refine Ev.join ?_
  repeat' (walk_at "m")
  rw [lit_semi]
  refine ⟨by decide, ?_⟩
  refine Ev.listComp ok ?_ rfl (by decide +kernel) rfl (by decide +kernel) (by decide +kernel) (by intro _; rfl)
  repeat' (walk_at "m")
  refine ⟨rs.map Rl.D, rs.map fun r => D.str (T (rtext r)), rfl, by rw [List.length_map]; omega, by rw [List.length_map, List.length_map], fun i d e hdd he C => ?_, ?_⟩
  · obtain ⟨r, hr, rfl⟩ := map_get hdd
    have he2 : e = .str (T (rtext r)) := by
      simp only [List.getElem?_map, hr, Option.map_some, Option.some.injEq] at he
      exact he.symm
    have hrok := hok r (List.mem_of_getElem? hr)
    refine Ev.join ?_
    repeat' (walk_at "m")
    dsimp only
    have okC : (Cx.mk PySem.Challenge.rw_wf0084_01.row.toRowW.prog w (Kh w.params) s₀ H₀ C A 8).Ok := ⟨ok.kIn, ok.top, ok.amb, ok.base⟩
    walk_at "call"
    repeat' (walk_at "m")
    refine ⟨_, _, fn_written w r hrok, (Nat.le_of_ble_eq_true rfl), ?_⟩
    rintro _ rfl
    refine ⟨[T r.name, T r.deed], .inl rfl, (by show 2 + (4 + 0) + 2 * 16 ≤ 100000; omega), ?_⟩
    rw [join_rule, he2]
  · have hsum : ∀ l : List Rl, ((l.map fun r => T (rtext r)).map (·.length)).sum = 8 * l.length := by
      intro l
      induction l with
      | nil => rfl
      | cons r l ih => rw [List.map_cons, List.map_cons, List.sum_cons, ih, List.length_cons]; show 8 + _ = _; omega
    refine ⟨rs.map fun r => T (rtext r), .inr (by rw [List.map_map]; rfl), (by rw [hsum, List.length_map]; omega), ?_⟩
    rw [join_all]
    repeat' (walk_at "m")
    obtain ⟨nm', hrun⟩ := run_all rs [] [] hok hne (by simp only [List.length_nil]; omega) (fun p hp => nomatch hp)
    have hjl := jtext_len rs
    have htab : (tabOf rs).length ≤ 100 := Nat.le_trans (tab_len rs).1 (by omega)
    have hkq := kept_ok rs
    have hT := tok_of rs hok (by omega)
    refine ⟨_, _, fn_read w (jtext rs) (jcodes rs) (tok_all hok) (by omega) _ hrun, (Nat.le_of_ble_eq_true rfl), ?_⟩
    rintro _ rfl
    repeat' (first | walk_at "neL" | walk_at "m")
    refine Ev.methH0 ok hC (.there (.there (.there (.there .here)))) (hfn_items w rfl).1 (hfn_items w rfl).2 getL_items ⟨_, _, fn_items w (tabOf rs) htab, (Nat.le_of_ble_eq_true rfl), ?_⟩
    rintro _ rfl
    walk_at "call"
    repeat' (walk_at "m")
    refine ⟨_, _, fn_kept w rs hok (by omega), (Nat.le_of_ble_eq_true rfl), ?_⟩
    rintro _ rfl
    refine ⟨(kept rs).map Rl.pair, by rw [tab_kept rs hok, List.map_map]; rfl, rfl, hkq, ?_⟩
    refine ⟨(fun h => nomatch h), fun _ => ?_⟩
    repeat' (first | walk_at "quoted" | walk_at "eqL" | walk_at "m")
    walk_at "call"
    repeat' (walk_at "m")
    have ere : [50, 53, 55, 32, 34] ++ dbl left ++ [34, 97] ++ right = rep left (97 :: right) := by simp [rep]
    rw [ere]
    refine ⟨_, _, fn_talk w (tabOf rs) (lookOf rs) hT ⟨left, 97, right⟩ ts1 ts2 (.inl rfl) (by show left.length ≤ 20; omega) (by show right.length ≤ 20; omega), (Nat.le_of_ble_eq_true rfl), ?_⟩
    rintro _ rfl
    walk_at "call"
    repeat' (walk_at "m")
    walk_at "call"
    repeat' (walk_at "m")
    refine ⟨_, _, fn_worth w left ts1, (Nat.le_of_ble_eq_true rfl), ?_⟩
    rintro _ rfl
    repeat' (walk_at "m")
    walk_at "call"
    repeat' (walk_at "m")
    refine Ev.revT ?_
    repeat' (walk_at "m")
    refine ⟨_, _, fn_worth w right.reverse (fun c hc => ts2 c (List.mem_reverse.mp hc)), (Nat.le_of_ble_eq_true rfl), ?_⟩
    rintro _ rfl
    repeat' (walk_at "m")
    refine ⟨_, _, fn_numbers w rs hok (by omega) (worth left) (worth right.reverse), (Nat.le_of_ble_eq_true rfl), ?_⟩
    rintro _ rfl
    refine ⟨(ntold rs 17 ⟨0, worth left, worth right.reverse⟩).map Cf.D, ?_, rfl, told_ok _, ?_⟩
    · rw [talk_numbers rs hok 17 ⟨left, 97, right⟩ ⟨0, worth left, worth right.reverse⟩ ⟨rfl, rfl, rfl, .inl rfl, ts1, ts2⟩]
    · repeat' (walk_at "m")
      rfl


end Mine
namespace Mine
open PySem PySem.W PySem.Calls PyProof.Rows
/-! names that keep large copies of the heaps out of the compiled file -/
theorem hd5.tw10025564488785553235 : True := trivial
theorem hd5.tw10035412999643954697 : True := trivial
theorem hd5.tw10090879406639219587 : True := trivial
theorem hd5.tw1020986375590423950 : True := trivial
theorem hd5.tw10228952825210839978 : True := trivial
theorem hd5.tw1033187279494129558 : True := trivial
theorem hd5.tw10364760557489862046 : True := trivial
theorem hd5.tw10408229108125896288 : True := trivial
theorem hd5.tw10508250999813223547 : True := trivial
theorem hd5.tw1051733529138054532 : True := trivial
theorem hd5.tw1051953102284186622 : True := trivial
theorem hd5.tw10561522364530013581 : True := trivial
theorem hd5.tw10730406603347278166 : True := trivial
theorem hd5.tw10762855855970111751 : True := trivial
theorem hd5.tw1081341786427706158 : True := trivial
theorem hd5.tw1083371967617948969 : True := trivial
theorem hd5.tw10903164031943945463 : True := trivial
theorem hd5.tw10904528593695550200 : True := trivial
theorem hd5.tw10966727285751169267 : True := trivial
theorem hd5.tw10972081926527512149 : True := trivial
theorem hd5.tw10981740448279609368 : True := trivial
theorem hd5.tw10982764213379976965 : True := trivial
theorem hd5.tw11012504632157776942 : True := trivial
theorem hd5.tw11025408195626197705 : True := trivial
theorem hd5.tw1108544218318368115 : True := trivial
theorem hd5.tw11113833537823981526 : True := trivial
theorem hd5.tw11145106114636449717 : True := trivial
theorem hd5.tw11151697616276562716 : True := trivial
theorem hd5.tw11189262917036445606 : True := trivial
theorem hd5.tw11204252389214983547 : True := trivial
theorem hd5.tw11278919416324343772 : True := trivial
theorem hd5.tw11301670610899959060 : True := trivial
theorem hd5.tw11307379072484046966 : True := trivial
theorem hd5.tw11366510473200533293 : True := trivial
theorem hd5.tw11422432377761696561 : True := trivial
theorem hd5.tw11457262468978147276 : True := trivial
theorem hd5.tw1147829347985480471 : True := trivial
theorem hd5.tw11492314474088595579 : True := trivial
theorem hd5.tw11526018320547829267 : True := trivial
theorem hd5.tw11593162878979477551 : True := trivial
theorem hd5.tw11610196584306789315 : True := trivial
theorem hd5.tw11626660730681073185 : True := trivial
theorem hd5.tw11653034868805227070 : True := trivial
theorem hd5.tw11757024479990019870 : True := trivial
theorem hd5.tw11809501915756526662 : True := trivial
theorem hd5.tw11881230018566835851 : True := trivial
theorem hd5.tw1188828034175532688 : True := trivial
theorem hd5.tw11889200779260576716 : True := trivial
theorem hd5.tw11907005758288182823 : True := trivial
theorem hd5.tw1203052123985770447 : True := trivial
theorem hd5.tw1203981348620040798 : True := trivial
theorem hd5.tw12079332689812893464 : True := trivial
theorem hd5.tw12123185294009352739 : True := trivial
theorem hd5.tw12136454766076213953 : True := trivial
theorem hd5.tw12139773290759679812 : True := trivial
theorem hd5.tw12156481918815857737 : True := trivial
theorem hd5.tw12182310145152814791 : True := trivial
theorem hd5.tw12195902263180544460 : True := trivial
theorem hd5.tw12303433706839490100 : True := trivial
theorem hd5.tw12361910575782214612 : True := trivial
theorem hd5.tw12413683369902101092 : True := trivial
theorem hd5.tw12417775354647261948 : True := trivial
theorem hd5.tw12480658236079722559 : True := trivial
theorem hd5.tw12522647544518764464 : True := trivial
theorem hd5.tw12599102271553721485 : True := trivial
theorem hd5.tw12627316992817706079 : True := trivial
theorem hd5.tw12635605494201079149 : True := trivial
theorem hd5.tw126875335972979655 : True := trivial
theorem hd5.tw12699976562291952331 : True := trivial
theorem hd5.tw12704154024262991273 : True := trivial
theorem hd5.tw12812795831587411316 : True := trivial
theorem hd5.tw12814554109907791440 : True := trivial
theorem hd5.tw12825047163468270619 : True := trivial
theorem hd5.tw12845733054736582464 : True := trivial
theorem hd5.tw12863277368174789803 : True := trivial
theorem hd5.tw12929720466300514334 : True := trivial
theorem hd5.tw12953823768639575715 : True := trivial
theorem hd5.tw1296016872615568016 : True := trivial
theorem hd5.tw12996535554849776425 : True := trivial
theorem hd5.tw13062117483631339900 : True := trivial
theorem hd5.tw13242006321667700369 : True := trivial
theorem hd5.tw13250597661694348287 : True := trivial
theorem hd5.tw13264664214919920538 : True := trivial
theorem hd5.tw13315390535104904361 : True := trivial
theorem hd5.tw13445012059244002407 : True := trivial
theorem hd5.tw13538134930791456849 : True := trivial
theorem hd5.tw13557983592282389202 : True := trivial
theorem hd5.tw13594034182959019902 : True := trivial
theorem hd5.tw13664505964123184644 : True := trivial
theorem hd5.tw13673067259117554460 : True := trivial
theorem hd5.tw13706741073979602181 : True := trivial
theorem hd5.tw13707498568821981456 : True := trivial
theorem hd5.tw13713777914440914996 : True := trivial
theorem hd5.tw13718398716389627751 : True := trivial
theorem hd5.tw13735918517509009639 : True := trivial
theorem hd5.tw13773637288716072236 : True := trivial
theorem hd5.tw13928018602834948316 : True := trivial
theorem hd5.tw13940126354278365890 : True := trivial
theorem hd5.tw14061012581493813744 : True := trivial
theorem hd5.tw14121235801040204793 : True := trivial
theorem hd5.tw14164003051632216702 : True := trivial
theorem hd5.tw141795581198105119 : True := trivial
theorem hd5.tw14318608469658898311 : True := trivial
theorem hd5.tw14360031471013389772 : True := trivial
theorem hd5.tw1437864150943456034 : True := trivial
theorem hd5.tw14401457730618131605 : True := trivial
theorem hd5.tw1448164271657845056 : True := trivial
theorem hd5.tw145110826420250033 : True := trivial
theorem hd5.tw14582247433768590169 : True := trivial
theorem hd5.tw14670106423474816053 : True := trivial
theorem hd5.tw14671110680385501603 : True := trivial
theorem hd5.tw14789182706382176759 : True := trivial
theorem hd5.tw14804436536992079371 : True := trivial
theorem hd5.tw14811154858104310414 : True := trivial
theorem hd5.tw14857531616284815970 : True := trivial
theorem hd5.tw14936433138044348830 : True := trivial
theorem hd5.tw14989660615681592503 : True := trivial
theorem hd5.tw14990776474627550744 : True := trivial
theorem hd5.tw1508094216598156116 : True := trivial
theorem hd5.tw1509368253808784537 : True := trivial
theorem hd5.tw15112313002656972500 : True := trivial
theorem hd5.tw15128132797570422622 : True := trivial
theorem hd5.tw15223141834047657335 : True := trivial
theorem hd5.tw15224057993160531153 : True := trivial
theorem hd5.tw15228213026588002432 : True := trivial
theorem hd5.tw15289780764511069490 : True := trivial
theorem hd5.tw15291031082284507724 : True := trivial
theorem hd5.tw15423588391292958020 : True := trivial
theorem hd5.tw15495998721740486613 : True := trivial
theorem hd5.tw15583232229701518339 : True := trivial
theorem hd5.tw15674265261187411353 : True := trivial
theorem hd5.tw15677605348809834285 : True := trivial
theorem hd5.tw15685110468633165091 : True := trivial
theorem hd5.tw15719635569003532610 : True := trivial
theorem hd5.tw157453850504694522 : True := trivial
theorem hd5.tw15777025644715644701 : True := trivial
theorem hd5.tw15820686347827678092 : True := trivial
theorem hd5.tw15851706408826943012 : True := trivial
theorem hd5.tw15853307724814570773 : True := trivial
theorem hd5.tw15958412750356693640 : True := trivial
theorem hd5.tw15959646478317340736 : True := trivial
theorem hd5.tw16012056783758582600 : True := trivial
theorem hd5.tw16072240797595064297 : True := trivial
theorem hd5.tw16098292414720869829 : True := trivial
theorem hd5.tw16135381438029497930 : True := trivial
theorem hd5.tw16167883210679753297 : True := trivial
theorem hd5.tw16174583870427899277 : True := trivial
theorem hd5.tw16239537089581037190 : True := trivial
theorem hd5.tw16241617540237323921 : True := trivial
theorem hd5.tw16244531177467424354 : True := trivial
theorem hd5.tw16245242240053187641 : True := trivial
theorem hd5.tw16260254840161361703 : True := trivial
theorem hd5.tw16294193814643160896 : True := trivial
theorem hd5.tw16471706549468713554 : True := trivial
theorem hd5.tw16555795753019826499 : True := trivial
theorem hd5.tw16641410638268364559 : True := trivial
theorem hd5.tw16684726115740414572 : True := trivial
theorem hd5.tw16718110192425544356 : True := trivial
theorem hd5.tw16781867790145399589 : True := trivial
theorem hd5.tw16796306923262387851 : True := trivial
theorem hd5.tw16847510291013213513 : True := trivial
theorem hd5.tw1689574240998103707 : True := trivial
theorem hd5.tw16992315896533037662 : True := trivial
theorem hd5.tw17064810199028101006 : True := trivial
theorem hd5.tw17126000308332152022 : True := trivial
theorem hd5.tw17206634348565612860 : True := trivial
theorem hd5.tw17213674233326104617 : True := trivial
theorem hd5.tw17217606728861038394 : True := trivial
theorem hd5.tw17219415017814442875 : True := trivial
theorem hd5.tw17319843023484990803 : True := trivial
theorem hd5.tw17326306106448854315 : True := trivial
theorem hd5.tw17350886380492284863 : True := trivial
theorem hd5.tw17370887170362125828 : True := trivial
theorem hd5.tw17384080704591643123 : True := trivial
theorem hd5.tw1744663602975800256 : True := trivial
theorem hd5.tw17548806618531314627 : True := trivial
theorem hd5.tw17559073627053776820 : True := trivial
theorem hd5.tw17571977600478135570 : True := trivial
theorem hd5.tw1758154227238571665 : True := trivial
theorem hd5.tw17607864448436164621 : True := trivial
theorem hd5.tw17639065895255307140 : True := trivial
theorem hd5.tw1770740441235377155 : True := trivial
theorem hd5.tw17775560935590920074 : True := trivial
theorem hd5.tw17807955713676653683 : True := trivial
theorem hd5.tw17815174358270890046 : True := trivial
theorem hd5.tw17816390956381192252 : True := trivial
theorem hd5.tw17873791192441516409 : True := trivial
theorem hd5.tw17885356945791258123 : True := trivial
theorem hd5.tw17960516438085446013 : True := trivial
theorem hd5.tw18124142972799045031 : True := trivial
theorem hd5.tw18173829382517781421 : True := trivial
theorem hd5.tw18238995164756404803 : True := trivial
theorem hd5.tw18273741752016341876 : True := trivial
theorem hd5.tw18320109587980160374 : True := trivial
theorem hd5.tw1844976600994420489 : True := trivial
theorem hd5.tw1887003200213054129 : True := trivial
theorem hd5.tw1966918794932902644 : True := trivial
theorem hd5.tw1977999912838589651 : True := trivial
theorem hd5.tw2063104665756384965 : True := trivial
theorem hd5.tw2113961189591841610 : True := trivial
theorem hd5.tw2196488626360885765 : True := trivial
theorem hd5.tw2232204840860898175 : True := trivial
theorem hd5.tw2262539567119322506 : True := trivial
theorem hd5.tw2262962255285196015 : True := trivial
theorem hd5.tw2272400636814721266 : True := trivial
theorem hd5.tw2312551658142309072 : True := trivial
theorem hd5.tw2375231742074244471 : True := trivial
theorem hd5.tw2376959398006559738 : True := trivial
theorem hd5.tw2426748298158352078 : True := trivial
theorem hd5.tw252633194326450305 : True := trivial
theorem hd5.tw2551709448166735487 : True := trivial
theorem hd5.tw2579454125444186021 : True := trivial
theorem hd5.tw2614515038171414494 : True := trivial
theorem hd5.tw2639728201966069879 : True := trivial
theorem hd5.tw2646110836977639508 : True := trivial
theorem hd5.tw2679146536949027296 : True := trivial
theorem hd5.tw268584097348736657 : True := trivial
theorem hd5.tw2744474696533289624 : True := trivial
theorem hd5.tw275207419520480986 : True := trivial
theorem hd5.tw2760583630612178810 : True := trivial
theorem hd5.tw278563164325961220 : True := trivial
theorem hd5.tw2799151204978467196 : True := trivial
theorem hd5.tw2845103679525299922 : True := trivial
theorem hd5.tw2862209067992278782 : True := trivial
theorem hd5.tw2870540894891561154 : True := trivial
theorem hd5.tw2964839620818173588 : True := trivial
theorem hd5.tw301709226055646020 : True := trivial
theorem hd5.tw3063401604920928062 : True := trivial
theorem hd5.tw3088087636020246649 : True := trivial
theorem hd5.tw3117855487509747401 : True := trivial
theorem hd5.tw3139000802177925106 : True := trivial
theorem hd5.tw3165469158919797474 : True := trivial
theorem hd5.tw3178235976635920218 : True := trivial
theorem hd5.tw322197452483635390 : True := trivial
theorem hd5.tw3227803035504640263 : True := trivial
theorem hd5.tw3228729223001492740 : True := trivial
theorem hd5.tw3261822577805635330 : True := trivial
theorem hd5.tw3330821573897376005 : True := trivial
theorem hd5.tw3395808538631553699 : True := trivial
theorem hd5.tw3420084816391420715 : True := trivial
theorem hd5.tw3487252824817110633 : True := trivial
theorem hd5.tw3532290851314145236 : True := trivial
theorem hd5.tw3571268274620558601 : True := trivial
theorem hd5.tw3575983252545363189 : True := trivial
theorem hd5.tw3613598295379534684 : True := trivial
theorem hd5.tw3645595411888517688 : True := trivial
theorem hd5.tw3673326543209731632 : True := trivial
theorem hd5.tw3720631376772625953 : True := trivial
theorem hd5.tw3732084287243328127 : True := trivial
theorem hd5.tw3739071615747819997 : True := trivial
theorem hd5.tw3780224593263839546 : True := trivial
theorem hd5.tw3783886362362221461 : True := trivial
theorem hd5.tw3840110723302351224 : True := trivial
theorem hd5.tw3861996562159511662 : True := trivial
theorem hd5.tw3862415772653521919 : True := trivial
theorem hd5.tw38690717555172017 : True := trivial
theorem hd5.tw3904676339426333615 : True := trivial
theorem hd5.tw3915060758571916428 : True := trivial
theorem hd5.tw3954752363531859618 : True := trivial
theorem hd5.tw4039121870023040137 : True := trivial
theorem hd5.tw4083358430518974841 : True := trivial
theorem hd5.tw4086640820115765375 : True := trivial
theorem hd5.tw4114097225219913976 : True := trivial
theorem hd5.tw4130772276158269504 : True := trivial
theorem hd5.tw4146091287920773965 : True := trivial
theorem hd5.tw4203550183703541052 : True := trivial
theorem hd5.tw4211935460623021060 : True := trivial
theorem hd5.tw4212767397499228522 : True := trivial
theorem hd5.tw4215393837382495281 : True := trivial
theorem hd5.tw4241185693585431049 : True := trivial
theorem hd5.tw4245259879614215493 : True := trivial
theorem hd5.tw4245508770996328043 : True := trivial
theorem hd5.tw424691880421018540 : True := trivial
theorem hd5.tw4307095463658506429 : True := trivial
theorem hd5.tw4316043397632940252 : True := trivial
theorem hd5.tw4332274050159020234 : True := trivial
theorem hd5.tw4355620688288618784 : True := trivial
theorem hd5.tw43570895020350731 : True := trivial
theorem hd5.tw4393730541386633587 : True := trivial
theorem hd5.tw4408989497284841642 : True := trivial
theorem hd5.tw4421721504681599833 : True := trivial
theorem hd5.tw4430030045132938100 : True := trivial
theorem hd5.tw4452141987478996060 : True := trivial
theorem hd5.tw447903611859592423 : True := trivial
theorem hd5.tw4486466009893941095 : True := trivial
theorem hd5.tw4489462844504337530 : True := trivial
theorem hd5.tw4560383231375745005 : True := trivial
theorem hd5.tw4602385901259841354 : True := trivial
theorem hd5.tw4639186533103960460 : True := trivial
theorem hd5.tw4818346976101144729 : True := trivial
theorem hd5.tw485926428739036267 : True := trivial
theorem hd5.tw4872133130409530306 : True := trivial
theorem hd5.tw4918740044045333472 : True := trivial
theorem hd5.tw4927056843704218613 : True := trivial
theorem hd5.tw4982000711363930147 : True := trivial
theorem hd5.tw5018012765256586571 : True := trivial
theorem hd5.tw5143701413425997029 : True := trivial
theorem hd5.tw5175241362712161821 : True := trivial
theorem hd5.tw5191593319729435128 : True := trivial
theorem hd5.tw5310353242022387175 : True := trivial
theorem hd5.tw5311670805070594144 : True := trivial
theorem hd5.tw5370519944882284383 : True := trivial
theorem hd5.tw5430526483827980799 : True := trivial
theorem hd5.tw5435902316973341072 : True := trivial
theorem hd5.tw5534363642477497680 : True := trivial
theorem hd5.tw5537377187902013767 : True := trivial
theorem hd5.tw5543623724159422423 : True := trivial
theorem hd5.tw5576774985698071077 : True := trivial
theorem hd5.tw56059179777536574 : True := trivial
theorem hd5.tw5621175361548050717 : True := trivial
theorem hd5.tw5687620308155472818 : True := trivial
theorem hd5.tw5690990807981033531 : True := trivial
theorem hd5.tw5723994347957122326 : True := trivial
theorem hd5.tw573301292674755844 : True := trivial
theorem hd5.tw5751461430458950711 : True := trivial
theorem hd5.tw5763033502919631563 : True := trivial
theorem hd5.tw5934895755782795443 : True := trivial
theorem hd5.tw5937855905840264483 : True := trivial
theorem hd5.tw594130527910461804 : True := trivial
theorem hd5.tw6016736439684103290 : True := trivial
theorem hd5.tw6026288169762763421 : True := trivial
theorem hd5.tw6043649537070405995 : True := trivial
theorem hd5.tw6053104035955488499 : True := trivial
theorem hd5.tw6066620804769075505 : True := trivial
theorem hd5.tw6127054763683414776 : True := trivial
theorem hd5.tw6136908335997583362 : True := trivial
theorem hd5.tw6176802444144777830 : True := trivial
theorem hd5.tw6231562525403052310 : True := trivial
theorem hd5.tw6261352140785273551 : True := trivial
theorem hd5.tw6266656251646402870 : True := trivial
theorem hd5.tw6296263641536315509 : True := trivial
theorem hd5.tw6420532890189270890 : True := trivial
theorem hd5.tw6470332001988832656 : True := trivial
theorem hd5.tw6552350324081290384 : True := trivial
theorem hd5.tw6573424404455354459 : True := trivial
theorem hd5.tw6613370990285623136 : True := trivial
theorem hd5.tw6723307559708418272 : True := trivial
theorem hd5.tw6724335656836961418 : True := trivial
theorem hd5.tw6737514364208161106 : True := trivial
theorem hd5.tw6831160939355182709 : True := trivial
theorem hd5.tw6839615599504109234 : True := trivial
theorem hd5.tw684453081860537277 : True := trivial
theorem hd5.tw6845780635580928561 : True := trivial
theorem hd5.tw6944623068749149713 : True := trivial
theorem hd5.tw6988029171631182217 : True := trivial
theorem hd5.tw7026004132985245272 : True := trivial
theorem hd5.tw704947569773328807 : True := trivial
theorem hd5.tw7122913450273228978 : True := trivial
theorem hd5.tw7125445503037174153 : True := trivial
theorem hd5.tw7125502520781798704 : True := trivial
theorem hd5.tw7162415352281077909 : True := trivial
theorem hd5.tw7203890658841541474 : True := trivial
theorem hd5.tw7231276772451914092 : True := trivial
theorem hd5.tw7241260150052107664 : True := trivial
theorem hd5.tw7315271032524924046 : True := trivial
theorem hd5.tw7356803715820184750 : True := trivial
theorem hd5.tw7370697149755109138 : True := trivial
theorem hd5.tw7372642785302190881 : True := trivial
theorem hd5.tw7438795010901289799 : True := trivial
theorem hd5.tw747352240497134581 : True := trivial
theorem hd5.tw7493178049142053437 : True := trivial
theorem hd5.tw7494130618876743269 : True := trivial
theorem hd5.tw7756078927900380795 : True := trivial
theorem hd5.tw7774802915705146993 : True := trivial
theorem hd5.tw7802974923019539513 : True := trivial
theorem hd5.tw7841279289084466456 : True := trivial
theorem hd5.tw7849246947610236773 : True := trivial
theorem hd5.tw788161286591186533 : True := trivial
theorem hd5.tw79207461287699611 : True := trivial
theorem hd5.tw7959198502793901193 : True := trivial
theorem hd5.tw8025685645807146604 : True := trivial
theorem hd5.tw8026505440819730078 : True := trivial
theorem hd5.tw809074859639322947 : True := trivial
theorem hd5.tw8095096504068490440 : True := trivial
theorem hd5.tw8132763120006904540 : True := trivial
theorem hd5.tw8144404038824881674 : True := trivial
theorem hd5.tw8159944390241548817 : True := trivial
theorem hd5.tw8233726089614776941 : True := trivial
theorem hd5.tw8260468549981847837 : True := trivial
theorem hd5.tw8309962525279136190 : True := trivial
theorem hd5.tw8313048261829017067 : True := trivial
theorem hd5.tw84055214787700140 : True := trivial
theorem hd5.tw8405687830240163875 : True := trivial
theorem hd5.tw8417635933068962895 : True := trivial
theorem hd5.tw845154949104251198 : True := trivial
theorem hd5.tw8455038125845413038 : True := trivial
theorem hd5.tw8592635353513924838 : True := trivial
theorem hd5.tw8605138113458756137 : True := trivial
theorem hd5.tw8784292569643364175 : True := trivial
theorem hd5.tw8786130782716584063 : True := trivial
theorem hd5.tw8856107282135360413 : True := trivial
theorem hd5.tw8856808234360826848 : True := trivial
theorem hd5.tw8874664598230862536 : True := trivial
theorem hd5.tw8903812532028853622 : True := trivial
theorem hd5.tw8906697451872196778 : True := trivial
theorem hd5.tw893092593886067176 : True := trivial
theorem hd5.tw9025236868222782698 : True := trivial
theorem hd5.tw9052445245011347657 : True := trivial
theorem hd5.tw9173454327690302290 : True := trivial
theorem hd5.tw9319042537780087473 : True := trivial
theorem hd5.tw9324587867697032220 : True := trivial
theorem hd5.tw934984854057204214 : True := trivial
theorem hd5.tw935165436286309425 : True := trivial
theorem hd5.tw9397433963316183 : True := trivial
theorem hd5.tw9505676931032912802 : True := trivial
theorem hd5.tw9520116707483782685 : True := trivial
theorem hd5.tw9552175500597000558 : True := trivial
theorem hd5.tw9562365244627179472 : True := trivial
theorem hd5.tw9585166946987719762 : True := trivial
theorem hd5.tw9599010862130709620 : True := trivial
theorem hd5.tw9602946288453587495 : True := trivial
theorem hd5.tw9645706252710192468 : True := trivial
theorem hd5.tw9650376022097771957 : True := trivial
theorem hd5.tw9713397658214543957 : True := trivial
theorem hd5.tw9850195558336570387 : True := trivial
theorem hd5.tw9855290235278645368 : True := trivial
theorem hd5.tw9864868435147736394 : True := trivial
theorem hd5.tw9906441079800893916 : True := trivial
theorem hd5.tw9943408685577900085 : True := trivial
theorem hd5.tw9996278442001486745 : True := trivial
theorem hd5.tw15331333627605744878 : True := trivial

set_option maxHeartbeats 8000000 in
set_option Elab.async true in
theorem hd5 : PySem.Challenge.rw_wf0084_01.Holds := by
  w_on
  o_law
  o_head (kHook Mine.Kh [2, 3, 32, 34, 35, 37, 38, 39, 46, 47, 48, 49, 52, 59, 60, 61, 64, 66, 67, 69, 70, 71, 74, 76, 77, 79, 80, 81, 83, 84, 86, 87, 91, 92, 96, 97, 105, 106, 108, 109, 111, 112, 113, 115, 116, 118, 119, 120, 122, 123, 125, 126, 127, 129, 130, 132, 133, 134, 137, 138, 139, 141, 142, 144, 145, 146, 148, 149, 151, 152, 153, 155, 156, 158, 159, 160, 161, 163, 164, 166, 167, 168, 171, 172, 173, 176, 177, 178, 180, 181, 183, 184, 185, 187, 188, 190, 191, 192, 195, 196, 197, 199, 200, 202, 203, 204, 206, 207, 209, 210, 211, 213, 214, 216, 217, 218, 219, 220, 221, 222, 225, 227, 228, 230, 231, 232, 234, 235, 237, 238, 239, 241, 242, 244, 245, 246, 248, 249, 251, 252, 253, 255, 256, 258, 259, 260, 262, 263, 265, 266, 267, 269, 270, 272, 273, 274, 276, 277, 279, 280, 281, 283, 284, 286, 287, 288, 291, 292] (fun _ => by kernel_rfl))
  case hw => w_witness2
  k_go0
  rename_i w s₀ s₁ mg mb G Y fa o pm doc kV ho hg KX0 X V GL T B TE TW a1 a2 M cd a3 hcd ns hs hlay0 hL1 hr1 hl2 a4 a5 l vs a6 hL ra w1 r0 hI hr hlen htrue K0 hD h₁ F N0
  have KX : (Kh w.params).In s₁.heap := KX0
  have hn : ns.length ≤ 63 := by omega
  obtain ⟨H₀, hb, I₀⟩ := start_law (prog := PySem.Challenge.rw_wf0084_01.row.toRowW.prog) (w := w) (K := Kh w.params) (A := callerA.deeper (envX (Str.ofString "law") (ksc (kst kpb 74)) s₁.heap.objs.size fa (.ref cd) [])) (n := 8) (tk := s₁.toks + 1) (others := [Str.ofString "rules", Str.ofString "left", Str.ofString "right", Str.ofString "table", Str.ofString "reply"]) hL hI F (x := Str.ofString "script") rfl (by decide +kernel)
  have B := law_body w ns hn fa (.ref cd) s₁ H₀ s₁.heap.objs.size _ ⟨KX, ⟨_, _, _, _, topRead_of T⟩, ⟨rfl, (by show callerA.depth + 1 + 8 < recursionLimit; decide +kernel), (by show callerA.units + 3 + 8 * 8 + 80 < cLine; decide +kernel)⟩, hb⟩ _ _ _ I₀
  clear I₀
  generalize eb : kbd _ = bb at B
  conv at eb => lhs; whnf
  subst eb
  generalize es : ksc _ = ss at B
  conv at es => lhs; whnf
  subst es
  dsimp only
  dsimp only at B
  refine wpAny_mono B (fun f s' p => ?_) (fun _ _ x => x.elim)
  obtain ⟨H', fd, σ', _, I, r, q⟩ := p
  obtain ⟨m', O', I⟩ := I
  have hfr := I.fr
  have hgs : s'.gens = #[] := I.gens.trans hg
  have hos : s'.os = s₁.os := I.os
  cases fd with
  | ret d =>
    obtain ⟨v, rfl, r⟩ := r
    obtain rfl : d = .bool true := q
    cases r
    show GoodW _ _ _ _ _ (.ok (.ret (.bool true))) _
    refine goodW_bool hfr hgs (raisesW_false ?_) ?_ hos
    · wrow_none_raised
    · kc_post
  | next => exact (nomatch (show D.none = .bool true from q))
  | brk => exact q.elim
  | cont => exact q.elim
end Mine

theorem PySem.Challenge.cw_wf0084_01_holds : PySem.Challenge.rw_wf0084_01.Holds :=
  Mine.hd5
