import PyProof.Rows.All
import Wide.All
import OpenK.AllK
import Wide.FinOn
import Open.Seg
import Open.Boot
import PyProof.IsiStr
import PyProof.EnumFor
import PyProof.ForAny
import Lean
import PySem.Challenge.RW_pg0231_01

section -- Base
open PySem PySem.W PyProof.Rows PySem.Calls
set_option Elab.async false
set_option maxRecDepth 100000
namespace Mine

/-- what stands at an address of the ledger -/
inductive It where
  | lst (vs : List Value)
  | ils (vs : List Value)
  | cel (v : Option Value)
  | frm (al : List (Str × Value))
  | itr (a : Addr) (i : Nat)
  | rit (x left step : Int)
  | enm (it : Addr) (i : Int)
  | rng (x y : Int)
  | fro (al : List (Str × Option Value))

def It.at (h : Heap) (a : Addr) : It → Prop
  | .lst vs => h.PlainList a vs.toArray
  | .ils vs => h.IsList a vs.toArray
  | .cel v => h.IsCell a v
  | .frm al => h.Ns a (fun y => al.lookup y)
  | .itr l i => h.IsListIter a l i
  | .rit x left step => IsRangeIter h a x left step
  | .enm it i => ∃ old, IsEnum h a it i old
  | .rng x y => ∃ t u v, IsRange h a x y 1 t u v
  | .fro al => h.Ns a (fun y => (al.lookup y).join)

theorem It.at_ext {h h' : Heap} {a : Addr} : ∀ {it : It}, it.at h a → (∀ o, h.get? a = some o → h'.get? a = some o) → it.at h' a
  | .lst _, ⟨n, e⟩, k => ⟨n, k _ e⟩
  | .ils _, ⟨o, e, r⟩, k => ⟨o, k _ e, r⟩
  | .cel _, ⟨o, e, r⟩, k => ⟨o, k _ e, r⟩
  | .frm _, ⟨o, es, ep, e, r⟩, k => ⟨o, es, ep, k _ e, r⟩
  | .itr _ _, ⟨o, e, r⟩, k => ⟨o, k _ e, r⟩
  | .rit _ _ _, e, k => k _ e
  | .enm _ _, ⟨old, e⟩, k => ⟨old, k _ e⟩
  | .rng _ _, ⟨t, u, v, e⟩, k => ⟨t, u, v, k _ e⟩
  | .fro _, ⟨o, es, ep, e, r⟩, k => ⟨o, es, ep, k _ e, r⟩

theorem It.at_lt {h : Heap} {a : Addr} : ∀ {it : It}, it.at h a → a < h.objs.size
  | .lst _, ⟨_, e⟩ => Heap.lt_size e
  | .ils _, ⟨_, e, _⟩ => Heap.lt_size e
  | .cel _, ⟨_, e, _⟩ => Heap.lt_size e
  | .frm _, ⟨_, _, _, e, _⟩ => Heap.lt_size e
  | .itr _ _, ⟨_, e, _⟩ => Heap.lt_size e
  | .rit _ _ _, e => Heap.lt_size (show h.get? a = _ from e)
  | .enm _ _, ⟨_, e⟩ => Heap.lt_size (show h.get? a = _ from e)
  | .rng _ _, ⟨_, _, _, e⟩ => Heap.lt_size (show h.get? a = _ from e)
  | .fro _, ⟨_, _, _, e, _⟩ => Heap.lt_size e

/-- the state: base heap kept, the ledger's items stand, all new, apart; tokens were drawn; nothing else was touched -/
structure St (b s : Shared) (l : List (Addr × It)) : Prop where
  keep : ∀ a o, b.heap.get? a = some o → s.heap.get? a = some o
  got : ∀ p ∈ l, p.2.at s.heap p.1
  new : ∀ p ∈ l, b.heap.get? p.1 = none
  nd : (l.map (·.1)).Nodup
  tk : b.toks ≤ s.toks
  pos : 0 < b.toks
  same : s.gens = b.gens ∧ s.drawn = b.drawn ∧ s.os = b.os

theorem St.ext {b s s' : Shared} {l : List (Addr × It)} (S : St b s l) (k : ∀ a o, s.heap.get? a = some o → s'.heap.get? a = some o)
    (t : b.toks ≤ s'.toks) (e : s'.gens = s.gens ∧ s'.drawn = s.drawn ∧ s'.os = s.os) : St b s' l :=
  ⟨fun a o h => k a o (S.keep a o h), fun p hp => It.at_ext (S.got p hp) (k p.1), S.new, S.nd, t, S.pos, ⟨e.1.trans S.same.1, e.2.1.trans S.same.2.1, e.2.2.trans S.same.2.2⟩⟩

theorem St.toks {b s : Shared} {l : List (Addr × It)} (S : St b s l) {t : Nat} (h : b.toks ≤ t) : St b { s with toks := t } l :=
  S.ext (fun _ _ e => e) h ⟨rfl, rfl, rfl⟩
theorem St.tick {b s : Shared} {l : List (Addr × It)} (S : St b s l) : St b { s with toks := s.toks + 1 } l := S.toks (Nat.le_succ_of_le S.tk)

theorem St.sub {b s : Shared} {l l' : List (Addr × It)} (S : St b s l) (h : l'.Sublist l) : St b s l' :=
  ⟨S.keep, fun p hp => S.got p (h.subset hp), fun p hp => S.new p (h.subset hp), (h.map _).nodup S.nd, S.tk, S.pos, S.same⟩

theorem St.perm {b s : Shared} {l l' : List (Addr × It)} (S : St b s l) (h : l'.Perm l) : St b s l' :=
  ⟨S.keep, fun p hp => S.got p (h.subset hp), fun p hp => S.new p (h.subset hp), (h.map _).nodup_iff.mpr S.nd, S.tk, S.pos, S.same⟩

theorem St.fresh {b s : Shared} {l : List (Addr × It)} (S : St b s l) : b.heap.get? s.heap.objs.size = none := by
  cases q : b.heap.get? s.heap.objs.size with
  | none => rfl
  | some o => exact absurd (Heap.lt_size (S.keep _ _ q)) (Nat.lt_irrefl _)

theorem St.push {b s : Shared} {l : List (Addr × It)} (S : St b s l) {o : Obj} {it : It} (h : it.at (s.heap.push o) s.heap.objs.size) {t : Nat} (ht : b.toks ≤ t) :
    St b { s with heap := s.heap.push o, toks := t } ((s.heap.objs.size, it) :: l) where
  keep a o' e := Heap.get?_push_of_some _ (S.keep a o' e)
  got p hp := by
    rcases List.mem_cons.mp hp with rfl | hp
    · exact h
    · exact It.at_ext (S.got p hp) fun _ e => Heap.get?_push_of_some _ e
  new p hp := by
    rcases List.mem_cons.mp hp with rfl | hp
    · exact S.fresh
    · exact S.new p hp
  nd := by
    refine List.nodup_cons.mpr ⟨fun hm => ?_, S.nd⟩
    obtain ⟨p, hp, e⟩ := List.mem_map.mp hm
    have := It.at_lt (S.got p hp)
    rw [e] at this
    exact absurd this (Nat.lt_irrefl _)
  tk := ht
  pos := S.pos
  same := S.same

/-- the base with a later token -/
def up (b : Shared) (n : Nat) : Shared := { b with toks := n }
theorem St.up {b s : Shared} {l : List (Addr × It)} (S : St b s l) : St (Mine.up b s.toks) s l :=
  ⟨S.keep, S.got, S.new, S.nd, Nat.le_refl _, Nat.lt_of_lt_of_le S.pos S.tk, S.same⟩
theorem St.down {b s : Shared} {l : List (Addr × It)} {n : Nat} (S : St (Mine.up b n) s l) (h : b.toks ≤ n) (p : 0 < b.toks) : St b s l :=
  ⟨S.keep, S.got, S.new, S.nd, Nat.le_trans h S.tk, p, S.same⟩
theorem St.nz {b s : Shared} {l : List (Addr × It)} (S : St b s l) {t : Nat} (h : b.toks ≤ t) : t ≠ 0 := Nat.ne_of_gt (Nat.lt_of_lt_of_le S.pos h)

/-- at one place of the ledger another item -/
inductive Put (a : Addr) (it it' : It) : List (Addr × It) → List (Addr × It) → Prop
  | head {r : List (Addr × It)} : Put a it it' ((a, it) :: r) ((a, it') :: r)
  | tail {p : Addr × It} {r r' : List (Addr × It)} (h : Put a it it' r r') : Put a it it' (p :: r) (p :: r')

theorem Put.split {a : Addr} {it it' : It} {l l' : List (Addr × It)} (h : Put a it it' l l') : ∃ x y, l = x ++ (a, it) :: y ∧ l' = x ++ (a, it') :: y := by
  induction h with
  | head => exact ⟨[], _, rfl, rfl⟩
  | @tail p _ _ _ ih => obtain ⟨x, y, rfl, rfl⟩ := ih; exact ⟨p :: x, y, rfl, rfl⟩
theorem Put.mem {a : Addr} {it it' : It} {l l' : List (Addr × It)} (h : Put a it it' l l') : (a, it) ∈ l := by
  obtain ⟨x, y, rfl, _⟩ := h.split; simp
theorem Put.map {a : Addr} {it it' : It} {l l' : List (Addr × It)} (h : Put a it it' l l') : l'.map (·.1) = l.map (·.1) := by
  obtain ⟨x, y, rfl, rfl⟩ := h.split; simp
theorem Put.apart {a : Addr} {it it' : It} {l l' : List (Addr × It)} (h : Put a it it' l l') (nd : (l.map (·.1)).Nodup) : ∀ p ∈ l', p = (a, it') ∨ (p ∈ l ∧ p.1 ≠ a) := by
  obtain ⟨x, y, rfl, rfl⟩ := h.split
  intro p hp
  simp only [List.map_append, List.map_cons] at nd
  have h1 := (List.nodup_append.mp nd)
  rcases List.mem_append.mp hp with hp | hp
  · refine .inr ⟨by simp [hp], fun e => ?_⟩
    exact h1.2.2 p.1 (List.mem_map_of_mem hp) a (by simp) e
  · rcases List.mem_cons.mp hp with rfl | hp
    · exact .inl rfl
    · refine .inr ⟨by simp [hp], fun e => ?_⟩
      have := (List.nodup_cons.mp h1.2.1).1
      exact this (e ▸ List.mem_map_of_mem (f := (·.1)) hp)

theorem St.upd {b s : Shared} {l l' : List (Addr × It)} (S : St b s l) {a : Addr} {it it' : It} {h' : Heap} (P : Put a it it' l l') (hs : Heap.SameBut a s.heap h') (hi : it'.at h' a) {t : Nat} (ht : b.toks ≤ t) :
    St b { s with heap := h', toks := t } l' where
  keep c o e := (hs.2 c fun q => by have := S.new _ P.mem; rw [← q, e] at this; cases this).trans (S.keep c o e)
  got p hp := by
    rcases P.apart S.nd p hp with rfl | ⟨hp, ne⟩
    · exact hi
    · exact It.at_ext (S.got p hp) fun o e => (hs.2 p.1 ne).trans e
  new p hp := by
    have : p.1 ∈ l.map (·.1) := P.map ▸ List.mem_map_of_mem (f := (·.1)) hp
    obtain ⟨q, hq, e⟩ := List.mem_map.mp this
    exact e ▸ S.new q hq
  nd := by rw [P.map]; exact S.nd
  tk := ht
  pos := S.pos
  same := S.same

theorem St.tick_heap {b s : Shared} {l : List (Addr × It)} (S : St b s l) {h : Heap} {t : Nat} (k : ∀ a o, s.heap.get? a = some o → h.get? a = some o) (ht : b.toks ≤ t) :
    St b { s with heap := h, toks := t } l := S.ext k ht ⟨rfl, rfl, rfl⟩

/-- one item changed in place, all else kept (the heap may have grown) -/
theorem St.updX {b s : Shared} {l l' : List (Addr × It)} (S : St b s l) {a : Addr} {it it' : It} {h' : Heap} (P : Put a it it' l l') (hs : Heap.ExtBut a s.heap h') (hi : it'.at h' a) {t : Nat} (ht : b.toks ≤ t) :
    St b { s with heap := h', toks := t } l' where
  keep c o e := hs c o (fun q => by have := S.new _ P.mem; rw [← q, e] at this; cases this) (S.keep c o e)
  got p hp := by
    rcases P.apart S.nd p hp with rfl | ⟨hp, ne⟩
    · exact hi
    · exact It.at_ext (S.got p hp) fun o e => hs p.1 o ne e
  new p hp := by
    have : p.1 ∈ l.map (·.1) := P.map ▸ List.mem_map_of_mem (f := (·.1)) hp
    obtain ⟨q, hq, e⟩ := List.mem_map.mp this
    exact e ▸ S.new q hq
  nd := by rw [P.map]; exact S.nd
  tk := ht
  pos := S.pos
  same := S.same

/-- the head item lost -/
theorem St.drop {b s : Shared} {l : List (Addr × It)} {a : Addr} {it : It} (S : St b s ((a, it) :: l)) {h' : Heap} (hs : Heap.ExtBut a s.heap h') {t : Nat} (ht : b.toks ≤ t) :
    St b { s with heap := h', toks := t } l where
  keep c o e := hs c o (fun q => by have := S.new _ (.head _); rw [← q, e] at this; cases this) (S.keep c o e)
  got p hp := It.at_ext (S.got p (.tail _ hp)) fun o e => hs p.1 o (fun q => (List.nodup_cons.mp S.nd).1 (q ▸ List.mem_map_of_mem (f := (·.1)) hp)) e
  new p hp := S.new p (.tail _ hp)
  nd := (List.nodup_cons.mp S.nd).2
  tk := ht
  pos := S.pos
  same := S.same

/-- a local's value set -/
inductive LSet (x : Str) (v : Value) : List (Str × Value) → List (Str × Value) → Prop
  | nil : LSet x v [] [(x, v)]
  | head {u : Value} {r : List (Str × Value)} : LSet x v ((x, u) :: r) ((x, v) :: r)
  | tail {y : Str} {u : Value} {r r' : List (Str × Value)} (n : (y == x) = false) (h : LSet x v r r') : LSet x v ((y, u) :: r) ((y, u) :: r')
theorem LSet.lookup {x : Str} {v : Value} {al al' : List (Str × Value)} (h : LSet x v al al') (y : Str) : al'.lookup y = if y = x then some v else al.lookup y := by
  induction h with
  | nil =>
    rw [List.lookup_cons]
    by_cases e : y = x
    · subst e; simp
    · rw [if_neg e, beq_false_of_ne e]
  | head =>
    rw [List.lookup_cons, List.lookup_cons]
    by_cases e : y = x
    · subst e; simp
    · rw [if_neg e, beq_false_of_ne e]
  | @tail z u r r' n h ih =>
    rw [List.lookup_cons, List.lookup_cons, ih]
    by_cases e : y = x
    · subst e
      rw [if_pos rfl]
      have : (y == z) = false := by
        have := ne_of_beq_false n
        exact beq_false_of_ne (Ne.symm this)
      rw [this]; simp
    · rw [if_neg e, if_neg e]

/-- a local's value set, where all locals are listed -/
inductive OSet (x : Str) (v : Value) : List (Str × Option Value) → List (Str × Option Value) → Prop
  | head {u : Option Value} {r : List (Str × Option Value)} : OSet x v ((x, u) :: r) ((x, some v) :: r)
  | tail {y : Str} {u : Option Value} {r r' : List (Str × Option Value)} (n : (y == x) = false) (h : OSet x v r r') : OSet x v ((y, u) :: r) ((y, u) :: r')
theorem OSet.lookup {x : Str} {v : Value} {al al' : List (Str × Option Value)} (h : OSet x v al al') (y : Str) : (al'.lookup y).join = if y = x then some v else (al.lookup y).join := by
  induction h with
  | head =>
    rw [List.lookup_cons, List.lookup_cons]
    by_cases e : y = x
    · subst e; simp
    · rw [if_neg e, beq_false_of_ne e]
  | @tail z u r r' n h ih =>
    rw [List.lookup_cons, List.lookup_cons]
    by_cases e : y = x
    · subst e
      rw [if_pos rfl] at ih ⊢
      have : (y == z) = false := by
        have := ne_of_beq_false n
        exact beq_false_of_ne (Ne.symm this)
      rw [this]; exact ih
    · rw [if_neg e] at ih ⊢
      cases (y == z) with
      | true => rfl
      | false => exact ih

theorem pad_lookup (y : Str) : ∀ (binds : List (Str × Value)) (rest : List Str), (((binds.map fun p => (p.1, some p.2)) ++ (rest.map fun x => (x, (none : Option Value)))).lookup y).join = binds.lookup y
  | [], [] => rfl
  | [], x :: r => by
    have ih := pad_lookup y [] r
    simp only [List.map_nil, List.nil_append, List.map_cons] at ih ⊢
    rw [List.lookup_cons]
    cases (y == x) with
    | true => rfl
    | false => exact ih
  | (x, v) :: bs, r => by
    have ih := pad_lookup y bs r
    simp only [List.map_cons, List.cons_append] at ih ⊢
    rw [List.lookup_cons, List.lookup_cons]
    cases (y == x) with
    | true => rfl
    | false => exact ih
/-- a frame with all its locals listed -/
def pad (binds : List (Str × Value)) (rest : List Str) : List (Str × Option Value) := (binds.map fun p => (p.1, some p.2)) ++ (rest.map fun x => (x, (none : Option Value)))
theorem St.pad {b s : Shared} {l : List (Addr × It)} {L : Addr} {binds : List (Str × Value)} (S : St b s ((L, .frm binds) :: l)) (rest : List Str) : St b s ((L, .fro (Mine.pad binds rest)) :: l) where
  keep := S.keep
  got p hp := by
    rcases List.mem_cons.mp hp with rfl | hp
    · have e : (fun y => ((Mine.pad binds rest).lookup y).join) = fun y => binds.lookup y := funext fun y => pad_lookup y binds rest
      show s.heap.Ns L (fun y => ((Mine.pad binds rest).lookup y).join)
      rw [e]
      exact S.got (L, .frm binds) (.head _)
    · exact S.got p (.tail _ hp)
  new p hp := by
    rcases List.mem_cons.mp hp with rfl | hp
    · exact S.new (L, .frm binds) (.head _)
    · exact S.new p (.tail _ hp)
  nd := S.nd
  tk := S.tk
  pos := S.pos
  same := S.same

section
variable {prog : Program} {w : World} {A : Around} {E : Value → Shared → Prop} {b s : Shared} {l l' : List (Addr × It)} {env : Env}

theorem o_ld {x : Str} {pos : Pos} {al : List (Str × Option Value)} {v : Value} {Q : Value → Shared → Prop} (S : St b s l) (hm : (env.locals, It.fro al) ∈ l) (hv : al.lookup x = some (some v)) (h : Q v s)
    (hk : env.scope.kind = .function := by rfl) (hl : env.kindOf x = some .local := by rfl) (hd : (x == ("__debug__" : Str)) = false := by decide) :
    wpAny (model prog w) A (eval (.Name x pos) env) Q E s := wpAny_Name (wpAny_loadName_local hk hl (S.got _ hm) (show (al.lookup x).join = some v by rw [hv]; rfl) h) hd
theorem o_ldn {x : Str} {al : List (Str × Option Value)} {v : Value} {Q : Value → Shared → Prop} (S : St b s l) (hm : (env.locals, It.fro al) ∈ l) (hv : al.lookup x = some (some v)) (h : Q v s)
    (hk : env.scope.kind = .function := by rfl) (hl : env.kindOf x = some .local := by rfl) :
    wpAny (model prog w) A (loadName env x) Q E s := wpAny_loadName_local hk hl (S.got _ hm) (show (al.lookup x).join = some v by rw [hv]; rfl) h
theorem o_st {x : Str} {al al' : List (Str × Option Value)} {v : Value} {Q : Unit → Shared → Prop} (S : St b s l) (P : Put env.locals (.fro al) (.fro al') l l') (hs : OSet x v al al')
    (h : ∀ s', St b s' l' → Q () s') (hl : env.kindOf x = some .local := by rfl) (hp : (env.scope.kind == .class || (env.scope.kind == .module && env.locals != env.globals)) = false := by rfl) :
    wpAny (model prog w) A (storeName env x v) Q E s :=
  wpAny_storeName_local hl (S.got _ P.mem) (fun h' hn hb => h _ (S.upd P hb (by
    have e : (fun y => (al'.lookup y).join) = fun y => if y = x then some v else (al.lookup y).join := funext fun y => hs.lookup y
    show h'.Ns env.locals (fun y => (al'.lookup y).join)
    rw [e]; exact hn) (Nat.le_succ_of_le S.tk))) hp

theorem r_ld {x : Str} {pos : Pos} {al : List (Str × Value)} {v : Value} {Q : Value → Shared → Prop} (S : St b s l) (hm : (env.locals, It.frm al) ∈ l) (hv : al.lookup x = some v) (h : Q v s)
    (hk : env.scope.kind = .function := by rfl) (hl : env.kindOf x = some .local := by rfl) (hd : (x == ("__debug__" : Str)) = false := by decide) :
    wpAny (model prog w) A (eval (.Name x pos) env) Q E s := wpAny_Name (wpAny_loadName_local hk hl (S.got _ hm) hv h) hd
theorem r_ldn {x : Str} {al : List (Str × Value)} {v : Value} {Q : Value → Shared → Prop} (S : St b s l) (hm : (env.locals, It.frm al) ∈ l) (hv : al.lookup x = some v) (h : Q v s)
    (hk : env.scope.kind = .function := by rfl) (hl : env.kindOf x = some .local := by rfl) :
    wpAny (model prog w) A (loadName env x) Q E s := wpAny_loadName_local hk hl (S.got _ hm) hv h

theorem r_st {x : Str} {al al' : List (Str × Value)} {v : Value} {Q : Unit → Shared → Prop} (S : St b s l) (P : Put env.locals (.frm al) (.frm al') l l') (hs : LSet x v al al')
    (h : ∀ s', St b s' l' → Q () s') (hl : env.kindOf x = some .local := by rfl) (hp : (env.scope.kind == .class || (env.scope.kind == .module && env.locals != env.globals)) = false := by rfl) :
    wpAny (model prog w) A (storeName env x v) Q E s :=
  wpAny_storeName_local hl (S.got _ P.mem) (fun h' hn hb => h _ (S.upd P hb (by
    have e : (fun y => al'.lookup y) = fun y => if y = x then some v else al.lookup y := funext fun y => hs.lookup y
    show h'.Ns env.locals (fun y => al'.lookup y)
    rw [e]; exact hn) (Nat.le_succ_of_le S.tk))) hp

theorem r_cell {x : Str} {pos : Pos} {c : Addr} {v : Value} {Q : Value → Shared → Prop} (S : St b s l) (hc : env.cells.lookup x = some c) (hm : (c, It.cel (some v)) ∈ l) (h : Q v s)
    (hk : env.scope.kind = .function := by rfl) (hl : env.kindOf x = some .cell := by rfl) (hd : (x == ("__debug__" : Str)) = false := by decide) :
    wpAny (model prog w) A (eval (.Name x pos) env) Q E s := wpAny_Name (wpAny_loadName_cell hk hl hc (S.got _ hm) h) hd
theorem r_free {x : Str} {pos : Pos} {c : Addr} {v : Value} {Q : Value → Shared → Prop} (S : St b s l) (hc : env.cells.lookup x = some c) (hm : (c, It.cel (some v)) ∈ l) (h : Q v s)
    (hk : env.scope.kind = .function := by rfl) (hl : env.kindOf x = some .free := by rfl) (hd : (x == ("__debug__" : Str)) = false := by decide) (hn : (x == ("__classdict__" : Str)) = false := by decide) :
    wpAny (model prog w) A (eval (.Name x pos) env) Q E s := wpAny_Name (wpAny_loadName_free hk hl hc (S.got _ hm) h hn) hd
theorem r_stc {x : Str} {c : Addr} {v₀ : Option Value} {v : Value} {Q : Unit → Shared → Prop} (S : St b s l) (hc : env.cells.lookup x = some c) (P : Put c (.cel v₀) (.cel (some v)) l l') 
    (h : ∀ s', St b s' l' → Q () s') (hk : env.scope.kind = .function := by rfl) (hl : env.kindOf x = some .cell := by rfl) :
    wpAny (model prog w) A (storeName env x v) Q E s :=
  wpAny_storeName_cell hk hl hc (S.got _ P.mem) fun h' hi hb => h _ (S.upd P hb hi S.tk)

def apartB : List Str → Bool
  | [] => true
  | x :: r => !(r.any (· == x)) && apartB r
theorem lookup_rev : ∀ (l : List (Str × Value)), apartB (l.map (·.1)) = true → ∀ y, l.reverse.lookup y = l.lookup y
  | [], _, _ => rfl
  | (x, v) :: r, h, y => by
    have h' : (!((r.map (·.1)).any (· == x)) && apartB (r.map (·.1))) = true := h
    obtain ⟨h1, h2⟩ := Bool.and_eq_true_iff.mp h'
    have ih := lookup_rev r h2 y
    rw [List.reverse_cons, List.lookup_append, ih, List.lookup_cons]
    by_cases e : y = x
    · subst e
      have hn : r.lookup y = none := by
        rw [List.lookup_eq_none_iff]
        intro p hp
        refine bne_iff_ne.mpr fun e => ?_
        have h3 : (r.map (·.1)).any (· == y) = true := List.any_eq_true.mpr ⟨p.1, List.mem_map_of_mem hp, by rw [e]; exact beq_self_eq_true _⟩
        rw [h3] at h1
        exact absurd h1 (by decide)
      rw [hn, beq_self_eq_true, List.lookup_cons, beq_self_eq_true]
      rfl
    · have e' : (y == x) = false := beq_false_of_ne e
      rw [e', List.lookup_cons, e']
      cases r.lookup y <;> rfl

/-- a def of the text's called -/
theorem r_call {name : Str} {params : Arguments} {body : List Stmt} {scope : Scope} {pm cd doc : Value} {a : Addr} {o : Obj} {vals : List Value} {binds : List (Str × Value)} {Q : Value → Shared → Prop}
    (S : St b s l) (ho : b.heap.get? a = some o) (hd : o.data = .func (docDef name params body scope pm cd doc)) (hcd : b.heap.CodeRec cd name) (hlim : b.heap.NoLimit) (hroom : A.depth < recursionLimit)
    (hbind : bindArgs (docDef name params body scope pm cd doc) ⟨vals, []⟩ = pure binds) (hloc : (binds.all fun x => decide (scope.names.lookup x.1 = some .local)) = true)
    (hap : apartB (binds.map (·.1)) = true)
    (h : ∀ L s', St b s' ((L, .frm binds) :: l) →
      wpAny (model prog w) (A.deeper (callEnv (docDef name params body scope pm cd doc) L a)) (execs body (callEnv (docDef name params body scope pm cd doc) L a))
        (fun f s'' => Q (match f with | .ret v => v | _ => .none) s'') (fun _ _ => False) s')
    (hcell : ∀ x ∈ scope.names, x.2 ≠ .cell) (hco : scope.isCoroutine = false := by rfl) (hgen : scope.isGenerator = false := by rfl) (hk : scope.kind = .function := by rfl) :
    wpAny (model prog w) A (call (.ref a) vals) Q E s := by
  refine wpAny_call (codeAny_call_def (fd := docDef name params body scope pm cd doc) (body := body) (binds := binds) hroom (S.keep _ _ ho) hd (hlim.keeps S.keep) (hcd.keeps S.keep) rfl (BindsTo.of_eq hbind) hcell (locs hloc) (fun h₁ hns hk₁ => ?_) hco hgen hk)
  have S' : St b { s with heap := h₁, toks := s.toks + binds.length } ((s.heap.objs.size, .frm binds) :: l) := {
    keep := fun c o' e => hk₁ c o' (S.keep c o' e)
    got := fun p hp => by
      rcases List.mem_cons.mp hp with rfl | hp
      · have e : (fun y => binds.reverse.lookup y) = fun y => binds.lookup y := funext (lookup_rev binds hap)
        rw [e] at hns
        exact hns
      · exact It.at_ext (S.got p hp) (hk₁ p.1)
    new := fun p hp => by
      rcases List.mem_cons.mp hp with rfl | hp
      · exact S.fresh
      · exact S.new p hp
    nd := by
      refine List.nodup_cons.mpr ⟨fun hm => ?_, S.nd⟩
      obtain ⟨p, hp, e⟩ := List.mem_map.mp hm
      have := It.at_lt (S.got p hp)
      rw [e] at this
      exact absurd this (Nat.lt_irrefl _)
    tk := Nat.le_trans S.tk (Nat.le_add_right _ _)
    pos := S.pos
    same := S.same }
  refine wpAny_mono (h _ _ S') (fun f s'' hq => ?_) fun _ _ x => x.elim
  cases f <;> exact hq
end
end Mine
end

section -- Fns
open PySem PySem.W PyProof.Rows PySem.Calls
set_option Elab.async false
set_option maxRecDepth 100000
namespace Mine

abbrev prg : Program := PySem.Challenge.pw_pg0231_01
def bodyAt (i : Nat) : Stmt := match prg.main.body[i]? with | some s => s | none => .Pass ⟨0, 0, 0, 0⟩
def recOfStmt : Stmt → DefRec
  | .FunctionDef n a b _ _ _ sc _ _ p => ⟨n, a, b, sc, p⟩
  | _ => ⟨"", ⟨[], [], none, [], [], none, []⟩, [], ⟨.module, [], false, false, []⟩, ⟨0, 0, 0, 0⟩⟩
def dAt (i : Nat) : DefRec := recOfStmt (bodyAt i)

/-- the table of the program's second dict: its source, its values as they stand -/
def b3Src : List (Int × Str) := match bodyAt 15 with
  | .Assign _ (.Dict ks vs _) _ => (ks.zip vs).filterMap fun kv => match kv with
    | (some (.Constant (.int k) _ _), .Constant (.str x) _ _) => some (k, x)
    | _ => none
  | _ => []
def b3L : List (Int × Value) := b3Src.zipIdx.map fun p => (p.1.1, .str p.1.2 (352 + 3 * p.2 - (p.2 - 646)))
def b3f (k : Int) : Option Value := b3L.lookup k
/-- the signs that are passed over -/
def gapL : List Int := [173, 847, 6150, 6155, 6156, 6157, 8203, 8204, 8205, 8288, 65279] ++ (List.range 16).map (fun i : Nat => (65024 : Int) + (i : Int))

/-- a def's function stands -/
def FnAt (h : Heap) (mg : Str → Option Value) (d : DefRec) (a : Addr) : Prop :=
  ∃ o pm code doc, mg d.name = some (.ref a) ∧ h.get? a = some o ∧ o.data = .func (docDef d.name d.params d.body d.scope pm code doc) ∧ h.CodeRec code d.name

structure Gr (w : World) (b : Shared) (mg mb : Str → Option Value) : Prop where
  g : b.heap.Ns mainGlobals mg
  bl : b.heap.Ns builtinsNs mb
  nolimit : b.heap.NoLimit
  fn : ∀ i, (i ∈ [1, 2, 3, 4, 5, 6, 7, 8, 9, 10, 11, 14, 16, 18, 19, 20, 21]) → ∃ a, FnAt b.heap mg (dAt i) a
  boot : ∀ x : Str, x ≠ "__name__" → mb x = bootBuiltins x
  booked : NoneBooked b.heap
  b1 : ∃ a, mg "b1_set" = some (.ref a) ∧ b.heap.SetOf (intKind prg w) a (fun k => gapL.contains k) 27
  b3 : ∃ d, mg "b3_exceptions" = some (.ref d) ∧ (d == sysModules) = false ∧ b.heap.MapOf (intKind prg w) d b3f
  free : ∀ x : Str, x ∈ (["hasattr", "type", "enumerate", "ord", "chr", "range", "len", "sorted", "sum", "min"] : List Str) → mg x = none

def Room (A : Around) (k : Nat) : Prop := A.handled = none ∧ A.depth + k < recursionLimit ∧ A.units + 8 * k + 8 < cLine

section
variable {w : World} {A : Around} {E : Value → Shared → Prop} {b s : Shared} {l l' : List (Addr × It)} {env : Env} {mg mb : Str → Option Value}

theorem r_glob {prog : Program} {x : Str} {pos : Pos} {v : Value} {Q : Value → Shared → Prop} (g : b.heap.Ns mainGlobals mg) (S : St b s l) (hv : mg x = some v) (h : Q v s)
    (hk : env.scope.kind = .function := by rfl) (hx : env.kindOf x = some .globalImplicit := by rfl) (hd : (x == ("__debug__" : Str)) = false := by decide) (hg : env.globals = mainGlobals := by rfl) :
    wpAny (model prog w) A (eval (.Name x pos) env) Q E s :=
  Name_function_global hk hx (loadGlobal_global (hg ▸ g.keeps S.keep) hv h) hd
theorem r_blt {prog : Program} {x : Str} {pos : Pos} {v : Value} {Q : Value → Shared → Prop} (g : b.heap.Ns mainGlobals mg) (bl : b.heap.Ns builtinsNs mb) (S : St b s l) (hn : mg x = none) (hv : mb x = some v) (h : Q v s)
    (hk : env.scope.kind = .function := by rfl) (hx : env.kindOf x = some .globalImplicit := by rfl) (hd : (x == ("__debug__" : Str)) = false := by decide) (hg : env.globals = mainGlobals := by rfl) (hb : env.builtins = builtinsNs := by rfl) :
    wpAny (model prog w) A (eval (.Name x pos) env) Q E s :=
  Name_function_global hk hx (loadGlobal_builtin (hg ▸ g.keeps S.keep) hn (hb ▸ bl.keeps S.keep) hv h) hd

/-- a call of a def by its name -/
theorem r_fcall {prog : Program} {f : Str} {p pos : Pos} {e : Expr} {args : List Expr} {a : Addr} {o : Obj} {fd : FuncData} {Q : Value → Shared → Prop} (g : b.heap.Ns mainGlobals mg) (S : St b s l) (hmg : mg f = some (.ref a)) (ho : b.heap.get? a = some o)
    (hd : o.data = .func fd)
    (h : wpAny (model prog w) A (spliced (backTo pos (starEach (e :: args) env))) (fun vs s₁ => (∃ l₁, St b s₁ l₁) ∧ wpAny (model prog w) A (call (.ref a) vs) Q E s₁) E s)
    (he : ∃ x r, backTo pos (starEach (e :: args) env) = (false, x) :: r := by exact ⟨_, _, rfl⟩)
    (hk : env.scope.kind = .function := by rfl) (hx : env.kindOf f = some .globalImplicit := by rfl) (hdb : (f == ("__debug__" : Str)) = false := by decide) (hg : env.globals = mainGlobals := by rfl) :
    wpAny (model prog w) A (eval (.Call (.Name f p) (e :: args) [] pos) env) Q E s := by
  refine wpAny_Call_NameR (r_glob g S hmg ?_ hk hx hdb hg)
  obtain ⟨x, r, he⟩ := he
  rw [he] at h ⊢
  refine callWith_function (o := o) (fd := fd) (evalArgs_plain (wpAny_mono h (fun vs s₁ h₁ => ?_) fun _ _ x => x))
  obtain ⟨⟨l₁, S₁⟩, h₁⟩ := h₁
  exact ⟨⟨S₁.keep _ _ ho, hd⟩, h₁⟩
end

section
variable {prog : Program} {w : World} {A : Around} {E : Value → Shared → Prop} {b s : Shared} {l l' : List (Addr × It)} {env : Env} {mg mb : Str → Option Value}

theorem Room.room {A : Around} {k : Nat} (h : Room A (k + 1)) : A.depth < recursionLimit := by have := h.2.1; omega
theorem Room.deeper {A : Around} {k : Nat} {env : Env} (h : Room A (k + 1)) : Room (A.deeper env) k := by
  refine ⟨h.1, ?_, ?_⟩
  · show A.depth + 1 + k < recursionLimit; have := h.2.1; omega
  · show A.units + 3 + 8 * k + 8 < cLine; have := h.2.2; omega
theorem Room.hh {A : Around} {k : Nat} (h : Room A k) : A.handled = none := h.1
theorem Room.le {A : Around} {k j : Nat} (h : Room A k) (hj : j ≤ k) : Room A j := ⟨h.1, by have := h.2.1; omega, by have := h.2.2; omega⟩

/-- a call of a built-in function by its name -/
theorem r_bcall {f : Str} {id : String} {p pos : Pos} {e : Expr} {args : List Expr} {Q : Value → Shared → Prop} (g : b.heap.Ns mainGlobals mg) (bl : b.heap.Ns builtinsNs mb) (S : St b s l) (hn : mg f = none) (hv : mb f = some (.builtin id))
    (h : wpAny (model prog w) A (spliced (backTo pos (starEach (e :: args) env))) (fun vs s₁ => wpAny (model prog w) A (call (.builtin id) vs) Q E s₁) E s)
    (he : ∃ x r, backTo pos (starEach (e :: args) env) = (false, x) :: r ∧ (((false, x) :: r).any (·.1)) = false := by exact ⟨_, _, rfl, rfl⟩)
    (hk : env.scope.kind = .function := by rfl) (hx : env.kindOf f = some .globalImplicit := by rfl) (hdb : (f == ("__debug__" : Str)) = false := by decide) (hg : env.globals = mainGlobals := by rfl) (hb : env.builtins = builtinsNs := by rfl) :
    wpAny (model prog w) A (eval (.Call (.Name f p) (e :: args) [] pos) env) Q E s := by
  refine wpAny_Call_NameR (r_blt g bl S hn hv ?_ hk hx hdb hg hb)
  obtain ⟨x, r, he, ha⟩ := he
  rw [he] at h ⊢
  exact callWith_builtin ha (evalArgs_plain (wpAny_mono h (fun vs s₁ h₁ => h₁) fun _ _ x => x))
/-- a call of a built-in type by its name -/
theorem r_tcall {f : Str} {T : String} {p pos : Pos} {e : Expr} {args : List Expr} {Q : Value → Shared → Prop} (g : b.heap.Ns mainGlobals mg) (bl : b.heap.Ns builtinsNs mb) (S : St b s l) (hn : mg f = none) (hv : mb f = some (.type T))
    (h : wpAny (model prog w) A (spliced (backTo pos (starEach (e :: args) env))) (fun vs s₁ => wpAny (model prog w) A (call (.type T) vs) Q E s₁) E s)
    (he : ∃ x r, backTo pos (starEach (e :: args) env) = (false, x) :: r ∧ (((false, x) :: r).any (·.1)) = false := by exact ⟨_, _, rfl, rfl⟩)
    (hk : env.scope.kind = .function := by rfl) (hx : env.kindOf f = some .globalImplicit := by rfl) (hdb : (f == ("__debug__" : Str)) = false := by decide) (hg : env.globals = mainGlobals := by rfl) (hb : env.builtins = builtinsNs := by rfl) :
    wpAny (model prog w) A (eval (.Call (.Name f p) (e :: args) [] pos) env) Q E s := by
  refine wpAny_Call_NameR (r_blt g bl S hn hv ?_ hk hx hdb hg hb)
  obtain ⟨x, r, he, ha⟩ := he
  rw [he] at h ⊢
  exact PySem.callWith_type ha (evalArgs_plain (wpAny_mono h (fun vs s₁ h₁ => h₁) fun _ _ x => x))

theorem r_is_int {p q : Int} {t u : Tok} {Q : Value → Shared → Prop} (hb : NoneBooked s.heap) (ht : t ≠ 0) (hu : u ≠ 0) (htu : t ≠ u) (hq : ∀ r, (r = true → p = q) → Q (.bool r) s) :
    wpAny (model prog w) A (compareOp .Is (.int p t) (.int q u)) Q E s := by
  show wpAny _ A (do return .bool (← isSame (.int p t) (.int q u))) Q E s
  refine wpAny_bind (wpAny_mono (Q := fun r s' => (r = true → p = q) ∧ s' = s) (E := E) ?_ (fun r s' h => ?_) fun _ _ x => x)
  · unfold isSame
    dsimp only
    split
    · rename_i h
      have hpq : p = q := by simpa using (Bool.and_eq_true_iff.mp h).1
      unfold isSame.cachedInt
      rw [if_neg (by simp [ht, hu])]
      exact wpAny_bind (wpAny_rule (wpAny_pure ⟨fun _ => hpq, rfl⟩))
    · unfold isSame.created
      rw [if_neg (by simp [ht, hu]), if_neg (by simpa using htu)]
      split
      · exact wpAny_pure ⟨fun e => absurd e Bool.false_ne_true, rfl⟩
      · rename_i h
        have hpq : p = q := by simpa using h
        refine wpAny_bind (wpAny_sharingNotTold_none hb ?_)
        rw [if_neg Bool.false_ne_true]
        refine wpAny_bind (wpAny_sharingNotTold_none hb ?_)
        rw [if_neg Bool.false_ne_true]
        exact wpAny_bind (wpAny_rule (wpAny_bind (wpAny_askSetting (wpAny_pure ⟨fun _ => hpq, rfl⟩))))
  · obtain ⟨hr, rfl⟩ := h
    exact wpAny_pure (hq r hr)
theorem NoneBooked.keeps {h h' : Heap} (x : NoneBooked h) (k : ∀ b o, h.get? b = some o → h'.get? b = some o) : NoneBooked h' := let ⟨mc, a, e⟩ := x; ⟨mc, a.keeps k, e⟩
end

local macro_rules | `(tactic| walk_at "m mem") => `(tactic| first | exact List.Mem.head _ | (refine List.Mem.tail _ ?_; walk_at "m mem"))
local macro_rules | `(tactic| walk_at "m put") => `(tactic| first | exact Put.head | (apply Put.tail; walk_at "m put"))
local macro_rules | `(tactic| walk_at "m set") => `(tactic| first | with_reducible exact LSet.head | exact LSet.nil | (apply LSet.tail; (focus decide); walk_at "m set"))

section
variable {w : World} {A : Around} {E : Value → Shared → Prop} {b s : Shared} {l : List (Addr × It)} {mg mb : Str → Option Value} {a : Addr} {Q : Value → Shared → Prop}

theorem eq_spec (G : Gr w b mg mb) (S : St b s l) (hr : Room A 1) {x y : Str} {t u : Tok} (ha : FnAt b.heap mg (dAt 1) a) (h : ∀ s', St b s' l → Q (.bool (x.cps.toList == y.cps.toList)) s') :
    wpAny (model prg w) A (call (.ref a) [.str x t, .str y u]) Q E s := by
  obtain ⟨o, pm, code, doc, hmg, ho, hd, hcd⟩ := ha
  refine r_call (binds := [("a", .str x t), ("b", .str y u)]) S ho hd hcd G.nolimit hr.room rfl rfl rfl (fun L s1 S1 => ?_) (by decide) rfl rfl rfl
  with_unfolding_all refine wpAny_execs_cons ?_
  refine wpAny_Return_some (wpAny_Compare1 (r_ld S1 (by walk_at "m mem") rfl (r_ld S1 (by walk_at "m mem") rfl (P.eq_str ?_))))
  exact h _ (S1.sub (List.sublist_cons_self _ _))

theorem ne_spec (G : Gr w b mg mb) (S : St b s l) (hr : Room A 1) {x y : Str} {t u : Tok} (ha : FnAt b.heap mg (dAt 2) a) (h : ∀ s', St b s' l → Q (.bool (x.cps.toList != y.cps.toList)) s') :
    wpAny (model prg w) A (call (.ref a) [.str x t, .str y u]) Q E s := by
  obtain ⟨o, pm, code, doc, hmg, ho, hd, hcd⟩ := ha
  refine r_call (binds := [("a", .str x t), ("b", .str y u)]) S ho hd hcd G.nolimit hr.room rfl rfl rfl (fun L s1 S1 => ?_) (by decide) rfl rfl rfl
  with_unfolding_all refine wpAny_execs_cons ?_
  refine wpAny_Return_some (wpAny_Compare1 (r_ld S1 (by walk_at "m mem") rfl (r_ld S1 (by walk_at "m mem") rfl (P.ne_str ?_))))
  exact h _ (S1.sub (List.sublist_cons_self _ _))

theorem and_spec (G : Gr w b mg mb) (S : St b s l) (hr : Room A 1) {x y : Int} {t u : Tok} (ha : FnAt b.heap mg (dAt 3) a) (h : ∀ s' t', St b s' l → b.toks ≤ t' → Q (.int (Builtin.bitAnd x y) t') s') :
    wpAny (model prg w) A (call (.ref a) [.int x t, .int y u]) Q E s := by
  obtain ⟨o, pm, code, doc, hmg, ho, hd, hcd⟩ := ha
  refine r_call (binds := [("a", .int x t), ("b", .int y u)]) S ho hd hcd G.nolimit hr.room rfl rfl rfl (fun L s1 S1 => ?_) (by decide) rfl rfl rfl
  with_unfolding_all refine wpAny_execs_cons ?_
  refine wpAny_Return_some (wpAny_BinOp (r_ld S1 (by walk_at "m mem") rfl (r_ld S1 (by walk_at "m mem") rfl (and_int ?_))))
  exact h _ _ (S1.tick.sub (List.sublist_cons_self _ _)) S1.tk

theorem lshift_spec (G : Gr w b mg mb) (S : St b s l) (hr : Room A 1) {x n : Int} {t u : Tok} (hn : 0 ≤ n) (hn2 : n ≤ 1000000) (hx : x.natAbs < 2 ^ 64) (ha : FnAt b.heap mg (dAt 4) a) (h : ∀ s' t', St b s' l → b.toks ≤ t' → Q (.int (x * 2 ^ n.toNat) t') s') :
    wpAny (model prg w) A (call (.ref a) [.int x t, .int n u]) Q E s := by
  obtain ⟨o, pm, code, doc, hmg, ho, hd, hcd⟩ := ha
  refine r_call (binds := [("a", .int x t), ("b", .int n u)]) S ho hd hcd G.nolimit hr.room rfl rfl rfl (fun L s1 S1 => ?_) (by decide) rfl rfl rfl
  with_unfolding_all refine wpAny_execs_cons ?_
  refine wpAny_Return_some (wpAny_BinOp (r_ld S1 (by walk_at "m mem") rfl (r_ld S1 (by walk_at "m mem") rfl (lshift_int_small hn hn2 hx ?_))))
  exact h _ _ (S1.tick.sub (List.sublist_cons_self _ _)) S1.tk

theorem neg_spec (G : Gr w b mg mb) (S : St b s l) (hr : Room A 1) {x : Int} {t : Tok} (ha : FnAt b.heap mg (dAt 5) a) (h : ∀ s' t', St b s' l → b.toks ≤ t' → Q (.int (-x) t') s') :
    wpAny (model prg w) A (call (.ref a) [.int x t]) Q E s := by
  obtain ⟨o, pm, code, doc, hmg, ho, hd, hcd⟩ := ha
  refine r_call (binds := [("a", .int x t)]) S ho hd hcd G.nolimit hr.room rfl rfl rfl (fun L s1 S1 => ?_) (by decide) rfl rfl rfl
  with_unfolding_all refine wpAny_execs_cons ?_
  refine wpAny_Return_some (wpAny_UnaryOp (r_ld S1 (by walk_at "m mem") rfl (P.neg_int ?_)))
  exact h _ _ (S1.tick.sub (List.sublist_cons_self _ _)) S1.tk

theorem xor_spec (G : Gr w b mg mb) (S : St b s l) (hr : Room A 1) {x y : Int} {t u : Tok} (ha : FnAt b.heap mg (dAt 6) a) (h : ∀ s' t', St b s' l → b.toks ≤ t' → Q (.int (Builtin.bitXor x y) t') s') :
    wpAny (model prg w) A (call (.ref a) [.int x t, .int y u]) Q E s := by
  obtain ⟨o, pm, code, doc, hmg, ho, hd, hcd⟩ := ha
  refine r_call (binds := [("a", .int x t), ("b", .int y u)]) S ho hd hcd G.nolimit hr.room rfl rfl rfl (fun L s1 S1 => ?_) (by decide) rfl rfl rfl
  with_unfolding_all refine wpAny_execs_cons ?_
  refine wpAny_Return_some (wpAny_BinOp (r_ld S1 (by walk_at "m mem") rfl (r_ld S1 (by walk_at "m mem") rfl (xor_int ?_))))
  exact h _ _ (S1.tick.sub (List.sublist_cons_self _ _)) S1.tk
end
end Mine
end

section -- Head1
open PySem PySem.W PyProof.Rows PySem.Calls
set_option Elab.async false
set_option maxRecDepth 100000
namespace Mine

/-- a tree comes to its value, in at most so many steps, wherever it stands -/
def Reach {α : Type} (p : Program) (w : World) (m₀ : Nat) (ann : Option Value) (b : Nat) (x : Sem α) (s : Shared) (v : α) (s' : Shared) : Prop :=
  ∀ (K : α → Sem Fin) (H : Value → Sem Fin) (gd : Bool → Bool) (lv : List Value → List Value) (c : Code) (q : Pos) (f : Frame) (B : List Frame),
    ∃ q', ∀ N r, topRun treeTable p w m₀ ann N s' ⟨K v, c, q', f :: B⟩ = some r → topRun treeTable p w m₀ ann (N + b) s ⟨x.wrap K H gd lv, c, q, f :: B⟩ = some r

section
variable {α β : Type} {p : Program} {w : World} {m₀ : Nat} {ann : Option Value} {s s' s₁ : Shared}

theorem Reach.le {b b' : Nat} {x : Sem α} {v : α} (h : Reach p w m₀ ann b x s v s') (hb : b ≤ b') : Reach p w m₀ ann b' x s v s' := fun K H gd lv c q f B => by
  obtain ⟨q', h⟩ := h K H gd lv c q f B
  refine ⟨q', fun N r hr => ?_⟩
  have := topRun_mono (b' - b) _ _ _ _ (h N r hr)
  rw [show N + b + (b' - b) = N + b' by omega] at this
  exact this
theorem Reach.pure {v : α} : Reach p w m₀ ann 0 (.pure v) s v s := fun _ _ _ _ _ q _ _ => ⟨q, fun _ _ h => h⟩
theorem Reach.wrap {b b' : Nat} {x : Sem α} {v : α} {F : α → Sem β} {G : Value → Sem β} {gd : Bool → Bool} {lv : List Value → List Value} {u : β} (h : Reach p w m₀ ann b x s v s₁) (h' : Reach p w m₀ ann b' (F v) s₁ u s') :
    Reach p w m₀ ann (b + b') (x.wrap F G gd lv) s u s' := fun K H gd' lv' c q f B => by
  obtain ⟨q₁, h'⟩ : ∃ q₁, _ := by
    obtain ⟨q₁, k⟩ := h (fun a => (F a).wrap K H gd' lv') (fun e => (G e).wrap K H gd' lv') (fun g => gd' (gd g)) (fun l => lv' (lv l)) c q f B
    obtain ⟨q₂, k₂⟩ := h' K H gd' lv' c q₁ f B
    exact ⟨q₂, fun N r hr => k _ _ (k₂ N r hr)⟩
  refine ⟨q₁, fun N r hr => ?_⟩
  rw [Sem.wrap_wrap, show N + (b + b') = N + b' + b by omega]
  exact h' N r hr
theorem Reach.bind {b b' : Nat} {x : Sem α} {v : α} {F : α → Sem β} {u : β} (h : Reach p w m₀ ann b x s v s₁) (h' : Reach p w m₀ ann b' (F v) s₁ u s') : Reach p w m₀ ann (b + b') (x.bind F) s u s' := by
  rw [Sem.bind_eq_wrap]; exact h.wrap h'
theorem Reach.keep {b : Nat} {x : Sem α} {v : α} {vs : List Value} (h : Reach p w m₀ ann b x s v s') : Reach p w m₀ ann b (x.keep vs) s v s' := by
  rw [Sem.keep_eq_wrap]; exact h.wrap Reach.pure
theorem Reach.holding {b : Nat} {x : Sem α} {v : α} {vs : List Value} (h : Reach p w m₀ ann b x s v s') : Reach p w m₀ ann b (holding vs x) s v s' := by
  unfold PySem.holding
  split
  · exact h
  · exact h.keep
theorem Reach.onRaise {b : Nat} {x : Sem α} {v : α} {F : Value → Sem Unit} (h : Reach p w m₀ ann b x s v s') : Reach p w m₀ ann b (x.onRaise F) s v s' := by
  rw [Sem.onRaise_eq_wrap]; exact h.wrap Reach.pure

/-- one step -/
theorem Reach.one {b : Nat} {x y : Sem α} {v : α} (hs : ∀ (K : α → Sem Fin) (H : Value → Sem Fin) (gd : Bool → Bool) (lv : List Value → List Value) (c : Code) (q : Pos) (f : Frame) (B : List Frame),
      stepOk m₀ ann ⟨x.wrap K H gd lv, c, q, f :: B⟩ = true ∧ ∃ q', step (denote treeTable) p w s ⟨x.wrap K H gd lv, c, q, f :: B⟩ = .go s₁ ⟨y.wrap K H gd lv, c, q', f :: B⟩)
    (h : Reach p w m₀ ann b y s₁ v s') : Reach p w m₀ ann (b + 1) x s v s' := fun K H gd lv c q f B => by
  obtain ⟨hk, q₁, hs⟩ := hs K H gd lv c q f B
  obtain ⟨q₂, h⟩ := h K H gd lv c q₁ f B
  refine ⟨q₂, fun N r hr => ?_⟩
  show topRun treeTable p w m₀ ann (N + b + 1) _ _ = _
  unfold topRun
  have ht : through ⟨x.wrap K H gd lv, c, q, f :: B⟩ = false := rfl
  rw [ht, hk, hs]
  exact h N r hr
theorem Reach.rule {b : Nat} {tag : String} {k : Unit → Sem α} {v : α} (h : Reach p w m₀ ann b (k ()) s v s') : Reach p w m₀ ann (b + 1) (.rule tag k) s v s' := .one (fun _ _ _ _ _ _ _ _ => ⟨rfl, _, rfl⟩) h
theorem Reach.at {b : Nat} {q : Pos} {k : Unit → Sem α} {v : α} (h : Reach p w m₀ ann b (k ()) s v s') : Reach p w m₀ ann (b + 1) (.at q k) s v s' := .one (fun _ _ _ _ _ _ _ _ => ⟨rfl, _, rfl⟩) h
theorem Reach.ask {b : Nat} {k : Setting → Sem α} {v : α} (h : Reach p w m₀ ann b (k ⟨p, w.params⟩) s v s') : Reach p w m₀ ann (b + 1) (.ask k) s v s' := .one (fun _ _ _ _ _ _ _ _ => ⟨rfl, _, rfl⟩) h
theorem Reach.fresh {b : Nat} {k : Tok → Sem α} {v : α} (h : Reach p w m₀ ann b (k s.toks) { s with toks := s.toks + 1 } v s') : Reach p w m₀ ann (b + 1) (.fresh k) s v s' := .one (fun _ _ _ _ _ _ _ _ => ⟨rfl, _, rfl⟩) h
theorem Reach.load {b : Nat} {a : Addr} {part : Option Value} {o : Obj} {k : Obj → Sem α} {v : α} (ho : s.heap.get? a = some o) (h : Reach p w m₀ ann b (k o) s v s') : Reach p w m₀ ann (b + 1) (.load a part k) s v s' :=
  .one (fun K H gd lv c q f B => ⟨rfl, q, by show step _ _ _ _ ⟨.load a part fun o => (k o).wrap K H gd lv, c, q, f :: B⟩ = _; simp only [step, ho]⟩) h
theorem Reach.update {b : Nat} {a : Addr} {part : Option Value} {F : Obj → Obj} {k : Unit → Sem α} {v : α} (ha : m₀ ≤ a) (ho : (s.heap.get? a).isSome = true) (h : Reach p w m₀ ann b (k ()) { s with heap := s.heap.update a F } v s') :
    Reach p w m₀ ann (b + 1) (.update a part F k) s v s' :=
  .one (fun K H gd lv c q f B => ⟨by
    show (_ && (Nat.ble m₀ a || _ || _ || _)) = true
    rw [Nat.ble_eq_true_of_le ha]; rfl, q, by show step _ _ _ _ ⟨.update a part F fun o => (k o).wrap K H gd lv, c, q, f :: B⟩ = _; simp only [step, ho, if_true]⟩) h
theorem Reach.alloc {b : Nat} {o : Obj} {k : Addr → Sem α} {v : α} (h : Reach p w m₀ ann b (k s.heap.objs.size) { s with heap := s.heap.push o } v s') : Reach p w m₀ ann (b + 1) (.alloc o k) s v s' :=
  .one (fun _ _ _ _ _ _ _ _ => ⟨rfl, _, rfl⟩) h
theorem Reach.point {b : Nat} {l : List Value} {k : Unit → Sem α} {v : α} (h : Reach p w m₀ ann b (k ()) s v s') : Reach p w m₀ ann (b + 1) (.point l k) s v s' := .one (fun _ _ _ _ _ _ _ _ => ⟨rfl, _, rfl⟩) h
end
end Mine
end

section -- Head2
open PySem PySem.W PyProof.Rows PySem.Calls
set_option Elab.async false
set_option maxRecDepth 100000
namespace Mine

theorem hash_go (b : Bool) (w : World) (m₀ : Nat) (ann : Option Value) (h : Heap) (g : Array GenState) (d : Drawn) (tk : Nat) (os : OsState) (k : Int) (t : Tok) (U : Sem Value) (K : Option Value → Sem Fin) (H : Value → Sem Fin) (gd : Bool → Bool) (lv : List Value → List Value) (c : Code) (q : Pos) (f : Frame) (B : List Frame) :
    topGo treeTable prg (w.withFollow "special-get-raises" b) m₀ ann 5 ⟨h, g, d, tk, os⟩ ⟨(callSpecialIfBoundUnlessNone? (.int k t) "__hash__" U).wrap K H gd lv, c, q, f :: B⟩ =
      some (⟨h, g, d, tk + 1, os⟩, ⟨K (some (.int (rawHash k) tk)), c, q, f :: B⟩) := by
  cases b <;> kernel_rfl
end Mine
end

section -- Head3
open PySem PySem.W PyProof.Rows PySem.Calls
set_option Elab.async false
set_option maxRecDepth 100000
set_option linter.all false
namespace Mine
abbrev sv (x : String) (t : Tok) : Value := .str (Str.ofString x) t
def en (P : Params) (x : String) (t : Tok) (v : Value) : DictEntry := { hash := PyData.keyHash P (Str.ofString x), key := sv x t, val := v }
/-- a def's function object, and the record of its code -/
def fnO (i : Nat) (pm cd : Value) : Obj := { cls := .type "function", data := .func (docDef (dAt i).name (dAt i).params (dAt i).body (dAt i).scope pm cd .none) }
def cdO (i : Nat) : Obj := { cls := .none, data := .func { name := (dAt i).name, qualname := (dAt i).name, params := (dAt i).params, body := .stmts (dAt i).body, scope := (dAt i).scope, globals := 0, closure := [], defaults := .none, kwdefaults := .none } }
def o11 (P : Params) : Obj := { cls := Value.type "tuple", data := Data.seq #[] }
def o13 (P : Params) : Obj := { cls := Value.type "code", data := Data.fields #[sv "<module>" 182, sv "<module>" 183, sv "/claim/cut.py" 184, Value.int 1 0, Value.int 0 0, Value.int 0 0, Value.int 0 0, Value.int 0 0, Value.ref 11, Value.bool false, Value.int 181 0, Value.ref 12, Value.none, Value.none, Value.none, Value.none, Value.int 185 0, Value.int 1 0, sv "/claim/cut.py" 186] }
def o14 (P : Params) : Obj := { cls := Value.type "frame", slots := #[some (Value.ref 13), some (Value.ref 3), some (Value.ref 3), none, some (sv "__main__" 164), none, some (Value.ref 0)] }
def o15 (P : Params) : Obj := { cls := Value.type "tuple", data := Data.seq #[] }
def o16 (P : Params) : Obj := { cls := Value.none, data := Data.fields #[] }
def o17 (P : Params) : Obj := { cls := Value.type "tuple", data := Data.seq #[sv "a" 192, sv "b" 193] }
def o18 (P : Params) : Obj := { cls := Value.type "tuple", data := Data.seq #[] }
def o19 (P : Params) : Obj := cdO 1
def o20 (P : Params) : Obj := { cls := Value.type "code", data := Data.fields #[sv "eq" 189, sv "eq" 190, sv "/claim/cut.py" 191, Value.int 2 0, Value.int 2 0, Value.int 0 0, Value.int 0 0, Value.int 3 0, Value.ref 15, Value.bool true, Value.int 181 0, Value.ref 16, Value.none, Value.ref 17, Value.ref 18, Value.ref 19, Value.int 194 0, Value.int 2 0, sv "/claim/cut.py" 195] }
def o21 (P : Params) : Obj := fnO 1 (sv "cpy313.operator" 187) (Value.ref 20)
def o22 (P : Params) : Obj := { cls := Value.type "tuple", data := Data.seq #[] }
def o23 (P : Params) : Obj := { cls := Value.none, data := Data.fields #[] }
def o24 (P : Params) : Obj := { cls := Value.type "tuple", data := Data.seq #[sv "a" 200, sv "b" 201] }
def o25 (P : Params) : Obj := { cls := Value.type "tuple", data := Data.seq #[] }
def o26 (P : Params) : Obj := cdO 2
def o27 (P : Params) : Obj := { cls := Value.type "code", data := Data.fields #[sv "ne" 197, sv "ne" 198, sv "/claim/cut.py" 199, Value.int 4 0, Value.int 2 0, Value.int 0 0, Value.int 0 0, Value.int 3 0, Value.ref 22, Value.bool true, Value.int 181 0, Value.ref 23, Value.none, Value.ref 24, Value.ref 25, Value.ref 26, Value.int 202 0, Value.int 4 0, sv "/claim/cut.py" 203] }
def o28 (P : Params) : Obj := fnO 2 (sv "cpy313.operator" 187) (Value.ref 27)
def o29 (P : Params) : Obj := { cls := Value.type "tuple", data := Data.seq #[] }
def o30 (P : Params) : Obj := { cls := Value.none, data := Data.fields #[] }
def o31 (P : Params) : Obj := { cls := Value.type "tuple", data := Data.seq #[sv "a" 208, sv "b" 209] }
def o32 (P : Params) : Obj := { cls := Value.type "tuple", data := Data.seq #[] }
def o33 (P : Params) : Obj := cdO 3
def o34 (P : Params) : Obj := { cls := Value.type "code", data := Data.fields #[sv "and_" 205, sv "and_" 206, sv "/claim/cut.py" 207, Value.int 6 0, Value.int 2 0, Value.int 0 0, Value.int 0 0, Value.int 3 0, Value.ref 29, Value.bool true, Value.int 181 0, Value.ref 30, Value.none, Value.ref 31, Value.ref 32, Value.ref 33, Value.int 210 0, Value.int 6 0, sv "/claim/cut.py" 211] }
def o35 (P : Params) : Obj := fnO 3 (sv "cpy313.operator" 187) (Value.ref 34)
def o36 (P : Params) : Obj := { cls := Value.type "tuple", data := Data.seq #[] }
def o37 (P : Params) : Obj := { cls := Value.none, data := Data.fields #[] }
def o38 (P : Params) : Obj := { cls := Value.type "tuple", data := Data.seq #[sv "a" 216, sv "b" 217] }
def o39 (P : Params) : Obj := { cls := Value.type "tuple", data := Data.seq #[] }
def o40 (P : Params) : Obj := cdO 4
def o41 (P : Params) : Obj := { cls := Value.type "code", data := Data.fields #[sv "lshift" 213, sv "lshift" 214, sv "/claim/cut.py" 215, Value.int 8 0, Value.int 2 0, Value.int 0 0, Value.int 0 0, Value.int 3 0, Value.ref 36, Value.bool true, Value.int 181 0, Value.ref 37, Value.none, Value.ref 38, Value.ref 39, Value.ref 40, Value.int 218 0, Value.int 8 0, sv "/claim/cut.py" 219] }
def o42 (P : Params) : Obj := fnO 4 (sv "cpy313.operator" 187) (Value.ref 41)
def o43 (P : Params) : Obj := { cls := Value.type "tuple", data := Data.seq #[] }
def o44 (P : Params) : Obj := { cls := Value.none, data := Data.fields #[] }
def o45 (P : Params) : Obj := { cls := Value.type "tuple", data := Data.seq #[sv "a" 224] }
def o46 (P : Params) : Obj := { cls := Value.type "tuple", data := Data.seq #[] }
def o47 (P : Params) : Obj := cdO 5
def o48 (P : Params) : Obj := { cls := Value.type "code", data := Data.fields #[sv "neg" 221, sv "neg" 222, sv "/claim/cut.py" 223, Value.int 10 0, Value.int 1 0, Value.int 0 0, Value.int 0 0, Value.int 3 0, Value.ref 43, Value.bool true, Value.int 181 0, Value.ref 44, Value.none, Value.ref 45, Value.ref 46, Value.ref 47, Value.int 225 0, Value.int 10 0, sv "/claim/cut.py" 226] }
def o49 (P : Params) : Obj := fnO 5 (sv "cpy313.operator" 187) (Value.ref 48)
def o50 (P : Params) : Obj := { cls := Value.type "tuple", data := Data.seq #[] }
def o51 (P : Params) : Obj := { cls := Value.none, data := Data.fields #[] }
def o52 (P : Params) : Obj := { cls := Value.type "tuple", data := Data.seq #[sv "a" 231, sv "b" 232] }
def o53 (P : Params) : Obj := { cls := Value.type "tuple", data := Data.seq #[] }
def o54 (P : Params) : Obj := cdO 6
def o55 (P : Params) : Obj := { cls := Value.type "code", data := Data.fields #[sv "xor" 228, sv "xor" 229, sv "/claim/cut.py" 230, Value.int 12 0, Value.int 2 0, Value.int 0 0, Value.int 0 0, Value.int 3 0, Value.ref 50, Value.bool true, Value.int 181 0, Value.ref 51, Value.none, Value.ref 52, Value.ref 53, Value.ref 54, Value.int 233 0, Value.int 12 0, sv "/claim/cut.py" 234] }
def o56 (P : Params) : Obj := fnO 6 (sv "cpy313.operator" 187) (Value.ref 55)
def o57 (P : Params) : Obj := { cls := Value.type "tuple", data := Data.seq #[] }
def o58 (P : Params) : Obj := { cls := Value.none, data := Data.fields #[] }
def o59 (P : Params) : Obj := { cls := Value.type "tuple", data := Data.seq #[sv "a" 239, sv "b" 240, sv "msg" 241] }
def o60 (P : Params) : Obj := { cls := Value.type "tuple", data := Data.seq #[] }
def o61 (P : Params) : Obj := cdO 7
def o62 (P : Params) : Obj := { cls := Value.type "code", data := Data.fields #[sv "concat" 236, sv "concat" 237, sv "/claim/cut.py" 238, Value.int 14 0, Value.int 2 0, Value.int 0 0, Value.int 0 0, Value.int 3 0, Value.ref 57, Value.bool true, Value.int 181 0, Value.ref 58, Value.none, Value.ref 59, Value.ref 60, Value.ref 61, Value.int 242 0, Value.int 14 0, sv "/claim/cut.py" 243] }
def o63 (P : Params) : Obj := fnO 7 (sv "cpy313.operator" 187) (Value.ref 62)
def o64 (P : Params) : Obj := { cls := Value.type "tuple", data := Data.seq #[] }
def o65 (P : Params) : Obj := { cls := Value.none, data := Data.fields #[] }
def o66 (P : Params) : Obj := { cls := Value.type "tuple", data := Data.seq #[sv "a" 248, sv "b" 249, sv "count" 250, sv "i" 251] }
def o67 (P : Params) : Obj := { cls := Value.type "tuple", data := Data.seq #[] }
def o68 (P : Params) : Obj := cdO 8
def o69 (P : Params) : Obj := { cls := Value.type "code", data := Data.fields #[sv "countOf" 245, sv "countOf" 246, sv "/claim/cut.py" 247, Value.int 19 0, Value.int 2 0, Value.int 0 0, Value.int 0 0, Value.int 3 0, Value.ref 64, Value.bool true, Value.int 181 0, Value.ref 65, Value.none, Value.ref 66, Value.ref 67, Value.ref 68, Value.int 252 0, Value.int 19 0, sv "/claim/cut.py" 253] }
def o70 (P : Params) : Obj := fnO 8 (sv "cpy313.operator" 187) (Value.ref 69)
def o71 (P : Params) : Obj := { cls := Value.type "tuple", data := Data.seq #[] }
def o72 (P : Params) : Obj := { cls := Value.none, data := Data.fields #[] }
def o73 (P : Params) : Obj := { cls := Value.type "tuple", data := Data.seq #[sv "a" 258, sv "b" 259] }
def o74 (P : Params) : Obj := { cls := Value.type "tuple", data := Data.seq #[] }
def o75 (P : Params) : Obj := cdO 9
def o76 (P : Params) : Obj := { cls := Value.type "code", data := Data.fields #[sv "getitem" 255, sv "getitem" 256, sv "/claim/cut.py" 257, Value.int 25 0, Value.int 2 0, Value.int 0 0, Value.int 0 0, Value.int 3 0, Value.ref 71, Value.bool true, Value.int 181 0, Value.ref 72, Value.none, Value.ref 73, Value.ref 74, Value.ref 75, Value.int 260 0, Value.int 25 0, sv "/claim/cut.py" 261] }
def o77 (P : Params) : Obj := fnO 9 (sv "cpy313.operator" 187) (Value.ref 76)
def o78 (P : Params) : Obj := { cls := Value.type "tuple", data := Data.seq #[] }
def o79 (P : Params) : Obj := { cls := Value.none, data := Data.fields #[] }
def o80 (P : Params) : Obj := { cls := Value.type "tuple", data := Data.seq #[sv "a" 266, sv "b" 267, sv "i" 268, sv "j" 269] }
def o81 (P : Params) : Obj := { cls := Value.type "tuple", data := Data.seq #[] }
def o82 (P : Params) : Obj := cdO 10
def o83 (P : Params) : Obj := { cls := Value.type "code", data := Data.fields #[sv "indexOf" 263, sv "indexOf" 264, sv "/claim/cut.py" 265, Value.int 27 0, Value.int 2 0, Value.int 0 0, Value.int 0 0, Value.int 3 0, Value.ref 78, Value.bool true, Value.int 181 0, Value.ref 79, Value.none, Value.ref 80, Value.ref 81, Value.ref 82, Value.int 270 0, Value.int 27 0, sv "/claim/cut.py" 271] }
def o84 (P : Params) : Obj := fnO 10 (sv "cpy313.operator" 187) (Value.ref 83)
def o85 (P : Params) : Obj := { cls := Value.type "tuple", data := Data.seq #[] }
def o86 (P : Params) : Obj := { cls := Value.none, data := Data.fields #[] }
def o87 (P : Params) : Obj := { cls := Value.type "tuple", data := Data.seq #[sv "a" 276, sv "b" 277, sv "c" 278] }
def o88 (P : Params) : Obj := { cls := Value.type "tuple", data := Data.seq #[] }
def o89 (P : Params) : Obj := cdO 11
def o90 (P : Params) : Obj := { cls := Value.type "code", data := Data.fields #[sv "setitem" 273, sv "setitem" 274, sv "/claim/cut.py" 275, Value.int 33 0, Value.int 3 0, Value.int 0 0, Value.int 0 0, Value.int 3 0, Value.ref 85, Value.bool true, Value.int 181 0, Value.ref 86, Value.none, Value.ref 87, Value.ref 88, Value.ref 89, Value.int 279 0, Value.int 33 0, sv "/claim/cut.py" 280] }
def o91 (P : Params) : Obj := fnO 11 (sv "cpy313.operator" 187) (Value.ref 90)
def o92 (P : Params) : Obj := { cls := Value.type "list", data := Data.seq #[Value.int 173 284, Value.int 847 285, Value.int 6150 286, Value.int 6155 287, Value.int 6156 288, Value.int 6157 289, Value.int 8203 290, Value.int 8204 291, Value.int 8205 292, Value.int 8288 293, Value.int 65279 294] }
def o93 (P : Params) : Obj := { cls := Value.type "range", data := Data.fields #[Value.int 65024 295, Value.int 65040 296, Value.int 1 297] }
def o94 (P : Params) : Obj := { cls := Value.type "list", data := Data.seq #[Value.int 65024 300, Value.int 65025 301, Value.int 65026 302, Value.int 65027 303, Value.int 65028 304, Value.int 65029 305, Value.int 65030 306, Value.int 65031 307, Value.int 65032 308, Value.int 65033 309, Value.int 65034 310, Value.int 65035 311, Value.int 65036 312, Value.int 65037 313, Value.int 65038 314, Value.int 65039 315] 18 }
def o95 (P : Params) : Obj := { cls := Value.type "range_iterator", data := Data.fields #[Value.int 65040 0, Value.int 0 0, Value.int 1 0] }
def o96 (P : Params) : Obj := { cls := Value.type "tuple", data := Data.seq #[] }
def o97 (P : Params) : Obj := { cls := Value.type "StopIteration", data := Data.fields #[Value.ref 96, Value.none, Value.none, Value.none, Value.bool false, Value.none] }
def o98 (P : Params) : Obj := { cls := Value.type "list", data := Data.seq #[Value.int 173 284, Value.int 847 285, Value.int 6150 286, Value.int 6155 287, Value.int 6156 288, Value.int 6157 289, Value.int 8203 290, Value.int 8204 291, Value.int 8205 292, Value.int 8288 293, Value.int 65279 294, Value.int 65024 300, Value.int 65025 301, Value.int 65026 302, Value.int 65027 303, Value.int 65028 304, Value.int 65029 305, Value.int 65030 306, Value.int 65031 307, Value.int 65032 308, Value.int 65033 309, Value.int 65034 310, Value.int 65035 311, Value.int 65036 312, Value.int 65037 313, Value.int 65038 314, Value.int 65039 315] }
def o100 (P : Params) : Obj := { cls := Value.type "list_iterator", data := Data.fields #[Value.none, Value.int 27 0] }
def o101 (P : Params) : Obj := { cls := Value.type "tuple", data := Data.seq #[] }
def o102 (P : Params) : Obj := { cls := Value.type "StopIteration", data := Data.fields #[Value.ref 101, Value.none, Value.none, Value.none, Value.bool false, Value.none] }
def o103 (P : Params) : Obj := { cls := Value.type "tuple", data := Data.seq #[] }
def o104 (P : Params) : Obj := { cls := Value.none, data := Data.fields #[] }
def o105 (P : Params) : Obj := { cls := Value.type "tuple", data := Data.seq #[sv "code" 347] }
def o106 (P : Params) : Obj := { cls := Value.type "tuple", data := Data.seq #[] }
def o107 (P : Params) : Obj := cdO 14
def o108 (P : Params) : Obj := { cls := Value.type "code", data := Data.fields #[sv "in_table_b1" 344, sv "in_table_b1" 345, sv "/claim/cut.py" 346, Value.int 37 0, Value.int 1 0, Value.int 0 0, Value.int 0 0, Value.int 3 0, Value.ref 103, Value.bool true, Value.int 181 0, Value.ref 104, Value.none, Value.ref 105, Value.ref 106, Value.ref 107, Value.int 348 0, Value.int 37 0, sv "/claim/cut.py" 349] }
def o109 (P : Params) : Obj := fnO 14 (sv "cpy313.stringprep" 282) (Value.ref 108)
def o149 (P : Params) : Obj := { cls := Value.type "tuple", data := Data.seq #[] }
def o150 (P : Params) : Obj := { cls := Value.none, data := Data.fields #[] }
def o151 (P : Params) : Obj := { cls := Value.type "tuple", data := Data.seq #[sv "code" 2305, sv "r" 2306] }
def o152 (P : Params) : Obj := { cls := Value.type "tuple", data := Data.seq #[] }
def o153 (P : Params) : Obj := cdO 16
def o154 (P : Params) : Obj := { cls := Value.type "code", data := Data.fields #[sv "map_table_b3" 2302, sv "map_table_b3" 2303, sv "/claim/cut.py" 2304, Value.int 40 0, Value.int 1 0, Value.int 0 0, Value.int 0 0, Value.int 3 0, Value.ref 149, Value.bool true, Value.int 181 0, Value.ref 150, Value.none, Value.ref 151, Value.ref 152, Value.ref 153, Value.int 2307 0, Value.int 40 0, sv "/claim/cut.py" 2308] }
def o155 (P : Params) : Obj := fnO 16 (sv "cpy313.stringprep" 282) (Value.ref 154)
def o156 (P : Params) : Obj := { cls := Value.type "tuple", data := Data.seq #[] }
def o157 (P : Params) : Obj := { cls := Value.none, data := Data.fields #[] }
def o158 (P : Params) : Obj := { cls := Value.type "tuple", data := Data.seq #[sv "which" 2315] }
def o159 (P : Params) : Obj := { cls := Value.type "tuple", data := Data.seq #[] }
def o160 (P : Params) : Obj := cdO 18
def o161 (P : Params) : Obj := { cls := Value.type "code", data := Data.fields #[sv "_law_gap" 2312, sv "_law_gap" 2313, sv "/claim/cut.py" 2314, Value.int 46 0, Value.int 1 0, Value.int 0 0, Value.int 0 0, Value.int 3 0, Value.ref 156, Value.bool true, Value.int 181 0, Value.ref 157, Value.none, Value.ref 158, Value.ref 159, Value.ref 160, Value.int 2316 0, Value.int 46 0, sv "/claim/cut.py" 2317] }
def o162 (P : Params) : Obj := fnO 18 (sv "law_pg0231_01" 2310) (Value.ref 161)
def o163 (P : Params) : Obj := { cls := Value.type "tuple", data := Data.seq #[] }
def o164 (P : Params) : Obj := { cls := Value.none, data := Data.fields #[] }
def o165 (P : Params) : Obj := { cls := Value.type "tuple", data := Data.seq #[sv "letter" 2322, sv "form" 2323] }
def o166 (P : Params) : Obj := { cls := Value.type "tuple", data := Data.seq #[] }
def o167 (P : Params) : Obj := cdO 19
def o168 (P : Params) : Obj := { cls := Value.type "code", data := Data.fields #[sv "_law_great" 2319, sv "_law_great" 2320, sv "/claim/cut.py" 2321, Value.int 50 0, Value.int 2 0, Value.int 0 0, Value.int 0 0, Value.int 3 0, Value.ref 163, Value.bool true, Value.int 181 0, Value.ref 164, Value.none, Value.ref 165, Value.ref 166, Value.ref 167, Value.int 2324 0, Value.int 50 0, sv "/claim/cut.py" 2325] }
def o169 (P : Params) : Obj := fnO 19 (sv "law_pg0231_01" 2310) (Value.ref 168)
def o170 (P : Params) : Obj := { cls := Value.type "tuple", data := Data.seq #[] }
def o171 (P : Params) : Obj := { cls := Value.none, data := Data.fields #[] }
def o172 (P : Params) : Obj := { cls := Value.type "tuple", data := Data.seq #[sv "row" 2330, sv "marks" 2331, sv "word" 2332, sv "sizes" 2333, sv "told" 2334, sv "sign" 2335, sv "small" 2336, sv "great" 2337] }
def o173 (P : Params) : Obj := { cls := Value.type "tuple", data := Data.seq #[] }
def o174 (P : Params) : Obj := cdO 20
def o175 (P : Params) : Obj := { cls := Value.type "code", data := Data.fields #[sv "_law_tell" 2327, sv "_law_tell" 2328, sv "/claim/cut.py" 2329, Value.int 52 0, Value.int 2 0, Value.int 0 0, Value.int 0 0, Value.int 3 0, Value.ref 170, Value.bool true, Value.int 181 0, Value.ref 171, Value.none, Value.ref 172, Value.ref 173, Value.ref 174, Value.int 2338 0, Value.int 52 0, sv "/claim/cut.py" 2339] }
def o176 (P : Params) : Obj := fnO 20 (sv "law_pg0231_01" 2310) (Value.ref 175)
def o177 (P : Params) : Obj := { cls := Value.type "tuple", data := Data.seq #[] }
def o178 (P : Params) : Obj := { cls := Value.none, data := Data.fields #[] }
def o179 (P : Params) : Obj := cdO 21
def o180 (P : Params) : Obj := { cls := Value.type "code", data := Data.fields #[sv "_law_walk" 2341, sv "_law_walk" 2342, sv "/claim/cut.py" 2343, Value.int 65 0, Value.int 3 0, Value.int 0 0, Value.int 0 0, Value.int 3 0, Value.ref 177, Value.bool true, Value.int 181 0, Value.ref 178, Value.none, Value.none, Value.none, Value.ref 179, Value.int 2344 0, Value.int 65 0, sv "/claim/cut.py" 2345] }
def o181 (P : Params) : Obj := fnO 21 (sv "law_pg0231_01" 2310) (Value.ref 180)
def o182 (P : Params) : Obj := { cls := Value.type "tuple", data := Data.seq #[] }
def o183 (P : Params) : Obj := { cls := Value.none, data := Data.fields #[] }
def o184 (P : Params) : Obj := cdO 22
def o185 (P : Params) : Obj := { cls := Value.type "code", data := Data.fields #[sv "law" 2347, sv "law" 2348, sv "/claim/cut.py" 2349, Value.int 77 0, Value.int 1 0, Value.int 0 0, Value.int 0 0, Value.int 3 0, Value.ref 182, Value.bool true, Value.int 181 0, Value.ref 183, Value.none, Value.none, Value.none, Value.ref 184, Value.int 2350 0, Value.int 77 0, sv "/claim/cut.py" 2351] }
def o186 (P : Params) : Obj := fnO 22 (sv "law_pg0231_01" 2310) (Value.ref 185)
def ns3L (P : Params) : List DictEntry := [en P "__doc__" 166 (Value.none), en P "__package__" 167 (Value.none), en P "__loader__" 168 (Value.builtin "__main__.__loader__#opaque"), en P "__spec__" 169 (Value.none), en P "__annotations__" 170 (Value.ref 6), en P "__builtins__" 171 (Value.ref 4), en P "__file__" 173 (sv "/claim/cut.py" 172), en P "__cached__" 174 (Value.none), en P "eq" 196 (Value.ref 21), en P "ne" 204 (Value.ref 28), en P "and_" 212 (Value.ref 35), en P "lshift" 220 (Value.ref 42), en P "neg" 227 (Value.ref 49), en P "xor" 235 (Value.ref 56), en P "concat" 244 (Value.ref 63), en P "countOf" 254 (Value.ref 70), en P "getitem" 262 (Value.ref 77), en P "indexOf" 272 (Value.ref 84), en P "setitem" 281 (Value.ref 91), en P "b1_set" 343 (Value.ref 99), en P "in_table_b1" 350 (Value.ref 109), en P "b3_exceptions" 2301 (Value.ref 110), en P "map_table_b3" 2309 (Value.ref 155), en P "_law_gap" 2318 (Value.ref 162), en P "_law_great" 2326 (Value.ref 169), en P "_law_tell" 2340 (Value.ref 176), en P "_law_walk" 2346 (Value.ref 181), en P "law" 2352 (Value.ref 186)]
def cs12L : List Value := [Value.int 2 0, Value.int 0 0, Value.ref 20, Value.int 4 0, Value.int 0 0, Value.ref 27, Value.int 6 0, Value.int 0 0, Value.ref 34, Value.int 8 0, Value.int 0 0, Value.ref 41, Value.int 10 0, Value.int 0 0, Value.ref 48, Value.int 12 0, Value.int 0 0, Value.ref 55, Value.int 14 0, Value.int 0 0, Value.ref 62, Value.int 19 0, Value.int 0 0, Value.ref 69, Value.int 25 0, Value.int 0 0, Value.ref 76, Value.int 27 0, Value.int 0 0, Value.ref 83, Value.int 33 0, Value.int 0 0, Value.ref 90, Value.int 37 0, Value.int 0 0, Value.ref 108, Value.int 40 0, Value.int 0 0, Value.ref 154, Value.int 46 0, Value.int 0 0, Value.ref 161, Value.int 50 0, Value.int 0 0, Value.ref 168, Value.int 52 0, Value.int 0 0, Value.ref 175, Value.int 65 0, Value.int 0 0, Value.ref 180, Value.int 77 0, Value.int 0 0, Value.ref 185]
def o99 (P : Params) : Obj := { cls := Value.type "set", data := Data.set #[(65024, Value.int 65024 300), (65025, Value.int 65025 301), (65026, Value.int 65026 302), (65027, Value.int 65027 303), (65028, Value.int 65028 304), (65029, Value.int 65029 305), (6150, Value.int 6150 286), (65030, Value.int 65030 306), (65031, Value.int 65031 307), (65032, Value.int 65032 308), (65033, Value.int 65033 309), (6155, Value.int 6155 287), (6156, Value.int 6156 288), (6157, Value.int 6157 289), (8203, Value.int 8203 290), (8204, Value.int 8204 291), (8205, Value.int 8205 292), (65034, Value.int 65034 310), (65035, Value.int 65035 311), (65036, Value.int 65036 312), (65037, Value.int 65037 313), (65038, Value.int 65038 314), (65039, Value.int 65039 315), (173, Value.int 173 284), (847, Value.int 847 285), (8288, Value.int 8288 293), (65279, Value.int 65279 294)] 29 { mask := 127, place := #[0, 1, 2, 3, 4, 5, 6, 7, 8, 9, 10, 11, 12, 13, 14, 15, 16, 17, 18, 19, 20, 21, 22, 45, 79, 96, 127], dummies := #[], finger := 0, led := !P.followText "set-order", moves := 2, plain := true } }
def ns3 (P : Params) (v : Value) (n : Nat) : Obj := { cls := .type "dict", data := .dict (en P "__name__" 165 v :: (ns3L P).take n).toArray (n + 1) }
def cs12 (k : Nat) : Obj := { cls := .none, data := .fields (cs12L.take (3 * k)).toArray }
def dO (es : List DictEntry) (n : Nat) : Obj := { cls := .type "dict", data := .dict es.toArray n }
def nmA : Value := (.str (Str.ofString "cpy313.stringprep") 282)
def nmZ : Value := (.str (Str.ofString "law_pg0231_01") 2310)
noncomputable def T00 (P : Params) : BT := (.node (boot_o_0 P) (.node (boot_o_1 P) (.node (boot_o_3 P) (.node (boot_o_7 P) .nil .nil) (.node (o11 P) .nil .nil)) (.node (boot_o_5 P) (.node (boot_o_9 P) .nil .nil) (.node (o13 P) .nil .nil))) (.node (boot_o_2 P) (.node (boot_o_4 P) (.node (boot_o_8 P) .nil .nil) (.node (cs12 0) .nil .nil)) (.node (boot_o_6 P) (.node (boot_o_10 P) .nil .nil) (.node (o14 P) .nil .nil))))
noncomputable def T12 (P : Params) : BT := (.node (boot_o_0 P) (.node (boot_o_1 P) (.node (ns3 P nmA 19) (.node (boot_o_7 P) (.node (o15 P) (.node (o31 P) (.node (o63 P) .nil .nil) .nil) (.node (o47 P) (.node (o79 P) .nil .nil) .nil)) (.node (o23 P) (.node (o39 P) (.node (o71 P) .nil .nil) .nil) (.node (o55 P) (.node (o87 P) .nil .nil) .nil))) (.node (o11 P) (.node (o19 P) (.node (o35 P) (.node (o67 P) .nil .nil) .nil) (.node (o51 P) (.node (o83 P) .nil .nil) .nil)) (.node (o27 P) (.node (o43 P) (.node (o75 P) .nil .nil) .nil) (.node (o59 P) (.node (o91 P) .nil .nil) .nil)))) (.node (boot_o_5 P) (.node (boot_o_9 P) (.node (o17 P) (.node (o33 P) (.node (o65 P) .nil .nil) .nil) (.node (o49 P) (.node (o81 P) .nil .nil) .nil)) (.node (o25 P) (.node (o41 P) (.node (o73 P) .nil .nil) .nil) (.node (o57 P) (.node (o89 P) .nil .nil) .nil))) (.node (o13 P) (.node (o21 P) (.node (o37 P) (.node (o69 P) .nil .nil) .nil) (.node (o53 P) (.node (o85 P) .nil .nil) .nil)) (.node (o29 P) (.node (o45 P) (.node (o77 P) .nil .nil) .nil) (.node (o61 P) .nil .nil))))) (.node (boot_o_2 P) (.node (boot_o_4 P) (.node (boot_o_8 P) (.node (o16 P) (.node (o32 P) (.node (o64 P) .nil .nil) .nil) (.node (o48 P) (.node (o80 P) .nil .nil) .nil)) (.node (o24 P) (.node (o40 P) (.node (o72 P) .nil .nil) .nil) (.node (o56 P) (.node (o88 P) .nil .nil) .nil))) (.node (cs12 11) (.node (o20 P) (.node (o36 P) (.node (o68 P) .nil .nil) .nil) (.node (o52 P) (.node (o84 P) .nil .nil) .nil)) (.node (o28 P) (.node (o44 P) (.node (o76 P) .nil .nil) .nil) (.node (o60 P) .nil .nil)))) (.node (boot_o_6 P) (.node (boot_o_10 P) (.node (o18 P) (.node (o34 P) (.node (o66 P) .nil .nil) .nil) (.node (o50 P) (.node (o82 P) .nil .nil) .nil)) (.node (o26 P) (.node (o42 P) (.node (o74 P) .nil .nil) .nil) (.node (o58 P) (.node (o90 P) .nil .nil) .nil))) (.node (o14 P) (.node (o22 P) (.node (o38 P) (.node (o70 P) .nil .nil) .nil) (.node (o54 P) (.node (o86 P) .nil .nil) .nil)) (.node (o30 P) (.node (o46 P) (.node (o78 P) .nil .nil) .nil) (.node (o62 P) .nil .nil))))))
noncomputable def T13 (P : Params) : BT := (.node (boot_o_0 P) (.node (boot_o_1 P) (.node (ns3 P nmA 20) (.node (boot_o_7 P) (.node (o15 P) (.node (o31 P) (.node (o63 P) .nil .nil) (.node (o95 P) .nil .nil)) (.node (o47 P) (.node (o79 P) .nil .nil) .nil)) (.node (o23 P) (.node (o39 P) (.node (o71 P) .nil .nil) .nil) (.node (o55 P) (.node (o87 P) .nil .nil) .nil))) (.node (o11 P) (.node (o19 P) (.node (o35 P) (.node (o67 P) .nil .nil) (.node (o99 P) .nil .nil)) (.node (o51 P) (.node (o83 P) .nil .nil) .nil)) (.node (o27 P) (.node (o43 P) (.node (o75 P) .nil .nil) .nil) (.node (o59 P) (.node (o91 P) .nil .nil) .nil)))) (.node (boot_o_5 P) (.node (boot_o_9 P) (.node (o17 P) (.node (o33 P) (.node (o65 P) .nil .nil) (.node (o97 P) .nil .nil)) (.node (o49 P) (.node (o81 P) .nil .nil) .nil)) (.node (o25 P) (.node (o41 P) (.node (o73 P) .nil .nil) .nil) (.node (o57 P) (.node (o89 P) .nil .nil) .nil))) (.node (o13 P) (.node (o21 P) (.node (o37 P) (.node (o69 P) .nil .nil) (.node (o101 P) .nil .nil)) (.node (o53 P) (.node (o85 P) .nil .nil) .nil)) (.node (o29 P) (.node (o45 P) (.node (o77 P) .nil .nil) .nil) (.node (o61 P) (.node (o93 P) .nil .nil) .nil))))) (.node (boot_o_2 P) (.node (boot_o_4 P) (.node (boot_o_8 P) (.node (o16 P) (.node (o32 P) (.node (o64 P) .nil .nil) (.node (o96 P) .nil .nil)) (.node (o48 P) (.node (o80 P) .nil .nil) .nil)) (.node (o24 P) (.node (o40 P) (.node (o72 P) .nil .nil) .nil) (.node (o56 P) (.node (o88 P) .nil .nil) .nil))) (.node (cs12 11) (.node (o20 P) (.node (o36 P) (.node (o68 P) .nil .nil) (.node (o100 P) .nil .nil)) (.node (o52 P) (.node (o84 P) .nil .nil) .nil)) (.node (o28 P) (.node (o44 P) (.node (o76 P) .nil .nil) .nil) (.node (o60 P) (.node (o92 P) .nil .nil) .nil)))) (.node (boot_o_6 P) (.node (boot_o_10 P) (.node (o18 P) (.node (o34 P) (.node (o66 P) .nil .nil) (.node (o98 P) .nil .nil)) (.node (o50 P) (.node (o82 P) .nil .nil) .nil)) (.node (o26 P) (.node (o42 P) (.node (o74 P) .nil .nil) .nil) (.node (o58 P) (.node (o90 P) .nil .nil) .nil))) (.node (o14 P) (.node (o22 P) (.node (o38 P) (.node (o70 P) .nil .nil) (.node (o102 P) .nil .nil)) (.node (o54 P) (.node (o86 P) .nil .nil) .nil)) (.node (o30 P) (.node (o46 P) (.node (o78 P) .nil .nil) .nil) (.node (o62 P) (.node (o94 P) .nil .nil) .nil))))))
noncomputable def T14 (P : Params) : BT := (.node (boot_o_0 P) (.node (boot_o_1 P) (.node (ns3 P nmA 21) (.node (boot_o_7 P) (.node (o15 P) (.node (o31 P) (.node (o63 P) .nil .nil) (.node (o95 P) .nil .nil)) (.node (o47 P) (.node (o79 P) .nil .nil) .nil)) (.node (o23 P) (.node (o39 P) (.node (o71 P) .nil .nil) (.node (o103 P) .nil .nil)) (.node (o55 P) (.node (o87 P) .nil .nil) .nil))) (.node (o11 P) (.node (o19 P) (.node (o35 P) (.node (o67 P) .nil .nil) (.node (o99 P) .nil .nil)) (.node (o51 P) (.node (o83 P) .nil .nil) .nil)) (.node (o27 P) (.node (o43 P) (.node (o75 P) .nil .nil) (.node (o107 P) .nil .nil)) (.node (o59 P) (.node (o91 P) .nil .nil) .nil)))) (.node (boot_o_5 P) (.node (boot_o_9 P) (.node (o17 P) (.node (o33 P) (.node (o65 P) .nil .nil) (.node (o97 P) .nil .nil)) (.node (o49 P) (.node (o81 P) .nil .nil) .nil)) (.node (o25 P) (.node (o41 P) (.node (o73 P) .nil .nil) (.node (o105 P) .nil .nil)) (.node (o57 P) (.node (o89 P) .nil .nil) .nil))) (.node (o13 P) (.node (o21 P) (.node (o37 P) (.node (o69 P) .nil .nil) (.node (o101 P) .nil .nil)) (.node (o53 P) (.node (o85 P) .nil .nil) .nil)) (.node (o29 P) (.node (o45 P) (.node (o77 P) .nil .nil) (.node (o109 P) .nil .nil)) (.node (o61 P) (.node (o93 P) .nil .nil) .nil))))) (.node (boot_o_2 P) (.node (boot_o_4 P) (.node (boot_o_8 P) (.node (o16 P) (.node (o32 P) (.node (o64 P) .nil .nil) (.node (o96 P) .nil .nil)) (.node (o48 P) (.node (o80 P) .nil .nil) .nil)) (.node (o24 P) (.node (o40 P) (.node (o72 P) .nil .nil) (.node (o104 P) .nil .nil)) (.node (o56 P) (.node (o88 P) .nil .nil) .nil))) (.node (cs12 12) (.node (o20 P) (.node (o36 P) (.node (o68 P) .nil .nil) (.node (o100 P) .nil .nil)) (.node (o52 P) (.node (o84 P) .nil .nil) .nil)) (.node (o28 P) (.node (o44 P) (.node (o76 P) .nil .nil) (.node (o108 P) .nil .nil)) (.node (o60 P) (.node (o92 P) .nil .nil) .nil)))) (.node (boot_o_6 P) (.node (boot_o_10 P) (.node (o18 P) (.node (o34 P) (.node (o66 P) .nil .nil) (.node (o98 P) .nil .nil)) (.node (o50 P) (.node (o82 P) .nil .nil) .nil)) (.node (o26 P) (.node (o42 P) (.node (o74 P) .nil .nil) (.node (o106 P) .nil .nil)) (.node (o58 P) (.node (o90 P) .nil .nil) .nil))) (.node (o14 P) (.node (o22 P) (.node (o38 P) (.node (o70 P) .nil .nil) (.node (o102 P) .nil .nil)) (.node (o54 P) (.node (o86 P) .nil .nil) .nil)) (.node (o30 P) (.node (o46 P) (.node (o78 P) .nil .nil) .nil) (.node (o62 P) (.node (o94 P) .nil .nil) .nil))))))
end Mine
end

section -- Head4
open PySem PySem.W PyProof.Rows PySem.Calls
set_option Elab.async false
set_option maxRecDepth 100000
set_option linter.all false
namespace Mine
abbrev bE : List Stmt := behindTheImports prg
def envE : Env := { scope := prg.main.scope, locals := mainNs, globals := mainNs, cells := [], code := .ref 13, frame := some 14 }
abbrev p00 : Pos := ⟨0, 0, 0, 0⟩
abbrev cE : Code := .body bE envE
abbrev ann0 : Option Value := some (.ref 6)
def stT (T : Params → BT) (n tk : Nat) (w : World) (os : OsState) : SharedT := ⟨T w.params, n, {}, #[], {}, tk, os⟩
noncomputable def S00 (w : World) (os : OsState) : Shared := ⟨boot_heap w.params, #[], boot_drawn, boot_toks, os⟩
set_option maxHeartbeats 0
theorem pre_go (w : World) (os : OsState) : topGo treeTable prg w 11 ann0 12 (S00 w os) (topStub prg) = some ((stT T00 15 187 w os).abs, ⟨denote treeTable cE, cE, p00, [topFrame p00]⟩) := by kernel_rfl
theorem seg_a (w : World) (os : OsState) : segRunT treeTable prg w 11 ann0 1 500 (stT T00 15 187 w os) (piecesOf (bE.take 13) envE cE p00 [topFrame p00]) = some (.next, stT T12 92 284 w os, cE, ⟨35, 0, 35, 8⟩) := by kernel_rfl
end Mine
end

section -- Head5
open PySem PySem.W PyProof.Rows PySem.Calls
set_option Elab.async false
set_option maxRecDepth 100000
set_option linter.all false
namespace Mine
set_option maxHeartbeats 0
theorem seg_b0 (w : World) (os : OsState) : segRunT treeTable prg (w.withFollow "special-get-raises" false) 11 ann0 1 1100 (stT T12 92 284 (w.withFollow "special-get-raises" false) os) (piecesOf [bodyAt 13] envE cE ⟨35, 0, 35, 8⟩ [topFrame p00]) =
    some (.next, stT T13 103 344 (w.withFollow "special-get-raises" false) os, cE, ⟨36, 0, 36, 6⟩) := by
  rw [PySem.W.Fast.te10110043849684766642, PySem.W.Fast.te14364793385576792824]; kernel_rfl
theorem seg_b1 (w : World) (os : OsState) : segRunT treeTable prg (w.withFollow "special-get-raises" true) 11 ann0 1 1100 (stT T12 92 284 (w.withFollow "special-get-raises" true) os) (piecesOf [bodyAt 13] envE cE ⟨35, 0, 35, 8⟩ [topFrame p00]) =
    some (.next, stT T13 103 344 (w.withFollow "special-get-raises" true) os, cE, ⟨36, 0, 36, 6⟩) := by
  rw [PySem.W.Fast.te10110043849684766642, PySem.W.Fast.te14364793385576792824]; kernel_rfl
theorem seg_b (b : Bool) (w : World) (os : OsState) : segRunT treeTable prg (w.withFollow "special-get-raises" b) 11 ann0 1 1100 (stT T12 92 284 (w.withFollow "special-get-raises" b) os) (piecesOf [bodyAt 13] envE cE ⟨35, 0, 35, 8⟩ [topFrame p00]) =
    some (.next, stT T13 103 344 (w.withFollow "special-get-raises" b) os, cE, ⟨36, 0, 36, 6⟩) := by
  cases b
  · exact seg_b0 w os
  · exact seg_b1 w os
end Mine
end

section -- Head6
open PySem PySem.W PyProof.Rows PySem.Calls
set_option Elab.async false
set_option maxRecDepth 100000
set_option linter.all false
namespace Mine

/-- a heap by its list of objects -/
def hp (l : List Obj) : Heap := ⟨l.toArray, {}⟩
theorem hp_size (l : List Obj) : (hp l).objs.size = l.length := rfl
theorem hp_push (l : List Obj) (o : Obj) : (hp l).push o = hp (l ++ [o]) := by
  show Heap.mk (l.toArray.push o) {} = Heap.mk (l ++ [o]).toArray {}
  rw [List.push_toArray]
theorem hp_at (l r : List Obj) (o : Obj) (ha : alive o = some o) : (hp (l ++ o :: r)).get? l.length = some o := by
  unfold Heap.get? hp
  have e : (l ++ o :: r).toArray[l.length]? = some o := by simp
  rw [e]
  obtain ⟨c, d, dt, sl⟩ := o
  cases dt <;> first | rfl | cases ha
theorem hp_update (l r : List Obj) (o : Obj) (F : Obj → Obj) : (hp (l ++ o :: r)).update l.length F = hp (l ++ F o :: r) := by
  show Heap.mk ((l ++ o :: r).toArray.modify l.length F) {} = Heap.mk _ {}
  congr 1
  apply Array.ext_getElem?
  intro i
  rw [Array.getElem?_modify]
  by_cases h : l.length = i
  · subst h; simp
  · rw [if_neg h]
    simp only [List.getElem?_toArray]
    by_cases q : i < l.length
    · rw [List.getElem?_append_left q, List.getElem?_append_left q]
    · obtain ⟨j, rfl⟩ : ∃ j, i = l.length + (j + 1) := ⟨i - l.length - 1, by omega⟩
      rw [List.getElem?_append_right (by omega), List.getElem?_append_right (by omega), show l.length + (j + 1) - l.length = j + 1 by omega]
      rfl
theorem dO_alive (es : List DictEntry) (n : Nat) : alive (dO es n) = some (dO es n) := rfl

section
variable {w : World} {m₀ : Nat} {ann : Option Value} {g : Array GenState} {d : Drawn} {tk : Nat} {os : OsState} {l r : List Obj}

theorem R_special {k : Int} {t : Tok} {U : Sem Value} {s : Shared} : Reach prg w m₀ ann 5 (callSpecialIfBoundUnlessNone? (.int k t) "__hash__" U) s (some (.int (rawHash k) s.toks)) { s with toks := s.toks + 1 } := by
  intro K H gd lv c q f B
  refine ⟨q, fun N r hr => ?_⟩
  obtain ⟨h, gs, dr, t', o⟩ := s
  rw [Nat.add_comm]
  have e := World.withFollow_self w "special-get-raises"
  have := hash_go (w.params.followText "special-get-raises") w m₀ ann h gs dr t' o k t U K H gd lv c q f B
  rw [e] at this
  exact go_top this hr

theorem R_pyHash {k : Int} {t : Tok} {s : Shared} : Reach prg w m₀ ann 5 (pyHash (.int k t)) s (hashInt k) { s with toks := s.toks + 1 } := by
  have hr := rawHash_range k
  unfold pyHash
  have h1 : specialOf (.int k t) "__hash__" = .pure (some (.builtin "int.__hash__")) := by kernel_rfl
  have hv : [Value.int k t].any Value.onHeap = false := rfl
  refine Reach.bind (b := 0) (b' := 5) (v := ()) (s₁ := s) ?_ ?_
  · rw [cRoomFor, if_neg (by rw [hv]; exact Bool.false_ne_true)]; exact Reach.pure
  refine Reach.bind (b := 0) (b' := 5) (v := some (.builtin "int.__hash__")) (s₁ := s) (by rw [h1]; exact Reach.pure) ?_
  show Reach _ _ _ _ 5 (if (some (Value.builtin "int.__hash__") == some Value.none) = true then _ else _) _ _ _
  rw [if_neg (by rw [beq_builtin_none]; exact Bool.false_ne_true)]
  refine Reach.bind (b := 0) (b' := 5) (v := some (.builtin "int.__hash__")) (s₁ := s) (by rw [h1]; exact Reach.pure) ?_
  show Reach _ _ _ _ 5 (callSpecialIfBoundUnlessNone? (.int k t) "__hash__" _ >>= _) _ _ _
  refine Reach.bind (b := 5) (b' := 0) R_special ?_
  show Reach _ _ _ _ 0 (if (decide (-(2 : Int) ^ 63 ≤ rawHash k) && decide (rawHash k < 2 ^ 63)) = true then _ else _) _ _ _
  rw [if_pos (by rw [decide_eq_true hr.1, decide_eq_true hr.2]; rfl)]
  exact Reach.pure
end
end Mine
end

section -- Head7
open PySem PySem.W PyProof.Rows PySem.Calls
set_option Elab.async false
set_option maxRecDepth 100000
set_option linter.all false
namespace Mine
section
variable {w : World} {m₀ : Nat} {ann : Option Value} {g : Array GenState} {d : Drawn} {tk : Nat} {os : OsState} {l r : List Obj}

theorem R_entries {a : Addr} {part : Option Value} {es : List DictEntry} {n : Nat} {s : Shared} (ho : s.heap.get? a = some (dO es n)) : Reach prg w m₀ ann 1 (dictEntries a part) s es.toArray s := by
  unfold dictEntries
  exact Reach.bind (b := 1) (b' := 0) (x := loadPart a part) (Reach.load ho Reach.pure) Reach.pure
theorem R_epoch {a : Addr} {part : Option Value} {es : List DictEntry} {n : Nat} {s : Shared} (ho : s.heap.get? a = some (dO es n)) : Reach prg w m₀ ann 1 (dictEpoch a part) s n s := by
  unfold dictEpoch
  exact Reach.bind (b := 1) (b' := 0) (x := loadPart a part) (Reach.load ho Reach.pure) Reach.pure

theorem places_none {es : List DictEntry} {h : Int} (hno : ∀ e ∈ es, e.hash ≠ h) : placesWithHash es.toArray.size (fun i => es.toArray[i]?.map (·.hash)) h = [] := by
  unfold placesWithHash
  rw [List.filter_eq_nil_iff]
  intro i hi hc
  have hl : i < es.length := by simpa using hi
  simp only [List.getElem?_toArray, List.getElem?_eq_getElem hl, Option.map_some, beq_iff_eq, Option.some.injEq] at hc
  exact hno _ (List.getElem_mem hl) hc

theorem R_find {a : Addr} {es : List DictEntry} {n : Nat} {s : Shared} {k h : Int} {t : Tok} (ho : s.heap.get? a = some (dO es n)) (hno : ∀ e ∈ es, e.hash ≠ h) : Reach prg w m₀ ann 1 (dictFind a (.int k t) h) s none s := by
  have hp := places_none hno
  unfold dictFind
  refine Reach.holding ?_
  refine Reach.bind (b := 1) (b' := 0) (R_entries ho) ?_
  dsimp only
  rw [hp]
  exact Reach.pure

theorem R_push {es : List DictEntry} {n : Nat} {part : Option Value} {e : DictEntry} (hm : m₀ ≤ l.length) (hs : es.length < 100000) :
    Reach prg w m₀ ann 3 (updateDictKeys l.length (·.push e) part) ⟨hp (l ++ dO es n :: r), g, d, tk, os⟩ () ⟨hp (l ++ dO (es ++ [e]) (n + 1) :: r), g, d, tk, os⟩ := by
  have h1 := hp_at l r (dO es n) (dO_alive _ _)
  have h2 := hp_at l r (dO (es ++ [e]) (n + 1)) (dO_alive _ _)
  have h3 : (hp (l ++ dO es n :: r)).update l.length (Obj.mapDictKeys (·.push e)) = hp (l ++ dO (es ++ [e]) (n + 1) :: r) := by
    rw [hp_update]
    show hp (l ++ { cls := .type "dict", data := .dict (es.toArray.push e) (n + 1) } :: r) = _
    rw [List.push_toArray]; rfl
  unfold updateDictKeys
  refine Reach.bind (b := 1) (b' := 2) (x := loadPart l.length part) (Reach.load h1 Reach.pure) ?_
  show Reach _ _ _ _ 2 (updatePart l.length part (Obj.mapDictKeys (·.push e)) >>= fun _ => lookBehind l.length part) _ _ _
  refine Reach.bind (b := 1) (b' := 1) (x := updatePart l.length part (Obj.mapDictKeys (·.push e))) (Reach.update hm (by rw [h1]; rfl) Reach.pure) ?_
  rw [h3]
  unfold lookBehind
  refine Reach.bind (b := 1) (b' := 0) (x := loadPart l.length part) (Reach.load h2 Reach.pure) ?_
  have h4 : (dO (es ++ [e]) (n + 1)).data.pastItsLine = none := by
    show (if (es ++ [e]).toArray.size > sizeLine + 1 then some "dict:memory" else none) = none
    rw [if_neg]
    have : sizeLine = 16777216 := rfl
    rw [List.size_toArray, List.length_append, List.length_singleton]
    omega
  dsimp only
  rw [h4]
  exact Reach.pure

/-- a key's entry -/
def ent (k : Int) (t : Tok) (v : Value) : DictEntry := ⟨hashInt k, .int k t, v⟩

theorem R_put {es : List DictEntry} {n : Nat} {k : Int} {t : Tok} {v : Value} (hm : m₀ ≤ l.length) (hs : es.length < 100000) (hno : ∀ e ∈ es, e.hash ≠ hashInt k) :
    Reach prg w m₀ ann 4 (dictPut l.length (hashInt k) (.int k t) v) ⟨hp (l ++ dO es n :: r), g, d, tk, os⟩ () ⟨hp (l ++ dO (es ++ [ent k t v]) (n + 1) :: r), g, d, tk, os⟩ := by
  unfold dictPut
  exact Reach.bind (b := 1) (b' := 3) (R_find (hp_at l r (dO es n) (dO_alive _ _)) hno) (R_push hm hs)

theorem R_set {es : List DictEntry} {n : Nat} {k : Int} {t : Tok} {v : Value} (hm : m₀ ≤ l.length) (hs : es.length < 100000) (hno : ∀ e ∈ es, e.hash ≠ hashInt k) :
    Reach prg w m₀ ann 10 (dictSet l.length (.int k t) v) ⟨hp (l ++ dO es n :: r), g, d, tk, os⟩ () ⟨hp (l ++ dO (es ++ [ent k t v]) (n + 1) :: r), g, d, tk + 1, os⟩ := by
  unfold dictSet
  refine Reach.holding (Reach.bind (b := 5) (b' := 5) R_pyHash ?_)
  unfold dictSetHashed
  refine Reach.holding (Reach.bind (b := 1) (b' := 4) (R_find (hp_at l r (dO es n) (dO_alive _ _)) hno) ?_)
  exact Reach.bind (b := 1) (b' := 3) (x := rule _) (Reach.rule Reach.pure) (R_push hm hs)
end
end Mine
end

section -- Head8
open PySem PySem.W PyProof.Rows PySem.Calls
set_option Elab.async false
set_option maxRecDepth 100000
set_option linter.all false
namespace Mine
section
variable {w : World} {m₀ : Nat} {ann : Option Value} {g : Array GenState} {d : Drawn} {tk : Nat} {os : OsState} {l r : List Obj}

def tick (s : Shared) : Shared := { s with toks := s.toks + 1 }
/-- a pair of a display: an int, a text -/
def PairOk (w : World) (m₀ : Nat) (ann : Option Value) (p : Sem Value × Sem Value) (k : Int) (x : Str) : Prop :=
  ∀ s, Reach prg w m₀ ann 1 p.1 s (.int k s.toks) (tick s) ∧ Reach prg w m₀ ann 2 p.2 s (.str x s.toks) (tick s)
def AllOk (w : World) (m₀ : Nat) (ann : Option Value) : List (Sem Value × Sem Value) → List (Int × Str) → Prop
  | [], [] => True
  | p :: ps, kx :: r => PairOk w m₀ ann p kx.1 kx.2 ∧ AllOk w m₀ ann ps r
  | _, _ => False
theorem AllOk.len : ∀ {ps : List (Sem Value × Sem Value)} {kxs : List (Int × Str)}, AllOk w m₀ ann ps kxs → ps.length = kxs.length
  | [], [], _ => rfl
  | _ :: _, _ :: _, h => by rw [List.length_cons, List.length_cons, h.2.len]
  | [], _ :: _, h => h.elim
  | _ :: _, [], h => h.elim
theorem AllOk.take : ∀ {ps : List (Sem Value × Sem Value)} {kxs : List (Int × Str)} (n : Nat), AllOk w m₀ ann ps kxs → AllOk w m₀ ann (ps.take n) (kxs.take n)
  | _, _, 0, _ => trivial
  | [], [], _ + 1, _ => trivial
  | _ :: _, _ :: _, n + 1, h => ⟨h.1, h.2.take n⟩
  | [], _ :: _, _ + 1, h => h.elim
  | _ :: _, [], _ + 1, h => h.elim
theorem AllOk.drop : ∀ {ps : List (Sem Value × Sem Value)} {kxs : List (Int × Str)} (n : Nat), AllOk w m₀ ann ps kxs → AllOk w m₀ ann (ps.drop n) (kxs.drop n)
  | _, _, 0, h => h
  | [], [], _ + 1, _ => trivial
  | _ :: _, _ :: _, n + 1, h => h.2.drop n
  | [], _ :: _, _ + 1, h => h.elim
  | _ :: _, [], _ + 1, h => h.elim

def ents3 : Nat → List (Int × Str) → List DictEntry
  | _, [] => []
  | t, (k, x) :: r => ent k t (.str x (t + 1)) :: ents3 (t + 3) r
def ents2 : Nat → List (Int × Str) → List DictEntry
  | _, [] => []
  | t, (k, x) :: r => ent k t (.str x (t + 1)) :: ents2 (t + 2) r
theorem ents3_len : ∀ (t : Nat) (l : List (Int × Str)), (ents3 t l).length = l.length
  | _, [] => rfl
  | t, (k, x) :: r => by show (ents3 (t + 3) r).length + 1 = _; rw [ents3_len]; rfl
theorem ents2_len : ∀ (t : Nat) (l : List (Int × Str)), (ents2 t l).length = l.length
  | _, [] => rfl
  | t, (k, x) :: r => by show (ents2 (t + 2) r).length + 1 = _; rw [ents2_len]; rfl

/-- no key's hash stands yet, and they are apart -/
def Apart (es : List DictEntry) (kxs : List (Int × Str)) : Prop := (∀ e ∈ es, ∀ p ∈ kxs, e.hash ≠ hashInt p.1) ∧ kxs.Pairwise fun a b => hashInt a.1 ≠ hashInt b.1
theorem Apart.tail {es : List DictEntry} {k : Int} {x : Str} {t : Tok} {v : Value} {r : List (Int × Str)} (h : Apart es ((k, x) :: r)) : (∀ e ∈ es, e.hash ≠ hashInt k) ∧ Apart (es ++ [ent k t v]) r := by
  obtain ⟨h1, h2⟩ := h
  obtain ⟨h3, h4⟩ := List.pairwise_cons.mp h2
  refine ⟨fun e he => h1 e he _ (.head _), fun e he p hp => ?_, h4⟩
  rcases List.mem_append.mp he with he | he
  · exact h1 e he p (.tail _ hp)
  · obtain rfl := List.mem_singleton.mp he
    exact h3 p hp

/-- a loop of a display, turn by turn -/
theorem R_loop3 {f : Sem Value × Sem Value → PUnit → Sem (ForInStep PUnit)} (hm : m₀ ≤ l.length)
    (hf : ∀ p k x es n tk, PairOk w m₀ ann p k x → es.length < 100000 → (∀ e ∈ es, e.hash ≠ hashInt k) →
      Reach prg w m₀ ann 15 (f p PUnit.unit) ⟨hp (l ++ dO es n :: r), g, d, tk, os⟩ (.yield PUnit.unit) ⟨hp (l ++ dO (es ++ [ent k tk (.str x (tk + 1))]) (n + 1) :: r), g, d, tk + 3, os⟩) :
    ∀ (ps : List (Sem Value × Sem Value)) (kxs : List (Int × Str)) (es : List DictEntry) (n tk : Nat), AllOk w m₀ ann ps kxs → Apart es kxs → es.length + kxs.length < 100000 →
      Reach prg w m₀ ann (15 * ps.length) (forIn ps PUnit.unit f) ⟨hp (l ++ dO es n :: r), g, d, tk, os⟩ PUnit.unit ⟨hp (l ++ dO (es ++ ents3 tk kxs) (n + kxs.length) :: r), g, d, tk + 3 * kxs.length, os⟩
  | [], [], es, n, tk, _, _, _ => by
    show Reach _ _ _ _ 0 (.pure PUnit.unit) _ _ _
    have e : es ++ ents3 tk [] = es := List.append_nil es
    rw [e]; exact Reach.pure
  | p :: ps, (k, x) :: kr, es, n, tk, ha, hp', hl => by
    obtain ⟨h1, h2⟩ := hp'.tail (t := tk) (v := .str x (tk + 1))
    rw [List.length_cons] at hl
    have ih := R_loop3 hm hf ps kr (es ++ [ent k tk (.str x (tk + 1))]) (n + 1) (tk + 3) ha.2 h2 (by rw [List.length_append, List.length_singleton]; omega)
    rw [List.forIn_cons]
    refine Reach.le (Reach.bind (b := 15) (b' := 15 * ps.length) (hf p k x es n tk ha.1 (by omega) h1) ?_) (by rw [List.length_cons]; omega)
    have e1 : es ++ ents3 tk ((k, x) :: kr) = es ++ [ent k tk (.str x (tk + 1))] ++ ents3 (tk + 3) kr := by rw [List.append_assoc]; rfl
    have e2 : n + ((k, x) :: kr).length = n + 1 + kr.length := by rw [List.length_cons]; omega
    have e3 : tk + 3 * ((k, x) :: kr).length = tk + 3 + 3 * kr.length := by rw [List.length_cons]; omega
    rw [e1, e2, e3]
    exact ih
  | [], _ :: _, _, _, _, h, _, _ => h.elim
  | _ :: _, [], _, _, _, h, _, _ => h.elim

theorem R_pairs : ∀ (ps : List (Sem Value × Sem Value)) (kxs : List (Int × Str)) (s : Shared), AllOk w m₀ ann ps kxs →
      Reach prg w m₀ ann (5 * ps.length) (evalPairs ps) s ((ents2 s.toks kxs).map fun e => (e.key, e.val)) { s with toks := s.toks + 2 * kxs.length }
  | [], [], s, _ => Reach.pure
  | p :: ps, (k, x) :: kr, s, ha => by
    have ih := R_pairs ps kr (tick (tick s)) ha.2
    have e3 : s.toks + 2 * ((k, x) :: kr).length = (tick (tick s)).toks + 2 * kr.length := by
      show s.toks + 2 * (kr.length + 1) = s.toks + 1 + 1 + 2 * kr.length; omega
    rw [e3]
    refine Reach.le (b := 1 + (2 + (5 * ps.length + 0))) (Reach.bind (ha.1 s).1 (Reach.bind (Reach.holding (ha.1 (tick s)).2) (Reach.bind (Reach.holding ih) Reach.pure))) (by rw [List.length_cons]; omega)
  | [], _ :: _, _, h => h.elim
  | _ :: _, [], _, h => h.elim

/-- the loop that sets what was read -/
theorem R_loop2 {f : Value × Value → PUnit → Sem (ForInStep PUnit)} (hm : m₀ ≤ l.length)
    (hf : ∀ k t v es n tk, es.length < 100000 → (∀ e ∈ es, e.hash ≠ hashInt k) →
      Reach prg w m₀ ann 15 (f (.int k t, v) PUnit.unit) ⟨hp (l ++ dO es n :: r), g, d, tk, os⟩ (.yield PUnit.unit) ⟨hp (l ++ dO (es ++ [ent k t v]) (n + 1) :: r), g, d, tk + 1, os⟩) :
    ∀ (t : Nat) (kxs : List (Int × Str)) (es : List DictEntry) (n tk : Nat), Apart es kxs → es.length + kxs.length < 100000 →
      Reach prg w m₀ ann (15 * kxs.length) (forIn ((ents2 t kxs).map fun e => (e.key, e.val)) PUnit.unit f) ⟨hp (l ++ dO es n :: r), g, d, tk, os⟩ PUnit.unit ⟨hp (l ++ dO (es ++ ents2 t kxs) (n + kxs.length) :: r), g, d, tk + kxs.length, os⟩
  | t, [], es, n, tk, _, _ => by
    show Reach _ _ _ _ 0 (.pure PUnit.unit) _ _ _
    have e : es ++ ents2 t [] = es := List.append_nil es
    rw [e]; exact Reach.pure
  | t, (k, x) :: kr, es, n, tk, hp', hl => by
    obtain ⟨h1, h2⟩ := hp'.tail (t := t) (v := .str x (t + 1))
    rw [List.length_cons] at hl
    have ih := R_loop2 hm hf (t + 2) kr (es ++ [ent k t (.str x (t + 1))]) (n + 1) (tk + 1) h2 (by rw [List.length_append, List.length_singleton]; omega)
    show Reach _ _ _ _ _ (forIn ((Value.int k t, Value.str x (t + 1)) :: (ents2 (t + 2) kr).map fun e => (e.key, e.val)) PUnit.unit f) _ _ _
    rw [List.forIn_cons]
    refine Reach.le (Reach.bind (b := 15) (b' := 15 * kr.length) (hf k t _ es n tk (by omega) h1) ?_) (by rw [List.length_cons]; omega)
    have e1 : es ++ ents2 t ((k, x) :: kr) = es ++ [ent k t (.str x (t + 1))] ++ ents2 (t + 2) kr := by rw [List.append_assoc]; rfl
    have e2 : n + ((k, x) :: kr).length = n + 1 + kr.length := by rw [List.length_cons]; omega
    have e3 : tk + ((k, x) :: kr).length = tk + 1 + kr.length := by rw [List.length_cons]; omega
    rw [e1, e2, e3]
    exact ih

/-- a run's entries -/
def entsOf (t : Nat) (kxs : List (Int × Str)) : List DictEntry := if kxs.length ≤ 15 then ents2 t kxs else ents3 t kxs
theorem entsOf_len (t : Nat) (kxs : List (Int × Str)) : (entsOf t kxs).length = kxs.length := by
  unfold entsOf; split
  · exact ents2_len _ _
  · exact ents3_len _ _

theorem R_sub {ps : List (Sem Value × Sem Value)} {kxs : List (Int × Str)} (hm : m₀ ≤ l.length) (ha : AllOk w m₀ ann ps kxs) (hp' : Apart [] kxs) (hl : kxs.length < 100000) :
    Reach prg w m₀ ann (20 * ps.length + 10) (subDict ps) ⟨hp l, g, d, tk, os⟩ l.length ⟨hp (l ++ [dO (entsOf tk kxs) kxs.length]), g, d, tk + 3 * kxs.length, os⟩ := by
  have hpl := ha.len
  unfold subDict
  refine Reach.le (b := 1 + (20 * ps.length + 5)) (Reach.bind (x := alloc _) (v := l.length) (s₁ := ⟨hp (l ++ [dO [] 0]), g, d, tk, os⟩) (Reach.alloc (by rw [hp_push]; exact Reach.pure)) ?_) (by omega)
  refine Reach.bind (b := 20 * ps.length + 5) (b' := 0) (v := ()) (Reach.holding ?_) Reach.pure
  unfold entsOf
  by_cases h15 : ps.length ≤ 15
  · rw [if_pos h15, if_pos (by omega)]
    refine Reach.le (b := 5 * ps.length + (15 * kxs.length + 0)) (Reach.bind (R_pairs ps kxs _ ha) (Reach.holding (Reach.bind (v := PUnit.unit) ?_ Reach.pure))) (by omega)
    have := R_loop2 (w := w) (ann := ann) (g := g) (d := d) (os := os) (r := []) (f := fun x _ => match x with | (k, v) => do dictSet l.length k v; pure (ForInStep.yield PUnit.unit)) hm
      (fun k t v es n tk h1 h2 => Reach.le (b := 10 + 0) (Reach.bind (R_set hm h1 h2) Reach.pure) (by decide)) tk kxs [] 0 (tk + 2 * kxs.length) hp' (by simpa using hl)
    rw [List.nil_append, Nat.zero_add, show tk + 2 * kxs.length + kxs.length = tk + 3 * kxs.length by omega] at this
    exact this
  · rw [if_neg h15, if_neg (by omega)]
    refine Reach.le (b := 1 + (15 * ps.length + 0)) (Reach.bind (x := rule _) (Reach.rule Reach.pure) (Reach.bind (v := PUnit.unit) ?_ Reach.pure)) (by omega)
    have := R_loop3 (w := w) (ann := ann) (g := g) (d := d) (os := os) (r := []) (f := fun x _ => match x with | (k, v) => do let kv ← k; let vv ← holding [kv] v; holding [kv, vv] (dictSet l.length kv vv); pure (ForInStep.yield PUnit.unit)) hm
      (fun p k x es n tk hp1 h1 h2 => Reach.le (b := 1 + (2 + (10 + 0))) (Reach.bind (hp1 _).1 (Reach.bind (Reach.holding (hp1 _).2) (Reach.bind (Reach.holding (R_set hm h1 h2)) Reach.pure))) (by decide)) ps kxs [] 0 tk ha hp' (by simpa using hl)
    rw [List.nil_append, Nat.zero_add] at this
    exact this
end
end Mine
end

section -- Head9
open PySem PySem.W PyProof.Rows PySem.Calls
set_option Elab.async false
set_option maxRecDepth 100000
set_option linter.all false
namespace Mine
section
variable {w : World} {m₀ : Nat} {ann : Option Value} {g : Array GenState} {d : Drawn} {tk : Nat} {os : OsState} {l r mid : List Obj}

theorem sub_at {x o : Obj} (ha : alive o = some o) : (hp (l ++ x :: (mid ++ [o]))).get? (l.length + (mid.length + 1)) = some o := by
  have := hp_at (l ++ x :: mid) [] o ha
  rw [List.append_assoc, List.cons_append, List.length_append, List.length_cons] at this
  exact this

def IntEnts (sub : List DictEntry) : Prop := ∀ e ∈ sub, ∃ k t v, e = ent k t v
def ApartE (es sub : List DictEntry) : Prop := (∀ e ∈ es, ∀ e' ∈ sub, e.hash ≠ e'.hash) ∧ sub.Pairwise fun a b => a.hash ≠ b.hash

theorem R_mergeLoop {sub : List DictEntry} {m : Nat} {f : Nat → PUnit → Sem (ForInStep PUnit)} (hm : m₀ ≤ l.length) 
    (hf : ∀ i es n k t v, sub[i]? = some (ent k t v) → es.length < 100000 → (∀ e ∈ es, e.hash ≠ hashInt k) →
      Reach prg w m₀ ann 10 (f i PUnit.unit) ⟨hp (l ++ dO es n :: (mid ++ [dO sub m])), g, d, tk, os⟩ (.yield PUnit.unit) ⟨hp (l ++ dO (es ++ [ent k t v]) (n + 1) :: (mid ++ [dO sub m])), g, d, tk, os⟩) (hi : IntEnts sub) :
    ∀ (j i : Nat) (es : List DictEntry) (n : Nat), i + j = sub.length → ApartE es (sub.drop i) → es.length + j < 100000 →
      Reach prg w m₀ ann (10 * j) (forIn (List.range' i j) PUnit.unit f) ⟨hp (l ++ dO es n :: (mid ++ [dO sub m])), g, d, tk, os⟩ PUnit.unit ⟨hp (l ++ dO (es ++ sub.drop i) (n + j) :: (mid ++ [dO sub m])), g, d, tk, os⟩
  | 0, i, es, n, e, _, _ => by
    have : sub.drop i = [] := List.drop_eq_nil_of_le (by omega)
    rw [this, List.append_nil]
    exact Reach.pure
  | j + 1, i, es, n, e, ha, hl => by
    have hlt : i < sub.length := by omega
    have hd : sub.drop i = sub[i] :: sub.drop (i + 1) := List.drop_eq_getElem_cons hlt
    obtain ⟨k, t, v, he⟩ := hi sub[i] (List.getElem_mem hlt)
    rw [hd] at ha ⊢
    obtain ⟨h1, h2⟩ := ha
    obtain ⟨h3, h4⟩ := List.pairwise_cons.mp h2
    have hk : ∀ e ∈ es, e.hash ≠ hashInt k := fun e he' => by
      have := h1 e he' _ (.head _)
      rw [he] at this; exact this
    have ih := R_mergeLoop hm hf hi j (i + 1) (es ++ [ent k t v]) (n + 1) (by omega) ⟨fun e he' e' hm' => by
      rcases List.mem_append.mp he' with q | q
      · exact h1 e q e' (.tail _ hm')
      · obtain rfl := List.mem_singleton.mp q
        have := h3 e' hm'
        rw [he] at this; exact this, h4⟩ (by rw [List.length_append, List.length_singleton]; omega)
    show Reach _ _ _ _ _ (forIn (i :: List.range' (i + 1) j) PUnit.unit f) _ _ _
    rw [List.forIn_cons]
    refine Reach.le (Reach.bind (b := 10) (b' := 10 * j) (hf i es n k t v (by rw [List.getElem?_eq_getElem hlt, he]) (by omega) hk) ?_) (by omega)
    rw [he, show n + (j + 1) = n + 1 + j by omega, show es ++ ent k t v :: sub.drop (i + 1) = es ++ [ent k t v] ++ sub.drop (i + 1) by rw [List.append_assoc]; rfl]
    exact ih

theorem R_merge {es sub : List DictEntry} {n m : Nat} (hm : m₀ ≤ l.length) (hm2 : 2 ≤ m₀) (hne : es ≠ []) (hi : IntEnts sub) (ha : ApartE es sub) (hl : es.length + sub.length < 100000) :
    Reach prg w m₀ ann (10 * sub.length + 10) (mergeMapping l.length (.ref (l.length + (mid.length + 1))) false) ⟨hp (l ++ dO es n :: (mid ++ [dO sub m])), g, d, tk, os⟩ () ⟨hp (l ++ dO (es ++ sub) (n + sub.length) :: (mid ++ [dO sub m])), g, d, tk, os⟩ := by
  generalize hA : l.length + (mid.length + 1) = A
  have hs : ∀ es n, (hp (l ++ dO es n :: (mid ++ [dO sub m]))).get? A = some (dO sub m) := fun es n => hA ▸ sub_at (dO_alive _ _)
  have hM : ∀ es n, (hp (l ++ dO es n :: (mid ++ [dO sub m]))).get? l.length = some (dO es n) := fun es n => hp_at _ _ _ (dO_alive _ _)
  have t1 : isSubtype (.type "dict") (.type "dict") = .pure true := by kernel_rfl
  have t2 : typeLookup (.type "dict") "__iter__" = .pure (some (.builtin "dict.__iter__")) := by kernel_rfl
  have t3 : ((some (Value.builtin "dict.__iter__")) == some (Value.builtin "dict.__iter__")) = true := by kernel_rfl
  have hA1 : (A == sysModules) = false := beq_eq_false_iff_ne.mpr (by show A ≠ 1; omega)
  have hty : ∀ es n, Reach prg w m₀ ann 1 (typeOf (.ref A)) ⟨hp (l ++ dO es n :: (mid ++ [dO sub m])), g, d, tk, os⟩ (.type "dict") ⟨hp (l ++ dO es n :: (mid ++ [dO sub m])), g, d, tk, os⟩ :=
    fun es n => Reach.bind (b := 1) (b' := 0) (x := loadPart A (some headPart)) (Reach.load (hs es n) Reach.pure) Reach.pure
  unfold mergeMapping
  refine Reach.le (b := 1 + (1 + (1 + (1 + (1 + (10 * sub.length + 0)))))) (Reach.bind (v := true) (b := 1) (Reach.bind (b := 1) (b' := 0) (hty es n) (by rw [t1]; exact Reach.pure)) ?_) (by omega)
  rw [if_pos rfl]
  refine Reach.bind (v := some (.builtin "dict.__iter__")) (b := 1) (Reach.bind (b := 1) (b' := 0) (hty es n) (by rw [t2]; exact Reach.pure)) ?_
  rw [t3]
  show Reach _ _ _ _ _ (if (A == sysModules) = true then _ else _) _ _ _
  rw [hA1, if_neg Bool.false_ne_true]
  refine Reach.bind (b := 1) (R_entries (hM es n)) ?_
  have hemp : es.toArray.isEmpty = false := by cases es with | nil => exact absurd rfl hne | cons => rfl
  dsimp only
  rw [hemp, if_neg Bool.false_ne_true]
  refine Reach.bind (b := 1) (R_entries (hs es n)) ?_
  refine Reach.bind (b := 1) (R_epoch (hs es n)) ?_
  refine Reach.bind (v := PUnit.unit) (b := 10 * sub.length) ?_ Reach.pure
  rw [List.size_toArray, List.range_eq_range']
  refine R_mergeLoop (sub := sub) (m := m) hm (fun i es n k t v hg hlen hk => ?_) hi sub.length 0 es n (Nat.zero_add _) ha hl
  refine Reach.le (b := 1 + (4 + (1 + 0))) (Reach.bind (R_entries (hs es n)) ?_) (by decide)
  rw [List.getElem?_toArray, hg]
  refine Reach.bind (b := 4) (Reach.holding (R_put hm hlen hk)) ?_
  refine Reach.bind (b := 1) (R_epoch (hs _ _)) ?_
  rw [if_neg (by simp)]
  exact Reach.pure
end
end Mine
end

section -- Head10
open PySem PySem.W PyProof.Rows PySem.Calls
set_option Elab.async false
set_option maxRecDepth 100000
set_option linter.all false
namespace Mine
section
variable {w : World} {m₀ : Nat} {ann : Option Value} {g : Array GenState} {d : Drawn} {tk : Nat} {os : OsState} {l r mid : List Obj}

theorem ents3_hash : ∀ (t : Nat) (kxs : List (Int × Str)), (ents3 t kxs).map (·.hash) = kxs.map fun p => hashInt p.1
  | _, [] => rfl
  | t, (k, x) :: r => congrArg (hashInt k :: ·) (ents3_hash (t + 3) r)
theorem ents2_hash : ∀ (t : Nat) (kxs : List (Int × Str)), (ents2 t kxs).map (·.hash) = kxs.map fun p => hashInt p.1
  | _, [] => rfl
  | t, (k, x) :: r => congrArg (hashInt k :: ·) (ents2_hash (t + 2) r)
theorem entsOf_hash (t : Nat) (kxs : List (Int × Str)) : (entsOf t kxs).map (·.hash) = kxs.map fun p => hashInt p.1 := by
  unfold entsOf; split
  · exact ents2_hash _ _
  · exact ents3_hash _ _
theorem ents3_int : ∀ (t : Nat) (kxs : List (Int × Str)), IntEnts (ents3 t kxs)
  | _, [], _, h => by cases h
  | t, (k, x) :: r, e, h => by
    rcases List.mem_cons.mp h with rfl | h
    · exact ⟨_, _, _, rfl⟩
    · exact ents3_int _ _ e h
theorem ents2_int : ∀ (t : Nat) (kxs : List (Int × Str)), IntEnts (ents2 t kxs)
  | _, [], _, h => by cases h
  | t, (k, x) :: r, e, h => by
    rcases List.mem_cons.mp h with rfl | h
    · exact ⟨_, _, _, rfl⟩
    · exact ents2_int _ _ e h
theorem entsOf_int (t : Nat) (kxs : List (Int × Str)) : IntEnts (entsOf t kxs) := by
  unfold entsOf; split
  · exact ents2_int _ _
  · exact ents3_int _ _
theorem entsOf_mem {t : Nat} {kxs : List (Int × Str)} {e : DictEntry} (h : e ∈ entsOf t kxs) : ∃ p ∈ kxs, hashInt p.1 = e.hash := by
  have := List.mem_map_of_mem (f := fun e : DictEntry => e.hash) h
  rw [entsOf_hash] at this
  exact List.mem_map.mp this
theorem Apart.sub {es : List DictEntry} {kxs : List (Int × Str)} (h : Apart es kxs) (t : Nat) : ApartE es (entsOf t kxs) := by
  refine ⟨fun e he e' he' => ?_, ?_⟩
  · obtain ⟨p, hp, q⟩ := entsOf_mem he'
    exact q ▸ h.1 e he p hp
  · have := (List.pairwise_map (f := fun p : Int × Str => hashInt p.1) (R := (· ≠ ·))).mpr h.2
    rw [← entsOf_hash t] at this
    exact List.pairwise_map.mp this
theorem Apart.take {es : List DictEntry} {kxs : List (Int × Str)} (h : Apart es kxs) (n : Nat) : Apart es (kxs.take n) :=
  ⟨fun e he p hp => h.1 e he p (List.mem_of_mem_take hp), h.2.sublist (List.take_sublist n kxs)⟩
theorem Apart.drop {es : List DictEntry} {kxs : List (Int × Str)} (h : Apart es kxs) (n t : Nat) : Apart (es ++ entsOf t (kxs.take n)) (kxs.drop n) := by
  refine ⟨fun e he p hp => ?_, h.2.sublist (List.drop_sublist n kxs)⟩
  rcases List.mem_append.mp he with he | he
  · exact h.1 e he p (List.mem_of_mem_drop hp)
  · obtain ⟨q, hq, e'⟩ := entsOf_mem he
    have := h.2
    rw [← List.take_append_drop n kxs] at this
    exact e' ▸ (List.pairwise_append.mp this).2.2 q hq p hp
theorem Apart.nil {es : List DictEntry} {kxs : List (Int × Str)} (h : Apart es kxs) : Apart [] kxs := ⟨fun _ h => (nomatch h), h.2⟩

abbrev RunsT := Option Addr × List (Sem Value × Sem Value)
abbrev mk1 (p : Sem Value × Sem Value) : Option (Sem Value) × Sem Value := (some p.1, p.2)

theorem loop_acc {f : Option (Sem Value) × Sem Value → RunsT → Sem (ForInStep RunsT)} (facc : ∀ p main run, run.length ≠ 16 → f (mk1 p) (main, run) = .pure (.yield (main, run ++ [p]))) (rest : List (Option (Sem Value) × Sem Value)) (main : Option Addr) :
    ∀ (ps run : List (Sem Value × Sem Value)), run.length + ps.length ≤ 16 → forIn (ps.map mk1 ++ rest) (main, run) f = forIn rest (main, run ++ ps) f
  | [], run, _ => by rw [List.append_nil]; rfl
  | p :: ps, run, h => by
    rw [List.length_cons] at h
    rw [List.map_cons, List.cons_append, List.forIn_cons, facc p main run (by omega)]
    show forIn (ps.map mk1 ++ rest) (main, run ++ [p]) f = _
    rw [loop_acc facc rest main ps (run ++ [p]) (by rw [List.length_append, List.length_singleton]; omega), List.append_assoc]; rfl

def dE : Nat → Nat → List (Int × Str) → List DictEntry
  | 0, t, kxs => entsOf t kxs
  | m + 1, t, kxs => entsOf t (kxs.take 17) ++ dE m (t + 51) (kxs.drop 17)
def dS : Nat → Nat → List (Int × Str) → List Obj
  | 0, t, kxs => [dO (entsOf t kxs) kxs.length]
  | m + 1, t, kxs => dO (entsOf t (kxs.take 17)) 17 :: dS m (t + 51) (kxs.drop 17)

theorem R_flushSome {es : List DictEntry} {n : Nat} {ps : List (Sem Value × Sem Value)} {kxs : List (Int × Str)} {G : Value → Sem Unit} (hm : m₀ ≤ l.length) (hm2 : 2 ≤ m₀) (hne : es ≠ []) (ha : AllOk w m₀ ann ps kxs) (hap : Apart es kxs) (hl : es.length + kxs.length < 100000) :
    Reach prg w m₀ ann (30 * kxs.length + 30) (do
        let sub ← holding [Value.ref l.length] (subDict ps)
        (holding [Value.ref l.length, Value.ref sub] (mergeMapping l.length (Value.ref sub) false)).onRaise G
        pure (some l.length)) ⟨hp (l ++ dO es n :: mid), g, d, tk, os⟩ (some l.length) ⟨hp (l ++ dO (es ++ entsOf tk kxs) (n + kxs.length) :: (mid ++ [dO (entsOf tk kxs) kxs.length])), g, d, tk + 3 * kxs.length, os⟩ := by
  have hpl := ha.len
  have hsub := R_sub (w := w) (ann := ann) (g := g) (d := d) (tk := tk) (os := os) (l := l ++ dO es n :: mid) (ps := ps) (kxs := kxs) (by rw [List.length_append]; omega) ha hap.nil (by omega)
  have hmer := R_merge (w := w) (ann := ann) (g := g) (d := d) (tk := tk + 3 * kxs.length) (os := os) (l := l) (mid := mid) (es := es) (sub := entsOf tk kxs) (n := n) (m := kxs.length) hm hm2 hne (entsOf_int _ _) (hap.sub tk) (by rw [entsOf_len]; exact hl)
  rw [entsOf_len] at hmer
  rw [List.length_append, List.length_cons, List.append_assoc, List.cons_append] at hsub
  exact Reach.le (Reach.bind (Reach.holding hsub) (Reach.bind (Reach.onRaise (Reach.holding hmer)) Reach.pure)) (by omega)

/-- a display's loop from a dict that stands -/
theorem R_dispSome {f : Option (Sem Value) × Sem Value → RunsT → Sem (ForInStep RunsT)} {fin : RunsT → Sem Value} (hm : m₀ ≤ l.length) (hm2 : 2 ≤ m₀)
    (facc : ∀ p main run, run.length ≠ 16 → f (mk1 p) (main, run) = .pure (.yield (main, run ++ [p])))
    (fl : ∀ p run kxs es n mid tk, run.length = 16 → es ≠ [] → AllOk w m₀ ann (run ++ [p]) kxs → Apart es kxs → es.length + kxs.length < 100000 →
      Reach prg w m₀ ann 1000 (f (mk1 p) (some l.length, run)) ⟨hp (l ++ dO es n :: mid), g, d, tk, os⟩ (.yield (some l.length, [])) ⟨hp (l ++ dO (es ++ entsOf tk kxs) (n + kxs.length) :: (mid ++ [dO (entsOf tk kxs) kxs.length])), g, d, tk + 3 * kxs.length, os⟩)
    (ff : ∀ run kxs es n mid tk, 0 < run.length → run.length < 17 → es ≠ [] → AllOk w m₀ ann run kxs → Apart es kxs → es.length + kxs.length < 100000 →
      Reach prg w m₀ ann 1000 (fin (some l.length, run)) ⟨hp (l ++ dO es n :: mid), g, d, tk, os⟩ (.ref l.length) ⟨hp (l ++ dO (es ++ entsOf tk kxs) (n + kxs.length) :: (mid ++ [dO (entsOf tk kxs) kxs.length])), g, d, tk + 3 * kxs.length, os⟩) :
    ∀ (m c : Nat) (ps : List (Sem Value × Sem Value)) (kxs : List (Int × Str)) (es : List DictEntry) (n tk : Nat) (mid : List Obj), kxs.length = 17 * m + c → 0 < c → c < 17 → es ≠ [] → AllOk w m₀ ann ps kxs → Apart es kxs → es.length + kxs.length < 100000 →
      Reach prg w m₀ ann (1000 * m + 1000) ((forIn (ps.map mk1) (some l.length, []) f).bind fin) ⟨hp (l ++ dO es n :: mid), g, d, tk, os⟩ (.ref l.length)
        ⟨hp (l ++ dO (es ++ dE m tk kxs) (n + kxs.length) :: (mid ++ dS m tk kxs)), g, d, tk + 3 * kxs.length, os⟩
  | 0, c, ps, kxs, es, n, tk, mid, hlen, h0, h17, hne, ha, hap, hl => by
    have hpl := ha.len
    have := loop_acc facc [] (some l.length) ps [] (by rw [List.length_nil]; omega)
    rw [List.append_nil] at this
    rw [this, List.nil_append]
    exact ff ps kxs es n mid tk (by omega) (by omega) hne ha hap hl
  | m + 1, c, ps, kxs, es, n, tk, mid, hlen, h0, h17, hne, ha, hap, hl => by
    have hpl := ha.len
    have hd : ps = (ps.take 17) ++ ps.drop 17 := (List.take_append_drop 17 ps).symm
    obtain ⟨q, hq⟩ : ∃ q, ps.take 17 = ps.take 16 ++ [q] := ⟨ps[16]'(by omega), by rw [List.take_succ, List.getElem?_eq_getElem (by omega)]; rfl⟩
    have h16 : (ps.take 16).length = 16 := by rw [List.length_take]; omega
    have hk17 : (kxs.take 17).length = 17 := by rw [List.length_take]; omega
    have e1 : ps.map mk1 = (ps.take 16).map mk1 ++ (mk1 q :: (ps.drop 17).map mk1) := by
      conv => lhs; rw [hd, hq]
      rw [List.map_append, List.map_append, List.append_assoc]; rfl
    rw [e1, loop_acc facc _ _ _ _ (by rw [List.length_nil, h16]; decide), List.nil_append, List.forIn_cons]
    have h1 := fl q (ps.take 16) (kxs.take 17) es n mid tk h16 hne (by rw [← hq]; exact ha.take 17) (hap.take 17) (by rw [hk17]; omega)
    have ih := R_dispSome hm hm2 facc fl ff m c (ps.drop 17) (kxs.drop 17) (es ++ entsOf tk (kxs.take 17)) (n + 17) (tk + 51) (mid ++ [dO (entsOf tk (kxs.take 17)) 17])
      (by rw [List.length_drop]; omega) h0 h17 (by simp [hne]) (ha.drop 17) (hap.drop 17 tk) (by rw [List.length_append, entsOf_len, hk17, List.length_drop]; omega)
    rw [hk17, show tk + 3 * 17 = tk + 51 by omega] at h1
    rw [List.length_drop, List.append_assoc, List.append_assoc, show n + 17 + (kxs.length - 17) = n + kxs.length by omega, show tk + 51 + 3 * (kxs.length - 17) = tk + 3 * kxs.length by omega] at ih
    rw [Sem.bind_eq_wrap] at ih ⊢
    refine Reach.le (b := 1000 + (1000 * m + 1000)) ?_ (by omega)
    show Reach _ _ _ _ _ (Sem.wrap fin Sem.raise id id (Sem.bind (f (mk1 q) (some l.length, ps.take 16)) _)) _ _ _
    rw [Sem.bind_eq_wrap, Sem.wrap_wrap]
    exact Reach.wrap h1 ih
end
end Mine
end

section -- Head11
open PySem PySem.W PyProof.Rows PySem.Calls
set_option Elab.async false
set_option maxRecDepth 100000
set_option linter.all false
namespace Mine
section
variable {w : World} {m₀ : Nat} {ann : Option Value} {g : Array GenState} {d : Drawn} {os : OsState} {l : List Obj}

theorem wrap_id {α : Type} (x : Sem α) : x.bind (fun a => .pure a) = x := by
  rw [Sem.bind_eq_wrap]
  induction x <;> simp only [Sem.wrap, id, *]

/-- a long dict display of ints and texts -/
theorem R_display {m c tk : Nat} {ps : List (Sem Value × Sem Value)} {kxs : List (Int × Str)} (hm : m₀ ≤ l.length) (hm2 : 2 ≤ m₀) (hlen : kxs.length = 17 * (m + 1) + c) (h0 : 0 < c) (h17 : c < 17) (ha : AllOk w m₀ ann ps kxs) (hap : Apart [] kxs) (hl : kxs.length < 100000) :
    Reach prg w m₀ ann (1000 * m + 2000) (dictDisplay (ps.map mk1)) ⟨hp l, g, d, tk, os⟩ (.ref l.length)
        ⟨hp (l ++ dO (dE (m + 1) tk kxs) kxs.length :: dS m (tk + 51) (kxs.drop 17)), g, d, tk + 3 * kxs.length, os⟩ := by
  have hpl := ha.len
  have hd : ps = (ps.take 17) ++ ps.drop 17 := (List.take_append_drop 17 ps).symm
  obtain ⟨q, hq⟩ : ∃ q, ps.take 17 = ps.take 16 ++ [q] := ⟨ps[16]'(by omega), by rw [List.take_succ, List.getElem?_eq_getElem (by omega)]; rfl⟩
  have h16 : (ps.take 16).length = 16 := by rw [List.length_take]; omega
  have hk17 : (kxs.take 17).length = 17 := by rw [List.length_take]; omega
  have e1 : ps.map mk1 = (ps.take 16).map mk1 ++ (mk1 q :: (ps.drop 17).map mk1) := by
    conv => lhs; rw [hd, hq]
    rw [List.map_append, List.map_append, List.append_assoc]; rfl
  have hs := R_sub (w := w) (ann := ann) (g := g) (d := d) (tk := tk) (os := os) (l := l) (ps := ps.take 17) (kxs := kxs.take 17) hm (ha.take 17) (hap.take 17) (by omega)
  rw [hk17, show (ps.take 17).length = 17 by rw [List.length_take]; omega] at hs
  unfold dictDisplay
  dsimp only
  have facc : ∀ (p : Sem Value × Sem Value) (main : Option Addr) (run : List (Sem Value × Sem Value)), run.length ≠ 16 → ((run ++ [p]).length == 17) = false := fun p main run h => by
    rw [List.length_append, List.length_singleton]
    exact beq_eq_false_iff_ne.mpr (by omega)
  have ffl : ∀ (p : Sem Value × Sem Value) (run : List (Sem Value × Sem Value)), run.length = 16 → ((run ++ [p]).length == 17) = true ∧ (run ++ [p]).isEmpty = false := fun p run h => by
    rw [List.length_append, List.length_singleton, h]
    exact ⟨rfl, by cases run <;> rfl⟩
  rw [e1]
  show Reach _ _ _ _ _ (Sem.bind (forIn _ _ _) _) _ _ _
  rw [loop_acc (fun p main run h => by dsimp only [mk1]; rw [facc p main run h, if_neg Bool.false_ne_true]; rfl) _ _ _ _ (by rw [List.length_nil, h16]; decide), List.nil_append, List.forIn_cons]
  rw [Sem.bind_eq_wrap]
  show Reach _ _ _ _ _ (Sem.wrap _ Sem.raise id id (Sem.bind _ _)) _ _ _
  rw [Sem.bind_eq_wrap, Sem.wrap_wrap]
  refine Reach.le (b := 1000 + (1000 * m + 1000)) (Reach.wrap (v := .yield (some l.length, [])) (s₁ := ⟨hp (l ++ [dO (entsOf tk (kxs.take 17)) 17]), g, d, tk + 51, os⟩) ?_ ?_) (by omega)
  · dsimp only [mk1]
    rw [(ffl q _ h16).1, if_pos rfl, (ffl q _ h16).2, if_neg Bool.false_ne_true, ← hq]
    exact Reach.le (Reach.bind (Reach.bind hs Reach.pure) Reach.pure) (by decide)
  · show Reach _ _ _ _ _ (Sem.wrap _ Sem.raise id id (forIn _ (some l.length, []) _)) _ _ _
    rw [← Sem.bind_eq_wrap]
    have e2 : hp (l ++ dO (dE (m + 1) tk kxs) kxs.length :: dS m (tk + 51) (kxs.drop 17)) = hp (l ++ dO (entsOf tk (kxs.take 17) ++ dE m (tk + 51) (kxs.drop 17)) (17 + (kxs.drop 17).length) :: ([] ++ dS m (tk + 51) (kxs.drop 17))) := by
      rw [List.length_drop, List.nil_append, show 17 + (kxs.length - 17) = kxs.length by omega]; rfl
    have e3 : tk + 3 * kxs.length = tk + 51 + 3 * (kxs.drop 17).length := by rw [List.length_drop]; omega
    rw [e2, e3]
    refine R_dispSome (w := w) (m₀ := m₀) (ann := ann) (g := g) (d := d) (os := os) (l := l) hm hm2 ?_ ?_ ?_
      m c (ps.drop 17) (kxs.drop 17) (entsOf tk (kxs.take 17)) 17 (tk + 51) [] (by rw [List.length_drop]; omega) h0 h17 (by
        intro q
        have := congrArg List.length q
        rw [entsOf_len, hk17] at this; cases this) (ha.drop 17) (by have := hap.drop 17 tk; rwa [List.nil_append] at this) (by rw [entsOf_len, hk17, List.length_drop]; omega)
    · intro p main run h
      dsimp only [mk1]
      rw [facc p main run h, if_neg Bool.false_ne_true]; rfl
    · intro p run kxs es n mid tk h16 hne ha hap hl
      dsimp only [mk1]
      rw [(ffl p _ h16).1, if_pos rfl, (ffl p _ h16).2, if_neg Bool.false_ne_true]
      have hkl : kxs.length = 17 := by rw [← ha.len, List.length_append, h16]; rfl
      exact Reach.le (Reach.bind (R_flushSome hm hm2 hne ha hap hl) Reach.pure) (by omega)
    · intro run kxs es n mid tk h0 h17 hne ha hap hl
      dsimp only
      rw [if_neg (by cases run with | nil => exact absurd h0 (by decide) | cons => exact Bool.false_ne_true)]
      have hkl := ha.len
      exact Reach.le (Reach.bind (R_flushSome hm hm2 hne ha hap hl) Reach.pure) (by omega)
end
end Mine
end

section -- Head12
open PySem PySem.W PyProof.Rows PySem.Calls
set_option Elab.async false
set_option maxRecDepth 100000
set_option linter.all false
namespace Mine
section
variable {w : World} {m₀ : Nat} {ann : Option Value} {env : Env}

def pairsIn : List (Option Expr) → List Expr → Option (List (Int × Str))
  | [], [] => some []
  | some (.Constant (.int k) _ _) :: ks, .Constant (.str x) _ _ :: vs => (pairsIn ks vs).map ((k, x) :: ·)
  | _, _ => none

theorem R_fresh {s : Shared} : Reach prg w m₀ ann 1 fresh s s.toks { s with toks := s.toks + 1 } := Reach.fresh Reach.pure
theorem R_text {x : Str} {s : Shared} : Reach prg w m₀ ann 1 (mkText x) s (.str x s.toks) { s with toks := s.toks + 1 } := by
  unfold mkText
  exact Reach.bind (b := 1) (b' := 0) R_fresh Reach.pure

theorem items_ok {dp : Pos} : ∀ (ks : List (Option Expr)) (vs : List Expr) (l : List (Int × Str)), pairsIn ks vs = some l →
    ∃ ps, (evalEachOpt ks env).zip ((evalEach vs env).map fun v => do let x ← v; standAt dp; pure x) = ps.map mk1 ∧ AllOk w m₀ ann ps l := by
  intro ks
  induction ks with
  | nil =>
    intro vs l h
    cases vs with
    | nil => cases h; exact ⟨[], rfl, trivial⟩
    | cons => cases h
  | cons k ks ih =>
    intro vs l h
    unfold pairsIn at h
    split at h
    · cases h; exact ⟨[], rfl, trivial⟩
    · rename_i k u1 p1 ks' x u2 p2 vs heq
      obtain ⟨rfl, rfl⟩ := List.cons.inj heq
      obtain ⟨l', h1, rfl⟩ := Option.map_eq_some_iff.mp h
      obtain ⟨ps, e, ha⟩ := ih vs l' h1
      refine ⟨(eval (.Constant (.int k) u1 p1) env, do let y ← eval (.Constant (.str x) u2 p2) env; standAt dp; pure y) :: ps, ?_, fun s => ⟨?_, ?_⟩, ha⟩
      · rw [List.map_cons, ← e]; rfl
      · show Reach _ _ _ _ 1 (mkInt k) _ _ _
        exact Reach.bind (b := 1) (b' := 0) R_fresh Reach.pure
      · exact Reach.bind (b := 1) (b' := 1) R_text (Reach.bind (b := 1) (b' := 0) (x := standAt dp) (Reach.at Reach.pure) Reach.pure)
    · cases h
end
end Mine
end

section -- Head13
open PySem PySem.W PyProof.Rows PySem.Calls
set_option Elab.async false
set_option maxRecDepth 100000
set_option linter.all false
namespace Mine
def mainE : List DictEntry := dE 38 351 b3Src
def mainO : Obj := dO mainE 650
def subsE : List Obj := dS 37 402 (b3Src.drop 17)
def sbO (j : Nat) : Obj := subsE[j]?.getD default
noncomputable def T15p (P : Params) : BT := (.node (boot_o_0 P) (.node (boot_o_1 P) (.node (ns3 P nmA 21) (.node (boot_o_7 P) (.node (o15 P) (.node (o31 P) (.node (o63 P) (.node (sbO 16) .nil .nil) .nil) (.node (o95 P) .nil .nil)) (.node (o47 P) (.node (o79 P) (.node (sbO 32) .nil .nil) .nil) (.node (sbO 0) .nil .nil))) (.node (o23 P) (.node (o39 P) (.node (o71 P) (.node (sbO 24) .nil .nil) .nil) (.node (o103 P) .nil .nil)) (.node (o55 P) (.node (o87 P) .nil .nil) (.node (sbO 8) .nil .nil)))) (.node (o11 P) (.node (o19 P) (.node (o35 P) (.node (o67 P) (.node (sbO 20) .nil .nil) .nil) (.node (o99 P) .nil .nil)) (.node (o51 P) (.node (o83 P) (.node (sbO 36) .nil .nil) .nil) (.node (sbO 4) .nil .nil))) (.node (o27 P) (.node (o43 P) (.node (o75 P) (.node (sbO 28) .nil .nil) .nil) (.node (o107 P) .nil .nil)) (.node (o59 P) (.node (o91 P) .nil .nil) (.node (sbO 12) .nil .nil))))) (.node (boot_o_5 P) (.node (boot_o_9 P) (.node (o17 P) (.node (o33 P) (.node (o65 P) (.node (sbO 18) .nil .nil) .nil) (.node (o97 P) .nil .nil)) (.node (o49 P) (.node (o81 P) (.node (sbO 34) .nil .nil) .nil) (.node (sbO 2) .nil .nil))) (.node (o25 P) (.node (o41 P) (.node (o73 P) (.node (sbO 26) .nil .nil) .nil) (.node (o105 P) .nil .nil)) (.node (o57 P) (.node (o89 P) .nil .nil) (.node (sbO 10) .nil .nil)))) (.node (o13 P) (.node (o21 P) (.node (o37 P) (.node (o69 P) (.node (sbO 22) .nil .nil) .nil) (.node (o101 P) .nil .nil)) (.node (o53 P) (.node (o85 P) .nil .nil) (.node (sbO 6) .nil .nil))) (.node (o29 P) (.node (o45 P) (.node (o77 P) (.node (sbO 30) .nil .nil) .nil) (.node (o109 P) .nil .nil)) (.node (o61 P) (.node (o93 P) .nil .nil) (.node (sbO 14) .nil .nil)))))) (.node (boot_o_2 P) (.node (boot_o_4 P) (.node (boot_o_8 P) (.node (o16 P) (.node (o32 P) (.node (o64 P) (.node (sbO 17) .nil .nil) .nil) (.node (o96 P) .nil .nil)) (.node (o48 P) (.node (o80 P) (.node (sbO 33) .nil .nil) .nil) (.node (sbO 1) .nil .nil))) (.node (o24 P) (.node (o40 P) (.node (o72 P) (.node (sbO 25) .nil .nil) .nil) (.node (o104 P) .nil .nil)) (.node (o56 P) (.node (o88 P) .nil .nil) (.node (sbO 9) .nil .nil)))) (.node (cs12 12) (.node (o20 P) (.node (o36 P) (.node (o68 P) (.node (sbO 21) .nil .nil) .nil) (.node (o100 P) .nil .nil)) (.node (o52 P) (.node (o84 P) (.node (sbO 37) .nil .nil) .nil) (.node (sbO 5) .nil .nil))) (.node (o28 P) (.node (o44 P) (.node (o76 P) (.node (sbO 29) .nil .nil) .nil) (.node (o108 P) .nil .nil)) (.node (o60 P) (.node (o92 P) .nil .nil) (.node (sbO 13) .nil .nil))))) (.node (boot_o_6 P) (.node (boot_o_10 P) (.node (o18 P) (.node (o34 P) (.node (o66 P) (.node (sbO 19) .nil .nil) .nil) (.node (o98 P) .nil .nil)) (.node (o50 P) (.node (o82 P) (.node (sbO 35) .nil .nil) .nil) (.node (sbO 3) .nil .nil))) (.node (o26 P) (.node (o42 P) (.node (o74 P) (.node (sbO 27) .nil .nil) .nil) (.node (o106 P) .nil .nil)) (.node (o58 P) (.node (o90 P) .nil .nil) (.node (sbO 11) .nil .nil)))) (.node (o14 P) (.node (o22 P) (.node (o38 P) (.node (o70 P) (.node (sbO 23) .nil .nil) .nil) (.node (o102 P) .nil .nil)) (.node (o54 P) (.node (o86 P) .nil .nil) (.node (sbO 7) .nil .nil))) (.node (o30 P) (.node (o46 P) (.node (o78 P) (.node (sbO 31) .nil .nil) .nil) (.node mainO .nil .nil)) (.node (o62 P) (.node (o94 P) .nil .nil) (.node (sbO 15) .nil .nil)))))))
noncomputable def T15 (P : Params) : BT := (.node (boot_o_0 P) (.node (boot_o_1 P) (.node (ns3 P nmA 22) (.node (boot_o_7 P) (.node (o15 P) (.node (o31 P) (.node (o63 P) (.node (sbO 16) .nil .nil) .nil) (.node (o95 P) .nil .nil)) (.node (o47 P) (.node (o79 P) (.node (sbO 32) .nil .nil) .nil) (.node (sbO 0) .nil .nil))) (.node (o23 P) (.node (o39 P) (.node (o71 P) (.node (sbO 24) .nil .nil) .nil) (.node (o103 P) .nil .nil)) (.node (o55 P) (.node (o87 P) .nil .nil) (.node (sbO 8) .nil .nil)))) (.node (o11 P) (.node (o19 P) (.node (o35 P) (.node (o67 P) (.node (sbO 20) .nil .nil) .nil) (.node (o99 P) .nil .nil)) (.node (o51 P) (.node (o83 P) (.node (sbO 36) .nil .nil) .nil) (.node (sbO 4) .nil .nil))) (.node (o27 P) (.node (o43 P) (.node (o75 P) (.node (sbO 28) .nil .nil) .nil) (.node (o107 P) .nil .nil)) (.node (o59 P) (.node (o91 P) .nil .nil) (.node (sbO 12) .nil .nil))))) (.node (boot_o_5 P) (.node (boot_o_9 P) (.node (o17 P) (.node (o33 P) (.node (o65 P) (.node (sbO 18) .nil .nil) .nil) (.node (o97 P) .nil .nil)) (.node (o49 P) (.node (o81 P) (.node (sbO 34) .nil .nil) .nil) (.node (sbO 2) .nil .nil))) (.node (o25 P) (.node (o41 P) (.node (o73 P) (.node (sbO 26) .nil .nil) .nil) (.node (o105 P) .nil .nil)) (.node (o57 P) (.node (o89 P) .nil .nil) (.node (sbO 10) .nil .nil)))) (.node (o13 P) (.node (o21 P) (.node (o37 P) (.node (o69 P) (.node (sbO 22) .nil .nil) .nil) (.node (o101 P) .nil .nil)) (.node (o53 P) (.node (o85 P) .nil .nil) (.node (sbO 6) .nil .nil))) (.node (o29 P) (.node (o45 P) (.node (o77 P) (.node (sbO 30) .nil .nil) .nil) (.node (o109 P) .nil .nil)) (.node (o61 P) (.node (o93 P) .nil .nil) (.node (sbO 14) .nil .nil)))))) (.node (boot_o_2 P) (.node (boot_o_4 P) (.node (boot_o_8 P) (.node (o16 P) (.node (o32 P) (.node (o64 P) (.node (sbO 17) .nil .nil) .nil) (.node (o96 P) .nil .nil)) (.node (o48 P) (.node (o80 P) (.node (sbO 33) .nil .nil) .nil) (.node (sbO 1) .nil .nil))) (.node (o24 P) (.node (o40 P) (.node (o72 P) (.node (sbO 25) .nil .nil) .nil) (.node (o104 P) .nil .nil)) (.node (o56 P) (.node (o88 P) .nil .nil) (.node (sbO 9) .nil .nil)))) (.node (cs12 12) (.node (o20 P) (.node (o36 P) (.node (o68 P) (.node (sbO 21) .nil .nil) .nil) (.node (o100 P) .nil .nil)) (.node (o52 P) (.node (o84 P) (.node (sbO 37) .nil .nil) .nil) (.node (sbO 5) .nil .nil))) (.node (o28 P) (.node (o44 P) (.node (o76 P) (.node (sbO 29) .nil .nil) .nil) (.node (o108 P) .nil .nil)) (.node (o60 P) (.node (o92 P) .nil .nil) (.node (sbO 13) .nil .nil))))) (.node (boot_o_6 P) (.node (boot_o_10 P) (.node (o18 P) (.node (o34 P) (.node (o66 P) (.node (sbO 19) .nil .nil) .nil) (.node (o98 P) .nil .nil)) (.node (o50 P) (.node (o82 P) (.node (sbO 35) .nil .nil) .nil) (.node (sbO 3) .nil .nil))) (.node (o26 P) (.node (o42 P) (.node (o74 P) (.node (sbO 27) .nil .nil) .nil) (.node (o106 P) .nil .nil)) (.node (o58 P) (.node (o90 P) .nil .nil) (.node (sbO 11) .nil .nil)))) (.node (o14 P) (.node (o22 P) (.node (o38 P) (.node (o70 P) (.node (sbO 23) .nil .nil) .nil) (.node (o102 P) .nil .nil)) (.node (o54 P) (.node (o86 P) .nil .nil) (.node (sbO 7) .nil .nil))) (.node (o30 P) (.node (o46 P) (.node (o78 P) (.node (sbO 31) .nil .nil) .nil) (.node mainO .nil .nil)) (.node (o62 P) (.node (o94 P) .nil .nil) (.node (sbO 15) .nil .nil)))))))
noncomputable def T22 (P : Params) : BT := (.node (boot_o_0 P) (.node (boot_o_1 P) (.node (ns3 P nmZ 28) (.node (boot_o_7 P) (.node (o15 P) (.node (o31 P) (.node (o63 P) (.node (sbO 16) .nil .nil) .nil) (.node (o95 P) (.node (o159 P) .nil .nil) .nil)) (.node (o47 P) (.node (o79 P) (.node (sbO 32) .nil .nil) .nil) (.node (sbO 0) (.node (o175 P) .nil .nil) .nil))) (.node (o23 P) (.node (o39 P) (.node (o71 P) (.node (sbO 24) .nil .nil) .nil) (.node (o103 P) (.node (o167 P) .nil .nil) .nil)) (.node (o55 P) (.node (o87 P) (.node (o151 P) .nil .nil) .nil) (.node (sbO 8) (.node (o183 P) .nil .nil) .nil)))) (.node (o11 P) (.node (o19 P) (.node (o35 P) (.node (o67 P) (.node (sbO 20) .nil .nil) .nil) (.node (o99 P) (.node (o163 P) .nil .nil) .nil)) (.node (o51 P) (.node (o83 P) (.node (sbO 36) .nil .nil) .nil) (.node (sbO 4) (.node (o179 P) .nil .nil) .nil))) (.node (o27 P) (.node (o43 P) (.node (o75 P) (.node (sbO 28) .nil .nil) .nil) (.node (o107 P) (.node (o171 P) .nil .nil) .nil)) (.node (o59 P) (.node (o91 P) (.node (o155 P) .nil .nil) .nil) (.node (sbO 12) .nil .nil))))) (.node (boot_o_5 P) (.node (boot_o_9 P) (.node (o17 P) (.node (o33 P) (.node (o65 P) (.node (sbO 18) .nil .nil) .nil) (.node (o97 P) (.node (o161 P) .nil .nil) .nil)) (.node (o49 P) (.node (o81 P) (.node (sbO 34) .nil .nil) .nil) (.node (sbO 2) (.node (o177 P) .nil .nil) .nil))) (.node (o25 P) (.node (o41 P) (.node (o73 P) (.node (sbO 26) .nil .nil) .nil) (.node (o105 P) (.node (o169 P) .nil .nil) .nil)) (.node (o57 P) (.node (o89 P) (.node (o153 P) .nil .nil) .nil) (.node (sbO 10) (.node (o185 P) .nil .nil) .nil)))) (.node (o13 P) (.node (o21 P) (.node (o37 P) (.node (o69 P) (.node (sbO 22) .nil .nil) .nil) (.node (o101 P) (.node (o165 P) .nil .nil) .nil)) (.node (o53 P) (.node (o85 P) (.node (o149 P) .nil .nil) .nil) (.node (sbO 6) (.node (o181 P) .nil .nil) .nil))) (.node (o29 P) (.node (o45 P) (.node (o77 P) (.node (sbO 30) .nil .nil) .nil) (.node (o109 P) (.node (o173 P) .nil .nil) .nil)) (.node (o61 P) (.node (o93 P) (.node (o157 P) .nil .nil) .nil) (.node (sbO 14) .nil .nil)))))) (.node (boot_o_2 P) (.node (boot_o_4 P) (.node (boot_o_8 P) (.node (o16 P) (.node (o32 P) (.node (o64 P) (.node (sbO 17) .nil .nil) .nil) (.node (o96 P) (.node (o160 P) .nil .nil) .nil)) (.node (o48 P) (.node (o80 P) (.node (sbO 33) .nil .nil) .nil) (.node (sbO 1) (.node (o176 P) .nil .nil) .nil))) (.node (o24 P) (.node (o40 P) (.node (o72 P) (.node (sbO 25) .nil .nil) .nil) (.node (o104 P) (.node (o168 P) .nil .nil) .nil)) (.node (o56 P) (.node (o88 P) (.node (o152 P) .nil .nil) .nil) (.node (sbO 9) (.node (o184 P) .nil .nil) .nil)))) (.node (cs12 18) (.node (o20 P) (.node (o36 P) (.node (o68 P) (.node (sbO 21) .nil .nil) .nil) (.node (o100 P) (.node (o164 P) .nil .nil) .nil)) (.node (o52 P) (.node (o84 P) (.node (sbO 37) .nil .nil) .nil) (.node (sbO 5) (.node (o180 P) .nil .nil) .nil))) (.node (o28 P) (.node (o44 P) (.node (o76 P) (.node (sbO 29) .nil .nil) .nil) (.node (o108 P) (.node (o172 P) .nil .nil) .nil)) (.node (o60 P) (.node (o92 P) (.node (o156 P) .nil .nil) .nil) (.node (sbO 13) .nil .nil))))) (.node (boot_o_6 P) (.node (boot_o_10 P) (.node (o18 P) (.node (o34 P) (.node (o66 P) (.node (sbO 19) .nil .nil) .nil) (.node (o98 P) (.node (o162 P) .nil .nil) .nil)) (.node (o50 P) (.node (o82 P) (.node (sbO 35) .nil .nil) .nil) (.node (sbO 3) (.node (o178 P) .nil .nil) .nil))) (.node (o26 P) (.node (o42 P) (.node (o74 P) (.node (sbO 27) .nil .nil) .nil) (.node (o106 P) (.node (o170 P) .nil .nil) .nil)) (.node (o58 P) (.node (o90 P) (.node (o154 P) .nil .nil) .nil) (.node (sbO 11) (.node (o186 P) .nil .nil) .nil)))) (.node (o14 P) (.node (o22 P) (.node (o38 P) (.node (o70 P) (.node (sbO 23) .nil .nil) .nil) (.node (o102 P) (.node (o166 P) .nil .nil) .nil)) (.node (o54 P) (.node (o86 P) (.node (o150 P) .nil .nil) .nil) (.node (sbO 7) (.node (o182 P) .nil .nil) .nil))) (.node (o30 P) (.node (o46 P) (.node (o78 P) (.node (sbO 31) .nil .nil) .nil) (.node mainO (.node (o174 P) .nil .nil) .nil)) (.node (o62 P) (.node (o94 P) (.node (o158 P) .nil .nil) .nil) (.node (sbO 15) .nil .nil)))))))
end Mine
end

section -- Head14
open PySem PySem.W PyProof.Rows PySem.Calls
set_option Elab.async false
set_option maxRecDepth 100000
set_option linter.all false
namespace Mine
def dKeys : List (Option Expr) := match bodyAt 15 with | .Assign _ (.Dict ks _ _) _ => ks | _ => []
def dVals : List Expr := match bodyAt 15 with | .Assign _ (.Dict _ vs _) _ => vs | _ => []
def dPos : Pos := match bodyAt 15 with | .Assign _ (.Dict _ _ p) _ => p | _ => p00
def aPos : Pos := match bodyAt 15 with | .Assign _ _ p => p | _ => p00
def nmT : Expr := .Name "b3_exceptions" ⟨39, 0, 39, 13⟩
abbrev dctE : Expr := .Dict dKeys dVals dPos
theorem st15 : bodyAt 15 = .Assign [nmT] dctE aPos := by kernel_rfl
theorem lits15 : pairsIn dKeys dVals = some b3Src := by kernel_rfl
theorem len15 : b3Src.length = 650 := by kernel_rfl

def incrB : Int → List (Int × Str) → Bool
  | _, [] => true
  | lo, p :: r => decide (lo < p.1) && decide (p.1 < 2 ^ 60) && incrB p.1 r
theorem incr15 : incrB 0 b3Src = true := by decide +kernel
theorem incr_spec : ∀ (l : List (Int × Str)) (lo : Int), incrB lo l = true → (∀ p ∈ l, lo < p.1 ∧ p.1 < 2 ^ 60) ∧ l.Pairwise fun a b => a.1 < b.1
  | [], _, _ => ⟨fun _ h => (nomatch h), .nil⟩
  | p :: r, lo, h => by
    unfold incrB at h
    simp only [Bool.and_eq_true, decide_eq_true_eq] at h
    obtain ⟨h1, h2⟩ := incr_spec r p.1 h.2
    refine ⟨fun q hq => ?_, List.pairwise_cons.mpr ⟨fun q hq => (h1 q hq).1, h2⟩⟩
    rcases List.mem_cons.mp hq with rfl | hq
    · exact h.1
    · have := h1 q hq; omega
theorem hashInt_small {k : Int} (h0 : 0 < k) (h : k < 2 ^ 60) : hashInt k = k := by
  have e : rawHash k = k := by
    unfold rawHash
    have e1 : k.natAbs % (2 ^ 61 - 1) = k.natAbs := Nat.mod_eq_of_lt (by omega)
    have e2 : ((k.natAbs : Nat) : Int) = k := by omega
    simp only [e1, e2]
    rw [if_neg (show ¬ k < 0 by omega), if_neg (by rw [beq_iff_eq]; have : ((2 ^ 61 - 1 : Nat) : Int) = 2305843009213693951 := rfl; omega)]
    exact Int.emod_eq_of_lt (by omega) (by have : ((2 ^ 61 - 1 : Nat) : Int) = 2305843009213693951 := rfl; omega)
  unfold hashInt
  rw [e, if_neg (by rw [beq_iff_eq]; omega)]
theorem apart15 : Apart [] b3Src := by
  obtain ⟨h1, h2⟩ := incr_spec _ _ incr15
  refine ⟨fun _ h => (nomatch h), h2.imp_of_mem fun {a b} ha hb h => ?_⟩
  rw [hashInt_small (h1 a ha).1 (h1 a ha).2, hashInt_small (h1 b hb).1 (h1 b hb).2]
  omega

/-- what stands behind the display in the assignment -/
def asgF (v : Value) : Sem Flow := (swappedStores [nmT] dctE envE).bind fun sw => assignStores envE v sw ((assignEach [nmT] envE).map (·.2))
theorem swaps15 : swapsWithSole [nmT] dctE aPos.line envE = .pure false := by kernel_rfl
theorem exec15 : exec (bodyAt 15) envE = (standAt aPos).bind fun _ => (standAt dPos).bind fun _ => (dictDisplay ((evalEachOpt dKeys envE).zip ((evalEach dVals envE).map fun v => do let x ← v; standAt dPos; pure x))).bind asgF := by
  rw [st15]
  show (standAt aPos).bind (fun _ => (swapsWithSole [nmT] dctE aPos.line envE).bind _) = _
  rw [swaps15]
  kernel_rfl
end Mine
end

section -- Head15
open PySem PySem.W PyProof.Rows PySem.Calls
set_option Elab.async false
set_option maxRecDepth 100000
set_option linter.all false
namespace Mine
section
variable {w : World} {os : OsState}
noncomputable def L14 (P : Params) : List Obj := (T14 P).list 110
theorem L14_len (P : Params) : (L14 P).length = 110 := by simp [L14, BT.list]
theorem list15 (P : Params) : (T15p P).list 149 = L14 P ++ mainO :: subsE := by kernel_rfl

theorem R_15 : Reach prg w 11 ann0 60000 ((standAt aPos).bind fun _ => (standAt dPos).bind fun _ => dictDisplay ((evalEachOpt dKeys envE).zip ((evalEach dVals envE).map fun v => do let x ← v; standAt dPos; pure x))) (stT T14 110 351 w os).abs (.ref 110) (stT T15p 149 2301 w os).abs := by
  obtain ⟨ps, e, ha⟩ := items_ok (w := w) (m₀ := 11) (ann := ann0) (env := envE) (dp := dPos) dKeys dVals b3Src lits15
  rw [e]
  have h0 : (stT T14 110 351 w os).abs = ⟨hp (L14 w.params), #[], {}, 351, os⟩ := rfl
  have h1 : (stT T15p 149 2301 w os).abs = ⟨hp (L14 w.params ++ mainO :: subsE), #[], {}, 2301, os⟩ := by
    rw [← list15]; rfl
  rw [h0, h1]
  have := R_display (w := w) (m₀ := 11) (ann := ann0) (g := #[]) (d := {}) (os := os) (l := L14 w.params) (m := 37) (c := 4) (tk := 351) (ps := ps) (kxs := b3Src) (by rw [L14_len]; decide) (by decide) (by rw [len15]) (by decide) (by decide) ha apart15 (by rw [len15]; decide)
  rw [L14_len, len15] at this
  exact Reach.le (b := 1 + (1 + (1000 * 37 + 2000))) (Reach.bind (x := standAt aPos) (Reach.at Reach.pure) (Reach.bind (x := standAt dPos) (Reach.at Reach.pure) this)) (by decide)
end
set_option maxHeartbeats 0
theorem seg_c (w : World) (os : OsState) : segRunT treeTable prg w 11 ann0 1 60 (stT T13 103 344 w os) (piecesOf [bodyAt 14] envE cE ⟨36, 0, 36, 6⟩ [topFrame p00]) = some (.next, stT T14 110 351 w os, cE, ⟨37, 0, 38, 30⟩) := by kernel_rfl
theorem seg_d (q : Pos) (w : World) (os : OsState) : segRunT treeTable prg w 11 ann0 1 20 (stT T15p 149 2301 w os) ⟨(asgF (.ref 110)).wrap doneF deadEnd id id, cE, q, [topFrame p00]⟩ = some (.next, stT T15 149 2302 w os, cE, ⟨39, 0, 39, 13⟩) := by kernel_rfl
theorem seg_e (w : World) (os : OsState) : segRunT treeTable prg w 11 ann0 1 300 (stT T15 149 2302 w os) (piecesOf (bE.drop 16) envE cE ⟨39, 0, 39, 13⟩ [topFrame p00]) = some (.next, stT T22 187 2353 w os, cE, ⟨77, 0, 135, 15⟩) := by kernel_rfl
theorem fin_go (w : World) (os : OsState) : topRun treeTable prg w 11 ann0 5 (stT T22 187 2353 w os).abs ⟨doneF .next, cE, ⟨77, 0, 135, 15⟩, [topFrame p00]⟩ = some (stT T22 187 2353 w os).abs := by kernel_rfl
end Mine
end

section -- Head16
open PySem PySem.W PyProof.Rows PySem.Calls
set_option Elab.async false
set_option maxRecDepth 100000
set_option linter.all false
namespace Mine
section
variable {w : World} {os : OsState}
theorem body_split : bE = bE.take 13 ++ ([bodyAt 13] ++ ([bodyAt 14] ++ (bodyAt 15 :: (bE.drop 16 ++ [])))) := by kernel_rfl
theorem block_go : segRun treeTable prg w 11 ann0 1 1 (stT T00 15 187 w os).abs (blockOf bE envE cE p00 [topFrame p00]) = some (.next, (stT T00 15 187 w os).abs, cE, p00) := by kernel_rfl

theorem seg_b' : segRunT treeTable prg w 11 ann0 1 1100 (stT T12 92 284 w os) (piecesOf [bodyAt 13] envE cE ⟨35, 0, 35, 8⟩ [topFrame p00]) = some (.next, stT T13 103 344 w os, cE, ⟨36, 0, 36, 6⟩) := by
  have h := seg_b (w.params.followText "special-get-raises") w os
  rw [World.withFollow_self w "special-get-raises"] at h
  exact h

theorem run_15 {N : Nat} {r : Shared} {rest : List Stmt} {q : Pos} (k : topRun treeTable prg w 11 ann0 N (stT T15 149 2302 w os).abs (restOf rest envE cE ⟨39, 0, 39, 13⟩ [topFrame p00]) = some r) :
    topRun treeTable prg w 11 ann0 (20 + N + 60000) (stT T14 110 351 w os).abs (restOf (bodyAt 15 :: rest) envE cE q [topFrame p00]) = some r := by
  unfold restOf
  rw [execs_cons_wrap, exec15]
  obtain ⟨q', h⟩ := R_15 (w := w) (os := os) (fun v => (asgF v).wrap (fun f => match f with | .next => (execs rest envE).wrap doneF (leaveH envE) id id | f => doneF f) (leaveH envE) id id) (leaveH envE) id id cE q (topFrame p00) []
  have hS := segRun_of (seg_d q' w os)
  obtain ⟨a, ha, hN⟩ := seg_top (res := id) (K' := fun f => match f with | .next => (execs rest envE).wrap doneF (leaveH envE) id id | f => doneF f) (H' := leaveH envE) (B := [topFrame p00]) rfl 20 _ ⟨(asgF (.ref 110)).wrap doneF deadEnd id id, cE, q', [topFrame p00]⟩
    ⟨(asgF (.ref 110)).wrap (fun f => match f with | .next => (execs rest envE).wrap doneF (leaveH envE) id id | f => doneF f) (leaveH envE) id id, cE, q', [topFrame p00]⟩ _ _ _ _ ⟨rfl, rfl, .inl ⟨rfl, rfl, _, rfl, rfl⟩⟩ hS
  obtain rfl : a = .next := ha
  have h2 := h _ _ (hN N r k)
  have e : ∀ (X : Sem Value) (K : Flow → Sem Fin) (H : Value → Sem Fin), ((X.bind asgF).wrap K H id id) = X.wrap (fun v => (asgF v).wrap K H id id) H id id := fun X K H => by
    rw [Sem.bind_eq_wrap, Sem.wrap_wrap]; rfl
  have e3 : ((standAt aPos).bind fun _ => (standAt dPos).bind fun _ => (dictDisplay ((evalEachOpt dKeys envE).zip ((evalEach dVals envE).map fun v => do let x ← v; standAt dPos; pure x))).bind asgF) =
      ((standAt aPos).bind fun _ => (standAt dPos).bind fun _ => dictDisplay ((evalEachOpt dKeys envE).zip ((evalEach dVals envE).map fun v => do let x ← v; standAt dPos; pure x))).bind asgF := rfl
  rw [e3, e]
  exact h2

theorem head_run (w : World) (os : OsState) : topRun treeTable prg w 11 ann0 (12 + (1 + (500 + (1100 + (60 + (20 + (300 + 5) + 60000)))))) (S00 w os) (topStub prg) = some (stT T22 187 2353 w os).abs := by
  refine go_top (pre_go w os) ?_
  refine piece_block block_go ?_
  rw [show restOf bE envE cE p00 [topFrame p00] = restOf (bE.take 13 ++ ([bodyAt 13] ++ ([bodyAt 14] ++ (bodyAt 15 :: (bE.drop 16 ++ []))))) envE cE p00 [topFrame p00] from congrArg (fun b => restOf b envE cE p00 [topFrame p00]) body_split]
  refine piece_app (segRun_of (seg_a w os)) ?_
  refine piece_app (segRun_of seg_b') ?_
  refine piece_app (segRun_of (seg_c w os)) ?_
  refine run_15 (N := 300 + 5) ?_
  refine piece_app (segRun_of (seg_e w os)) ?_
  exact piece_nil (fin_go w os)
end
end Mine
end

section -- Head17
open PySem PySem.W PyProof.Rows PySem.Calls
set_option Elab.async false
set_option maxRecDepth 100000
set_option linter.all false
namespace Mine
def viewQ : Program := view prg [1, 2, 3, 4, 5, 6, 7, 8, 9, 10, 11, 14, 16, 18, 19, 20, 21, 22]
def looseL : List Str := ["b1_set", "b3_exceptions"]
abbrev rwR : RowW := PySem.Challenge.rw_pg0231_01.row.toRowW
abbrev XtQ (s : Shared) : Bool := xlAt viewQ [] s && recOk (RowW.records rwR) s
noncomputable def HZ (P : Params) : Heap := absHeap (T22 P) 187 {}
abbrev YfQ (s : Shared) : Heap × Nat := (s.heap, s.toks)
noncomputable abbrev YaQ (w : World) : Heap × Nat := (HZ w.params, 2353)
set_option maxHeartbeats 0
theorem opens_plain : opening prg = plainProg prg.main.scope.names := by kernel_rfl
theorem fence_plain (s : Shared) : fenceModules? prg s = some s := by kernel_rfl
theorem size_ok (w : World) : ((boot_heap w.params).isNs mainGlobals && (#[] : Array GenState).size == 0, (boot_heap w.params).objs.size, (boot_heap w.params).nsMap mainGlobals "__annotations__") = (true, 11, ann0) := by kernel_rfl
theorem look_1 (w : World) (os : OsState) : (staticsOk (importedModules prg.main.body) (boot_heap w.params) (HZ w.params) && namesBound prg (HZ w.params) && gensDone ⟨HZ w.params, #[], {}, 2353, os⟩ && laidKept (boot_heap w.params) (HZ w.params)) = true := by kernel_rfl
end Mine
end

section -- Head18
open PySem PySem.W PyProof.Rows PySem.Calls
set_option Elab.async false
set_option maxRecDepth 100000
set_option linter.all false
namespace Mine
set_option maxHeartbeats 0
noncomputable abbrev sZ (w : World) (os : OsState) : Shared := ⟨HZ w.params, #[], {}, 2353, os⟩
theorem l_seen (w : World) (os : OsState) : seen ((recsOf viewQ).map (·.name)) (ownsOf viewQ) [] { sZ w os with gens := #[] } = expectedOf viewQ := by kernel_rfl
theorem l_blt (w : World) (os : OsState) : (sZ w os).heap.bltView = bltViewBooted := by kernel_rfl
theorem l_c (w : World) (os : OsState) : ((sZ w os).heap.keysOk (looseW viewQ looseL) ((recsOf viewQ).map (·.name)) ((litsOf viewQ).map (·.1)) ((clssOf viewQ (looseW viewQ looseL)).map (·.name)) && (sZ w os).heap.accountedOkI (importedModules prg.main.body) && (sZ w os).heap.isNs mainGlobals && (sZ w os).heap.isNs builtinsNs && tablesOk viewQ (sZ w os).heap && XtQ (sZ w os) && (if true then (sZ w os).gens.size == 0 else !leftWithCleanup (sZ w os).gens)) = true := by kernel_rfl
theorem l_d1 (w : World) (os : OsState) : tabsOk viewQ (sZ w os) = true := by kernel_rfl
theorem l_d2 (w : World) (os : OsState) : pinSeenD viewQ (drecsOf viewQ) (sZ w os) = pinGoodD (drecsOf viewQ) := by kernel_rfl
theorem l_d3 (w : World) (os : OsState) : plainSeenE viewQ (looseW viewQ looseL) (sZ w os) = plainGoodE viewQ (looseW viewQ looseL) := by kernel_rfl
theorem l_d4 (w : World) (os : OsState) : plainSeenD viewQ looseL (sZ w os) = plainGoodD viewQ looseL := by kernel_rfl
theorem l_d5 (w : World) (os : OsState) : wideSeen viewQ (sZ w os) = wideGood viewQ := by kernel_rfl
theorem l_d6 (w : World) (os : OsState) : clsSeenW viewQ looseL (sZ w os) = clsGoodW viewQ looseL := by kernel_rfl
theorem l_open (w : World) (os : OsState) : openSeen viewQ looseL (importedModules prg.main.body) XtQ true (sZ w os) = openGood viewQ looseL := by
  unfold openSeen openGood
  rw [l_seen, l_blt, l_c, l_d1, l_d2, l_d3, l_d4, l_d5, l_d6]

theorem left_ok : LeftO prg viewQ looseL XtQ YfQ YaQ 100000 := by
  refine LeftO.of_pieces (H₀ := boot_heap) (H₁ := HZ) (gs₀ := #[]) (gs₁ := #[]) (d₀ := boot_drawn) (d₁ := {}) (k₀ := boot_toks) (k₁ := 2353) (m₀ := 11) (ann := ann0) (M := 12 + (1 + (500 + (1100 + (60 + (20 + (300 + 5) + 60000))))))
    (boot_open opens_plain rfl fence_plain) size_ok (fun w os => head_run w os) rfl fun w => funext fun os => ?_
  exact Prod.ext (look_1 w os) (Prod.ext (l_open w os) rfl)
end Mine
end

section -- Head19
open PySem PySem.W PyProof.Rows PySem.Calls
set_option Elab.async false
set_option maxRecDepth 100000
set_option linter.all false
namespace Mine
set_option maxHeartbeats 0
noncomputable abbrev mgZ (P : Params) : Str → Option Value := (HZ P).nsMap mainGlobals

theorem FnZ {P : Params} (i : Nat) (a : Addr) (pm cd : Value) (h1 : mgZ P (dAt i).name = some (.ref a)) (h2 : (HZ P).get? a = some (fnO i pm cd)) (h3 : (HZ P).codeRecOk cd (dAt i).name = true) : FnAt (HZ P) (mgZ P) (dAt i) a :=
  ⟨_, pm, cd, .none, h1, h2, rfl, Heap.CodeRec.of_ok h3⟩
theorem FnAt.keeps {h h' : Heap} {mg : Str → Option Value} {d : DefRec} {a : Addr} (x : FnAt h mg d a) (k : ∀ b o, h.get? b = some o → h'.get? b = some o) : FnAt h' mg d a :=
  let ⟨o, pm, cd, doc, h1, h2, h3, h4⟩ := x; ⟨o, pm, cd, doc, h1, k _ _ h2, h3, h4.keeps k⟩

theorem fn1 (P : Params) : FnAt (HZ P) (mgZ P) (dAt 1) 21 := FnZ 1 21 (sv "cpy313.operator" 187) (.ref 20) (by kernel_rfl) (by kernel_rfl) (by kernel_rfl)
theorem fn2 (P : Params) : FnAt (HZ P) (mgZ P) (dAt 2) 28 := FnZ 2 28 (sv "cpy313.operator" 187) (.ref 27) (by kernel_rfl) (by kernel_rfl) (by kernel_rfl)
theorem fn3 (P : Params) : FnAt (HZ P) (mgZ P) (dAt 3) 35 := FnZ 3 35 (sv "cpy313.operator" 187) (.ref 34) (by kernel_rfl) (by kernel_rfl) (by kernel_rfl)
theorem fn4 (P : Params) : FnAt (HZ P) (mgZ P) (dAt 4) 42 := FnZ 4 42 (sv "cpy313.operator" 187) (.ref 41) (by kernel_rfl) (by kernel_rfl) (by kernel_rfl)
theorem fn5 (P : Params) : FnAt (HZ P) (mgZ P) (dAt 5) 49 := FnZ 5 49 (sv "cpy313.operator" 187) (.ref 48) (by kernel_rfl) (by kernel_rfl) (by kernel_rfl)
theorem fn6 (P : Params) : FnAt (HZ P) (mgZ P) (dAt 6) 56 := FnZ 6 56 (sv "cpy313.operator" 187) (.ref 55) (by kernel_rfl) (by kernel_rfl) (by kernel_rfl)
theorem fn7 (P : Params) : FnAt (HZ P) (mgZ P) (dAt 7) 63 := FnZ 7 63 (sv "cpy313.operator" 187) (.ref 62) (by kernel_rfl) (by kernel_rfl) (by kernel_rfl)
theorem fn8 (P : Params) : FnAt (HZ P) (mgZ P) (dAt 8) 70 := FnZ 8 70 (sv "cpy313.operator" 187) (.ref 69) (by kernel_rfl) (by kernel_rfl) (by kernel_rfl)
theorem fn9 (P : Params) : FnAt (HZ P) (mgZ P) (dAt 9) 77 := FnZ 9 77 (sv "cpy313.operator" 187) (.ref 76) (by kernel_rfl) (by kernel_rfl) (by kernel_rfl)
theorem fn10 (P : Params) : FnAt (HZ P) (mgZ P) (dAt 10) 84 := FnZ 10 84 (sv "cpy313.operator" 187) (.ref 83) (by kernel_rfl) (by kernel_rfl) (by kernel_rfl)
theorem fn11 (P : Params) : FnAt (HZ P) (mgZ P) (dAt 11) 91 := FnZ 11 91 (sv "cpy313.operator" 187) (.ref 90) (by kernel_rfl) (by kernel_rfl) (by kernel_rfl)
theorem fn14 (P : Params) : FnAt (HZ P) (mgZ P) (dAt 14) 109 := FnZ 14 109 (sv "cpy313.stringprep" 282) (.ref 108) (by kernel_rfl) (by kernel_rfl) (by kernel_rfl)
theorem fn16 (P : Params) : FnAt (HZ P) (mgZ P) (dAt 16) 155 := FnZ 16 155 (sv "cpy313.stringprep" 282) (.ref 154) (by kernel_rfl) (by kernel_rfl) (by kernel_rfl)
theorem fn18 (P : Params) : FnAt (HZ P) (mgZ P) (dAt 18) 162 := FnZ 18 162 (sv "law_pg0231_01" 2310) (.ref 161) (by kernel_rfl) (by kernel_rfl) (by kernel_rfl)
theorem fn19 (P : Params) : FnAt (HZ P) (mgZ P) (dAt 19) 169 := FnZ 19 169 (sv "law_pg0231_01" 2310) (.ref 168) (by kernel_rfl) (by kernel_rfl) (by kernel_rfl)
theorem fn20 (P : Params) : FnAt (HZ P) (mgZ P) (dAt 20) 176 := FnZ 20 176 (sv "law_pg0231_01" 2310) (.ref 175) (by kernel_rfl) (by kernel_rfl) (by kernel_rfl)
theorem fn21 (P : Params) : FnAt (HZ P) (mgZ P) (dAt 21) 181 := FnZ 21 181 (sv "law_pg0231_01" 2310) (.ref 180) (by kernel_rfl) (by kernel_rfl) (by kernel_rfl)
theorem fn22 (P : Params) : FnAt (HZ P) (mgZ P) (dAt 22) 186 := FnZ 22 186 (sv "law_pg0231_01" 2310) (.ref 185) (by kernel_rfl) (by kernel_rfl) (by kernel_rfl)

theorem fns_ok (P : Params) : ∀ i, (i ∈ [1, 2, 3, 4, 5, 6, 7, 8, 9, 10, 11, 14, 16, 18, 19, 20, 21]) → ∃ a, FnAt (HZ P) (mgZ P) (dAt i) a := by
  intro i hi
  simp only [List.mem_cons, List.not_mem_nil, or_false] at hi
  rcases hi with rfl | rfl | rfl | rfl | rfl | rfl | rfl | rfl | rfl | rfl | rfl | rfl | rfl | rfl | rfl | rfl | rfl
  · exact ⟨_, fn1 P⟩
  · exact ⟨_, fn2 P⟩
  · exact ⟨_, fn3 P⟩
  · exact ⟨_, fn4 P⟩
  · exact ⟨_, fn5 P⟩
  · exact ⟨_, fn6 P⟩
  · exact ⟨_, fn7 P⟩
  · exact ⟨_, fn8 P⟩
  · exact ⟨_, fn9 P⟩
  · exact ⟨_, fn10 P⟩
  · exact ⟨_, fn11 P⟩
  · exact ⟨_, fn14 P⟩
  · exact ⟨_, fn16 P⟩
  · exact ⟨_, fn18 P⟩
  · exact ⟨_, fn19 P⟩
  · exact ⟨_, fn20 P⟩
  · exact ⟨_, fn21 P⟩

theorem free_ok (P : Params) : ∀ x : Str, x ∈ (["hasattr", "type", "enumerate", "ord", "chr", "range", "len", "sorted", "sum", "min"] : List Str) → mgZ P x = none := by
  have h : (["hasattr", "type", "enumerate", "ord", "chr", "range", "len", "sorted", "sum", "min"] : List Str).all (fun x => (mgZ P x).isNone) = true := by kernel_rfl
  intro x hx
  exact Option.isNone_iff_eq_none.mp (List.all_eq_true.mp h x hx)

/-- the set's table -/
def setE (P : Params) : Array (Int × Value) := match (o99 P).data with | .set es _ _ => es | _ => #[]
def elemOk (e : Int × Value) : Bool := match e.2 with | .int k _ => e.1 == hashInt k && gapL.contains k | _ => false
theorem set_ok (P : Params) (w : World) : (HZ P).SetOf (intKind prg w) 99 (fun k => gapL.contains k) 27 := by
  have h1 : (setE P).toList.all elemOk = true := by kernel_rfl
  have h2 : gapL.all (fun k => (setE P).toList.any fun e => Value.isInt k e.2) = true := by kernel_rfl
  have hel : ∀ e ∈ (setE P).toList, ∃ k t, e.2 = .int k t ∧ e.1 = hashInt k ∧ gapL.contains k = true := fun e he => by
    have := List.all_eq_true.mp h1 e he
    unfold elemOk at this
    split at this
    · rename_i k t hk
      simp only [Bool.and_eq_true, beq_iff_eq] at this
      exact ⟨k, t, hk, this.1, this.2⟩
    · cases this
  have hsz : (setE P).size = 27 := by kernel_rfl
  refine ⟨o99 P, setE P, 29, _, by kernel_rfl, ⟨rfl, rfl, rfl⟩, rfl, fun e he => ?_, fun k => ⟨fun hk => ?_, fun ⟨e, he, hk⟩ => ?_⟩, by rw [hsz]; decide, by rw [hsz]; kernel_rfl, hsz⟩
  · obtain ⟨k, t, e1, e2, _⟩ := hel e he
    exact ⟨⟨k, by rw [e1]; exact intKind_is prg w k t, e2⟩, by rw [e1]; rfl⟩
  · have := List.all_eq_true.mp h2 k (List.contains_iff_mem.mp hk)
    obtain ⟨e, he, hi⟩ := List.any_eq_true.mp this
    exact ⟨e, he, hi⟩
  · obtain ⟨k', t, e1, _, e3⟩ := hel e he
    rw [e1] at hk
    have : (k' == k) = true := hk
    rw [← eq_of_beq this]; exact e3

theorem dE_int : ∀ (m t : Nat) (kxs : List (Int × Str)), IntEnts (dE m t kxs)
  | 0, t, kxs => entsOf_int t kxs
  | m + 1, t, kxs => fun e he => by
    rcases List.mem_append.mp (show e ∈ entsOf t (kxs.take 17) ++ dE m (t + 51) (kxs.drop 17) from he) with h | h
    · exact entsOf_int _ _ e h
    · exact dE_int _ _ _ e h
def keyI (e : DictEntry) : Int := match e.key with | .int k _ => k | _ => 0
theorem find_lookup (k : Int) : ∀ (es : List DictEntry), IntEnts es → ((es.find? fun e => Value.isInt k e.key).map (·.val)) = (es.map fun e => (keyI e, e.val)).lookup k
  | [], _ => rfl
  | e :: r, h => by
    obtain ⟨i, t, v, rfl⟩ := h e (.head _)
    have ih := find_lookup k r fun e he => h e (.tail _ he)
    rw [List.find?_cons, List.map_cons, List.lookup_cons]
    have e1 : Value.isInt k (ent i t v).key = (i == k) := rfl
    have e2 : (k == keyI (ent i t v)) = (i == k) := by
      show (k == i) = (i == k)
      rw [Bool.eq_iff_iff, beq_iff_eq, beq_iff_eq]; exact eq_comm
    rw [e1, e2]
    cases i == k with
    | true => rfl
    | false => exact ih
theorem main_assoc : mainE.map (fun e => (keyI e, e.val)) = b3L := by kernel_rfl
theorem map_ok (P : Params) (w : World) : (HZ P).MapOf (intKind prg w) 110 b3f := by
  have hg : (HZ P).get? 110 = some mainO := by kernel_rfl
  refine Heap.IntMap.mapOf ⟨mainO, mainE.toArray, 650, hg, rfl, rfl, fun e he => ?_, fun k => ?_⟩ fun o ho => ?_
  · obtain ⟨k, t, v, rfl⟩ := dE_int _ _ _ e (show e ∈ mainE by simpa using he)
    exact ⟨k, t, rfl, rfl⟩
  · unfold findBy b3f
    rw [← main_assoc, ← find_lookup k mainE (dE_int _ _ _), List.find?_toArray]
  · rw [hg] at ho; cases ho; exact ⟨rfl, rfl⟩

theorem gr_ok {w : World} {s₀ s₁ : Shared} {mg mb : Str → Option Value} (y : YfQ s₀ = YaQ w) (k : ∀ b o, s₀.heap.get? b = some o → s₁.heap.get? b = some o) (g : s₁.heap.Ns mainGlobals mg) (gb : s₁.heap.Ns builtinsNs mb) :
    Gr w s₁ mg mb ∧ mg = mgZ w.params ∧ FnAt s₁.heap mg (dAt 22) 186 := by
  have hh : s₀.heap = HZ w.params := congrArg Prod.fst y
  rw [hh] at k
  have n1 : (HZ w.params).Ns mainGlobals (mgZ w.params) := .of_isNs (by kernel_rfl)
  have n2 : (HZ w.params).Ns builtinsNs ((HZ w.params).nsMap builtinsNs) := .of_isNs (by kernel_rfl)
  have n3 : (HZ w.params).Ns cStatics ((HZ w.params).nsMap cStatics) := .of_isNs (by kernel_rfl)
  have e1 : mg = mgZ w.params := g.eq_nsMap.trans (n1.keeps k).eq_nsMap.symm
  have e2 : mb = (HZ w.params).nsMap builtinsNs := gb.eq_nsMap.trans (n2.keeps k).eq_nsMap.symm
  refine ⟨⟨g, gb, ⟨_, n3.keeps k, by kernel_rfl⟩, fun i hi => ?_, fun x hx => ?_, ⟨_, n3.keeps k, by kernel_rfl⟩, ⟨99, ?_, ?_⟩, ⟨110, ?_, rfl, ?_⟩, fun x hx => ?_⟩, e1, ?_⟩
  · obtain ⟨a, h⟩ := fns_ok w.params i hi
    exact ⟨a, e1 ▸ h.keeps k⟩
  · rw [e2]
    exact Heap.of_bltView (by kernel_rfl) (l_blt w s₁.os) x hx
  · rw [e1]; kernel_rfl
  · obtain ⟨o, es, ep, t, h, r⟩ := set_ok w.params w
    exact ⟨o, es, ep, t, k _ _ h, r⟩
  · rw [e1]; kernel_rfl
  · obtain ⟨o, es, ep, h, r⟩ := map_ok w.params w
    exact ⟨o, es, ep, k _ _ h, r⟩
  · rw [e1]; exact free_ok w.params x hx
  · rw [e1]; exact (fn22 w.params).keeps k
end Mine
end

section -- Loops
open PySem PySem.W PyProof.Rows PySem.Calls
set_option Elab.async false
set_option maxRecDepth 100000
namespace Mine
section
variable {prog : Program} {w : World} {A : Around} {E : Value → Shared → Prop} {b s : Shared} {l : List (Addr × It)} {env : Env}

/-- what a turn's end says -/
def TurnEnd (b : Shared) (Q : Flow → Shared → Prop) (h : Addr × It) (J : List (Addr × It) → Prop) (f : Flow) (s : Shared) : Prop :=
  match f with
  | .next | .cont => ∃ l₂, J l₂ ∧ St b s (h :: l₂)
  | .brk => Q .next s
  | .ret v => Q (.ret v) s

theorem noted_false {M : Model} {F : Value → Shared → Prop} {x : Value} {s : Shared} (h : False) : notedBy M A env F x s := h.elim

/-- a for over a list, its target a name -/
theorem r_iter_list {a : Addr} {vs : List Value} {x : Str} {px : Pos} {body orelse : List Stmt} {Q : Flow → Shared → Prop} (J : Nat → List (Addr × It) → Prop) (hh : A.handled = none) (S : St b s l) (h0 : J 0 l)
    (hL : ∀ i l₁ s₁, J i l₁ → St b s₁ l₁ → s₁.heap.IsList a vs.toArray)
    (turn : ∀ i v l₁ s₁ I, vs[i]? = some v → J i l₁ → St b s₁ ((I, .itr a (i + 1)) :: l₁) →
      wpAny (model prog w) A (assign (.Name x px) env v) (fun _ s₂ => wpAny (model prog w) A (execs body env) (TurnEnd b Q (I, .itr a (i + 1)) (J (i + 1))) (fun _ _ => False) s₂) (fun _ _ => False) s₁)
    (done : ∀ l₁ s₁, J vs.length l₁ → St b s₁ l₁ → wpAny (model prog w) A (execs orelse env) Q (fun _ _ => False) s₁) :
    wpAny (model prog w) A (pyIter (.ref a)) (fun it s₂ => codeAny (model prog w) A (.forLoop (.Name x px) it body orelse env)
      (fun r s' => match r with | .ok f => Q f s' | .error e => cameBackBy (model prog w) A env E e s') s₂) E s := by
  have hl := hL 0 l s h0 S
  refine wpAny_pyIter_list hl ?_
  have S₂ : St b { s with heap := s.heap.push { cls := .type "list_iterator", data := .fields #[.ref a, .int 0 0] }, toks := s.toks } ((s.heap.objs.size, .itr a 0) :: l) :=
    S.push (it := .itr a 0) ⟨_, Heap.get?_push_size _ rfl, rfl, rfl⟩ S.tk
  generalize s.heap.objs.size = I at S₂
  generalize e2 : ({ s with heap := s.heap.push { cls := .type "list_iterator", data := .fields #[.ref a, .int 0 0] }, toks := s.toks } : Shared) = s2 at S₂
  refine codeAny_forLoop (fun n s' => ∃ i l₁, n + i = vs.length ∧ J i l₁ ∧ St b s' ((I, .itr a i) :: l₁)) ?_ vs.length ⟨0, l, rfl, h0, S₂⟩
  rintro n s' ⟨i, l₁, hn, hJ, S'⟩
  have hit : s'.heap.IsListIter I a i := S'.got _ (.head _)
  have hls : s'.heap.IsList a vs.toArray := hL i l₁ s' hJ (S'.sub (List.sublist_cons_self _ _))
  cases hv : vs[i]? with
  | none =>
    refine wpAny_pyNext_list_end hh hit hls (by simpa using hv) fun h' hs => ?_
    have hi : i = vs.length := by
      have := List.getElem?_eq_none_iff.mp hv
      omega
    subst hi
    exact wpAny_mono (done l₁ _ hJ (S'.drop hs S'.tk)) (fun _ _ q => q) fun _ _ f => noted_false f
  | some v =>
    refine wpAny_pyNext_list_item hit hls (by simpa using hv) fun h' hit' hs => ?_
    have S3 : St b { s' with heap := h', toks := s'.toks } ((I, .itr a (i + 1)) :: l₁) := S'.upd (it' := .itr a (i + 1)) .head hs hit' S'.tk
    refine wpAny_mono (turn i v l₁ _ I hv hJ S3) (fun _ s₂ h₂ => wpAny_mono h₂ (fun f s₃ h₃ => ?_) fun _ _ f => noted_false f) fun _ _ f => noted_false f
    have hlt : i < vs.length := by
      have := List.getElem?_eq_some_iff.mp hv
      exact this.1
    cases f with
    | next => obtain ⟨l₂, j, S4⟩ := h₃; exact ⟨n - 1, by omega, i + 1, l₂, by omega, j, S4⟩
    | cont => obtain ⟨l₂, j, S4⟩ := h₃; exact ⟨n - 1, by omega, i + 1, l₂, by omega, j, S4⟩
    | brk => exact h₃
    | ret v => exact h₃

/-- a for over range(x, x + n) by ones -/
theorem r_iter_range {a : Addr} {x y : Int} {n : Nat} {nm : Str} {px : Pos} {body orelse : List Stmt} {Q : Flow → Shared → Prop} (J : Nat → List (Addr × It) → Prop) (hh : A.handled = none) (S : St b s l) (h0 : J 0 l)
    (hr : (a, .rng x y) ∈ l) (hsm : Builtin.Range.small x y 1 = true) (hsz : Builtin.Range.rangeSize x y 1 = n)
    (turn : ∀ i t l₁ s₁ I, i < n → J i l₁ → b.toks ≤ t → St b s₁ ((I, .rit (x + i + 1) ((n : Int) - i - 1) 1) :: l₁) →
      wpAny (model prog w) A (assign (.Name nm px) env (.int (x + i) t)) (fun _ s₂ => wpAny (model prog w) A (execs body env) (TurnEnd b Q (I, .rit (x + i + 1) ((n : Int) - i - 1) 1) (J (i + 1))) (fun _ _ => False) s₂) (fun _ _ => False) s₁)
    (done : ∀ l₁ s₁, J n l₁ → St b s₁ l₁ → wpAny (model prog w) A (execs orelse env) Q (fun _ _ => False) s₁) :
    wpAny (model prog w) A (pyIter (.ref a)) (fun it s₂ => codeAny (model prog w) A (.forLoop (.Name nm px) it body orelse env)
      (fun r s' => match r with | .ok f => Q f s' | .error e => cameBackBy (model prog w) A env E e s') s₂) E s := by
  obtain ⟨t, u, v, hr'⟩ := S.got _ hr
  refine wpAny_pyIter_range hr' hsm ?_
  rw [hsz]
  have S₂ : St b { s with heap := s.heap.push { cls := .type "range_iterator", data := .fields #[rawInt x, rawInt (n : Int), rawInt 1] }, toks := s.toks } ((s.heap.objs.size, .rit x n 1) :: l) :=
    S.push (it := .rit x n 1) (Heap.get?_push_size _ rfl) S.tk
  generalize s.heap.objs.size = I at S₂
  generalize e2 : ({ s with heap := s.heap.push { cls := .type "range_iterator", data := .fields #[rawInt x, rawInt (n : Int), rawInt 1] }, toks := s.toks } : Shared) = s2 at S₂
  refine codeAny_forLoop (fun k s' => ∃ i l₁, k + i = n ∧ J i l₁ ∧ St b s' ((I, .rit (x + (i : Nat)) ((n : Int) - (i : Nat)) 1) :: l₁)) ?_ n ⟨0, l, rfl, h0, by simpa using S₂⟩
  rintro k s' ⟨i, l₁, hn, hJ, S'⟩
  have hit : IsRangeIter s'.heap I (x + i) ((n : Int) - i) 1 := S'.got _ (.head _)
  by_cases hlt : i < n
  · refine wpAny_pyNext_range_item hit (by omega) fun h' hit' hs => ?_
    have S3 : St b { s' with heap := h', toks := s'.toks + 1 } ((I, .rit (x + i + 1) ((n : Int) - i - 1) 1) :: l₁) := S'.upd (it' := .rit (x + i + 1) ((n : Int) - i - 1) 1) .head hs hit' (Nat.le_succ_of_le S'.tk)
    refine wpAny_mono (turn i s'.toks l₁ _ I hlt hJ S'.tk S3) (fun _ s₂ h₂ => wpAny_mono h₂ (fun f s₃ h₃ => ?_) fun _ _ f => noted_false f) fun _ _ f => noted_false f
    have e1 : x + (i : Int) + 1 = x + ((i + 1 : Nat) : Int) := by omega
    have e2 : (n : Int) - i - 1 = (n : Int) - ((i + 1 : Nat) : Int) := by omega
    cases f with
    | next => obtain ⟨l₂, j, S4⟩ := h₃; rw [e1, e2] at S4; exact ⟨k - 1, by omega, i + 1, l₂, by omega, j, S4⟩
    | cont => obtain ⟨l₂, j, S4⟩ := h₃; rw [e1, e2] at S4; exact ⟨k - 1, by omega, i + 1, l₂, by omega, j, S4⟩
    | brk => exact h₃
    | ret v => exact h₃
  · have hi : i = n := by omega
    subst hi
    refine wpAny_pyNext_range_end hh hit (by omega) fun h' hs => ?_
    exact wpAny_mono (done l₁ _ hJ (S'.drop hs S'.tk)) (fun _ _ q => q) fun _ _ f => noted_false f
end
end Mine
end

section -- Comps
open PySem PySem.W PyProof.Rows PySem.Calls
set_option Elab.async false
set_option maxRecDepth 100000
namespace Mine

/-- an iterator of the ledger's -/
structure Walker (prog : Program) (w : World) (A : Around) (b : Shared) (I : Addr) (itAt : Nat → It) (n : Nat) (P : Nat → Value → Prop) (side : Shared → Prop) : Prop where
  item : ∀ (i : Nat) (l : List (Addr × It)) (s : Shared) (Q : Option Value → Shared → Prop) (E : Value → Shared → Prop), i < n → side s → St b s ((I, itAt i) :: l) →
    (∀ v s', P i v → St b s' ((I, itAt (i + 1)) :: l) → Q (some v) s') → wpAny (model prog w) A (pyNext (.ref I)) Q E s
  done : ∀ (l : List (Addr × It)) (s : Shared) (Q : Option Value → Shared → Prop) (E : Value → Shared → Prop), side s → St b s ((I, itAt n) :: l) →
    (∀ s', St b s' l → Q none s') → wpAny (model prog w) A (pyNext (.ref I)) Q E s
  self : ∀ (i : Nat) (l : List (Addr × It)) (s : Shared) (Q : Value → Shared → Prop) (E : Value → Shared → Prop), St b s ((I, itAt i) :: l) → Q (.ref I) s → wpAny (model prog w) A (pyIter (.ref I)) Q E s

theorem walker_list {prog : Program} {w : World} {A : Around} {b : Shared} (hh : A.handled = none) (I a : Addr) (vs : List Value) :
    Walker prog w A b I (fun i => .itr a i) vs.length (fun i v => vs[i]? = some v) (fun s => s.heap.IsList a vs.toArray) where
  item i l s Q E hi hl S h := by
    have hit : s.heap.IsListIter I a i := S.got _ (.head _)
    refine wpAny_pyNext_list_item hit hl (x := vs[i]) (by simp [hi]) fun h' hit' hs => ?_
    exact h _ _ (by simp [hi]) (S.upd (it' := .itr a (i + 1)) .head hs hit' S.tk)
  done l s Q E hl S h := by
    have hit : s.heap.IsListIter I a vs.length := S.got _ (.head _)
    exact wpAny_pyNext_list_end hh hit hl (by simp) fun h' hs => h _ (S.drop hs S.tk)
  self i l s Q E S h := by
    have hit : s.heap.IsListIter I a i := S.got _ (.head _)
    exact wpAny_pyIter_listiter hit h

theorem walker_range {prog : Program} {w : World} {A : Around} {b : Shared} (hh : A.handled = none) (I : Addr) (x : Int) (n : Nat) :
    Walker prog w A b I (fun i => .rit (x + (i : Nat)) ((n : Int) - (i : Nat)) 1) n (fun i v => ∃ t, b.toks ≤ t ∧ v = .int (x + i) t) (fun _ => True) where
  item i l s Q E hi _ S h := by
    have hit : IsRangeIter s.heap I (x + i) ((n : Int) - i) 1 := S.got _ (.head _)
    refine wpAny_pyNext_range_item hit (by omega) fun h' hit' hs => ?_
    have e1 : x + (i : Int) + 1 = x + ((i + 1 : Nat) : Int) := by omega
    have e2 : (n : Int) - i - 1 = (n : Int) - ((i + 1 : Nat) : Int) := by omega
    rw [e1, e2] at hit'
    exact h _ _ ⟨s.toks, S.tk, rfl⟩ (S.upd (it' := .rit (x + ((i + 1 : Nat) : Int)) ((n : Int) - ((i + 1 : Nat) : Int)) 1) .head hs hit' (Nat.le_succ_of_le S.tk))
  done l s Q E _ S h := by
    have hit : IsRangeIter s.heap I (x + n) ((n : Int) - n) 1 := S.got _ (.head _)
    exact wpAny_pyNext_range_end hh hit (by omega) fun h' hs => h _ (S.drop hs S.tk)
  self i l s Q E S h := by
    have hit : IsRangeIter s.heap I (x + i) ((n : Int) - i) 1 := S.got _ (.head _)
    exact wpAny_pyIter_rangeiter hit h

section
variable {prog : Program} {w : World} {A : Around} {E : Value → Shared → Prop} {b s : Shared} {l : List (Addr × It)} {env : Env}

theorem comp_core {elt iter : Expr} {x : Str} {px : Pos} {ifs : List Expr} {scope : Scope} {cl : List (Str × Addr)} {pos : Pos} {Q : Value → Shared → Prop} {I : Addr} {itAt : Nat → It} {n : Nat} {P : Nat → Value → Prop} {side : Shared → Prop}
    (W : Walker prog w A b I itAt n P side) (hcell : ∀ y ∈ scope.names, y.2 ≠ .cell) (hkind : scope.kind = .function) (hx : scope.names.lookup x = some .local) (hn : n ≤ 1000)
    (J : Nat → List Value → List (Addr × It) → Prop) (S : St b s ((I, itAt 0) :: l)) (h0 : J 0 [] l) (hlen : ∀ i outs l₁, J i outs l₁ → outs.length ≤ i)
    (hside : ∀ i outs l₁ s₁, J i outs l₁ → St b s₁ l₁ → side s₁)
    (turn : ∀ i v outs l₁ s₁ I C D, i < n → P i v → J i outs l₁ → St b s₁ ((I, itAt (i + 1)) :: (D, .lst outs) :: (C, .frm [(x, v)]) :: l₁) →
      wpAny (model prog w) A (forIn ifs true fun c r => if r = true then do let ok ← isTrue c (compEnvC scope cl C env) (eval c (compEnvC scope cl C env)); pure (ForInStep.yield ok) else pure (ForInStep.yield r))
        (fun ok s₃ => if ok = true then wpAny (model prog w) A (eval elt (compEnvC scope cl C env)) (fun y s₄ => ∃ l₂, J (i + 1) (outs ++ [y]) l₂ ∧ St b s₄ ((I, itAt (i + 1)) :: (D, .lst outs) :: (C, .frm [(x, v)]) :: l₂)) (fun _ _ => False) s₃
          else ∃ l₂, J (i + 1) outs l₂ ∧ St b s₃ ((I, itAt (i + 1)) :: (D, .lst outs) :: (C, .frm [(x, v)]) :: l₂)) (fun _ _ => False) s₁)
    (done : ∀ outs l₁ s₁ D, J n outs l₁ → St b s₁ ((D, .lst outs) :: l₁) → Q (.ref D) s₁) :
    wpAny (model prog w) A (newList []) (fun acc s₃ => wpAny (model prog w) A (newFunctionEnv scope env.globals cl [] env.qual none .none (some env)) (fun cenv s₄ =>
      codeAny (model prog w) A (.compStart (.ListComp elt [⟨.Name x px, iter, ifs, 0⟩] scope pos) 0 (.ref I) acc { cenv with scope := relabel scope env }) (compPost (model prog w) A E none Q acc cenv.locals) s₄) E s₃) E s := by
  refine wpAny_newObj_type ?_
  have S1 : St b { s with heap := s.heap.push { cls := .type "list", dict := none, data := .seq ([] : List Value).toArray }, toks := s.toks } ((s.heap.objs.size, .lst []) :: (I, itAt 0) :: l) :=
    S.push (it := .lst []) ⟨_, Heap.get?_push_size _ rfl⟩ S.tk
  generalize s.heap.objs.size = D at S1
  generalize ({ s with heap := s.heap.push { cls := .type "list", dict := none, data := .seq ([] : List Value).toArray }, toks := s.toks } : Shared) = s1 at S1
  refine wpAny_newFunctionEnv hcell (by intro y hy; simp at hy) (fun h₁ hns₁ hsb₁ => ?_) hkind
  have S2 : St b { s1 with heap := h₁, toks := s1.toks + ([] : List (Str × Value)).length } ((s1.heap.objs.size, .frm []) :: (D, .lst []) :: (I, itAt 0) :: l) := by
    have k : ∀ c o, s1.heap.get? c = some o → h₁.get? c = some o := fun c o e => hsb₁.extBut c o (Nat.ne_of_lt (Heap.lt_size e)) (Heap.get?_push_of_some _ e)
    refine ⟨fun c o e => k c o (S1.keep c o e), fun p hp => ?_, fun p hp => ?_, ?_, S1.tk, S1.pos, S1.same⟩
    · rcases List.mem_cons.mp hp with rfl | hp
      · exact hns₁
      · exact It.at_ext (S1.got p hp) (k p.1)
    · rcases List.mem_cons.mp hp with rfl | hp
      · exact S1.fresh
      · exact S1.new p hp
    · refine List.nodup_cons.mpr ⟨fun hm => ?_, S1.nd⟩
      obtain ⟨p, hp, e⟩ := List.mem_map.mp hm
      have := It.at_lt (S1.got p hp)
      rw [e] at this
      exact absurd this (Nat.lt_irrefl _)
  dsimp only [Option.isSome_some, newEnv]
  generalize s1.heap.objs.size = C at S2
  generalize ({ s1 with heap := h₁, toks := s1.toks + ([] : List (Str × Value)).length } : Shared) = s2 at S2
  have S3 : St b s2 ((I, itAt 0) :: (D, .lst []) :: (C, .frm []) :: l) :=
    S2.perm (((List.Perm.swap _ _ _).trans ((List.Perm.swap _ _ _).cons _)).trans (List.Perm.swap _ _ _))
  have key : ∀ s₃ : Shared, St b s₃ ((I, itAt 0) :: (D, .lst []) :: (C, .frm []) :: l) →
      codeAny (model prog w) A (.compLoop (.ListComp elt [⟨.Name x px, iter, ifs, 0⟩] scope pos) 0 (.ref I) (.ref D) (compEnvC scope cl C env)) (compPost (model prog w) A E none Q (.ref D) C) s₃ := by
    intro s₃ S3
    refine codeAny_compLoop_tests (fun k s' => ∃ i outs l₁ al, k + i = n ∧ J i outs l₁ ∧ (al = [] ∨ ∃ u, al = [(x, u)]) ∧ St b s' ((I, itAt i) :: (D, .lst outs) :: (C, .frm al) :: l₁)) ?_ n ⟨0, [], l, [], rfl, h0, .inl rfl, S3⟩
    rintro k s' ⟨i, outs, l₁, al, hk, hJ, hal, S'⟩
    have hs' : side s' := hside i outs l₁ s' hJ (S'.sub (((List.sublist_cons_self _ _).trans (List.sublist_cons_self _ _)).trans (List.sublist_cons_self _ _)))
    by_cases hlt : i < n
    · refine W.item i _ s' _ _ hlt hs' S' fun v s4 hv S4 => ?_
      have hset : LSet x v al [(x, v)] := by
        rcases hal with rfl | ⟨u, rfl⟩
        · exact .nil
        · exact .head
      refine wpAny_assign_Name (r_st (env := compEnvC scope cl C env) S4 (.tail (.tail .head)) hset (fun s5 S5 => ?_) (lookup_relabel_local hx) (by simp [compEnvC, relabel, hkind]))
      refine wpAny_mono (turn i v outs l₁ s5 I C D hlt hv hJ S5) (fun ok s6 h6 => ?_) fun _ _ f => noted_false f
      cases ok with
      | false =>
        obtain ⟨l₂, j, S6⟩ := h6
        exact ⟨k - 1, by omega, i + 1, outs, l₂, _, by omega, j, .inr ⟨v, rfl⟩, S6⟩
      | true =>
        refine wpAny_mono h6 (fun y s7 h7 => ?_) fun _ _ f => noted_false f
        obtain ⟨l₂, j, S7⟩ := h7
        have hD : s7.heap.PlainList D outs.toArray := S7.got (D, .lst outs) (.tail _ (.head _))
        have hl := hlen i outs l₁ hJ
        refine wpAny_list_append_plain hD (fun h' hp hb => ?_) (by rw [List.size_toArray, sizeLine_eq]; omega)
        refine ⟨k - 1, by omega, i + 1, outs ++ [y], l₂, _, by omega, j, .inr ⟨v, rfl⟩, ?_⟩
        refine S7.upd (.tail .head) hb ?_ S7.tk
        show h'.PlainList D (outs ++ [y]).toArray
        have e : (outs ++ [y]).toArray = outs.toArray.push y := by simp
        rw [e]; exact hp
    · have hi : i = n := by omega
      subst hi
      refine W.done _ s' _ _ hs' S' fun s4 S4 => ?_
      have hC : s4.heap.Ns C (fun y => al.lookup y) := S4.got (C, .frm al) (.tail _ (.head _))
      refine ⟨_, hC, fun h' hb => done outs l₁ _ D hJ ?_⟩
      exact (S4.perm (List.Perm.swap _ _ _)).drop hb.extBut S4.tk
  exact codeAny_compStart_list (key _ S3) (W.self 0 _ _ _ _ S3 (key _ S3))
end
end Mine
end

section -- Rules2
open PySem PySem.W PyProof.Rows PySem.Calls
set_option Elab.async false
set_option maxRecDepth 100000
namespace Mine
section
variable {prog : Program} {w : World} {A : Around} {E : Value → Shared → Prop} {b s : Shared} {l l' : List (Addr × It)} {env : Env}

theorem St.lst {a : Addr} {vs : List Value} (S : St b s l) (h : (a, It.lst vs) ∈ l) : s.heap.IsList a vs.toArray := (S.got (a, .lst vs) h : s.heap.PlainList a vs.toArray).isList
theorem St.ils {a : Addr} {vs : List Value} (S : St b s l) (h : (a, It.ils vs) ∈ l) : s.heap.IsList a vs.toArray := S.got (a, .ils vs) h

/-- the list stands wherever the ledger does -/
def Has (b : Shared) (l : List (Addr × It)) (c : Addr) (vs : List Value) : Prop := ∀ s' l', l.Sublist l' → St b s' l' → s'.heap.IsList c vs.toArray
theorem Has.sub {c : Addr} {vs : List Value} (h : Has b l c vs) {l2 : List (Addr × It)} (hs : l.Sublist l2) : Has b l2 c vs := fun s' l' h' S => h s' l' (hs.trans h') S
theorem Has.at {c : Addr} {vs : List Value} (h : Has b l c vs) (S : St b s l) : s.heap.IsList c vs.toArray := h s l (List.Sublist.refl _) S
theorem Has.at' {c : Addr} {vs : List Value} (h : Has b l c vs) {l2 : List (Addr × It)} (S : St b s l2) (hs : l.Sublist l2) : s.heap.IsList c vs.toArray := h s l2 hs S
theorem Has.lst {c : Addr} {vs : List Value} (h : (c, It.lst vs) ∈ l) : Has b l c vs := fun _ _ hs S => S.lst (hs.subset h)
theorem Has.ils {c : Addr} {vs : List Value} (h : (c, It.ils vs) ∈ l) : Has b l c vs := fun _ _ hs S => S.ils (hs.subset h)
theorem Has.base {c : Addr} {vs : List Value} (h : b.heap.IsList c vs.toArray) : Has b l c vs := fun _ _ _ S => let ⟨o, e, r⟩ := h; ⟨o, S.keep _ _ e, r⟩
theorem Has.up {c : Addr} {vs : List Value} {n : Nat} (h : Has b l c vs) (hn : b.toks ≤ n) (hp : 0 < b.toks) : Has (Mine.up b n) l c vs := fun s' l' hs S => h s' l' hs (S.down hn hp)

theorem star_const {c : Const} {k : Nat} {p : Pos} {r : List Expr} : starEach (.Constant c k p :: r) env = (false, eval (.Constant c k p) env) :: starEach r env := rfl
theorem r_int {i : Int} {k : Nat} {pos : Pos} {Q : Value → Shared → Prop} (S : St b s l) (h : ∀ s' t', St b s' l → b.toks ≤ t' → Q (.int i t') s') : wpAny (model prog w) A (eval (.Constant (.int i) k pos) env) Q E s :=
  wpAny_Constant_int (h _ _ S.tick S.tk)
theorem r_str {x : Str} {k : Nat} {pos : Pos} {Q : Value → Shared → Prop} (S : St b s l) (h : ∀ s' t', St b s' l → Q (.str x t') s') : wpAny (model prog w) A (eval (.Constant (.str x) k pos) env) Q E s :=
  wpAny_Constant_str (h _ _ S.tick)

/-- a list display's end -/
theorem r_list_end {vs : List Value} {Q : Value → Shared → Prop} (S : St b s l) (hz : vs.length ≤ 1000) (h : ∀ D s', St b s' ((D, .lst vs) :: l) → Q (.ref D) s') :
    vs.length ≤ sizeLine ∧ Q (.ref s.heap.objs.size) { s with heap := s.heap.push { cls := .type "list", data := .seq vs.toArray } } :=
  ⟨by rw [sizeLine_eq]; omega, h _ _ (S.push (it := .lst vs) (t := s.toks) ⟨_, Heap.get?_push_size _ rfl⟩ S.tk)⟩

theorem item_of {h : Heap} {a : Addr} {vs : List Value} {ns : List Int} (_hl : h.IsList a vs.toArray) (hi : IntsAre vs ns) {k : Nat} (hk : k < ns.length) : ∃ t, vs[k]? = some (.int (ns.getD k 0) t) :=
  hi.get k _ (by rw [List.getD_eq_getElem?_getD, List.getElem?_eq_getElem hk]; rfl)
theorem r_List {elts : List Expr} {pos : Pos} {Q : Value → Shared → Prop}
    (h : wpAny (model prog w) A (spliced (backTo pos (starEach elts env))) (fun vs s₁ => ∃ l₁, St b s₁ l₁ ∧ vs.length ≤ 1000 ∧ ∀ D s', St b s' ((D, .lst vs) :: l₁) → Q (.ref D) s') E s) :
    wpAny (model prog w) A (eval (.List elts pos) env) Q E s :=
  PySem.wpAny_List (wpAny_mono h (fun _ _ x => let ⟨_, S₁, hz, hQ⟩ := x; r_list_end S₁ hz hQ) fun _ _ x => x)

theorem r_item {value slice : Expr} {a : Addr} {vs : List Value} {k : Int} {u : Tok} {v : Value} {Q : Value → Shared → Prop} (hl : s.heap.IsList a vs.toArray) (h0 : 0 ≤ k) (h1 : k < 1000000) (hx : vs[k.toNat]? = some v) (h : Q v s)
    (hs : subscripted slice false (.ref a) (.int k u) = operate [.ref a, .int k u] (getItem (.ref a) (.int k u)) := by with_unfolding_all rfl) :
    wpAny (model prog w) A (subscriptTail value slice (.ref a) (.int k u)) Q E s :=
  tail_any hl.typeIs slot_list_getitem.lookup (wpAny_getItem_list hl h0 (by omega) (by simpa using hx) h) hs

theorem r_add_lists {a c : Addr} {vs ws : List Value} {Q : Value → Shared → Prop} (S : St b s l) (ha : s.heap.IsList a vs.toArray) (hc : s.heap.IsList c ws.toArray) (hz : vs.length + ws.length ≤ 1000)
    (h : ∀ D s', St b s' ((D, .lst (vs ++ ws)) :: l) → Q (.ref D) s') : wpAny (model prog w) A (binaryOp .Add (.ref a) (.ref c)) Q E s := by
  obtain ⟨⟨cls, dd, data, sl⟩, ho, hc1, n, hd⟩ := id ha
  obtain ⟨⟨cls2, dd2, data2, sl2⟩, ho2, hc2, n2, hd2⟩ := id hc
  simp only at hc1 hd hc2 hd2
  subst hc1 hd hc2 hd2
  have e : vs.toArray ++ ws.toArray = (vs ++ ws).toArray := by simp
  refine concat_meets ⟨_, ho, rfl⟩ ⟨_, ho2, rfl⟩ noFill_list_add seq_list_add PySem.F.slot_list_add PySem.F.entry_list_add (PySem.F.args_list_add_2 _ _) (list_addW a c vs.toArray ws.toArray n n2 dd dd2 sl sl2 (by rw [sizeLine_eq]; simp; omega)) ⟨ho, ho2, ?_⟩
  rw [e]
  exact h _ _ (S.push (it := .lst (vs ++ ws)) (t := s.toks) ⟨_, Heap.get?_push_size _ rfl⟩ S.tk)

theorem foldl_app {α : Type} (xs : Array α) : ∀ (n : Nat) (acc : Array α), List.foldl (fun x1 x2 => x1 ++ x2) acc (List.replicate n xs) = acc ++ (List.replicate n xs.toList).flatten.toArray
  | 0, acc => by simp
  | n + 1, acc => by rw [List.replicate_succ, List.foldl_cons, foldl_app xs n, List.replicate_succ, List.flatten_cons]; apply Array.ext'; simp
theorem r_mul_list {a : Addr} {v : Value} {vs : List Value} {x : Int} {u : Tok} {Q : Value → Shared → Prop} (S : St b s l) (ha : (a, It.lst (v :: vs)) ∈ l) (h0 : 0 ≤ x) (hz : (vs.length + 1) * x.toNat ≤ 1000) (hx : x ≤ 1000)
    (h : ∀ D s', St b s' ((D, .lst (List.replicate x.toNat (v :: vs)).flatten) :: l) → Q (.ref D) s') : wpAny (model prog w) A (binaryOp .Mult (.ref a) (.int x u)) Q E s := by
  obtain ⟨k, hl⟩ : s.heap.PlainList a (v :: vs).toArray := S.got _ ha
  refine wpAny_binaryOp_repeat_ref (T := "list") (U := "int") (by decide) ⟨_, hl, rfl⟩ (fun s' => typeIs_int s' x u) noFill_list_mul F.fills_int_mul F.slot_int_rmul repeat_list F.slot_int_index.lookup
    (call_meets F.slot_int_rmul (typeIs_int s x u) F.entry_int_rmul (F.args_int_rmul_2 _ _) (int___rmul___int_list x u a _ k)
      ⟨hl, rfl, ⟨_, hl, rfl⟩, call_meets F.slot_list_mul ⟨_, hl, rfl⟩ F.entry_list_mul (F.args_list_mul_2 _ _)
        (AutoListH.list___mul___list_int_3 a _ k x u (by simp [Builtin.List.listFitsIndex]; omega) (by rw [List.size_toArray, List.length_cons]; omega) (by simp [Builtin.List.listTooLong, sizeLine]; omega)) ⟨hl, ?_⟩⟩)
  have e : List.foldl (fun x1 x2 => x1 ++ x2) #[] (List.replicate (if (v :: vs).toArray.isEmpty = true then 0 else x.toNat) (v :: vs).toArray) = (List.replicate x.toNat (v :: vs)).flatten.toArray := by
    rw [foldl_app]; simp
  show Q (.ref s.heap.objs.size) { s with heap := s.heap.push { cls := .type "list", data := .seq (List.foldl (fun x1 x2 => x1 ++ x2) #[] (List.replicate (if (v :: vs).toArray.isEmpty = true then 0 else x.toNat) (v :: vs).toArray)) } }
  rw [e]
  exact h _ _ (S.push (it := .lst _) (t := s.toks) ⟨_, Heap.get?_push_size _ rfl⟩ S.tk)
end
end Mine
end

section -- Rules3
open PySem PySem.W PyProof.Rows PySem.Calls
set_option Elab.async false
set_option maxRecDepth 100000
namespace Mine
section
variable {prog : Program} {w : World} {A : Around} {E : Value → Shared → Prop} {b s : Shared} {l l' : List (Addr × It)} {env : Env} {mg mb : Str → Option Value}

theorem r_len {a : Addr} {vs : List Value} {Q : Value → Shared → Prop} (S : St b s l) (hl : s.heap.IsList a vs.toArray) (hz : vs.length ≤ 1000) (h : ∀ s' t', St b s' l → b.toks ≤ t' → Q (.int vs.length t') s') :
    wpAny (model prog w) A (call (.builtin "len") [.ref a]) Q E s := by
  refine call_len_list hl (by simp; omega) ?_
  have e : ((vs.toArray.size : Nat) : Int) = vs.length := by simp
  rw [e]
  exact h _ _ S.tick.tick (Nat.le_succ_of_le S.tk)

theorem r_append {o elt : Expr} {apos pos : Pos} {Q : Value → Shared → Prop}
    (h : wpAny (model prog w) A (eval o env) (fun ov s₁ => ∃ D vs l₁, ov = .ref D ∧ St b s₁ l₁ ∧ (D, It.lst vs) ∈ l₁ ∧
      wpAny (model prog w) A (eval elt env) (fun y s₂ => ∃ vs2 l₂ l₃, St b s₂ l₂ ∧ Put D (.lst vs2) (.lst (vs2 ++ [y])) l₂ l₃ ∧ vs2.length ≤ 1000 ∧ ∀ s₃, St b s₃ l₃ → Q .none s₃) E s₁) E s)
    (hbase : attributeBase o "append" env (eval o env) = eval o env := by rfl)
    (hfew : ((backTo pos (starEach [elt] env)).all (fun x => !x.1) && (backToKw pos (keywordEach [] env)).all (fun x => x.1.isSome)
      && decide (([elt] : List Expr).length + ([] : List Keyword).length + (if ([] : List Keyword).isEmpty then 0 else 1) < 30)) = true := by rfl)
    (hline : (apos.endLine == pos.line) = true := by rfl)
    (htrees : backTo pos (starEach [elt] env) = [(false, eval elt env)] := by rfl) :
    wpAny (model prog w) A (eval (.Call (.Attribute o "append" apos) [elt] [] pos) env) Q E s := by
  refine wpAny_Call_append hbase hfew hline htrees (wpAny_mono h (fun ov s₁ h₁ => ?_) fun _ _ x => x)
  obtain ⟨D, vs, l₁, rfl, S₁, hm, h₁⟩ := h₁
  obtain ⟨n, e⟩ : s₁.heap.PlainList D vs.toArray := S₁.got _ hm
  refine ⟨D, vs.toArray, rfl, ⟨_, n, e, rfl, rfl, rfl⟩, wpAny_mono h₁ (fun y s₂ h₂ => ?_) fun _ _ x => x⟩
  obtain ⟨vs2, l₂, l₃, S₂, P, hz, h₃⟩ := h₂
  have hD : s₂.heap.PlainList D vs2.toArray := S₂.got _ P.mem
  refine wpAny_list_append_plain hD (fun h' hp hb => h₃ _ (S₂.upd P hb ?_ S₂.tk)) (by rw [List.size_toArray, sizeLine_eq]; omega)
  show h'.PlainList D (vs2 ++ [y]).toArray
  have e : (vs2 ++ [y]).toArray = vs2.toArray.push y := by simp
  rw [e]; exact hp

theorem r_def {d : DefRec} {f : Str} {p pos : Pos} {e : Expr} {args : List Expr} {a : Addr} {Q : Value → Shared → Prop} (g : b.heap.Ns mainGlobals mg) (S : St b s l) (hf : FnAt b.heap mg d a)
    (h : wpAny (model prog w) A (spliced (backTo pos (starEach (e :: args) env))) (fun vs s₁ => (∃ l₁, St b s₁ l₁) ∧ wpAny (model prog w) A (call (.ref a) vs) Q E s₁) E s)
    (hn : d.name = f := by rfl) (he : ∃ x r, backTo pos (starEach (e :: args) env) = (false, x) :: r := by exact ⟨_, _, rfl⟩)
    (hk : env.scope.kind = .function := by rfl) (hx : env.kindOf f = some .globalImplicit := by rfl) (hdb : (f == ("__debug__" : Str)) = false := by decide) (hg : env.globals = mainGlobals := by rfl) :
    wpAny (model prog w) A (eval (.Call (.Name f p) (e :: args) [] pos) env) Q E s := by
  obtain ⟨o, pm, code, doc, hmg, ho, hd, hcd⟩ := hf
  exact r_fcall g S (hn ▸ hmg) ho hd h he hk hx hdb hg
end
end Mine
end

section -- Loops2
open PySem PySem.W PyProof.Rows PySem.Calls
set_option Elab.async false
set_option maxRecDepth 100000
namespace Mine
section
variable {prog : Program} {w : World} {A : Around} {E : Value → Shared → Prop} {b s : Shared} {l : List (Addr × It)} {env : Env}

/-- a for over a list, its target a name -/
theorem r_iter_listT {a : Addr} {vs : List Value} {x : Str} {px : Pos} {body orelse : List Stmt} {Q : Flow → Shared → Prop} (J : Nat → List (Addr × It) → Nat → Prop) (mono : ∀ i l m n, m ≤ n → J i l m → J i l n) (hh : A.handled = none) (S : St b s l) (h0 : J 0 l s.toks)
    (hL : ∀ i l₁ n s₁, J i l₁ n → St b s₁ l₁ → s₁.heap.IsList a vs.toArray)
    (turn : ∀ i v l₁ s₁ I, vs[i]? = some v → J i l₁ s₁.toks → St b s₁ ((I, .itr a (i + 1)) :: l₁) →
      wpAny (model prog w) A (assign (.Name x px) env v) (fun _ s₂ => wpAny (model prog w) A (execs body env) (fun f s₃ => s₁.toks ≤ s₃.toks → TurnEnd b Q (I, .itr a (i + 1)) (fun l₂ => J (i + 1) l₂ s₃.toks) f s₃) (fun _ _ => False) s₂) (fun _ _ => False) s₁)
    (done : ∀ l₁ s₁, J vs.length l₁ s₁.toks → St b s₁ l₁ → wpAny (model prog w) A (execs orelse env) Q (fun _ _ => False) s₁) :
    wpAny (model prog w) A (pyIter (.ref a)) (fun it s₂ => codeAny (model prog w) A (.forLoop (.Name x px) it body orelse env)
      (fun r s' => match r with | .ok f => Q f s' | .error e => cameBackBy (model prog w) A env E e s') s₂) E s := by
  have hl := hL 0 l _ s h0 S
  refine wpAny_pyIter_list hl ?_
  have h0' : J 0 l ({ s with heap := s.heap.push { cls := .type "list_iterator", data := .fields #[.ref a, .int 0 0] }, toks := s.toks } : Shared).toks := h0
  have S₂ : St b { s with heap := s.heap.push { cls := .type "list_iterator", data := .fields #[.ref a, .int 0 0] }, toks := s.toks } ((s.heap.objs.size, .itr a 0) :: l) :=
    S.push (it := .itr a 0) ⟨_, Heap.get?_push_size _ rfl, rfl, rfl⟩ S.tk
  generalize s.heap.objs.size = I at S₂
  generalize e2 : ({ s with heap := s.heap.push { cls := .type "list_iterator", data := .fields #[.ref a, .int 0 0] }, toks := s.toks } : Shared) = s2 at S₂ h0'
  refine codeAny_forLoop (fun n s' => ∃ i l₁, n + i = vs.length ∧ J i l₁ s'.toks ∧ St b s' ((I, .itr a i) :: l₁)) ?_ vs.length ⟨0, l, rfl, h0', S₂⟩
  rintro n s' ⟨i, l₁, hn, hJ, S'⟩
  have hit : s'.heap.IsListIter I a i := S'.got _ (.head _)
  have hls : s'.heap.IsList a vs.toArray := hL i l₁ _ s' hJ (S'.sub (List.sublist_cons_self _ _))
  cases hv : vs[i]? with
  | none =>
    refine wpAny_pyNext_list_end hh hit hls (by simpa using hv) fun h' hs => ?_
    have hi : i = vs.length := by
      have := List.getElem?_eq_none_iff.mp hv
      omega
    subst hi
    exact wpAny_mono (done l₁ _ hJ (S'.drop hs S'.tk)) (fun _ _ q => q) fun _ _ f => noted_false f
  | some v =>
    refine wpAny_pyNext_list_item hit hls (by simpa using hv) fun h' hit' hs => ?_
    have S3 : St b { s' with heap := h', toks := s'.toks } ((I, .itr a (i + 1)) :: l₁) := S'.upd (it' := .itr a (i + 1)) .head hs hit' S'.tk
    refine wpAny_mono (wpAny_toks (turn i v l₁ _ I hv hJ S3)) (fun _ s₂ h₂ => wpAny_mono (wpAny_toks_of h₂.1 h₂.2) (fun f s₃ h₃ => ?_) fun _ _ f => noted_false f.2) fun _ _ f => noted_false f.2
    replace h₃ := h₃.2 h₃.1
    have hlt : i < vs.length := by
      have := List.getElem?_eq_some_iff.mp hv
      exact this.1
    cases f with
    | next => obtain ⟨l₂, j, S4⟩ := h₃; exact ⟨n - 1, by omega, i + 1, l₂, by omega, j, S4⟩
    | cont => obtain ⟨l₂, j, S4⟩ := h₃; exact ⟨n - 1, by omega, i + 1, l₂, by omega, j, S4⟩
    | brk => exact h₃
    | ret v => exact h₃

/-- a for over range(x, x + n) by ones -/
theorem r_iter_rangeT {a : Addr} {x y : Int} {n : Nat} {nm : Str} {px : Pos} {body orelse : List Stmt} {Q : Flow → Shared → Prop} (J : Nat → List (Addr × It) → Nat → Prop) (mono : ∀ i l m n, m ≤ n → J i l m → J i l n) (hh : A.handled = none) (S : St b s l) (h0 : J 0 l s.toks)
    (hr : (a, .rng x y) ∈ l) (hsm : Builtin.Range.small x y 1 = true) (hsz : Builtin.Range.rangeSize x y 1 = n)
    (turn : ∀ i t l₁ s₁ I, i < n → J i l₁ s₁.toks → b.toks ≤ t → St b s₁ ((I, .rit (x + i + 1) ((n : Int) - i - 1) 1) :: l₁) →
      wpAny (model prog w) A (assign (.Name nm px) env (.int (x + i) t)) (fun _ s₂ => wpAny (model prog w) A (execs body env) (fun f s₃ => s₁.toks ≤ s₃.toks → TurnEnd b Q (I, .rit (x + i + 1) ((n : Int) - i - 1) 1) (fun l₂ => J (i + 1) l₂ s₃.toks) f s₃) (fun _ _ => False) s₂) (fun _ _ => False) s₁)
    (done : ∀ l₁ s₁, J n l₁ s₁.toks → St b s₁ l₁ → wpAny (model prog w) A (execs orelse env) Q (fun _ _ => False) s₁) :
    wpAny (model prog w) A (pyIter (.ref a)) (fun it s₂ => codeAny (model prog w) A (.forLoop (.Name nm px) it body orelse env)
      (fun r s' => match r with | .ok f => Q f s' | .error e => cameBackBy (model prog w) A env E e s') s₂) E s := by
  obtain ⟨t, u, v, hr'⟩ := S.got _ hr
  refine wpAny_pyIter_range hr' hsm ?_
  rw [hsz]
  have h0' : J 0 l ({ s with heap := s.heap.push { cls := .type "range_iterator", data := .fields #[rawInt x, rawInt (n : Int), rawInt 1] }, toks := s.toks } : Shared).toks := h0
  have S₂ : St b { s with heap := s.heap.push { cls := .type "range_iterator", data := .fields #[rawInt x, rawInt (n : Int), rawInt 1] }, toks := s.toks } ((s.heap.objs.size, .rit x n 1) :: l) :=
    S.push (it := .rit x n 1) (Heap.get?_push_size _ rfl) S.tk
  generalize s.heap.objs.size = I at S₂
  generalize e2 : ({ s with heap := s.heap.push { cls := .type "range_iterator", data := .fields #[rawInt x, rawInt (n : Int), rawInt 1] }, toks := s.toks } : Shared) = s2 at S₂ h0'
  refine codeAny_forLoop (fun k s' => ∃ i l₁, k + i = n ∧ J i l₁ s'.toks ∧ St b s' ((I, .rit (x + (i : Nat)) ((n : Int) - (i : Nat)) 1) :: l₁)) ?_ n ⟨0, l, rfl, h0', by simpa using S₂⟩
  rintro k s' ⟨i, l₁, hn, hJ, S'⟩
  have hit : IsRangeIter s'.heap I (x + i) ((n : Int) - i) 1 := S'.got _ (.head _)
  by_cases hlt : i < n
  · refine wpAny_pyNext_range_item hit (by omega) fun h' hit' hs => ?_
    have S3 : St b { s' with heap := h', toks := s'.toks + 1 } ((I, .rit (x + i + 1) ((n : Int) - i - 1) 1) :: l₁) := S'.upd (it' := .rit (x + i + 1) ((n : Int) - i - 1) 1) .head hs hit' (Nat.le_succ_of_le S'.tk)
    refine wpAny_mono (wpAny_toks (turn i s'.toks l₁ _ I hlt (mono _ _ _ _ (Nat.le_succ _) hJ) S'.tk S3)) (fun _ s₂ h₂ => wpAny_mono (wpAny_toks_of h₂.1 h₂.2) (fun f s₃ h₃ => ?_) fun _ _ f => noted_false f.2) fun _ _ f => noted_false f.2
    replace h₃ := h₃.2 h₃.1
    have e1 : x + (i : Int) + 1 = x + ((i + 1 : Nat) : Int) := by omega
    have e2 : (n : Int) - i - 1 = (n : Int) - ((i + 1 : Nat) : Int) := by omega
    cases f with
    | next => obtain ⟨l₂, j, S4⟩ := h₃; rw [e1, e2] at S4; exact ⟨k - 1, by omega, i + 1, l₂, by omega, j, S4⟩
    | cont => obtain ⟨l₂, j, S4⟩ := h₃; rw [e1, e2] at S4; exact ⟨k - 1, by omega, i + 1, l₂, by omega, j, S4⟩
    | brk => exact h₃
    | ret v => exact h₃
  · have hi : i = n := by omega
    subst hi
    refine wpAny_pyNext_range_end hh hit (by omega) fun h' hs => ?_
    exact wpAny_mono (done l₁ _ hJ (S'.drop hs S'.tk)) (fun _ _ q => q) fun _ _ f => noted_false f
end
end Mine
end

section -- Comps2
open PySem PySem.W PyProof.Rows PySem.Calls
set_option Elab.async false
set_option maxRecDepth 100000
namespace Mine

section
variable {prog : Program} {w : World} {A : Around} {E : Value → Shared → Prop} {b s : Shared} {l : List (Addr × It)} {env : Env}

theorem comp_coreT {elt iter : Expr} {x : Str} {px : Pos} {ifs : List Expr} {scope : Scope} {cl : List (Str × Addr)} {pos : Pos} {RR : Value → Addr → Result → Shared → Prop} {I : Addr} {itAt : Nat → It} {n : Nat} {P : Nat → Value → Prop} {side : Shared → Prop}
    (W : Walker prog w A b I itAt n P side) (hcell : ∀ y ∈ scope.names, y.2 ≠ .cell) (hkind : scope.kind = .function) (hx : scope.names.lookup x = some .local) (hn : n ≤ 1000)
    (J : Nat → List Value → List (Addr × It) → Nat → Prop) (mono : ∀ i outs l m n, m ≤ n → J i outs l m → J i outs l n) (S : St b s ((I, itAt 0) :: l)) (h0 : J 0 [] l s.toks) (hlen : ∀ i outs l₁ n, J i outs l₁ n → outs.length ≤ i)
    (hside : ∀ i outs l₁ n s₁, J i outs l₁ n → St b s₁ l₁ → side s₁)
    (turn : ∀ i v outs l₁ s₁ I C D, i < n → P i v → J i outs l₁ s₁.toks → St b s₁ ((I, itAt (i + 1)) :: (D, .lst outs) :: (C, .frm [(x, v)]) :: l₁) →
      wpAny (model prog w) A (forIn ifs true fun c r => if r = true then do let ok ← isTrue c (compEnvC scope cl C env) (eval c (compEnvC scope cl C env)); pure (ForInStep.yield ok) else pure (ForInStep.yield r))
        (fun ok s₃ => if ok = true then wpAny (model prog w) A (eval elt (compEnvC scope cl C env)) (fun y s₄ => s₁.toks ≤ s₄.toks → ∃ l₂, J (i + 1) (outs ++ [y]) l₂ s₄.toks ∧ St b s₄ ((I, itAt (i + 1)) :: (D, .lst outs) :: (C, .frm [(x, v)]) :: l₂)) (fun _ _ => False) s₃
          else s₁.toks ≤ s₃.toks → ∃ l₂, J (i + 1) outs l₂ s₃.toks ∧ St b s₃ ((I, itAt (i + 1)) :: (D, .lst outs) :: (C, .frm [(x, v)]) :: l₂)) (fun _ _ => False) s₁)
    (fin : ∀ outs l₁ s₁ D C al, J n outs l₁ s₁.toks → St b s₁ ((C, .frm al) :: (D, .lst outs) :: l₁) → RR (.ref D) C (.ok .next) s₁) :
    wpAny (model prog w) A (newList []) (fun acc s₃ => wpAny (model prog w) A (newFunctionEnv scope env.globals cl [] env.qual none .none (some env)) (fun cenv s₄ =>
      codeAny (model prog w) A (.compStart (.ListComp elt [⟨.Name x px, iter, ifs, 0⟩] scope pos) 0 (.ref I) acc { cenv with scope := relabel scope env }) (RR acc cenv.locals) s₄) E s₃) E s := by
  refine wpAny_newObj_type ?_
  have h1 : J 0 [] l ({ s with heap := s.heap.push { cls := .type "list", dict := none, data := .seq ([] : List Value).toArray }, toks := s.toks } : Shared).toks := h0
  have S1 : St b { s with heap := s.heap.push { cls := .type "list", dict := none, data := .seq ([] : List Value).toArray }, toks := s.toks } ((s.heap.objs.size, .lst []) :: (I, itAt 0) :: l) :=
    S.push (it := .lst []) ⟨_, Heap.get?_push_size _ rfl⟩ S.tk
  generalize s.heap.objs.size = D at S1
  generalize ({ s with heap := s.heap.push { cls := .type "list", dict := none, data := .seq ([] : List Value).toArray }, toks := s.toks } : Shared) = s1 at S1 h1
  refine wpAny_newFunctionEnv hcell (by intro y hy; simp at hy) (fun h₁ hns₁ hsb₁ => ?_) hkind
  have S2 : St b { s1 with heap := h₁, toks := s1.toks + ([] : List (Str × Value)).length } ((s1.heap.objs.size, .frm []) :: (D, .lst []) :: (I, itAt 0) :: l) := by
    have k : ∀ c o, s1.heap.get? c = some o → h₁.get? c = some o := fun c o e => hsb₁.extBut c o (Nat.ne_of_lt (Heap.lt_size e)) (Heap.get?_push_of_some _ e)
    refine ⟨fun c o e => k c o (S1.keep c o e), fun p hp => ?_, fun p hp => ?_, ?_, S1.tk, S1.pos, S1.same⟩
    · rcases List.mem_cons.mp hp with rfl | hp
      · exact hns₁
      · exact It.at_ext (S1.got p hp) (k p.1)
    · rcases List.mem_cons.mp hp with rfl | hp
      · exact S1.fresh
      · exact S1.new p hp
    · refine List.nodup_cons.mpr ⟨fun hm => ?_, S1.nd⟩
      obtain ⟨p, hp, e⟩ := List.mem_map.mp hm
      have := It.at_lt (S1.got p hp)
      rw [e] at this
      exact absurd this (Nat.lt_irrefl _)
  have h2 : J 0 [] l ({ s1 with heap := h₁, toks := s1.toks + ([] : List (Str × Value)).length } : Shared).toks := h1
  dsimp only [Option.isSome_some, newEnv]
  generalize s1.heap.objs.size = C at S2
  generalize ({ s1 with heap := h₁, toks := s1.toks + ([] : List (Str × Value)).length } : Shared) = s2 at S2 h2
  have S3 : St b s2 ((I, itAt 0) :: (D, .lst []) :: (C, .frm []) :: l) :=
    S2.perm (((List.Perm.swap _ _ _).trans ((List.Perm.swap _ _ _).cons _)).trans (List.Perm.swap _ _ _))
  have key : ∀ s₃ : Shared, J 0 [] l s₃.toks → St b s₃ ((I, itAt 0) :: (D, .lst []) :: (C, .frm []) :: l) →
      codeAny (model prog w) A (.compLoop (.ListComp elt [⟨.Name x px, iter, ifs, 0⟩] scope pos) 0 (.ref I) (.ref D) (compEnvC scope cl C env)) (RR (.ref D) C) s₃ := by
    intro s₃ h3 S3
    refine codeAny_compLoop_tests (fun k s' => ∃ i outs l₁ al, k + i = n ∧ J i outs l₁ s'.toks ∧ (al = [] ∨ ∃ u, al = [(x, u)]) ∧ St b s' ((I, itAt i) :: (D, .lst outs) :: (C, .frm al) :: l₁)) ?_ n ⟨0, [], l, [], rfl, h3, .inl rfl, S3⟩
    rintro k s' ⟨i, outs, l₁, al, hk, hJ, hal, S'⟩
    have hs' : side s' := hside i outs l₁ _ s' hJ (S'.sub (((List.sublist_cons_self _ _).trans (List.sublist_cons_self _ _)).trans (List.sublist_cons_self _ _)))
    by_cases hlt : i < n
    · refine wpAny_with_toks (Nat.le_refl s'.toks) (W.item i _ s' _ _ hlt hs' S' fun v s4 hv S4 => ?_)
      intro q1
      have hset : LSet x v al [(x, v)] := by
        rcases hal with rfl | ⟨u, rfl⟩
        · exact .nil
        · exact .head
      refine wpAny_with_toks q1 (wpAny_assign_Name (r_st (env := compEnvC scope cl C env) S4 (.tail (.tail .head)) hset (fun s5 S5 => ?_) (lookup_relabel_local hx) (by simp [compEnvC, relabel, hkind])))
      intro q2
      refine wpAny_mono (wpAny_toks (turn i v outs l₁ s5 I C D hlt hv (mono _ _ _ _ _ q2 hJ) S5)) (fun ok s6 h6 => ?_) fun _ _ f => noted_false f.2
      obtain ⟨q3, h6⟩ := h6
      cases ok with
      | false =>
        obtain ⟨l₂, j, S6⟩ := h6 q3
        exact ⟨k - 1, by omega, i + 1, outs, l₂, _, by omega, j, .inr ⟨v, rfl⟩, S6⟩
      | true =>
        refine wpAny_mono (wpAny_toks_of q3 h6) (fun y s7 h7 => ?_) fun _ _ f => noted_false f.2
        obtain ⟨q4, h7⟩ := h7
        obtain ⟨l₂, j, S7⟩ := h7 q4
        have hD : s7.heap.PlainList D outs.toArray := S7.got (D, .lst outs) (.tail _ (.head _))
        have hl := hlen i outs l₁ _ hJ
        refine wpAny_list_append_plain hD (fun h' hp hb => ?_) (by rw [List.size_toArray, sizeLine_eq]; omega)
        refine ⟨k - 1, by omega, i + 1, outs ++ [y], l₂, _, by omega, j, .inr ⟨v, rfl⟩, ?_⟩
        refine S7.upd (.tail .head) hb ?_ S7.tk
        show h'.PlainList D (outs ++ [y]).toArray
        have e : (outs ++ [y]).toArray = outs.toArray.push y := by simp
        rw [e]; exact hp
    · have hi : i = n := by omega
      subst hi
      refine wpAny_with_toks (Nat.le_refl s'.toks) (W.done _ s' _ _ hs' S' fun s4 S4 => ?_)
      intro q1
      exact fin outs l₁ _ D C al (mono _ _ _ _ _ q1 hJ) (S4.perm (List.Perm.swap _ _ _))
  exact codeAny_compStart_list (key _ h2 S3) (W.self 0 _ _ _ _ S3 (key _ h2 S3))

theorem post_none {C : Addr} {al : List (Str × Value)} {acc : Value} {Q : Value → Shared → Prop} (S : St b s ((C, .frm al) :: l)) (h : ∀ s', St b s' l → Q acc s') : compPost (model prog w) A E none Q acc C (.ok .next) s := by
  have hC : s.heap.Ns C (fun y => al.lookup y) := S.got (C, .frm al) (.head _)
  exact ⟨_, hC, fun h' hb => h _ (S.drop hb.extBut S.tk)⟩
theorem post_assign {C : Addr} {al : List (Str × Value)} {acc : Value} {y : Str} {py : Pos} {fl fl' : List (Str × Option Value)} {Q : Value → Shared → Prop} {l' : List (Addr × It)} (S : St b s ((C, .frm al) :: l)) (P : Put env.locals (.fro fl) (.fro fl') l l') (hs : OSet y acc fl fl')
    (h : ∀ s', St b s' l' → Q .none s') (hl : env.kindOf y = some .local := by rfl) (hp : (env.scope.kind == .class || (env.scope.kind == .module && env.locals != env.globals)) = false := by rfl) :
    compPost (model prog w) A E (some (assign (.Name y py) env)) Q acc C (.ok .next) s := by
  show wpAny _ A (assign (.Name y py) env acc) _ _ _
  refine wpAny_assign_Name (o_st S (.tail P) hs (fun s' S' => ?_) hl hp)
  have hC : s'.heap.Ns C (fun y => al.lookup y) := S'.got (C, .frm al) (.head _)
  exact ⟨_, hC, fun h' hb => h _ (S'.drop hb.extBut S'.tk)⟩
end
end Mine
end

section -- Rules4
open PySem PySem.W PyProof.Rows PySem.Calls
set_option Elab.async false
set_option maxRecDepth 100000
namespace Mine
section
variable {prog : Program} {w : World} {A : Around} {E : Value → Shared → Prop} {b s : Shared} {l l' : List (Addr × It)} {env : Env} {mg mb : Str → Option Value}

theorem Gr.up (G : Gr w b mg mb) (n : Nat) : Gr w (Mine.up b n) mg mb := ⟨G.g, G.bl, G.nolimit, G.fn, G.boot, G.booked, G.b1, G.b3, G.free⟩

theorem Put.app {a : Addr} {x y : It} {l l' : List (Addr × It)} (h : Put a x y l l') : ∀ p : List (Addr × It), Put a x y (p ++ l) (p ++ l')
  | [] => h
  | _ :: p => .tail (h.app p)

/-- the body of a comprehension's rule -/
abbrev CompCore (prog : Program) (w : World) (A : Around) (E : Value → Shared → Prop) (env : Env) (elt iter : Expr) (x : Str) (px : Pos) (ifs : List Expr) (scope : Scope) (cl : List (Str × Addr)) (pos : Pos) (use : Option (Value → Sem Unit)) (Q : Value → Shared → Prop) (it : Value) (s₂ : Shared) : Prop :=
  wpAny (model prog w) A (newList []) (fun acc s₃ => wpAny (model prog w) A (newFunctionEnv scope env.globals cl [] env.qual none .none (some env)) (fun cenv s₄ =>
      codeAny (model prog w) A (.compStart (.ListComp elt [⟨.Name x px, iter, ifs, 0⟩] scope pos) 0 it acc { cenv with scope := relabel scope env }) (compPost (model prog w) A E use Q acc cenv.locals) s₄) E s₃) E s₂

theorem r_ListComp {elt iter : Expr} {x : Str} {px : Pos} {ifs : List Expr} {scope : Scope} {pos : Pos} {Q : Value → Shared → Prop} (cl : List (Str × Addr)) (hclos : closureFor scope env = pure cl)
    (h : wpAny (model prog w) A (eval iter env) (fun xv s₁ => wpAny (model prog w) A (pyIter xv) (fun it s₂ => CompCore prog w A E env elt iter x px ifs scope cl pos none Q it s₂) E s₁) E s)
    (hkind : scope.kind = .function := by rfl) (hnames : ∀ y ∈ scope.names, y.2 = .local → scope.names.lookup y.1 = some .local := by decide) (hs : ∀ x, foldedSetIterable iter env x = pure x := by intro _; rfl) :
    wpAny (model prog w) A (eval (.ListComp elt [⟨.Name x px, iter, ifs, 0⟩] scope pos) env) Q E s := by
  rw [eval_ListComp]
  exact wpAny_comprehension_free (use := none) rfl hs hclos hkind hnames h

theorem r_AssignComp {elt iter : Expr} {x y : Str} {px py : Pos} {ifs : List Expr} {scope : Scope} {pos spos : Pos} {Q : Flow → Shared → Prop} (cl : List (Str × Addr)) (hclos : closureFor scope env = pure cl)
    (h : wpAny (model prog w) A (eval iter env) (fun xv s₁ => wpAny (model prog w) A (pyIter xv) (fun it s₂ => CompCore prog w A E env elt iter x px ifs scope cl pos (some (assign (.Name y py) env)) (fun _ s' => Q .next s') it s₂) E s₁) E s)
    (hsw : swapsWith (.ListComp elt [⟨.Name x px, iter, ifs, 0⟩] scope pos) (some (.Name y py)) spos.line env = pure true := by rfl)
    (hkind : scope.kind = .function := by rfl) (hnames : ∀ y ∈ scope.names, y.2 = .local → scope.names.lookup y.1 = some .local := by decide) (hs : ∀ x, foldedSetIterable iter env x = pure x := by intro _; rfl) :
    wpAny (model prog w) A (exec (.Assign [.Name y py] (.ListComp elt [⟨.Name x px, iter, ifs, 0⟩] scope pos) spos) env) Q E s := by
  rw [exec_Assign_Name_used _ _ _ _ hsw]
  refine wpAny_bind (wpAny_standAt (wpAny_bind ?_))
  show wpAny _ A (do let _ ← comprehension (.ListComp elt [⟨.Name x px, iter, ifs, 0⟩] scope pos) scope env _ (newList []) false (eval iter env) (some (assign (.Name y py) env))) _ _ s
  exact wpAny_bind (wpAny_mono (wpAny_comprehension_free (use := some (assign (.Name y py) env)) (Q := fun _ s' => Q .next s') rfl hs hclos hkind hnames h) (fun _ s' hq => wpAny_pure (wpAny_pure hq)) fun _ _ e => e)

theorem r_comp_list {elt iter : Expr} {x : Str} {px : Pos} {ifs : List Expr} {scope : Scope} {cl : List (Str × Addr)} {pos : Pos} {use : Option (Value → Sem Unit)} {Q : Value → Shared → Prop} {a : Addr} {vs : List Value} (hh : A.handled = none)
    (S : St b s l) (hn : vs.length ≤ 1000) (J : Nat → List Value → List (Addr × It) → Nat → Prop) (mono : ∀ i outs l m n, m ≤ n → J i outs l m → J i outs l n) (h0 : J 0 [] l s.toks) (hlen : ∀ i outs l₁ n, J i outs l₁ n → outs.length ≤ i)
    (hside : ∀ i outs l₁ n s₁, J i outs l₁ n → St b s₁ l₁ → s₁.heap.IsList a vs.toArray)
    (turn : ∀ i v outs l₁ s₁ I C D, i < vs.length → vs[i]? = some v → J i outs l₁ s₁.toks → St b s₁ ((I, .itr a (i + 1)) :: (D, .lst outs) :: (C, .frm [(x, v)]) :: l₁) →
      wpAny (model prog w) A (forIn ifs true fun c r => if r = true then do let ok ← isTrue c (compEnvC scope cl C env) (eval c (compEnvC scope cl C env)); pure (ForInStep.yield ok) else pure (ForInStep.yield r))
        (fun ok s₃ => if ok = true then wpAny (model prog w) A (eval elt (compEnvC scope cl C env)) (fun y s₄ => s₁.toks ≤ s₄.toks → ∃ l₂, J (i + 1) (outs ++ [y]) l₂ s₄.toks ∧ St b s₄ ((I, .itr a (i + 1)) :: (D, .lst outs) :: (C, .frm [(x, v)]) :: l₂)) (fun _ _ => False) s₃
          else s₁.toks ≤ s₃.toks → ∃ l₂, J (i + 1) outs l₂ s₃.toks ∧ St b s₃ ((I, .itr a (i + 1)) :: (D, .lst outs) :: (C, .frm [(x, v)]) :: l₂)) (fun _ _ => False) s₁)
    (fin : ∀ outs l₁ s₁ D C al, J vs.length outs l₁ s₁.toks → St b s₁ ((C, .frm al) :: (D, .lst outs) :: l₁) → compPost (model prog w) A E use Q (.ref D) C (.ok .next) s₁)
    (hcell : ∀ y ∈ scope.names, y.2 ≠ .cell := by decide) (hkind : scope.kind = .function := by rfl) (hx : scope.names.lookup x = some .local := by rfl) :
    wpAny (model prog w) A (pyIter (.ref a)) (fun it s₂ => CompCore prog w A E env elt iter x px ifs scope cl pos use Q it s₂) E s := by
  refine wpAny_pyIter_list (hside 0 [] l _ s h0 S) ?_
  have S₂ : St b { s with heap := s.heap.push { cls := .type "list_iterator", data := .fields #[.ref a, .int 0 0] }, toks := s.toks } ((s.heap.objs.size, .itr a 0) :: l) :=
    S.push (it := .itr a 0) ⟨_, Heap.get?_push_size _ rfl, rfl, rfl⟩ S.tk
  exact comp_coreT (walker_list hh _ a vs) hcell hkind hx hn J mono S₂ h0 hlen hside turn fin

theorem r_comp_range {elt iter : Expr} {x : Str} {px : Pos} {ifs : List Expr} {scope : Scope} {cl : List (Str × Addr)} {pos : Pos} {use : Option (Value → Sem Unit)} {Q : Value → Shared → Prop} {a : Addr} {x0 y0 : Int} {n : Nat} (hh : A.handled = none)
    (S : St b s l) (hr : (a, .rng x0 y0) ∈ l) (hsm : Builtin.Range.small x0 y0 1 = true) (hsz : Builtin.Range.rangeSize x0 y0 1 = n) (hn : n ≤ 1000)
    (J : Nat → List Value → List (Addr × It) → Nat → Prop) (mono : ∀ i outs l m n, m ≤ n → J i outs l m → J i outs l n) (h0 : J 0 [] l s.toks) (hlen : ∀ i outs l₁ n, J i outs l₁ n → outs.length ≤ i)
    (turn : ∀ i t outs l₁ s₁ I C D, i < n → b.toks ≤ t → J i outs l₁ s₁.toks → St b s₁ ((I, .rit (x0 + ((i + 1 : Nat) : Int)) ((n : Int) - ((i + 1 : Nat) : Int)) 1) :: (D, .lst outs) :: (C, .frm [(x, .int (x0 + i) t)]) :: l₁) →
      wpAny (model prog w) A (forIn ifs true fun c r => if r = true then do let ok ← isTrue c (compEnvC scope cl C env) (eval c (compEnvC scope cl C env)); pure (ForInStep.yield ok) else pure (ForInStep.yield r))
        (fun ok s₃ => if ok = true then wpAny (model prog w) A (eval elt (compEnvC scope cl C env)) (fun y s₄ => s₁.toks ≤ s₄.toks → ∃ l₂, J (i + 1) (outs ++ [y]) l₂ s₄.toks ∧ St b s₄ ((I, .rit (x0 + ((i + 1 : Nat) : Int)) ((n : Int) - ((i + 1 : Nat) : Int)) 1) :: (D, .lst outs) :: (C, .frm [(x, .int (x0 + i) t)]) :: l₂)) (fun _ _ => False) s₃
          else s₁.toks ≤ s₃.toks → ∃ l₂, J (i + 1) outs l₂ s₃.toks ∧ St b s₃ ((I, .rit (x0 + ((i + 1 : Nat) : Int)) ((n : Int) - ((i + 1 : Nat) : Int)) 1) :: (D, .lst outs) :: (C, .frm [(x, .int (x0 + i) t)]) :: l₂)) (fun _ _ => False) s₁)
    (fin : ∀ outs l₁ s₁ D C al, J n outs l₁ s₁.toks → St b s₁ ((C, .frm al) :: (D, .lst outs) :: l₁) → compPost (model prog w) A E use Q (.ref D) C (.ok .next) s₁)
    (hcell : ∀ y ∈ scope.names, y.2 ≠ .cell := by decide) (hkind : scope.kind = .function := by rfl) (hx : scope.names.lookup x = some .local := by rfl) :
    wpAny (model prog w) A (pyIter (.ref a)) (fun it s₂ => CompCore prog w A E env elt iter x px ifs scope cl pos use Q it s₂) E s := by
  obtain ⟨t, u, v, hr'⟩ := S.got _ hr
  refine wpAny_pyIter_range hr' hsm ?_
  rw [hsz]
  have S₂ : St b { s with heap := s.heap.push { cls := .type "range_iterator", data := .fields #[rawInt x0, rawInt (n : Int), rawInt 1] }, toks := s.toks } ((s.heap.objs.size, .rit (x0 + ((0 : Nat) : Int)) ((n : Int) - ((0 : Nat) : Int)) 1) :: l) := by
    have e1 : x0 + ((0 : Nat) : Int) = x0 := by omega
    have e2 : (n : Int) - ((0 : Nat) : Int) = n := by omega
    rw [e1, e2]
    exact S.push (it := .rit x0 n 1) (Heap.get?_push_size _ rfl) S.tk
  refine comp_coreT (P := fun i v => ∃ t, b.toks ≤ t ∧ v = .int (x0 + i) t) (walker_range hh _ x0 n) hcell hkind hx hn J mono S₂ h0 hlen (fun _ _ _ _ _ _ _ => trivial) ?_ fin
  rintro i v outs l₁ s₁ I C D hi ⟨t, ht, rfl⟩ hJ S1
  exact turn i t outs l₁ s₁ I C D hi ht hJ S1

theorem boot_range : bootBuiltins (Str.ofString "range") = some (.type "range") := by kernel_rfl
theorem boot_len : bootBuiltins (Str.ofString "len") = some (.builtin "len") := by kernel_rfl
theorem r_range1 {n : Int} {t : Tok} {Q : Value → Shared → Prop} (S : St b s l) (h : ∀ R s', St b s' ((R, .rng 0 n) :: l) → Q (.ref R) s') : wpAny (model prog w) A (call (.type "range") [.int n t]) Q E s :=
  call_range_1 (h _ _ (S.push (it := .rng 0 n) ⟨_, _, _, IsRange.new ..⟩ (Nat.le_trans S.tk (by omega))))
theorem r_range2 {m n : Int} {t u : Tok} {Q : Value → Shared → Prop} (S : St b s l) (h : ∀ R s', St b s' ((R, .rng m n) :: l) → Q (.ref R) s') : wpAny (model prog w) A (call (.type "range") [.int m t, .int n u]) Q E s :=
  call_range_2 (h _ _ (S.push (it := .rng m n) ⟨_, _, _, IsRange.new ..⟩ (Nat.le_trans S.tk (by omega))))
end
end Mine
end

section -- Fns2
open PySem PySem.W PyProof.Rows PySem.Calls
set_option Elab.async false
set_option maxRecDepth 100000
namespace Mine
local macro_rules | `(tactic| walk_at "m mem") => `(tactic| first | exact List.Mem.head _ | (refine List.Mem.tail _ ?_; walk_at "m mem"))
local macro_rules | `(tactic| walk_at "m put") => `(tactic| first | exact Put.head | (apply Put.tail; walk_at "m put"))
local macro_rules | `(tactic| walk_at "m set") => `(tactic| first | with_reducible exact LSet.head | exact LSet.nil | (apply LSet.tail; (focus decide); walk_at "m set"))
section
variable {w : World} {A : Around} {E : Value → Shared → Prop} {b s : Shared} {l : List (Addr × It)} {mg mb : Str → Option Value} {a : Addr} {Q : Value → Shared → Prop}

theorem getitem_spec (G : Gr w b mg mb) (S : St b s l) (hr : Room A 1) {c : Addr} {vs : List Value} {k : Int} {u : Tok} {v : Value} (hl : Has b l c vs) (h0 : 0 ≤ k) (h1 : k < 1000000) (hx : vs[k.toNat]? = some v)
    (ha : FnAt b.heap mg (dAt 9) a) (h : ∀ s', St b s' l → Q v s') :
    wpAny (model prg w) A (call (.ref a) [.ref c, .int k u]) Q E s := by
  obtain ⟨o, pm, code, doc, hmg, ho, hd, hcd⟩ := ha
  refine r_call (binds := [("a", .ref c), ("b", .int k u)]) S ho hd hcd G.nolimit hr.room rfl rfl rfl (fun L s1 S1 => ?_) (by decide) rfl rfl rfl
  with_unfolding_all refine wpAny_execs_cons ?_
  refine wpAny_Return_some (Subscript_ (r_ld S1 (by walk_at "m mem") rfl (r_ld S1 (by walk_at "m mem") rfl (r_item (hl.at' S1 (List.sublist_cons_self _ _)) h0 h1 hx ?_))))
  exact h _ (S1.sub (List.sublist_cons_self _ _))

theorem setitem_spec (G : Gr w b mg mb) (S : St b s l) (hr : Room A 1) {c : Addr} {vs : List Value} {k : Int} {u : Tok} {v : Value} {l' : List (Addr × It)} (P : Put c (.ils vs) (.ils (vs.set k.toNat v)) l l') (h0 : 0 ≤ k) (h1 : k < vs.length) (h2 : vs.length ≤ 1000)
    (ha : FnAt b.heap mg (dAt 11) a) (h : ∀ s', St b s' l' → Q .none s') :
    wpAny (model prg w) A (call (.ref a) [.ref c, .int k u, v]) Q E s := by
  obtain ⟨o, pm, code, doc, hmg, ho, hd, hcd⟩ := ha
  refine r_call (binds := [("a", .ref c), ("b", .int k u), ("c", v)]) S ho hd hcd G.nolimit hr.room rfl rfl rfl (fun L s1 S1 => ?_) (by decide) rfl rfl rfl
  with_unfolding_all refine wpAny_execs_cons ?_
  refine wpAny_Assign_Subscript (r_ld S1 (by walk_at "m mem") rfl (r_ld S1 (by walk_at "m mem") rfl (r_ld S1 (by walk_at "m mem") rfl ?_)))
  have hL : s1.heap.IsList c vs.toArray := S1.ils (.tail _ P.mem)
  refine wpAny_setItem_list hL h0 (by omega) (by simpa using h1) fun h' hi hs => ?_
  have S2 := S1.upd (it' := .ils (vs.set k.toNat v)) (Put.tail P) hs (by
    show h'.IsList c (vs.set k.toNat v).toArray
    have e : vs.toArray.setIfInBounds k.toNat v = (vs.set k.toNat v).toArray := by simp
    rw [← e]; exact hi) S1.tk
  exact wpAny_execs_nil (h _ (S2.sub (List.sublist_cons_self _ _)))

theorem gap_chr (k : Int) : True := trivial
end
end Mine
end

section -- Fns3
open PySem PySem.W PyProof.Rows PySem.Calls
set_option Elab.async false
set_option maxRecDepth 100000
namespace Mine
local macro_rules | `(tactic| walk_at "m mem") => `(tactic| first | exact List.Mem.head _ | (refine List.Mem.tail _ ?_; walk_at "m mem"))
local macro_rules | `(tactic| walk_at "m put") => `(tactic| first | exact Put.head | (apply Put.tail; walk_at "m put"))
local macro_rules | `(tactic| walk_at "m set") => `(tactic| first | with_reducible exact LSet.head | exact LSet.nil | (apply LSet.tail; (focus decide); walk_at "m set"))
section
variable {w : World} {A : Around} {E : Value → Shared → Prop} {b s : Shared} {l : List (Addr × It)} {mg mb : Str → Option Value} {a : Addr} {Q : Value → Shared → Prop}

theorem setOf_keeps {prog : Program} {h h' : Heap} {a : Addr} {S : Int → Bool} {n : Nat} (x : h.SetOf (intKind prog w) a S n) (k : ∀ b o, h.get? b = some o → h'.get? b = some o) : h'.SetOf (intKind prog w) a S n :=
  let ⟨o, es, ep, t, e, r⟩ := x; ⟨o, es, ep, t, k _ _ e, r⟩
theorem mapOf_keeps {prog : Program} {h h' : Heap} {a : Addr} {f : Int → Option Value} (x : h.MapOf (intKind prog w) a f) (k : ∀ b o, h.get? b = some o → h'.get? b = some o) : h'.MapOf (intKind prog w) a f :=
  let ⟨o, es, ep, e, r⟩ := x; ⟨o, es, ep, k _ _ e, r⟩

theorem boot_ord : bootBuiltins (Str.ofString "ord") = some (.builtin "ord") := by kernel_rfl
theorem boot_chr : bootBuiltins (Str.ofString "chr") = some (.builtin "chr") := by kernel_rfl

theorem in_b1_spec (G : Gr w b mg mb) (S : St b s l) (hr : Room A 1) {c : Nat} {t : Tok} (ha : FnAt b.heap mg (dAt 14) a) (h : ∀ s', St b s' l → Q (.bool (gapL.contains (c : Int))) s') :
    wpAny (model prg w) A (call (.ref a) [.str ⟨#[c]⟩ t]) Q E s := by
  obtain ⟨o, pm, code, doc, hmg, ho, hd, hcd⟩ := ha
  obtain ⟨a1, h1, hS⟩ := G.b1
  refine r_call (binds := [("code", .str ⟨#[c]⟩ t)]) S ho hd hcd G.nolimit hr.room rfl rfl rfl (fun L s1 S1 => ?_) (by decide) rfl rfl rfl
  with_unfolding_all refine wpAny_execs_cons ?_
  refine wpAny_Return_some (wpAny_Compare1 ?_)
  refine r_bcall G.g G.bl S1 (G.free _ (by decide)) ((G.boot _ (by decide)).trans boot_ord) (wpAny_items_cons (r_ld S1 (by walk_at "m mem") rfl (wpAny_items_nil (P.ord_of_char ?_))))
  refine r_glob G.g S1.tick h1 ?_
  refine wpAny_inSet_of (knd := intKind prg w) (k := (c : Int)) (intKind_is prg w _ _) rfl (setOf_keeps hS S1.keep) ?_
  exact h _ (S1.tick.tick.sub (List.sublist_cons_self _ _))

/-- what a sign folds to -/
def foldV (c : Nat) (v : Value) : Prop := b3f (c : Int) = some v ∧ v ≠ .none ∨ b3f (c : Int) = none ∧ ∃ t, v = .str (Txt.lower ⟨#[c]⟩) t

theorem map_b3_some (G : Gr w b mg mb) (S : St b s l) (hr : Room A 1) {c : Nat} {t : Tok} {x : Str} {u : Tok} (hf : b3f (c : Int) = some (.str x u)) (ha : FnAt b.heap mg (dAt 16) a) (h : ∀ s' t', St b s' l → Q (.str x t') s') :
    wpAny (model prg w) A (call (.ref a) [.str ⟨#[c]⟩ t]) Q E s := by
  obtain ⟨o, pm, code, doc, hmg, ho, hd, hcd⟩ := ha
  obtain ⟨d, h1, hsys, hM⟩ := G.b3
  refine r_call (binds := [("code", .str ⟨#[c]⟩ t)]) S ho hd hcd G.nolimit hr.room rfl rfl rfl (fun L s1 S1 => ?_) (by decide) rfl rfl rfl
  with_unfolding_all refine wpAny_execs_cons ?_
  refine wpAny_Assign_Name ?_
  refine wpAny_Call_method (T := "dict") (id := "dict.get") rfl rfl rfl F.plainAttrs_dict F.slot_dict_get F.type_dict_get (r_glob G.g S1 h1 ?_)
  have hM1 := mapOf_keeps hM S1.keep
  obtain ⟨od, es, ep, hod, hex, _⟩ := id hM1
  refine ⟨⟨od, hod, hex.1⟩, fun a' e => by cases e; exact ⟨od, hod, hex.2.1⟩, ?_⟩
  refine wpAny_dict_get1 (knd := intKind prg w) hsys ?_
  refine r_bcall G.g G.bl S1 (G.free _ (by decide)) ((G.boot _ (by decide)).trans boot_ord) (wpAny_items_cons (r_ld S1 (by walk_at "m mem") rfl (wpAny_items_nil (P.ord_of_char ?_))))
  refine ⟨(c : Int), b3f, intKind_is prg w _ _, mapOf_keeps hM S1.keep, ?_⟩
  rw [hf]
  refine r_st S1.tick.tick (by walk_at "m put") (by walk_at "m set") fun s2 S2 => ?_
  with_unfolding_all refine wpAny_execs_cons ?_
  refine wpAny_If (wpAny_isTrue_Compare1 (r_ld S2 (by walk_at "m mem") rfl (wpAny_Constant_none (wpAny_isNot_plain rfl (wpAny_truthy_bool ?_)))))
  rw [if_pos (by rfl)]
  with_unfolding_all refine wpAny_execs_cons ?_
  refine wpAny_Return_some (r_ld S2 (by walk_at "m mem") rfl ?_)
  exact h _ _ (S2.sub (List.sublist_cons_self _ _))

theorem map_b3_none (G : Gr w b mg mb) (S : St b s l) (hr : Room A 1) {c : Nat} {t : Tok} (hf : b3f (c : Int) = none) (hfit : Builtin.Str.tooLong (Txt.lower ⟨#[c]⟩).length = false) (ha : FnAt b.heap mg (dAt 16) a) (h : ∀ s' t', St b s' l → Q (.str (Txt.lower ⟨#[c]⟩) t') s') :
    wpAny (model prg w) A (call (.ref a) [.str ⟨#[c]⟩ t]) Q E s := by
  obtain ⟨o, pm, code, doc, hmg, ho, hd, hcd⟩ := ha
  obtain ⟨d, h1, hsys, hM⟩ := G.b3
  refine r_call (binds := [("code", .str ⟨#[c]⟩ t)]) S ho hd hcd G.nolimit hr.room rfl rfl rfl (fun L s1 S1 => ?_) (by decide) rfl rfl rfl
  with_unfolding_all refine wpAny_execs_cons ?_
  refine wpAny_Assign_Name ?_
  refine wpAny_Call_method (T := "dict") (id := "dict.get") rfl rfl rfl F.plainAttrs_dict F.slot_dict_get F.type_dict_get (r_glob G.g S1 h1 ?_)
  have hM1 := mapOf_keeps hM S1.keep
  obtain ⟨od, es, ep, hod, hex, _⟩ := id hM1
  refine ⟨⟨od, hod, hex.1⟩, fun a' e => by cases e; exact ⟨od, hod, hex.2.1⟩, ?_⟩
  refine wpAny_dict_get1 (knd := intKind prg w) hsys ?_
  refine r_bcall G.g G.bl S1 (G.free _ (by decide)) ((G.boot _ (by decide)).trans boot_ord) (wpAny_items_cons (r_ld S1 (by walk_at "m mem") rfl (wpAny_items_nil (P.ord_of_char ?_))))
  refine ⟨(c : Int), b3f, intKind_is prg w _ _, mapOf_keeps hM S1.keep, ?_⟩
  rw [hf]
  refine r_st S1.tick.tick (by walk_at "m put") (by walk_at "m set") fun s2 S2 => ?_
  with_unfolding_all refine wpAny_execs_cons ?_
  refine wpAny_If (wpAny_isTrue_Compare1 (r_ld S2 (by walk_at "m mem") rfl (wpAny_Constant_none (wpAny_isNot_plain rfl (wpAny_truthy_bool ?_)))))
  rw [if_neg (by decide)]
  refine wpAny_execs_nil ?_
  with_unfolding_all refine wpAny_execs_cons ?_
  refine wpAny_Return_some (wpAny_Call_method_lateS rfl rfl rfl (r_ld S2 (by walk_at "m mem") rfl (SB.lower hfit ?_)))
  exact h _ _ (S2.tick.sub (List.sublist_cons_self _ _))
end
end Mine
end

section -- Fns4
open PySem PySem.W PyProof.Rows PySem.Calls
set_option Elab.async false
set_option maxRecDepth 100000
namespace Mine
local macro_rules | `(tactic| walk_at "m mem") => `(tactic| first | exact List.Mem.head _ | (refine List.Mem.tail _ ?_; walk_at "m mem"))
local macro_rules | `(tactic| walk_at "m put") => `(tactic| first | exact Put.head | (apply Put.tail; walk_at "m put"))
local macro_rules | `(tactic| walk_at "m set") => `(tactic| first | with_reducible exact LSet.head | exact LSet.nil | (apply LSet.tail; (focus decide); walk_at "m set"))
section
variable {w : World} {A : Around} {E : Value → Shared → Prop} {b s : Shared} {l : List (Addr × It)} {mg mb : Str → Option Value} {a : Addr} {Q : Value → Shared → Prop}

def gap11 : List Int := [173, 847, 6150, 6155, 6156, 6157, 8203, 8204, 8205, 8288, 65279]
/-- the sign that is put for a number -/
def gapC (k : Int) : Nat := if k > 11 then (65012 + k).toNat else (gap11.getD (k - 1).toNat 0).toNat

theorem gap11_range : ∀ i, i < 11 → 0 ≤ gap11.getD i 0 ∧ gap11.getD i 0 ≤ 1114111 := by decide

theorem gap_spec (G : Gr w b mg mb) (S : St b s l) (hr : Room A 1) {k : Int} {t : Tok} (h1 : 1 ≤ k) (h2 : k ≤ 27) (ha : FnAt b.heap mg (dAt 18) a) (h : ∀ s' t', St b s' l → Q (.str ⟨#[gapC k]⟩ t') s') :
    wpAny (model prg w) A (call (.ref a) [.int k t]) Q E s := by
  obtain ⟨o, pm, code, doc, hmg, ho, hd, hcd⟩ := ha
  refine r_call (binds := [("which", .int k t)]) S ho hd hcd G.nolimit hr.room rfl rfl rfl (fun L s1 S1 => ?_) (by decide) rfl rfl rfl
  with_unfolding_all refine wpAny_execs_cons ?_
  refine wpAny_If (wpAny_isTrue_Compare1 (r_ld S1 (by walk_at "m mem") rfl (wpAny_Constant_int (P.gt_int (wpAny_truthy_bool ?_)))))
  by_cases hk : k > 11
  · rw [if_pos (by simpa using hk)]
    with_unfolding_all refine wpAny_execs_cons ?_
    refine wpAny_Return_some (r_bcall G.g G.bl S1.tick (G.free _ (by decide)) ((G.boot _ (by decide)).trans boot_chr) (wpAny_items_cons (wpAny_BinOp (wpAny_Constant_int (r_ld S1.tick.tick (by walk_at "m mem") rfl (P.add_int (wpAny_items_nil ?_)))))))
    refine chr_of_range (by omega) (by omega) ?_
    have e : gapC k = (65012 + k).toNat := if_pos hk
    rw [← e]
    exact h _ _ (S1.tick.tick.tick.tick.sub (List.sublist_cons_self _ _))
  · rw [if_neg (by simpa using hk)]
    refine wpAny_execs_nil ?_
    with_unfolding_all refine wpAny_execs_cons ?_
    refine wpAny_Return_some (r_bcall G.g G.bl S1.tick (G.free _ (by decide)) ((G.boot _ (by decide)).trans boot_chr) (wpAny_items_cons ?_))
    with_reducible refine Subscript_ ?_
    with_reducible refine r_List (b := b) ?_
    have S1t := S1.tick
    iterate 11 (with_reducible refine wpAny_items_cons (he := star_const) (r_int (by assumption) fun _ _ _ _ => ?_))
    refine wpAny_items_nil ?_
    refine ⟨_, by assumption, Nat.le_of_ble_eq_true rfl, fun D s2 S2 => ?_⟩
    refine wpAny_BinOp (r_ld S2 (by walk_at "m mem") rfl (wpAny_Constant_int (P.sub_int ?_)))
    have hL := S2.tick.tick.lst (List.Mem.head _)
    obtain ⟨t', ht'⟩ := item_of (ns := gap11) hL (by unfold gap11; repeat constructor) (k := (k - 1).toNat) (show (k - 1).toNat < 11 by omega)
    have hg := gap11_range (k - 1).toNat (by omega)
    refine r_item hL (by omega) (by omega) ht' ?_
    refine wpAny_items_nil (chr_of_range hg.1 hg.2 ?_)
    have e : gapC k = (gap11.getD (k - 1).toNat 0).toNat := if_neg hk
    rw [← e]
    exact h _ _ (S2.tick.tick.tick.sub ((List.sublist_cons_self _ _).trans (List.sublist_cons_self _ _)))

def greatL : List Int := [65, 119808, 119860, 120432]
def greatC (letter form : Int) : Nat := (greatL.getD (form.fmod 4).toNat 0 + letter).toNat
theorem great4_range : ∀ i, i < 4 → 0 ≤ greatL.getD i 0 ∧ greatL.getD i 0 ≤ 1000000 := by decide

theorem great_spec (G : Gr w b mg mb) (S : St b s l) (hr : Room A 1) {x f : Int} {t u : Tok} (h1 : 0 ≤ x) (h2 : x < 26) (ha : FnAt b.heap mg (dAt 19) a) (h : ∀ s' t', St b s' l → Q (.str ⟨#[greatC x f]⟩ t') s') :
    wpAny (model prg w) A (call (.ref a) [.int x t, .int f u]) Q E s := by
  obtain ⟨o, pm, code, doc, hmg, ho, hd, hcd⟩ := ha
  refine r_call (binds := [("letter", .int x t), ("form", .int f u)]) S ho hd hcd G.nolimit hr.room rfl rfl rfl (fun L s1 S1 => ?_) (by decide) rfl rfl rfl
  with_unfolding_all refine wpAny_execs_cons ?_
  refine wpAny_Return_some (r_bcall G.g G.bl S1 (G.free _ (by decide)) ((G.boot _ (by decide)).trans boot_chr) (wpAny_items_cons (wpAny_BinOp ?_)))
  with_reducible refine Subscript_ ?_
  with_reducible refine r_List (b := b) ?_
  iterate 4 (with_reducible refine wpAny_items_cons (he := star_const) (r_int (by assumption) fun _ _ _ _ => ?_))
  refine wpAny_items_nil ?_
  refine ⟨_, by assumption, Nat.le_of_ble_eq_true rfl, fun D s2 S2 => ?_⟩
  refine wpAny_BinOp (r_ld S2 (by walk_at "m mem") rfl (wpAny_Constant_int (mod_int' (by decide) ?_)))
  have hm1 : 0 ≤ f.fmod 4 := Int.fmod_nonneg_of_pos _ (by decide)
  have hm2 : f.fmod 4 < 4 := Int.fmod_lt_of_pos _ (by decide)
  have hL := S2.tick.tick.lst (List.Mem.head _)
  obtain ⟨t', ht'⟩ := item_of (ns := greatL) hL (by unfold greatL; repeat constructor) (k := (f.fmod 4).toNat) (show (f.fmod 4).toNat < 4 by omega)
  have hg := great4_range (f.fmod 4).toNat (by omega)
  refine r_item hL (by omega) (by omega) ht' ?_
  refine r_ld S2.tick.tick (by walk_at "m mem") rfl (P.add_int (wpAny_items_nil (chr_of_range (by omega) (by omega) ?_)))
  exact h _ _ (S2.tick.tick.tick.tick.sub ((List.sublist_cons_self _ _).trans (List.sublist_cons_self _ _)))
end
end Mine
end

section -- Fns5
open PySem PySem.W PyProof.Rows PySem.Calls
set_option Elab.async false
set_option maxRecDepth 100000
namespace Mine
local macro_rules | `(tactic| walk_at "m mem") => `(tactic| first | exact List.Mem.head _ | (refine List.Mem.tail _ ?_; walk_at "m mem"))
local macro_rules | `(tactic| walk_at "m put") => `(tactic| first | exact Put.head | (apply Put.tail; walk_at "m put"))
local macro_rules | `(tactic| walk_at "m set") => `(tactic| first | with_reducible exact LSet.head | exact LSet.nil | (apply LSet.tail; (focus decide); walk_at "m set"))
section
variable {w : World} {A : Around} {E : Value → Shared → Prop} {b s : Shared} {l : List (Addr × It)} {mg mb : Str → Option Value} {a : Addr} {Q : Value → Shared → Prop}

theorem r_hit_int {prog : Program} {env : Env} {x y : Str} {p1 p2 p3 p4 p5 p6 p7 : Pos} {whole : Sem Value} {al : List (Str × Value)} {p q : Int} {t u : Tok} {Q : Bool → Shared → Prop} (S : St b s l) (hb : NoneBooked s.heap) (hm : (env.locals, It.frm al) ∈ l)
    (hx : al.lookup x = some (.int p t)) (hy : al.lookup y = some (.int q u)) (ht : t ≠ 0) (hu : u ≠ 0) (htu : t ≠ u) (h : Q (decide (p = q)) s)
    (hk : env.scope.kind = .function := by rfl) (hlx : env.kindOf x = some .local := by rfl) (hly : env.kindOf y = some .local := by rfl) (hdx : (x == ("__debug__" : Str)) = false := by decide) (hdy : (y == ("__debug__" : Str)) = false := by decide) :
    wpAny (model prog w) A (isTrue (.BoolOp .Or [.Compare (.Name x p1) [.Is] [.Name y p2] p3, .Compare (.Name x p4) [.Eq] [.Name y p5] p6] p7) env whole) Q E s := by
  have eqs : wpAny (model prog w) A (allTrue .Or [.Compare (.Name x p4) [.Eq] [.Name y p5] p6] env) Q E s := by
    refine wpAny_allTrue_Or_cons (wpAny_isTrue_Compare1 (r_ld S hm hx (r_ld S hm hy (P.eq_int (wpAny_truthy_bool ?_)) hk hly hdy) hk hlx hdx))
    by_cases e : p = q
    · rw [if_pos (by simpa using e)]; rw [decide_eq_true e] at h; exact h
    · rw [if_neg (by simpa using e)]; rw [decide_eq_false e] at h; exact wpAny_allTrue_Or_nil h
  refine wpAny_isTrue_BoolOp (wpAny_allTrue_Or_cons (wpAny_isTrue_Compare1 (r_ld S hm hx (r_ld S hm hy (r_is_int hb ht hu htu fun r hr => wpAny_truthy_bool ?_) hk hly hdy) hk hlx hdx)))
  cases r with
  | false => exact eqs
  | true => have e := hr rfl; rw [decide_eq_true e] at h; exact h

theorem r_hit_bool {prog : Program} {env : Env} {x y : Str} {p1 p2 p3 p4 p5 p6 p7 : Pos} {whole : Sem Value} {al : List (Str × Value)} {p q : Bool} {Q : Bool → Shared → Prop} (S : St b s l) (hm : (env.locals, It.frm al) ∈ l)
    (hx : al.lookup x = some (.bool p)) (hy : al.lookup y = some (.bool q)) (h : Q (decide (p = q)) s)
    (hk : env.scope.kind = .function := by rfl) (hlx : env.kindOf x = some .local := by rfl) (hly : env.kindOf y = some .local := by rfl) (hdx : (x == ("__debug__" : Str)) = false := by decide) (hdy : (y == ("__debug__" : Str)) = false := by decide) :
    wpAny (model prog w) A (isTrue (.BoolOp .Or [.Compare (.Name x p1) [.Is] [.Name y p2] p3, .Compare (.Name x p4) [.Eq] [.Name y p5] p6] p7) env whole) Q E s := by
  have eqs : wpAny (model prog w) A (allTrue .Or [.Compare (.Name x p4) [.Eq] [.Name y p5] p6] env) Q E s := by
    refine wpAny_allTrue_Or_cons (wpAny_isTrue_Compare1 (r_ld S hm hx (r_ld S hm hy (eq_bool (wpAny_truthy_bool ?_)) hk hly hdy) hk hlx hdx))
    cases p <;> cases q <;> first | exact h | exact wpAny_allTrue_Or_nil h
  refine wpAny_isTrue_BoolOp (wpAny_allTrue_Or_cons (wpAny_isTrue_Compare1 (r_ld S hm hx (r_ld S hm hy (wpAny_is_plain rfl (wpAny_truthy_bool ?_)) hk hly hdy) hk hlx hdx)))
  cases p <;> cases q <;> first | exact h | exact eqs

/-- the ints of a list with their tokens -/
def intsV (ps : List (Int × Tok)) : List Value := ps.map fun p => .int p.1 p.2

theorem count_step {ps : List (Int × Tok)} {i : Nat} {p : Int × Tok} (h : ps[i]? = some p) (q : Int) :
    (((ps.take (i + 1)).countP (fun x => x.1 == q) : Nat) : Int) = ((ps.take i).countP (fun x => x.1 == q) : Nat) + (if p.1 = q then 1 else 0) := by
  rw [List.take_add_one, h, List.countP_append]
  simp only [Option.toList_some, List.countP_cons, List.countP_nil, beq_iff_eq]
  split <;> simp

theorem countOf_ints (G : Gr w b mg mb) (S : St b s l) (hr : Room A 1) {c : Addr} {ps : List (Int × Tok)} {q : Int} {u : Tok} (hl : Has b l c (intsV ps))
    (hu : u ≠ 0) (ht : ∀ p ∈ ps, p.2 ≠ 0 ∧ p.2 ≠ u) (ha : FnAt b.heap mg (dAt 8) a)
    (h : ∀ s' t', St b s' l → b.toks ≤ t' → Q (.int (ps.countP (fun x => x.1 == q) : Nat) t') s') :
    wpAny (model prg w) A (call (.ref a) [.ref c, .int q u]) Q E s := by
  obtain ⟨o, pm, code, doc, hmg, ho, hd, hcd⟩ := ha
  refine r_call (binds := [("a", .ref c), ("b", .int q u)]) S ho hd hcd G.nolimit hr.room rfl rfl rfl (fun L s1 S1 => ?_) (by decide) rfl rfl rfl
  with_unfolding_all refine wpAny_execs_cons ?_
  refine wpAny_Assign_Name (r_int S1 fun s2 t2 S2 h2 => r_st S2 (by walk_at "m put") (by walk_at "m set") fun s3 S3 => ?_)
  with_unfolding_all refine wpAny_execs_cons ?_
  refine wpAny_For (r_ld S3 (by walk_at "m mem") rfl ?_)
  refine r_iter_list (vs := intsV ps) (fun i l₁ => ∃ t al', (al' = [] ∨ ∃ u', al' = [((Str.ofString "i"), u')]) ∧ b.toks ≤ t ∧
    l₁ = (L, .frm ([((Str.ofString "a"), .ref c), ((Str.ofString "b"), .int q u), ((Str.ofString "count"), .int ((ps.take i).countP (fun x => x.1 == q) : Nat) t)] ++ al')) :: l) hr.hh S3 ⟨t2, [], .inl rfl, h2, rfl⟩ ?_ ?_ ?_
  · rintro i l₁ s₁ ⟨t, al', _, _, rfl⟩ S₁
    exact hl.at' S₁ (List.sublist_cons_self _ _)
  · rintro i v l₁ s₁ I hv ⟨t, al', hal, htk, rfl⟩ S₁
    obtain ⟨p, hp, rfl⟩ : ∃ p, ps[i]? = some p ∧ v = .int p.1 p.2 := by
      unfold intsV at hv
      rw [List.getElem?_map] at hv
      obtain ⟨p, hp, e⟩ := Option.map_eq_some_iff.mp hv
      exact ⟨p, hp, e.symm⟩
    have hpm := ht p (List.mem_of_getElem? hp)
    have hset : LSet (Str.ofString "i") (.int p.1 p.2) ([((Str.ofString "a"), .ref c), ((Str.ofString "b"), .int q u), ((Str.ofString "count"), .int ((ps.take i).countP (fun x => x.1 == q) : Nat) t)] ++ al')
        [((Str.ofString "a"), .ref c), ((Str.ofString "b"), .int q u), ((Str.ofString "count"), .int ((ps.take i).countP (fun x => x.1 == q) : Nat) t), ((Str.ofString "i"), .int p.1 p.2)] := by
      rcases hal with rfl | ⟨u', rfl⟩ <;> simp only [List.cons_append, List.nil_append] <;> walk_at "m set"
    refine wpAny_assign_Name (r_st S₁ (by walk_at "m put") hset fun s2 S2 => ?_)
    with_unfolding_all refine wpAny_execs_cons ?_
    refine wpAny_If (r_hit_int S2 (NoneBooked.keeps G.booked S2.keep) (by walk_at "m mem") rfl rfl hpm.1 hu hpm.2 ?_)
    by_cases e : p.1 = q
    · rw [decide_eq_true e, if_pos rfl]
      with_unfolding_all refine wpAny_execs_cons ?_
      refine wpAny_AugAssign_Name (r_ldn S2 (by walk_at "m mem") rfl (r_int S2 fun s3 t3 S3 h3 => P.iadd_int (r_st S3.tick (by walk_at "m put") (by walk_at "m set") fun s4 S4 => ?_)))
      refine wpAny_execs_nil (wpAny_execs_nil ⟨_, ⟨_, [((Str.ofString "i"), .int p.1 p.2)], .inr ⟨_, rfl⟩, S3.tk, rfl⟩, ?_⟩)
      rw [count_step hp q, if_pos e]; exact S4
    · rw [decide_eq_false e, if_neg Bool.false_ne_true]
      refine wpAny_execs_nil (wpAny_execs_nil ⟨_, ⟨_, [((Str.ofString "i"), .int p.1 p.2)], .inr ⟨_, rfl⟩, htk, rfl⟩, ?_⟩)
      rw [count_step hp q, if_neg e, Int.add_zero]; exact S2
  · rintro l₁ s₁ ⟨t, al', hal, htk, rfl⟩ S₁
    refine wpAny_execs_nil ?_
    with_unfolding_all refine wpAny_execs_cons ?_
    refine wpAny_Return_some (r_ld S₁ (by walk_at "m mem") rfl ?_)
    have e : ps.take (intsV ps).length = ps := by unfold intsV; rw [List.length_map, List.take_length]
    rw [e]
    exact h _ _ (S₁.sub (List.sublist_cons_self _ _)) htk

def boolsV (ps : List Bool) : List Value := ps.map fun p => .bool p
theorem count_stepB {ps : List Bool} {i : Nat} {p : Bool} (h : ps[i]? = some p) (q : Bool) :
    (((ps.take (i + 1)).countP (fun x => x == q) : Nat) : Int) = ((ps.take i).countP (fun x => x == q) : Nat) + (if p = q then 1 else 0) := by
  rw [List.take_add_one, h, List.countP_append]
  simp only [Option.toList_some, List.countP_cons, List.countP_nil, beq_iff_eq]
  split <;> simp

theorem countOf_bools (G : Gr w b mg mb) (S : St b s l) (hr : Room A 1) {c : Addr} {ps : List Bool} {q : Bool} (hl : Has b l c (boolsV ps))
    (ha : FnAt b.heap mg (dAt 8) a)
    (h : ∀ s' t', St b s' l → b.toks ≤ t' → Q (.int (ps.countP (fun x => x == q) : Nat) t') s') :
    wpAny (model prg w) A (call (.ref a) [.ref c, .bool q]) Q E s := by
  obtain ⟨o, pm, code, doc, hmg, ho, hd, hcd⟩ := ha
  refine r_call (binds := [("a", .ref c), ("b", .bool q)]) S ho hd hcd G.nolimit hr.room rfl rfl rfl (fun L s1 S1 => ?_) (by decide) rfl rfl rfl
  with_unfolding_all refine wpAny_execs_cons ?_
  refine wpAny_Assign_Name (r_int S1 fun s2 t2 S2 h2 => r_st S2 (by walk_at "m put") (by walk_at "m set") fun s3 S3 => ?_)
  with_unfolding_all refine wpAny_execs_cons ?_
  refine wpAny_For (r_ld S3 (by walk_at "m mem") rfl ?_)
  refine r_iter_list (vs := boolsV ps) (fun i l₁ => ∃ t al', (al' = [] ∨ ∃ u', al' = [((Str.ofString "i"), u')]) ∧ b.toks ≤ t ∧
    l₁ = (L, .frm ([((Str.ofString "a"), .ref c), ((Str.ofString "b"), .bool q), ((Str.ofString "count"), .int ((ps.take i).countP (fun x => x == q) : Nat) t)] ++ al')) :: l) hr.hh S3 ⟨t2, [], .inl rfl, h2, rfl⟩ ?_ ?_ ?_
  · rintro i l₁ s₁ ⟨t, al', _, _, rfl⟩ S₁
    exact hl.at' S₁ (List.sublist_cons_self _ _)
  · rintro i v l₁ s₁ I hv ⟨t, al', hal, htk, rfl⟩ S₁
    obtain ⟨p, hp, rfl⟩ : ∃ p, ps[i]? = some p ∧ v = .bool p := by
      unfold boolsV at hv
      rw [List.getElem?_map] at hv
      obtain ⟨p, hp, e⟩ := Option.map_eq_some_iff.mp hv
      exact ⟨p, hp, e.symm⟩
    have hset : LSet (Str.ofString "i") (.bool p) ([((Str.ofString "a"), .ref c), ((Str.ofString "b"), .bool q), ((Str.ofString "count"), .int ((ps.take i).countP (fun x => x == q) : Nat) t)] ++ al')
        [((Str.ofString "a"), .ref c), ((Str.ofString "b"), .bool q), ((Str.ofString "count"), .int ((ps.take i).countP (fun x => x == q) : Nat) t), ((Str.ofString "i"), .bool p)] := by
      rcases hal with rfl | ⟨u', rfl⟩ <;> simp only [List.cons_append, List.nil_append] <;> walk_at "m set"
    refine wpAny_assign_Name (r_st S₁ (by walk_at "m put") hset fun s2 S2 => ?_)
    with_unfolding_all refine wpAny_execs_cons ?_
    refine wpAny_If (r_hit_bool S2 (by walk_at "m mem") rfl rfl ?_)
    by_cases e : p = q
    · rw [decide_eq_true e, if_pos rfl]
      with_unfolding_all refine wpAny_execs_cons ?_
      refine wpAny_AugAssign_Name (r_ldn S2 (by walk_at "m mem") rfl (r_int S2 fun s3 t3 S3 h3 => P.iadd_int (r_st S3.tick (by walk_at "m put") (by walk_at "m set") fun s4 S4 => ?_)))
      refine wpAny_execs_nil (wpAny_execs_nil ⟨_, ⟨_, [((Str.ofString "i"), .bool p)], .inr ⟨_, rfl⟩, S3.tk, rfl⟩, ?_⟩)
      rw [count_stepB hp q, if_pos e]; exact S4
    · rw [decide_eq_false e, if_neg Bool.false_ne_true]
      refine wpAny_execs_nil (wpAny_execs_nil ⟨_, ⟨_, [((Str.ofString "i"), .bool p)], .inr ⟨_, rfl⟩, htk, rfl⟩, ?_⟩)
      rw [count_stepB hp q, if_neg e, Int.add_zero]; exact S2
  · rintro l₁ s₁ ⟨t, al', hal, htk, rfl⟩ S₁
    refine wpAny_execs_nil ?_
    with_unfolding_all refine wpAny_execs_cons ?_
    refine wpAny_Return_some (r_ld S₁ (by walk_at "m mem") rfl ?_)
    have e : ps.take (boolsV ps).length = ps := by unfold boolsV; rw [List.length_map, List.take_length]
    rw [e]
    exact h _ _ (S₁.sub (List.sublist_cons_self _ _)) htk
end
end Mine
end

section -- Hasattr
open PySem PySem.W PyProof.Rows PySem.Calls
set_option Elab.async false
set_option maxHeartbeats 4000000
set_option maxRecDepth 100000
namespace Mine
theorem lk_str_gi : typeLookup (.type "str") "__getitem__" = pure (some (.builtin "str.__getitem__")) := by rw [typeLookup_type, builtinLookup_eq_fast]; kernel_rfl
theorem typeOf_str_gi : typeOf (.builtin "str.__getitem__") = pure (.type "wrapper_descriptor") := by kernel_rfl
theorem slot_wd_get : Slot "wrapper_descriptor" "__get__" "wrapper_descriptor.__get__" :=
  .of (owner := "wrapper_descriptor") (n := "__get__") (by rw [typeLookup_type, builtinLookup_eq_fast]; kernel_rfl) (by decide +kernel) (by decide +kernel) (by decide +kernel)
    (by first | exact .inl (by decide +kernel) | exact .inr (by decide +kernel)) (by rw [isSubtype_type]; kernel_rfl)
theorem entry_wd_get : entryFor table "wrapper_descriptor.__get__" = some Builtin.«wrapper_descriptor.__get__» := entryFor_of_tree (by kernel_rfl)
theorem args_wd_get (a b c : Value) : argsOk "wrapper_descriptor.__get__" ⟨[a, b, c], []⟩ := by unfold argsOk; kernel_rfl
theorem lk_wd_set : typeLookup (.type "wrapper_descriptor") "__set__" = pure none := by rw [typeLookup_type, builtinLookup_eq_fast]; kernel_rfl
theorem lk_wd_delete : typeLookup (.type "wrapper_descriptor") "__delete__" = pure none := by rw [typeLookup_type, builtinLookup_eq_fast]; kernel_rfl
theorem entry_hasattr : entryFor table "hasattr" = some Builtin.«hasattr» := entryFor_of_tree (by kernel_rfl)
theorem kind_hasattr : builtinKind "hasattr" = none := by decide +kernel
theorem plain_hasattr : plainId "hasattr" = true := by decide +kernel
theorem args_hasattr (a b : Value) : argsOk "hasattr" ⟨[a, b], []⟩ := by unfold argsOk; kernel_rfl
theorem owner_str_gi : (".".intercalate ("str.__getitem__".cutAt '.').dropLast) = "str" := by
  have e0 : "str.__getitem__".cutAt '.' = ["str", "__getitem__"] := by first | rfl | decide +kernel
  rw [e0]; rfl
theorem sub_str_gi_owner : isSubtype (.type "str") (.type (".".intercalate ("str.__getitem__".cutAt '.').dropLast)) = pure true := by
  rw [owner_str_gi, isSubtype_type]; kernel_rfl

section
variable {prog : Program} {w : World} {A : Around} {E : Value → Shared → Prop} {h : Heap} {g : Array GenState} {d : Drawn} {t : Nat} {os : OsState} {x : Str} {u : Tok}

theorem gi_get_str {R : Result → Shared → Prop} (hq : R (.ok (.ret (.ref h.objs.size))) ⟨h.push { cls := .type "method-wrapper", data := .fields #[.builtin "str.__getitem__", .str x u] }, g, d, t, os⟩) :
    codeAny (model prog w) A (.call (.builtin "wrapper_descriptor.__get__") ⟨[.builtin "str.__getitem__", .str x u, .type "str"], []⟩) R ⟨h, g, d, t, os⟩ := by
  have hT : (⟨h, g, d, t, os⟩ : Shared).TypeIs (.str x u) "str" := rfl
  have hT5 : (⟨h, g, d, t, os⟩ : Shared).TypeIs (.builtin "str.__getitem__") "wrapper_descriptor" := typeOf_str_gi
  have f8 := sub_str_gi_owner
  refine codeAny_call_builtin slot_wd_get.plain entry_wd_get (slot_wd_get.check _ _ _ _ _ _ _ _ hT5 (args_wd_get _ _ _) ?_)
  repeat (any_goals (first | assumption | wp_step))

theorem gi_entry_str {tk : Tok} {Q : Fin → Shared → Prop} (hq : Q (.done (.ret (.ref h.objs.size))) ⟨h.push { cls := .type "method-wrapper", data := .fields #[.builtin "str.__getitem__", .str x u] }, g, d, t, os⟩) :
    wpAny (model prog w) A (Builtin.«object.__getattribute__» ⟨[.str x u, .str "__getitem__" tk], []⟩) Q E ⟨h, g, d, t, os⟩ := by
  have hT : (⟨h, g, d, t, os⟩ : Shared).TypeIs (.str x u) "str" := rfl
  have hT5 : (⟨h, g, d, t, os⟩ : Shared).TypeIs (.builtin "str.__getitem__") "wrapper_descriptor" := typeOf_str_gi
  have f4 := lk_str_gi
  have f5 := typeOf_str_gi
  have f6 := slot_wd_get.lookup
  have f7 := lk_wd_set
  have f8 := lk_wd_delete
  repeat (any_goals (first | assumption | wp_step))
  refine gi_get_str ?_
  repeat (any_goals (first | assumption | wp_step))

theorem gi_call_str {tk : Tok} {R : Result → Shared → Prop} (hq : R (.ok (.ret (.ref h.objs.size))) ⟨h.push { cls := .type "method-wrapper", data := .fields #[.builtin "str.__getitem__", .str x u] }, g, d, t, os⟩) :
    codeAny (model prog w) A (.call (.builtin "object.__getattribute__") ⟨[.str x u, .str "__getitem__" tk], []⟩) R ⟨h, g, d, t, os⟩ :=
  codeAny_call_builtin F.slot_str_getattribute.plain F.entry_object_getattribute (F.slot_str_getattribute.check _ _ _ _ _ _ _ _ (show (⟨h, g, d, t, os⟩ : Shared).TypeIs (.str x u) "str" from rfl) (F.args_object_getattribute_2 _ _) (gi_entry_str hq))

theorem gi_by_str {tk : Tok} {Q : Value → Shared → Prop} (hq : Q (.ref h.objs.size) ⟨h.push { cls := .type "method-wrapper", data := .fields #[.builtin "str.__getitem__", .str x u] }, g, d, t, os⟩) :
    wpAny (model prog w) A (getAttrBy (.str x u) (.str "__getitem__" tk) false) Q E ⟨h, g, d, t, os⟩ := by
  have hT : (⟨h, g, d, t, os⟩ : Shared).TypeIs (.str x u) "str" := rfl
  have f2 := F.slot_str_getattribute.lookup
  have f3 := F.slot_str_getattribute.bind (.str x u)
  repeat (any_goals (first | assumption | wp_step))
  refine gi_call_str ?_
  repeat (any_goals (first | assumption | wp_step))

theorem hasattr_str {tk : Tok} {Q : Value → Shared → Prop} (hq : Q (.bool true) ⟨h.push { cls := .type "method-wrapper", data := .fields #[.builtin "str.__getitem__", .str x u] }, g, d, t, os⟩) :
    wpAny (model prog w) A (call (.builtin "hasattr") [.str x u, .str "__getitem__" tk]) Q E ⟨h, g, d, t, os⟩ := by
  have hT : (⟨h, g, d, t, os⟩ : Shared).TypeIs (.str x u) "str" := rfl
  have f2 := F.slot_str_getattribute.lookup
  have f4 := lk_str_gi
  refine call_function_entry kind_hasattr plain_hasattr entry_hasattr (args_hasattr _ _) ?_
  skip
  repeat (any_goals (first | assumption | with_reducible apply gi_by_str | wp_step))
  exact ⟨_, rfl, hq⟩
end
end Mine
end

section -- Fns7
open PySem PySem.W PyProof.Rows PySem.Calls
set_option Elab.async false
set_option maxRecDepth 100000
namespace Mine
local macro_rules | `(tactic| walk_at "m mem") => `(tactic| first | exact List.Mem.head _ | (refine List.Mem.tail _ ?_; walk_at "m mem"))
section
variable {w : World} {A : Around} {E : Value → Shared → Prop} {b s : Shared} {l : List (Addr × It)} {mg mb : Str → Option Value} {a : Addr} {Q : Value → Shared → Prop}

theorem boot_hasattr' : bootBuiltins (Str.ofString "hasattr") = some (.builtin "hasattr") := by kernel_rfl

theorem str_append_empty (x : Str) : x ++ (⟨#[]⟩ : Str) = x := by
  show (⟨x.cps ++ #[]⟩ : Str) = x
  simp
theorem str_empty_append (x : Str) : (⟨#[]⟩ : Str) ++ x = x := by
  show (⟨#[] ++ x.cps⟩ : Str) = x
  simp

theorem add_str' {x y : Str} {t u : Tok} (S : St b s l) (hz : x.length + y.length ≤ 1000) (h : ∀ s' t', St b s' l → Q (.str (x ++ y) t') s') : wpAny (model prg w) A (binaryOp .Add (.str x t) (.str y u)) Q E s := by
  refine P.add_str ?_
  by_cases hx : x.length = 0
  · rw [if_pos (by simpa using hx)]
    have e : x = ⟨#[]⟩ := by
      cases x; simp only [Str.mk.injEq]; exact Array.eq_empty_of_size_eq_zero hx
    have := h s u S
    rw [e, str_empty_append] at this
    exact this
  · rw [if_neg (by simpa using hx)]
    by_cases hy : y.length = 0
    · rw [if_pos (by simpa using hy)]
      have e : y = ⟨#[]⟩ := by
        cases y; simp only [Str.mk.injEq]; exact Array.eq_empty_of_size_eq_zero hy
      have := h s t S
      rw [e, str_append_empty] at this
      exact this
    · rw [if_neg (by simpa using hy)]
      refine ⟨?_, h _ _ S.tick⟩
      rw [Str.length_append, sizeLine_eq]; omega

theorem concat_spec (G : Gr w b mg mb) (S : St b s l) (hr : Room A 1) {x y : Str} {t u : Tok} (hz : x.length + y.length ≤ 1000) (ha : FnAt b.heap mg (dAt 7) a) (h : ∀ s' t', St b s' l → Q (.str (x ++ y) t') s') :
    wpAny (model prg w) A (call (.ref a) [.str x t, .str y u]) Q E s := by
  obtain ⟨o, pm, code, doc, hmg, ho, hd, hcd⟩ := ha
  refine r_call (binds := [("a", .str x t), ("b", .str y u)]) S ho hd hcd G.nolimit hr.room rfl rfl rfl (fun L s1 S1 => ?_) (by decide) rfl rfl rfl
  with_unfolding_all refine wpAny_execs_cons ?_
  refine wpAny_If (wpAny_isTrue_Not (wpAny_isTrue_value ?_))
  refine r_bcall G.g G.bl S1 (G.free _ (by decide)) ((G.boot _ (by decide)).trans boot_hasattr') (wpAny_items_cons (r_ld S1 (by walk_at "m mem") rfl (wpAny_items_cons (r_str S1 fun s2 t2 S2 => wpAny_items_nil ?_))))
  obtain ⟨hp, gs, dr, tk, os⟩ := s2
  refine hasattr_str (wpAny_truthy_bool ?_)
  have S3 : St b ⟨hp.push { cls := .type "method-wrapper", data := .fields #[.builtin "str.__getitem__", .str x t] }, gs, dr, tk, os⟩ _ := S2.ext (fun _ _ e => Heap.get?_push_of_some _ e) S2.tk ⟨rfl, rfl, rfl⟩
  rw [if_neg (by decide)]
  refine wpAny_execs_nil ?_
  with_unfolding_all refine wpAny_execs_cons ?_
  refine wpAny_Return_some (wpAny_BinOp (r_ld S3 (by walk_at "m mem") rfl (r_ld S3 (by walk_at "m mem") rfl (add_str' S3 hz fun s4 t4 S4 => ?_))))
  exact h _ _ (S4.sub (List.sublist_cons_self _ _))
end
end Mine
end

section -- Tell
open PySem PySem.W PyProof.Rows PySem.Calls
set_option Elab.async false
set_option maxRecDepth 100000
namespace Mine
local macro_rules | `(tactic| walk_at "m mem") => `(tactic| first | exact List.Mem.head _ | (refine List.Mem.tail _ ?_; walk_at "m mem"))
local macro_rules | `(tactic| walk_at "m put") => `(tactic| first | exact Put.head | (apply Put.tail; walk_at "m put"))
local macro_rules | `(tactic| walk_at "m set") => `(tactic| first | with_reducible exact OSet.head | (apply OSet.tail; (focus decide); walk_at "m set"))
local macro_rules | `(tactic| walk_at "m sub") => `(tactic| first | exact List.Sublist.refl _ | (apply List.Sublist.cons; walk_at "m sub"))
section
variable {w : World} {A : Around} {E : Value → Shared → Prop} {b s : Shared} {l : List (Addr × It)} {mg mb : Str → Option Value} {a : Addr} {Q : Value → Shared → Prop}

def isGap (c : Nat) : Bool := gapL.contains (c : Int)
/-- the sign folds to one sign -/
def Folds (c m : Nat) : Prop := (∃ u, b3f (c : Int) = some (.str ⟨#[m]⟩ u)) ∨ (b3f (c : Int) = none ∧ Txt.lower ⟨#[c]⟩ = ⟨#[m]⟩)

theorem map_spec (G : Gr w b mg mb) (S : St b s l) (hr : Room A 1) {c m : Nat} {t : Tok} (hf : Folds c m) (ha : FnAt b.heap mg (dAt 16) a) (h : ∀ s' t', St b s' l → Q (.str ⟨#[m]⟩ t') s') :
    wpAny (model prg w) A (call (.ref a) [.str ⟨#[c]⟩ t]) Q E s := by
  rcases hf with ⟨u, hf⟩ | ⟨hf, e⟩
  · exact map_b3_some G S hr hf ha h
  · refine map_b3_none G S hr hf (by rw [e]; rfl) ha fun s' t' S' => ?_
    rw [e]; exact h s' t' S'

abbrev TSt := List Nat × List Bool × Int
/-- one sign read -/
def tStep (fold : Nat → Nat) (marks : List Int) (st : TSt) (c : Nat) : TSt :=
  if isGap c then st else (st.1 ++ [fold c], st.2.1 ++ [fold c != c], if fold c != c then Builtin.bitXor st.2.2 (marks.getD st.2.1.length 0) else st.2.2)
def tellF (fold : Nat → Nat) (marks : List Int) (cs : List Nat) : TSt := cs.foldl (tStep fold marks) ([], [], 0)

def signsV (rs : List (Nat × Tok)) : List Value := rs.map fun p => .str ⟨#[p.1]⟩ p.2

theorem str_snoc (xs : List Nat) (m : Nat) : (⟨xs.toArray⟩ : Str) ++ (⟨#[m]⟩ : Str) = ⟨(xs ++ [m]).toArray⟩ := by
  show (⟨xs.toArray ++ #[m]⟩ : Str) = _
  simp

theorem boot_len' : bootBuiltins (Str.ofString "len") = some (.builtin "len") := by kernel_rfl

theorem tStep_len (fold : Nat → Nat) (marks : List Int) (st : TSt) (c : Nat) : (tStep fold marks st c).1.length ≤ st.1.length + 1 ∧ (tStep fold marks st c).2.1.length ≤ st.2.1.length + 1 := by
  unfold tStep
  split
  · exact ⟨Nat.le_succ _, Nat.le_succ _⟩
  · exact ⟨by simp, by simp⟩
theorem tell_len (fold : Nat → Nat) (marks : List Int) : ∀ (cs : List Nat) (st : TSt), (cs.foldl (tStep fold marks) st).1.length ≤ st.1.length + cs.length ∧ (cs.foldl (tStep fold marks) st).2.1.length ≤ st.2.1.length + cs.length
  | [], st => ⟨Nat.le_refl _, Nat.le_refl _⟩
  | c :: cs, st => by
    have ih := tell_len fold marks cs (tStep fold marks st c)
    have h1 := tStep_len fold marks st c
    rw [List.foldl_cons, List.length_cons]
    omega

/-- how many signs of the row are no gaps -/
def letters (cs : List Nat) : Nat := cs.countP fun c => !isGap c
theorem tell_sizes (fold : Nat → Nat) (marks : List Int) : ∀ (cs : List Nat) (st : TSt), (cs.foldl (tStep fold marks) st).2.1.length = st.2.1.length + letters cs
  | [], st => rfl
  | c :: cs, st => by
    have ih := tell_sizes fold marks cs (tStep fold marks st c)
    rw [List.foldl_cons, ih]
    unfold tStep letters
    cases hg : isGap c with
    | true => simp [hg]
    | false => simp [hg]; omega

theorem tell_spec (G : Gr w b mg mb) (S : St b s l) (hr : Room A 2) {r mk : Addr} {rs : List (Nat × Tok)} {ms : List (Int × Tok)} {fold : Nat → Nat} (hrow : Has b l r (signsV rs))
    (hmk : Has b l mk (intsV ms)) (hn : rs.length ≤ 300) (hms : letters (rs.map (·.1)) ≤ ms.length) (hfold : ∀ p ∈ rs, isGap p.1 = false → Folds p.1 (fold p.1)) (ha : FnAt b.heap mg (dAt 20) a)
    (h : ∀ s' D Z tw tt, b.toks ≤ tt → St b s' ((D, .lst [.str ⟨(tellF fold (ms.map (·.1)) (rs.map (·.1))).1.toArray⟩ tw, .ref Z, .int (tellF fold (ms.map (·.1)) (rs.map (·.1))).2.2 tt]) :: (Z, .lst (boolsV (tellF fold (ms.map (·.1)) (rs.map (·.1))).2.1)) :: l) → Q (.ref D) s') :
    wpAny (model prg w) A (call (.ref a) [.ref r, .ref mk]) Q E s := by
  obtain ⟨aIn, hIn⟩ := G.fn 14 (by decide)
  obtain ⟨aMap, hMap⟩ := G.fn 16 (by decide)
  obtain ⟨aNe, hNe⟩ := G.fn 2 (by decide)
  obtain ⟨aXor, hXor⟩ := G.fn 6 (by decide)
  obtain ⟨aGi, hGi⟩ := G.fn 9 (by decide)
  obtain ⟨aCc, hCc⟩ := G.fn 7 (by decide)
  obtain ⟨o, pm, code, doc, hmg, ho, hd, hcd⟩ := ha
  refine r_call (binds := [("row", .ref r), ("marks", .ref mk)]) S ho hd hcd G.nolimit hr.room rfl rfl rfl (fun L s1 S1' => ?_) (by decide) rfl rfl rfl
  have hrd : Room (A.deeper (callEnv (docDef (dAt 20).name (dAt 20).params (dAt 20).body (dAt 20).scope pm code doc) L a)) 1 := hr.deeper
  have S1 := S1'.pad ["word", "sizes", "told", "sign", "small", "great"]
  simp only [pad, List.map_cons, List.map_nil, List.cons_append, List.nil_append] at S1
  with_unfolding_all refine wpAny_execs_cons ?_
  refine wpAny_Assign_Name (r_str S1 fun s2 tw S2 => o_st S2 (by walk_at "m put") (by walk_at "m set") fun s3 S3 => ?_)
  with_unfolding_all refine wpAny_execs_cons ?_
  refine wpAny_Assign_Name (r_List (b := b) (wpAny_items_nil ⟨_, S3, Nat.zero_le _, fun Z s4 S4 => o_st S4 (by walk_at "m put") (by walk_at "m set") fun s5 S5 => ?_⟩))
  with_unfolding_all refine wpAny_execs_cons ?_
  refine wpAny_Assign_Name (r_int S5 fun s6 tt S6 htt => o_st S6 (by walk_at "m put") (by walk_at "m set") fun s7 S7 => ?_)
  with_unfolding_all refine wpAny_execs_cons ?_
  have hlet : ∀ i c, (rs.map (·.1))[i]? = some c → isGap c = false → letters ((rs.map (·.1)).take i) < ms.length := by
    intro i c hc hg
    have e : (rs.map (·.1)) = (rs.map (·.1)).take i ++ c :: (rs.map (·.1)).drop (i + 1) := by
      conv => lhs; rw [← List.take_append_drop i (rs.map (·.1))]
      rw [List.drop_eq_getElem?_toList_append, hc]; rfl
    have q : letters (rs.map (·.1)) = letters ((rs.map (·.1)).take i) + (1 + letters ((rs.map (·.1)).drop (i + 1))) := by
      conv => lhs; rw [e]
      unfold letters
      rw [List.countP_append, List.countP_cons, hg]; simp; omega
    omega
  have e0 : Str.ofString "" = ⟨([] : List Nat).toArray⟩ := by decide +kernel
  rw [e0] at S7
  refine wpAny_For (o_ld S7 (by walk_at "m mem") rfl ?_)
  refine r_iter_list (vs := signsV rs) (fun i l₁ => ∃ tw tt os om og, b.toks ≤ tt ∧
    l₁ = (Z, .lst (boolsV (tellF fold (ms.map (·.1)) ((rs.map (·.1)).take i)).2.1)) :: (L, .fro [((Str.ofString "row"), some (.ref r)), ((Str.ofString "marks"), some (.ref mk)), ((Str.ofString "word"), some (.str ⟨(tellF fold (ms.map (·.1)) ((rs.map (·.1)).take i)).1.toArray⟩ tw)), ((Str.ofString "sizes"), some (.ref Z)),
      ((Str.ofString "told"), some (.int (tellF fold (ms.map (·.1)) ((rs.map (·.1)).take i)).2.2 tt)), ((Str.ofString "sign"), os), ((Str.ofString "small"), om), ((Str.ofString "great"), og)]) :: l) hr.hh S7 ⟨tw, tt, none, none, none, htt, rfl⟩ ?_ ?_ ?_
  · rintro i l₁ s₁ ⟨tw, tt, os, om, og, _, rfl⟩ S₁
    exact hrow.at' S₁ (by walk_at "m sub")
  · rintro i v l₁ s₁ I hv ⟨tw, tt, os, om, og, htt, rfl⟩ S₁
    obtain ⟨p, hp, rfl⟩ : ∃ p, rs[i]? = some p ∧ v = .str ⟨#[p.1]⟩ p.2 := by
      unfold signsV at hv
      rw [List.getElem?_map] at hv
      obtain ⟨p, hp, e⟩ := Option.map_eq_some_iff.mp hv
      exact ⟨p, hp, e.symm⟩
    have hc : (rs.map (·.1))[i]? = some p.1 := by rw [List.getElem?_map, hp]; rfl
    have hstep : tellF fold (ms.map (·.1)) ((rs.map (·.1)).take (i + 1)) = tStep fold (ms.map (·.1)) (tellF fold (ms.map (·.1)) ((rs.map (·.1)).take i)) p.1 := by
      unfold tellF
      rw [List.take_add_one, hc, List.foldl_append]; rfl
    have hlen := tell_len fold (ms.map (·.1)) ((rs.map (·.1)).take i) ([], [], 0)
    have hsz := tell_sizes fold (ms.map (·.1)) ((rs.map (·.1)).take i) ([], [], 0)
    have htk : ((rs.map (·.1)).take i).length ≤ 300 := by rw [List.length_take, List.length_map]; omega
    rw [hstep]
    change (tellF fold (ms.map (·.1)) ((rs.map (·.1)).take i)).1.length ≤ 0 + _ ∧ (tellF fold (ms.map (·.1)) ((rs.map (·.1)).take i)).2.1.length ≤ 0 + _ at hlen
    change (tellF fold (ms.map (·.1)) ((rs.map (·.1)).take i)).2.1.length = 0 + _ at hsz
    generalize tellF fold (ms.map (·.1)) ((rs.map (·.1)).take i) = T at S₁ hlen hsz ⊢
    obtain ⟨W, Zs, To⟩ := T
    dsimp only at S₁ hlen hsz
    refine wpAny_assign_Name (o_st S₁ (by walk_at "m put") (by walk_at "m set") fun s2 S2 => ?_)
    with_unfolding_all refine wpAny_execs_cons ?_
    refine wpAny_If (wpAny_isTrue_Not (wpAny_isTrue_value (r_def G.g S2 hIn (wpAny_items_cons (o_ld S2 (by walk_at "m mem") rfl (wpAny_items_nil ⟨⟨_, S2⟩, in_b1_spec G S2 hrd hIn fun s3 S3 => wpAny_truthy_bool ?_⟩))))))
    change if (!isGap p.1) = true then _ else _
    cases hg : isGap p.1 with
    | true =>
      rw [if_neg (by decide)]
      have eT : tStep fold (ms.map (·.1)) (W, Zs, To) p.1 = (W, Zs, To) := if_pos hg
      rw [eT]
      exact wpAny_execs_nil (wpAny_execs_nil ⟨_, ⟨tw, tt, _, om, og, htt, rfl⟩, S3⟩)
    | false =>
      rw [if_pos (by decide)]
      have hz : Zs.length < ms.length := by have := hlet i p.1 hc hg; omega
      have hF := hfold p (List.mem_of_getElem? hp) hg
      with_unfolding_all refine wpAny_execs_cons ?_
      refine wpAny_Assign_Name (r_def G.g S3 hMap (wpAny_items_cons (o_ld S3 (by walk_at "m mem") rfl (wpAny_items_nil ⟨⟨_, S3⟩, map_spec G S3 hrd hF hMap fun s4 t4 S4 => o_st S4 (by walk_at "m put") (by walk_at "m set") fun s5 S5 => ?_⟩))))
      with_unfolding_all refine wpAny_execs_cons ?_
      refine wpAny_Assign_Name (r_def G.g S5 hNe (wpAny_items_cons (o_ld S5 (by walk_at "m mem") rfl (wpAny_items_cons (o_ld S5 (by walk_at "m mem") rfl (wpAny_items_nil ⟨⟨_, S5⟩, ne_spec G S5 hrd hNe fun s6 S6 => o_st S6 (by walk_at "m put") (by walk_at "m set") fun s7 S7 => ?_⟩))))))
      have eg : ((⟨#[fold p.1]⟩ : Str).cps.toList != (⟨#[p.1]⟩ : Str).cps.toList) = (fold p.1 != p.1) := by
        by_cases e : fold p.1 = p.1
        · rw [e]; simp
        · have h1 : (fold p.1 != p.1) = true := by simpa using e
          rw [h1]; simpa using e
      rw [eg] at S7
      have eT : tStep fold (ms.map (·.1)) (W, Zs, To) p.1 = (W ++ [fold p.1], Zs ++ [fold p.1 != p.1], if fold p.1 != p.1 then Builtin.bitXor To ((ms.map (·.1)).getD Zs.length 0) else To) := if_neg (by rw [hg]; decide)
      rw [eT]
      generalize hgr : (fold p.1 != p.1) = gr at S7 ⊢
      with_unfolding_all refine wpAny_execs_cons ?_
      refine wpAny_mono (Q := fun f s' => f = .next ∧ ∃ tt', b.toks ≤ tt' ∧ St b s' ((I, .itr r (i + 1)) :: (Z, .lst (boolsV Zs)) :: (L, .fro [((Str.ofString "row"), some (.ref r)), ((Str.ofString "marks"), some (.ref mk)), ((Str.ofString "word"), some (.str ⟨W.toArray⟩ tw)), ((Str.ofString "sizes"), some (.ref Z)),
        ((Str.ofString "told"), some (.int (if gr then Builtin.bitXor To ((ms.map (·.1)).getD Zs.length 0) else To) tt')), ((Str.ofString "sign"), some (.str ⟨#[p.1]⟩ p.2)), ((Str.ofString "small"), some (.str ⟨#[fold p.1]⟩ t4)), ((Str.ofString "great"), some (.bool gr))]) :: l)) ?_ (fun f s' hh => ?_) (fun _ _ x => x)
      · refine wpAny_If (wpAny_isTrue_value (o_ld S7 (by walk_at "m mem") rfl (wpAny_truthy_bool ?_)))
        cases gr with
        | false => exact (if_neg Bool.false_ne_true).mpr (wpAny_execs_nil ⟨rfl, tt, htt, S7⟩)
        | true =>
          rw [if_pos rfl]
          with_unfolding_all refine wpAny_execs_cons ?_
          refine wpAny_Assign_Name (r_def G.g S7 hXor (wpAny_items_cons (o_ld S7 (by walk_at "m mem") rfl (wpAny_items_cons (r_def G.g S7 hGi (wpAny_items_cons (o_ld S7 (by walk_at "m mem") rfl (wpAny_items_cons ?_))))))))
          refine r_bcall G.g G.bl S7 (G.free _ (by decide)) ((G.boot _ (by decide)).trans boot_len') (wpAny_items_cons (o_ld S7 (by walk_at "m mem") rfl (wpAny_items_nil (r_len S7 (S7.lst (by walk_at "m mem")) (by unfold boolsV; rw [List.length_map]; omega) fun s8 t8 S8 h8 => ?_))))
          have hx : (intsV ms)[((boolsV Zs).length : Int).toNat]? = some (.int (ms[Zs.length]).1 (ms[Zs.length]).2) := by
            unfold intsV boolsV
            rw [List.length_map, Int.toNat_natCast, List.getElem?_map, List.getElem?_eq_getElem hz]; rfl
          refine wpAny_items_nil ⟨⟨_, S8⟩, getitem_spec G S8 hrd (hmk.sub (by walk_at "m sub")) (Int.natCast_nonneg _) (by unfold boolsV; rw [List.length_map]; omega) hx hGi fun s9 S9 => ?_⟩
          refine wpAny_items_nil ⟨⟨_, S9⟩, xor_spec G S9 hrd hXor fun s10 t10 S10 h10 => o_st S10 (by walk_at "m put") (by walk_at "m set") fun s11 S11 => ?_⟩
          refine wpAny_execs_nil ⟨rfl, t10, h10, ?_⟩
          have e : (ms.map (·.1)).getD Zs.length 0 = (ms[Zs.length]).1 := by rw [List.getD_eq_getElem?_getD, List.getElem?_map, List.getElem?_eq_getElem hz]; rfl
          rw [if_pos rfl, e]
          exact S11
      · obtain ⟨rfl, tt', htt', S8⟩ := hh
        with_unfolding_all refine wpAny_execs_cons ?_
        refine wpAny_Expr_any (r_append (b := b) (o_ld S8 (by walk_at "m mem") rfl ⟨Z, _, _, rfl, S8, by walk_at "m mem", o_ld S8 (by walk_at "m mem") rfl ⟨_, _, _, S8, by walk_at "m put", by unfold boolsV; rw [List.length_map]; omega, fun s9 S9 => ?_⟩⟩))
        with_unfolding_all refine wpAny_execs_cons ?_
        refine wpAny_Assign_Name (r_def G.g S9 hCc (wpAny_items_cons (o_ld S9 (by walk_at "m mem") rfl (wpAny_items_cons (o_ld S9 (by walk_at "m mem") rfl (wpAny_items_nil ⟨⟨_, S9⟩, concat_spec G S9 hrd (by show W.toArray.size + 1 ≤ 1000; rw [List.size_toArray]; omega) hCc fun s10 t10 S10 => o_st S10 (by walk_at "m put") (by walk_at "m set") fun s11 S11 => ?_⟩))))))
        rw [str_snoc] at S11
        have e : boolsV (Zs ++ [gr]) = boolsV Zs ++ [.bool gr] := by unfold boolsV; rw [List.map_append]; rfl
        rw [← e] at S11
        exact wpAny_execs_nil (wpAny_execs_nil ⟨_, ⟨t10, tt', _, _, _, htt', rfl⟩, S11⟩)
  · rintro l₁ s₁ ⟨tw, tt, os, om, og, htt, rfl⟩ S₁
    refine wpAny_execs_nil ?_
    with_unfolding_all refine wpAny_execs_cons ?_
    have e : (rs.map (·.1)).take (signsV rs).length = rs.map (·.1) := by unfold signsV; rw [List.length_map, ← List.length_map (f := (·.1)) (as := rs), List.take_length]
    rw [e] at S₁
    refine wpAny_Return_some (r_List (b := b) (wpAny_items_cons (o_ld S₁ (by walk_at "m mem") rfl (wpAny_items_cons (o_ld S₁ (by walk_at "m mem") rfl (wpAny_items_cons (o_ld S₁ (by walk_at "m mem") rfl (wpAny_items_nil ⟨_, S₁, Nat.le_of_ble_eq_true rfl, fun D s8 S8 => ?_⟩))))))))
    exact h _ D Z _ _ htt (S8.sub (.cons_cons _ (.cons_cons _ (.cons _ (List.Sublist.refl _)))))
end
end Mine
end

section -- PureW
open PySem PySem.W PyProof.Rows PySem.Calls
set_option Elab.async false
set_option maxRecDepth 100000
namespace Mine

/-- within the 26 signs from a base on -/
def inR (base c : Nat) : Bool := decide (base ≤ c) && decide (c < base + 26)
def isLet (c : Nat) : Bool := inR 97 c || inR 65 c || inR 119808 c || inR 119860 c || inR 120432 c
def isDig (c : Nat) : Bool := decide (48 ≤ c) && decide (c < 58)
def fold (c : Nat) : Nat := if inR 65 c then c - 65 + 97 else if inR 119808 c then c - 119808 + 97 else if inR 119860 c then c - 119860 + 97 else if inR 120432 c then c - 120432 + 97 else c

def foldsB (c : Nat) : Bool := match b3f (c : Int) with
  | some (.str x _) => x == ⟨#[fold c]⟩
  | none => Txt.lower ⟨#[c]⟩ == ⟨#[fold c]⟩
  | _ => false
theorem foldsB_folds {c : Nat} (h : foldsB c = true) : Folds c (fold c) := by
  unfold foldsB at h
  split at h
  · rename_i x t e
    exact .inl ⟨t, by rw [e, eq_of_beq h]⟩
  · rename_i e
    exact .inr ⟨e, eq_of_beq h⟩
  · cases h

theorem f97 : ∀ i, i < 26 → foldsB (97 + i) = true := by decide +kernel
theorem f65 : ∀ i, i < 26 → foldsB (65 + i) = true := by decide +kernel
theorem f119808 : ∀ i, i < 26 → foldsB (119808 + i) = true := by decide +kernel
theorem f119860 : ∀ i, i < 26 → foldsB (119860 + i) = true := by decide +kernel
theorem f120432 : ∀ i, i < 26 → foldsB (120432 + i) = true := by decide +kernel
theorem f48 : ∀ i, i < 10 → foldsB (48 + i) = true := by decide +kernel
theorem inR_ex {base c : Nat} (h : inR base c = true) : ∃ i, i < 26 ∧ c = base + i := by
  unfold inR at h
  simp only [Bool.and_eq_true, decide_eq_true_eq] at h
  exact ⟨c - base, by omega, by omega⟩
theorem isLet_ex {c : Nat} (h : isLet c = true) : ∃ base ∈ [97, 65, 119808, 119860, 120432], ∃ i, i < 26 ∧ c = base + i := by
  unfold isLet at h
  simp only [Bool.or_eq_true] at h
  rcases h with (((h | h) | h) | h) | h <;> exact ⟨_, by simp, inR_ex h⟩
theorem isDig_ex {c : Nat} (h : isDig c = true) : ∃ i, i < 10 ∧ c = 48 + i := by
  unfold isDig at h
  simp only [Bool.and_eq_true, decide_eq_true_eq] at h
  exact ⟨c - 48, by omega, by omega⟩
theorem folds_let {c : Nat} (h : isLet c = true) : Folds c (fold c) := by
  refine foldsB_folds ?_
  obtain ⟨base, hb, i, hi, rfl⟩ := isLet_ex h
  simp only [List.mem_cons, List.not_mem_nil, or_false] at hb
  rcases hb with rfl | rfl | rfl | rfl | rfl
  · exact f97 i hi
  · exact f65 i hi
  · exact f119808 i hi
  · exact f119860 i hi
  · exact f120432 i hi
theorem folds_dig {c : Nat} (h : isDig c = true) : Folds c (fold c) := by
  refine foldsB_folds ?_
  obtain ⟨i, hi, rfl⟩ := isDig_ex h
  exact f48 i hi
theorem let_nogap' : ∀ base ∈ [97, 65, 119808, 119860, 120432], ∀ i, i < 26 → isGap (base + i) = false := by decide +kernel
theorem let_nogap {c : Nat} (h : isLet c = true) : isGap c = false := by
  obtain ⟨base, hb, i, hi, rfl⟩ := isLet_ex h
  exact let_nogap' base hb i hi
theorem dig_nogap' : ∀ i, i < 10 → isGap (48 + i) = false := by decide +kernel
theorem dig_nogap {c : Nat} (h : isDig c = true) : isGap c = false := by
  obtain ⟨i, hi, rfl⟩ := isDig_ex h
  exact dig_nogap' i hi
/-- letters are small or fold to a small one of the same place -/
theorem fold_let' : ∀ base ∈ [97, 65, 119808, 119860, 120432], ∀ i, i < 26 → fold (base + i) = 97 + i := by decide +kernel
theorem fold_fix {c : Nat} (h : isLet c = true) (e : fold c = c) : 97 ≤ c ∧ c < 123 := by
  obtain ⟨base, hb, i, hi, rfl⟩ := isLet_ex h
  rw [fold_let' base hb i hi] at e
  omega
theorem fold_small {c : Nat} (h : isLet c = true) : 97 ≤ fold c ∧ fold c < 123 := by
  obtain ⟨base, hb, i, hi, rfl⟩ := isLet_ex h
  rw [fold_let' base hb i hi]
  omega
theorem small_let {c : Nat} (h : 97 ≤ c ∧ c < 123) : isLet c = true := by
  unfold isLet inR
  simp; omega
theorem great_cases (x f : Int) (h0 : 0 ≤ x) (h1 : x < 26) : ∃ base ∈ [65, 119808, 119860, 120432], greatC x f = base + x.toNat := by
  unfold greatC
  have h2 : 0 ≤ f.fmod 4 := Int.fmod_nonneg_of_pos _ (by decide)
  have h3 : f.fmod 4 < 4 := Int.fmod_lt_of_pos _ (by decide)
  have h4 : (f.fmod 4).toNat < 4 := by omega
  generalize (f.fmod 4).toNat = k at h4
  have : k = 0 ∨ k = 1 ∨ k = 2 ∨ k = 3 := by omega
  rcases this with rfl | rfl | rfl | rfl
  · exact ⟨65, by simp, by show ((65 : Int) + x).toNat = _; omega⟩
  · exact ⟨119808, by simp, by show ((119808 : Int) + x).toNat = _; omega⟩
  · exact ⟨119860, by simp, by show ((119860 : Int) + x).toNat = _; omega⟩
  · exact ⟨120432, by simp, by show ((120432 : Int) + x).toNat = _; omega⟩
theorem great_let (x f : Int) (h0 : 0 ≤ x) (h1 : x < 26) : isLet (greatC x f) = true := by
  obtain ⟨base, hb, e⟩ := great_cases x f h0 h1
  rw [e]
  simp only [List.mem_cons, List.not_mem_nil, or_false] at hb
  unfold isLet inR
  rcases hb with rfl | rfl | rfl | rfl <;> simp <;> omega
theorem great_fold (x f : Int) (h0 : 0 ≤ x) (h1 : x < 26) : fold (greatC x f) = 97 + x.toNat ∧ greatC x f ≠ 97 + x.toNat := by
  obtain ⟨base, hb, e⟩ := great_cases x f h0 h1
  rw [e]
  refine ⟨fold_let' base (List.mem_cons_of_mem _ hb) x.toNat (by omega), ?_⟩
  simp only [List.mem_cons, List.not_mem_nil, or_false] at hb
  rcases hb with rfl | rfl | rfl | rfl <;> omega

/-- a letter turned -/
def turnC (c : Nat) (step : Nat) : Nat := if fold c = c then greatC ((c : Int) - 97) step else fold c
theorem turn_let {c : Nat} (h : isLet c = true) (step : Nat) : isLet (turnC c step) = true := by
  unfold turnC
  split
  · rename_i e
    have := fold_fix h e
    exact great_let _ _ (by omega) (by omega)
  · exact small_let (fold_small h)
theorem turn_fold {c : Nat} (h : isLet c = true) (step : Nat) : fold (turnC c step) = fold c ∧ (fold (turnC c step) != turnC c step) = !(fold c != c) := by
  unfold turnC
  split
  · rename_i e
    have h1 := fold_fix h e
    obtain ⟨g1, g2⟩ := great_fold ((c : Int) - 97) step (by omega) (by omega)
    have e2 : 97 + ((c : Int) - 97).toNat = c := by omega
    rw [e2] at g1 g2
    refine ⟨g1.trans e.symm, ?_⟩
    rw [g1, e]
    have : (c != greatC ((c : Int) - 97) (step : Int)) = true := by simpa using Ne.symm g2
    rw [this]; simp
  · rename_i e
    have h1 := fold_small h
    have e1 : fold (fold c) = fold c := by
      have := fold_let' 97 (by simp) (fold c - 97) (by omega)
      have e2 : 97 + (fold c - 97) = fold c := by omega
      rw [e2] at this; exact this
    refine ⟨e1, ?_⟩
    rw [e1]
    have : (fold c != c) = true := by simpa using e
    rw [this]; simp

/-- how many zeros the number's bits end with -/
def ctz (k : Nat) : Nat := if k % 2 = 1 then 0 else if k % 4 = 2 then 1 else if k % 8 = 4 then 2 else 3
theorem low_bit : ∀ k : Nat, k < 16 → 0 < k → Builtin.bitAnd (k : Int) (-(k : Int)) = 2 ^ ctz k := by decide +kernel
theorem ctz_lt' : ∀ n, n < 5 → ∀ k, k < 2 ^ n → 0 < k → ctz k < n := by decide +kernel

/-- the row after so many steps; sp: where the letters stand -/
def rowAt (cs : List Nat) (sp : List Nat) : Nat → List Nat
  | 0 => cs
  | k + 1 => (rowAt cs sp k).set (sp.getD (ctz (k + 1)) 0) (turnC ((rowAt cs sp k).getD (sp.getD (ctz (k + 1)) 0) 0) (k + 1))

structure RowOk (cs sp : List Nat) : Prop where
  sp : ∀ p ∈ sp, p < cs.length ∧ isLet (cs.getD p 0) = true
  all : ∀ c ∈ cs, isGap c = true ∨ isLet c = true ∨ isDig c = true
theorem RowOk.folds {cs sp : List Nat} (h : RowOk cs sp) : ∀ c ∈ cs, isGap c = false → Folds c (fold c) := fun c hc hg => by
  rcases h.all c hc with h1 | h1 | h1
  · rw [h1] at hg; cases hg
  · exact folds_let h1
  · exact folds_dig h1
theorem letters_set {cs : List Nat} {p x : Nat} (h1 : p < cs.length) (h2 : isGap (cs.getD p 0) = false) (h3 : isGap x = false) : letters (cs.set p x) = letters cs := by
  unfold letters
  induction cs generalizing p with
  | nil => cases h1
  | cons c r ih =>
    cases p with
    | zero =>
      rw [List.getD_cons_zero] at h2
      rw [List.set_cons_zero, List.countP_cons, List.countP_cons, h2, h3]
    | succ p =>
      rw [List.getD_cons_succ] at h2
      rw [List.set_cons_succ, List.countP_cons, List.countP_cons, ih (Nat.lt_of_succ_lt_succ h1) h2]
theorem getD_set' {cs : List Nat} {p q x : Nat} : (cs.set p x).getD q 0 = if p = q ∧ p < cs.length then x else cs.getD q 0 := by
  rw [List.getD_eq_getElem?_getD, List.getElem?_set]
  by_cases h : p = q
  · subst h
    by_cases h2 : p < cs.length
    · simp [h2]
    · simp [h2, List.getD_eq_getElem?_getD]
  · simp [h, List.getD_eq_getElem?_getD]
theorem RowOk.set {cs sp : List Nat} (h : RowOk cs sp) {p x : Nat} (hx : isLet x = true) : RowOk (cs.set p x) sp where
  sp q hq := by
    rw [List.length_set]
    refine ⟨(h.sp q hq).1, ?_⟩
    rw [getD_set']
    split
    · exact hx
    · exact (h.sp q hq).2
  all c hc := by
    rcases List.mem_or_eq_of_mem_set hc with h1 | h1
    · exact h.all c h1
    · exact .inr (.inl (h1 ▸ hx))
theorem RowOk.at {cs sp : List Nat} (h : RowOk cs sp) (h4 : sp.length ≤ 4) : ∀ k, k < 2 ^ sp.length → RowOk (rowAt cs sp k) sp ∧ (rowAt cs sp k).length = cs.length ∧ letters (rowAt cs sp k) = letters cs
  | 0, _ => ⟨h, rfl, rfl⟩
  | k + 1, hk => by
    obtain ⟨i1, i2, i3⟩ := h.at h4 k (Nat.lt_of_succ_lt hk)
    have hc : ctz (k + 1) < sp.length := ctz_lt' sp.length (by omega) (k + 1) hk (Nat.succ_pos _)
    have hm : sp.getD (ctz (k + 1)) 0 ∈ sp := by rw [List.getD_eq_getElem?_getD, List.getElem?_eq_getElem hc]; exact List.getElem_mem _
    obtain ⟨j1, j2⟩ := i1.sp _ hm
    have ht := turn_let j2 (k + 1)
    exact ⟨i1.set ht, by rw [rowAt, List.length_set]; exact i2, by rw [rowAt, letters_set j1 (let_nogap j2) (let_nogap ht)]; exact i3⟩
end Mine
end

section -- Enums
open PySem PySem.W PyProof.Rows PySem.Calls
set_option Elab.async false
set_option maxRecDepth 100000
namespace Mine
section
variable {prog : Program} {w : World} {A : Around} {E : Value → Shared → Prop} {b s : Shared} {l : List (Addr × It)} {env : Env}

theorem St.upd2 {e I : Addr} {x y x' y' : It} (S : St b s ((e, x) :: (I, y) :: l)) {h' : Heap} {t : Nat} (hs : ∀ c o, c ≠ e → c ≠ I → s.heap.get? c = some o → h'.get? c = some o) (h1 : x'.at h' e) (h2 : y'.at h' I) (ht : b.toks ≤ t) :
    St b { s with heap := h', toks := t } ((e, x') :: (I, y') :: l) where
  keep c o q := hs c o (fun r => by have := S.new _ (.head _); rw [← r, q] at this; cases this) (fun r => by have := S.new _ (.tail _ (.head _)); rw [← r, q] at this; cases this) (S.keep c o q)
  got p hp := by
    have nd := S.nd
    simp only [List.map_cons, List.nodup_cons, List.mem_cons, not_or] at nd
    rcases List.mem_cons.mp hp with rfl | hp
    · exact h1
    · rcases List.mem_cons.mp hp with rfl | hp
      · exact h2
      · refine It.at_ext (S.got p (.tail _ (.tail _ hp))) fun o q => hs p.1 o (fun r => nd.1.2 (r ▸ List.mem_map_of_mem (f := (·.1)) hp)) (fun r => nd.2.1 (r ▸ List.mem_map_of_mem (f := (·.1)) hp)) q
  new p hp := by
    rcases List.mem_cons.mp hp with rfl | hp
    · exact S.new (e, x) (.head _)
    · rcases List.mem_cons.mp hp with rfl | hp
      · exact S.new (I, y) (.tail _ (.head _))
      · exact S.new p (.tail _ (.tail _ hp))
  nd := S.nd
  tk := ht
  pos := S.pos
  same := S.same

theorem r_enumerate {c : Addr} {vs : List Value} {Q : Value → Shared → Prop} (S : St b s l) (hL : s.heap.IsList c vs.toArray) (h : ∀ e I s', St b s' ((e, .enm I 0) :: (I, .itr c 0) :: l) → Q (.ref e) s') :
    wpAny (model prog w) A (call (.type "enumerate") [.ref c]) Q E s := by
  refine call_enumerate_list hL fun h' he hi hz hk => ?_
  refine h _ s.heap.objs.size _ (?_ : St b { s with heap := h', toks := s.toks } _)
  have S1 := S.tick_heap hk S.tk
  refine ⟨S1.keep, fun p hp => ?_, fun p hp => ?_, ?_, S1.tk, S1.pos, S1.same⟩
  · rcases List.mem_cons.mp hp with rfl | hp
    · exact ⟨_, he⟩
    · rcases List.mem_cons.mp hp with rfl | hp
      · exact hi
      · exact S1.got p hp
  · rcases List.mem_cons.mp hp with rfl | hp
    · cases q : b.heap.get? (s.heap.objs.size + 1) with
      | none => rfl
      | some o => exact absurd (Heap.lt_size (S.keep _ _ q)) (Nat.not_lt.mpr (Nat.le_succ _))
    · rcases List.mem_cons.mp hp with rfl | hp
      · exact S.fresh
      · exact S.new p hp
  · have hlt : ∀ p ∈ l, p.1 < s.heap.objs.size := fun p hp => It.at_lt (S.got p hp)
    simp only [List.map_cons, List.nodup_cons, List.mem_cons, not_or]
    refine ⟨⟨Nat.succ_ne_self _, fun hm => ?_⟩, fun hm => ?_, S.nd⟩
    · obtain ⟨p, hp, q⟩ := List.mem_map.mp hm
      have := hlt p hp
      rw [q] at this
      exact absurd this (Nat.not_lt.mpr (Nat.le_succ _))
    · obtain ⟨p, hp, q⟩ := List.mem_map.mp hm
      have := hlt p hp
      rw [q] at this
      exact absurd this (Nat.lt_irrefl _)

/-- a for over enumerate(list), its targets two names -/
theorem r_iter_enum {e I c : Addr} {vs : List Value} {xi xv : Str} {pi pv pt : Pos} {x1 : Nat} {body orelse : List Stmt} {Q : Flow → Shared → Prop} (J : Nat → List (Addr × It) → Prop) (hh : A.handled = none) (S : St b s ((e, .enm I 0) :: (I, .itr c 0) :: l)) (h0 : J 0 l)
    (hL : ∀ i l₁ s₁, J i l₁ → St b s₁ l₁ → s₁.heap.IsList c vs.toArray)
    (turn : ∀ i v t l₁ s₁, vs[i]? = some v → J i l₁ → b.toks ≤ t → St b s₁ ((e, .enm I (i + 1)) :: (I, .itr c (i + 1)) :: l₁) →
      wpAny (model prog w) A (storeName env xi (.int i t)) (fun _ s₂ => wpAny (model prog w) A (storeName env xv v) (fun _ s₃ => wpAny (model prog w) A (execs body env)
        (fun f s₄ => match f with | .next | .cont => ∃ l₂, J (i + 1) l₂ ∧ St b s₄ ((e, .enm I (i + 1)) :: (I, .itr c (i + 1)) :: l₂) | .brk => Q .next s₄ | .ret v => Q (.ret v) s₄) (fun _ _ => False) s₃) (fun _ _ => False) s₂) (fun _ _ => False) s₁)
    (done : ∀ l₁ s₁, J vs.length l₁ → St b s₁ l₁ → wpAny (model prog w) A (execs orelse env) Q (fun _ _ => False) s₁) :
    wpAny (model prog w) A (pyIter (.ref e)) (fun it s₂ => codeAny (model prog w) A (.forLoop (.Tuple [.Name xi pi, .Name xv pv] x1 pt) it body orelse env)
      (fun r s' => match r with | .ok f => Q f s' | .error e => cameBackBy (model prog w) A env E e s') s₂) E s := by
  obtain ⟨old, he⟩ := S.got _ (.head _)
  refine wpAny_pyIter_enum he ?_
  refine codeAny_forLoop_any (fun n s' => ∃ i l₁, n + i = vs.length ∧ J i l₁ ∧ St b s' ((e, .enm I i) :: (I, .itr c i) :: l₁)) ?_ vs.length ⟨0, l, rfl, h0, S⟩
  rintro n s' ⟨i, l₁, hn, hJ, S'⟩
  obtain ⟨old, he⟩ : ∃ old, IsEnum s'.heap e I ((i : Nat) : Int) old := S'.got (e, .enm I i) (.head _)
  have hit : s'.heap.IsListIter I c i := S'.got (I, .itr c i) (.tail _ (.head _))
  have hls : s'.heap.IsList c vs.toArray := hL i l₁ s' hJ (S'.sub ((List.sublist_cons_self _ _).trans (List.sublist_cons_self _ _)))
  have nd := S'.nd
  simp only [List.map_cons, List.nodup_cons, List.mem_cons, not_or] at nd
  cases hv : vs[i]? with
  | none =>
    refine wpAny_pyNext_enum_end hh he hit hls (by simpa using hv) fun h' hs => ?_
    have hi : i = vs.length := by
      have := List.getElem?_eq_none_iff.mp hv
      omega
    subst hi
    have S2 := ((S'.perm (List.Perm.swap _ _ _)).drop hs S'.tk).sub (List.sublist_cons_self _ _)
    exact wpAny_mono (done l₁ _ hJ S2) (fun _ _ q => q) fun _ _ f => noted_false f
  | some v =>
    have hlt : i < vs.length := (List.getElem?_eq_some_iff.mp hv).1
    refine wpAny_pyNext_enum_item he hit hls (by simpa using hv) nd.1.1 fun h₁ heo hit₁ ht₁ hz₁ hk₁ => ?_
    refine wpAny_letOwnedTupleGo_enum heo fun h₂ he₂ hs₂ => ?_
    replace hs₂ : Heap.SameBut e h₁ h₂ := hs₂
    have heH : e < s'.heap.objs.size := Heap.lt_size he
    have ht₂ : h₂.IsTuple s'.heap.objs.size #[.int i s'.toks, v] := ⟨_, (hs₂.2 _ (Nat.ne_of_gt heH)).trans ht₁, rfl, _, rfl⟩
    have hz₂ : h₂.objs.size = s'.heap.objs.size + 1 := hs₂.1.trans hz₁
    refine wpAny_assign_Tuple hh ht₂ rfl rfl fun h₃ hx₃ => ?_
    replace hx₃ : Heap.ExtBut h₂.objs.size h₂ h₃ := hx₃
    have old₃ : ∀ b o, b < s'.heap.objs.size → h₂.get? b = some o → h₃.get? b = some o := fun b o hb x => hx₃ b o (by rw [hz₂]; exact Nat.ne_of_lt (Nat.lt_succ_of_lt hb)) x
    have hiH : I < s'.heap.objs.size := It.at_lt (S'.got _ (.tail _ (.head _)))
    have S3 : St b { s' with heap := h₃, toks := s'.toks + 1 } ((e, .enm I (i + 1)) :: (I, .itr c (i + 1)) :: l₁) := by
      refine S'.upd2 (x' := .enm I (i + 1)) (y' := .itr c (i + 1)) (fun b o q1 q2 x => old₃ b o (Heap.lt_size x) ((hs₂.2 b q1).trans (hk₁ b o q1 q2 x))) ⟨_, old₃ _ _ heH he₂⟩ ?_ (Nat.le_succ_of_le S'.tk)
      exact (hit₁.extBut hs₂.extBut (Ne.symm nd.1.1)).at fun o x => old₃ _ _ hiH x
    show wpAny _ A (do holding [v] (assign (.Name xi pi) env (.int i s'.toks)); do holding [] (assign (.Name xv pv) env v); pure ()) _ _ _
    have T := turn i v s'.toks l₁ _ hv hJ S'.tk S3
    refine wpAny_bind (wpAny_holding (wpAny_assign_Name (wpAny_mono T (fun _ s₂ h₂ => ?_) fun _ _ f => noted_false f)))
    refine wpAny_bind (wpAny_holding (wpAny_assign_Name (wpAny_mono h₂ (fun _ s₃ h₃ => wpAny_pure ?_) fun _ _ f => noted_false f)))
    refine wpAny_mono h₃ (fun f s₄ h₄ => ?_) fun _ _ f => noted_false f
    cases f with
    | next => obtain ⟨l₂, j, S4⟩ := h₄; exact ⟨n - 1, by omega, i + 1, l₂, by omega, j, S4⟩
    | cont => obtain ⟨l₂, j, S4⟩ := h₄; exact ⟨n - 1, by omega, i + 1, l₂, by omega, j, S4⟩
    | brk => exact h₄
    | ret v => exact h₄
end
end Mine
end

section -- Fns6
open PySem PySem.W PyProof.Rows PySem.Calls
set_option Elab.async false
set_option maxRecDepth 100000
namespace Mine
local macro_rules | `(tactic| walk_at "m mem") => `(tactic| first | exact List.Mem.head _ | (refine List.Mem.tail _ ?_; walk_at "m mem"))
local macro_rules | `(tactic| walk_at "m put") => `(tactic| first | exact Put.head | (apply Put.tail; walk_at "m put"))
local macro_rules | `(tactic| walk_at "m set") => `(tactic| first | with_reducible exact LSet.head | exact LSet.nil | (apply LSet.tail; (focus decide); walk_at "m set"))
section
variable {w : World} {A : Around} {E : Value → Shared → Prop} {b s : Shared} {l : List (Addr × It)} {mg mb : Str → Option Value} {a : Addr} {Q : Value → Shared → Prop}

theorem boot_enumerate : bootBuiltins (Str.ofString "enumerate") = some (.type "enumerate") := by kernel_rfl

theorem indexOf_spec (G : Gr w b mg mb) (S : St b s l) (hr : Room A 1) {c : Addr} {ps : List (Int × Tok)} {q : Int} {u : Tok} {k : Nat} {p₀ : Int × Tok} (hl : Has b l c (intsV ps))
    (hu : u ≠ 0) (ht : ∀ p ∈ ps, p.2 ≠ 0 ∧ p.2 ≠ u) (hk : ps[k]? = some p₀) (hk0 : p₀.1 = q) (hbef : ∀ j p, j < k → ps[j]? = some p → p.1 ≠ q) (ha : FnAt b.heap mg (dAt 10) a)
    (h : ∀ s' t', St b s' l → b.toks ≤ t' → Q (.int k t') s') :
    wpAny (model prg w) A (call (.ref a) [.ref c, .int q u]) Q E s := by
  obtain ⟨o, pm, code, doc, hmg, ho, hd, hcd⟩ := ha
  refine r_call (binds := [("a", .ref c), ("b", .int q u)]) S ho hd hcd G.nolimit hr.room rfl rfl rfl (fun L s1 S1 => ?_) (by decide) rfl rfl rfl
  with_unfolding_all refine wpAny_execs_cons ?_
  refine wpAny_For (r_tcall G.g G.bl S1 (G.free _ (by decide)) ((G.boot _ (by decide)).trans boot_enumerate) (wpAny_items_cons (r_ld S1 (by walk_at "m mem") rfl (wpAny_items_nil (r_enumerate S1 (hl.at' S1 (List.sublist_cons_self _ _)) fun e I s2 S2 => ?_)))))
  refine r_iter_enum (vs := intsV ps) (fun i l₁ => i ≤ k ∧ ∃ al', (al' = [] ∨ ∃ u' u'', al' = [((Str.ofString "i"), u'), ((Str.ofString "j"), u'')]) ∧
    l₁ = (L, .frm ([((Str.ofString "a"), .ref c), ((Str.ofString "b"), .int q u)] ++ al')) :: l) hr.hh S2 ⟨Nat.zero_le _, [], .inl rfl, rfl⟩ ?_ ?_ ?_
  · rintro i l₁ s₁ ⟨_, al', _, rfl⟩ S₁
    exact hl.at' S₁ (List.sublist_cons_self _ _)
  · rintro i v t l₁ s₁ hv ⟨hik, al', hal, rfl⟩ ht1 S₁
    obtain ⟨p, hp, rfl⟩ : ∃ p, ps[i]? = some p ∧ v = .int p.1 p.2 := by
      unfold intsV at hv
      rw [List.getElem?_map] at hv
      obtain ⟨p, hp, e⟩ := Option.map_eq_some_iff.mp hv
      exact ⟨p, hp, e.symm⟩
    have hpm := ht p (List.mem_of_getElem? hp)
    obtain ⟨al1, hset1, hset2⟩ : ∃ al1, LSet (Str.ofString "i") (.int i t) ([((Str.ofString "a"), .ref c), ((Str.ofString "b"), .int q u)] ++ al') al1 ∧
        LSet (Str.ofString "j") (.int p.1 p.2) al1 [((Str.ofString "a"), .ref c), ((Str.ofString "b"), .int q u), ((Str.ofString "i"), .int i t), ((Str.ofString "j"), .int p.1 p.2)] := by
      rcases hal with rfl | ⟨u', u'', rfl⟩
      · refine ⟨[((Str.ofString "a"), .ref c), ((Str.ofString "b"), .int q u), ((Str.ofString "i"), .int i t)], ?_, ?_⟩ <;> (try simp only [List.cons_append, List.nil_append]) <;> walk_at "m set"
      · refine ⟨[((Str.ofString "a"), .ref c), ((Str.ofString "b"), .int q u), ((Str.ofString "i"), .int i t), ((Str.ofString "j"), u'')], ?_, ?_⟩ <;> (try simp only [List.cons_append, List.nil_append]) <;> walk_at "m set"
    refine r_st S₁ (by walk_at "m put") hset1 fun s3 S3 => r_st S3 (by walk_at "m put") hset2 fun s4 S4 => ?_
    with_unfolding_all refine wpAny_execs_cons ?_
    refine wpAny_If (r_hit_int S4 (NoneBooked.keeps G.booked S4.keep) (by walk_at "m mem") rfl rfl hpm.1 hu hpm.2 ?_)
    by_cases eq : p.1 = q
    · have hki : i = k := by
        rcases Nat.lt_or_ge i k with hlt | hge
        · exact absurd eq (hbef i p hlt hp)
        · omega
      subst hki
      rw [decide_eq_true eq, if_pos rfl]
      with_unfolding_all refine wpAny_execs_cons ?_
      refine wpAny_Return_some (r_ld S4 (by walk_at "m mem") rfl ?_)
      exact h _ _ (S4.sub (((List.sublist_cons_self _ _).trans (List.sublist_cons_self _ _)).trans (List.sublist_cons_self _ _))) ht1
    · rw [decide_eq_false eq, if_neg Bool.false_ne_true]
      have hne : i ≠ k := by
        rintro rfl
        rw [hk] at hp; cases hp; exact eq hk0
      refine wpAny_execs_nil (wpAny_execs_nil ⟨_, ⟨by omega, [((Str.ofString "i"), .int i t), ((Str.ofString "j"), .int p.1 p.2)], .inr ⟨_, _, rfl⟩, rfl⟩, S4⟩)
  · rintro l₁ s₁ ⟨hlen, _⟩ S₁
    have : k < ps.length := (List.getElem?_eq_some_iff.mp hk).1
    unfold intsV at hlen
    rw [List.length_map] at hlen
    omega
end
end Mine
end

section -- Walk
open PySem PySem.W PyProof.Rows PySem.Calls
set_option Elab.async false
set_option maxRecDepth 100000
namespace Mine
local macro_rules | `(tactic| walk_at "m mem") => `(tactic| first | exact List.Mem.head _ | (refine List.Mem.tail _ ?_; walk_at "m mem"))
local macro_rules | `(tactic| walk_at "m put") => `(tactic| first | exact Put.head | (apply Put.tail; walk_at "m put"))
local macro_rules | `(tactic| walk_at "m set") => `(tactic| first | with_reducible exact OSet.head | (apply OSet.tail; (focus decide); walk_at "m set"))
local macro_rules | `(tactic| walk_at "m sub") => `(tactic| first | exact List.Sublist.refl _ | (apply List.Sublist.cons; walk_at "m sub"))
section
variable {w : World} {A : Around} {E : Value → Shared → Prop} {b s : Shared} {l : List (Addr × It)} {mg mb : Str → Option Value} {a : Addr} {Q : Value → Shared → Prop}

theorem lshift_spec' (G : Gr w b mg mb) (S : St b s l) (hr : Room A 1) {x n : Int} {t u : Tok} (hn : 0 ≤ n) (hn2 : n ≤ 1000000) (hx : x.natAbs < 2 ^ 64) (ha : FnAt b.heap mg (dAt 4) a) (h : ∀ s' t', St b s' l → b.toks ≤ t' → t' < s'.toks → Q (.int (x * 2 ^ n.toNat) t') s') :
    wpAny (model prg w) A (call (.ref a) [.int x t, .int n u]) Q E s := by
  obtain ⟨o, pm, code, doc, hmg, ho, hd, hcd⟩ := ha
  refine r_call (binds := [("a", .int x t), ("b", .int n u)]) S ho hd hcd G.nolimit hr.room rfl rfl rfl (fun L s1 S1 => ?_) (by decide) rfl rfl rfl
  with_unfolding_all refine wpAny_execs_cons ?_
  refine wpAny_Return_some (wpAny_BinOp (r_ld S1 (List.Mem.head _) rfl (r_ld S1 (List.Mem.head _) rfl (lshift_int_small hn hn2 hx ?_))))
  exact h _ _ (S1.tick.sub (List.sublist_cons_self _ _)) S1.tk (Nat.lt_succ_self _)

structure TRec where
  D : Addr
  Z : Addr
  tw : Tok
  tt : Tok
  st : TSt
def TRec.items (t : TRec) : List (Addr × It) := [(t.D, .lst [.str ⟨t.st.1.toArray⟩ t.tw, .ref t.Z, .int t.st.2.2 t.tt]), (t.Z, .lst (boolsV t.st.2.1))]
def tItems (rs : List TRec) : List (Addr × It) := rs.flatMap TRec.items
def refsV (rs : List TRec) : List Value := rs.map fun t => .ref t.D
theorem tItems_perm (h : List (Addr × It)) (rs : List TRec) (t : TRec) : (h ++ (tItems (rs ++ [t]) ++ l)).Perm (t.items ++ (h ++ (tItems rs ++ l))) := by
  have e : tItems (rs ++ [t]) = tItems rs ++ t.items := by unfold tItems; simp
  rw [e, List.append_assoc, ← List.append_assoc, ← List.append_assoc h]
  exact List.perm_append_comm_assoc _ _ _

theorem St.first {x y z : Addr × It} {D Z : Addr} {tw tt : Tok} {st : TSt} (S : St b s (x :: (D, .lst [.str ⟨st.1.toArray⟩ tw, .ref Z, .int st.2.2 tt]) :: (Z, .lst (boolsV st.2.1)) :: y :: z :: l)) :
    St b s (x :: y :: z :: (tItems [⟨D, Z, tw, tt, st⟩] ++ l)) := by
  have p := tItems_perm (l := l) [y, z] [] ⟨D, Z, tw, tt, st⟩
  exact S.perm (p.cons x)
theorem St.next {x1 x2 x3 x4 x5 x6 : Addr × It} {recs : List TRec} {D Z : Addr} {tw tt : Tok} {st : TSt}
    (S : St b s ((D, .lst [.str ⟨st.1.toArray⟩ tw, .ref Z, .int st.2.2 tt]) :: (Z, .lst (boolsV st.2.1)) :: x1 :: x2 :: x3 :: x4 :: x5 :: x6 :: (tItems recs ++ l))) :
    St b s (x1 :: x2 :: x3 :: x4 :: x5 :: x6 :: (tItems (recs ++ [⟨D, Z, tw, tt, st⟩]) ++ l)) :=
  S.perm (tItems_perm (l := l) [x1, x2, x3, x4, x5, x6] recs ⟨D, Z, tw, tt, st⟩)

theorem rng_facts : ∀ n, n < 5 → Builtin.Range.small 1 ((2 : Int) ^ n) 1 = true ∧ Builtin.Range.rangeSize 1 ((2 : Int) ^ n) 1 = ((2 ^ n - 1 : Nat) : Int) := by decide +kernel
theorem rng0_facts : ∀ n : Nat, n < 5 → Builtin.Range.small 0 (n : Int) 1 = true ∧ Builtin.Range.rangeSize 0 (n : Int) 1 = n := by decide +kernel

theorem pow_ne' : ∀ c, c < 4 → ∀ j, j < c → (2 : Int) ^ j ≠ 2 ^ c := by decide
def natsV (ks : List (Nat × Tok)) : List Value := ks.map fun p => .int (p.1 : Int) p.2


theorem walk_spec (G : Gr w b mg mb) {r mk sp : Addr} {rs : List (Nat × Tok)} {ms : List (Int × Tok)} {ks : List (Nat × Tok)} (S : St b s ((r, .ils (signsV rs)) :: l)) (hr : Room A 3)
    (hmk : Has b l mk (intsV ms)) (hsp : Has b l sp (natsV ks)) (hn : rs.length ≤ 300) (hms : letters (rs.map (·.1)) ≤ ms.length) (hk4 : ks.length ≤ 4) (hok : RowOk (rs.map (·.1)) (ks.map (·.1))) (ha : FnAt b.heap mg (dAt 21) a)
    (h : ∀ s' TL recs, recs.map (·.st) = (List.range (2 ^ ks.length)).map (fun k => tellF fold (ms.map (·.1)) (rowAt (rs.map (·.1)) (ks.map (·.1)) k)) → (∀ t ∈ recs, b.toks ≤ t.tt) → St b s' ((TL, .lst (refsV recs)) :: (tItems recs ++ l)) → Q (.ref TL) s') :
    wpAny (model prg w) A (call (.ref a) [.ref r, .ref mk, .ref sp]) Q E s := by
  obtain ⟨aTl, hTl⟩ := G.fn 20 (by decide)
  obtain ⟨aLs, hLs⟩ := G.fn 4 (by decide)
  obtain ⟨aGi, hGi⟩ := G.fn 9 (by decide)
  obtain ⟨aIx, hIx⟩ := G.fn 10 (by decide)
  obtain ⟨aAn, hAn⟩ := G.fn 3 (by decide)
  obtain ⟨aNg, hNg⟩ := G.fn 5 (by decide)
  obtain ⟨aMap, hMap⟩ := G.fn 16 (by decide)
  obtain ⟨aEq, hEq⟩ := G.fn 1 (by decide)
  obtain ⟨aGr, hGr⟩ := G.fn 19 (by decide)
  obtain ⟨aSi, hSi⟩ := G.fn 11 (by decide)
  obtain ⟨o, pm, code, doc, hmg, ho, hd, hcd⟩ := ha
  refine r_call (binds := [("row", .ref r), ("marks", .ref mk), ("spots", .ref sp)]) S ho hd hcd G.nolimit hr.room rfl rfl rfl (fun L s1 S1' => ?_) (by decide) rfl rfl rfl
  have hrd : Room (A.deeper (callEnv (docDef (dAt 21).name (dAt 21).params (dAt 21).body (dAt 21).scope pm code doc) L a)) 2 := hr.deeper
  have S1 := S1'.pad ["tells", "powers", "step", "spot", "sign", "turned"]
  simp only [pad, List.map_cons, List.map_nil, List.cons_append, List.nil_append] at S1
  have hkL : (ks.map (·.1)).length = ks.length := List.length_map _
  have hat := fun k (hk : k < 2 ^ ks.length) => hok.at (by rw [hkL]; exact hk4) k (by rw [hkL]; exact hk)
  with_unfolding_all refine wpAny_execs_cons ?_
  refine wpAny_Assign_Name (r_List (b := b) (wpAny_items_cons ?_))
  refine (r_def G.g S1 hTl (wpAny_items_cons (o_ld S1 (by walk_at "m mem") rfl (wpAny_items_cons (o_ld S1 (by walk_at "m mem") rfl (wpAny_items_nil ⟨⟨_, S1⟩, ?_⟩))))))
  refine tell_spec G S1 hrd (rs := rs) (ms := ms) (fold := fold) (Has.ils (by walk_at "m mem")) (hmk.sub (by walk_at "m sub")) hn hms (fun p hp hg => hok.folds _ (List.mem_map_of_mem hp) hg) hTl fun s2 D Z tw tt htt S2 => ?_
  refine wpAny_items_nil ⟨_, S2, Nat.le_of_ble_eq_true rfl, fun TL s3 S3 => o_st S3 (by walk_at "m put") (by walk_at "m set") fun s4 S4 => ?_⟩
  generalize hst : tellF fold (ms.map (·.1)) (rs.map (·.1)) = st at S4
  have S5 := S4.first
  clear S4 S2 S3 S1 S1'
  with_unfolding_all refine wpAny_execs_cons ?_
  refine r_AssignComp [] (by exact closureFor_none (by decide)) ?_
  have hnl : (natsV ks).length = ks.length := List.length_map _
  refine r_tcall (b := b) G.g G.bl S5 (G.free _ (by decide)) ((G.boot _ (by decide)).trans boot_range) (wpAny_items_cons ?_)
  refine r_bcall (b := b) G.g G.bl S5 (G.free _ (by decide)) ((G.boot _ (by decide)).trans boot_len') (wpAny_items_cons (o_ld S5 (by walk_at "m mem") rfl (wpAny_items_nil ?_)))
  have hspT : Has b (tItems [⟨D, Z, tw, tt, st⟩] ++ l) sp (natsV ks) := hsp.sub (List.sublist_append_right _ _)
  refine r_len S5 (hspT.at' S5 (by walk_at "m sub")) (by omega) fun s6 t6 S6 h6 => ?_
  refine wpAny_items_nil (r_range1 S6 fun R s7 S7 => ?_)
  rw [hnl] at S7
  refine r_comp_range (n := ks.length) hr.hh S7 (by walk_at "m mem") (rng0_facts _ (by omega)).1 (rng0_facts _ (by omega)).2 (by omega)
    (fun i outs l₁ tk => l₁ = (R, .rng 0 (ks.length : Int)) :: (TL, .lst (refsV [⟨D, Z, tw, tt, st⟩])) :: _ ∧ ∃ ps : List (Int × Tok), outs = intsV ps ∧ ps.map (·.1) = (List.range i).map (fun k => (2 : Int) ^ k) ∧ ∀ p ∈ ps, b.toks ≤ p.2 ∧ p.2 < tk)
    ?_ ⟨rfl, [], rfl, rfl, by simp⟩ ?_ ?_ ?_
  · rintro i outs l₁ m n hmn ⟨e, ps, e1, e2, e3⟩
    exact ⟨e, ps, e1, e2, fun p hp => ⟨(e3 p hp).1, Nat.lt_of_lt_of_le (e3 p hp).2 hmn⟩⟩
  · rintro i outs l₁ n ⟨e, ps, rfl, e2, e3⟩
    have := congrArg List.length e2
    simp only [List.length_map, List.length_range] at this
    unfold intsV; rw [List.length_map]; omega
  · rintro i t outs l₁ s₁ I C D' hi ht ⟨rfl, ps, rfl, e2, e3⟩ S8
    refine wpAny_pure ?_
    rw [if_pos rfl]
    refine r_def (b := b) G.g S8 hLs (wpAny_items_cons (r_int S8 fun s9 t9 S9 h9 => wpAny_items_cons (r_ld S9 (by walk_at "m mem") rfl (wpAny_items_nil ⟨⟨_, S9⟩, ?_⟩))))
    refine lshift_spec' G S9 (hrd.le (by decide)) (by omega) (by omega) (by decide) hLs fun s10 t10 S10 h10 h10' => ?_
    intro htk
    have ei : (0 + (i : Int)).toNat = i := by omega
    rw [ei, Int.one_mul]
    refine ⟨_, ⟨rfl, ps ++ [((2 : Int) ^ i, t10)], ?_, ?_, ?_⟩, S10⟩
    · unfold intsV; simp
    · rw [List.map_append, e2, List.range_succ, List.map_append]; rfl
    · intro p hp
      rcases List.mem_append.mp hp with hp | hp
      · exact ⟨(e3 p hp).1, Nat.lt_of_lt_of_le (e3 p hp).2 htk⟩
      · rw [List.mem_singleton] at hp; subst hp; exact ⟨h10, h10'⟩
  rintro outs l₁ s8 Pw C al ⟨rfl, ps, rfl, e2, e3⟩ S8
  have hpos := S8.pos
  have hbT := S8.tk
  refine post_assign S8.up (by walk_at "m put") (by walk_at "m set") fun s9 S9' => ?_
  generalize s8.toks = T at S9' e3 hbT
  have G' := G.up T
  have hmk' : Has (up b T) l mk (intsV ms) := hmk.up hbT hpos
  have hsp' : Has (up b T) l sp (natsV ks) := hsp.up hbT hpos
  have S9 := S9'.sub (.cons_cons _ (.cons _ (List.Sublist.refl _)))
  clear S9' S8 S7 S6 S5 hspT hmk hsp
  with_unfolding_all refine wpAny_execs_cons ?_
  refine wpAny_For (r_tcall (b := up b T) G'.g G'.bl S9 (G.free _ (by decide)) ((G.boot _ (by decide)).trans boot_range) (wpAny_items_cons (r_int S9 fun s10 t10 S10 h10 => wpAny_items_cons ?_)))
  refine wpAny_BinOp (r_int S10 fun s11 t11 S11 h11 => ?_)
  refine r_bcall (b := up b T) G'.g G'.bl S11 (G.free _ (by decide)) ((G.boot _ (by decide)).trans boot_len') (wpAny_items_cons (o_ld S11 (by walk_at "m mem") rfl (wpAny_items_nil ?_)))
  have hspT : Has (up b T) (tItems [⟨D, Z, tw, tt, st⟩] ++ l) sp (natsV ks) := hsp'.sub (List.sublist_append_right _ _)
  refine r_len S11 (hspT.at' S11 (by walk_at "m sub")) (by omega) fun s12 t12 S12 h12 => ?_
  refine pow_int_small (by omega) (by omega) (by decide) (wpAny_items_nil (r_range2 S12.tick fun R2 s13 S13 => ?_))
  rw [hnl, Int.toNat_natCast] at S13
  clear S10 S11 S12
  have hpl : ∀ j, j < ks.length → ∃ p, ps[j]? = some p ∧ p.1 = (2 : Int) ^ j := by
    intro j hj
    have h1 := congrArg (fun x => x[j]?) e2
    simp only [List.getElem?_map, List.getElem?_range hj, Option.map_some] at h1
    exact Option.map_eq_some_iff.mp h1
  have hpl' : ∀ j p, j < ks.length → ps[j]? = some p → p.1 = (2 : Int) ^ j := by
    intro j p hj hp
    obtain ⟨p', h1, h2⟩ := hpl j hj
    rw [hp] at h1; cases h1; exact h2
  refine r_iter_range (b := up b T) (n := 2 ^ ks.length - 1) (fun i l₁ => ∃ (rs' : List (Nat × Tok)) (recs : List TRec) (ost osp osg otu : Option Value), rs'.map (·.1) = rowAt (rs.map (·.1)) (ks.map (·.1)) i ∧
      recs.map (·.st) = (List.range (i + 1)).map (fun k => tellF fold (ms.map (·.1)) (rowAt (rs.map (·.1)) (ks.map (·.1)) k)) ∧ (∀ t ∈ recs, b.toks ≤ t.tt) ∧
      l₁ = (R2, .rng 1 ((2 : Int) ^ ks.length)) :: (Pw, .lst (intsV ps)) :: (TL, .lst (refsV recs)) :: (L, .fro [((Str.ofString "row"), some (.ref r)), ((Str.ofString "marks"), some (.ref mk)), ((Str.ofString "spots"), some (.ref sp)),
        ((Str.ofString "tells"), some (.ref TL)), ((Str.ofString "powers"), some (.ref Pw)), ((Str.ofString "step"), ost), ((Str.ofString "spot"), osp), ((Str.ofString "sign"), osg), ((Str.ofString "turned"), otu)]) :: (r, .ils (signsV rs')) :: (tItems recs ++ l))
    hr.hh S13 ⟨rs, [⟨D, Z, tw, tt, st⟩], none, none, none, none, rfl, by rw [← hst]; rfl, fun t ht => ?_, rfl⟩ (by walk_at "m mem") (rng_facts _ (by omega)).1 (rng_facts _ (by omega)).2 ?_ ?_
  · rw [List.mem_singleton] at ht; subst ht; exact htt
  · rintro i t l₁ s₁ I hi ⟨rs', recs, ost, osp, osg, otu, e4, e5, e6, rfl⟩ ht S₁
    have e1 : (1 + (i : Int)) = ((i + 1 : Nat) : Int) := by omega
    rw [e1] at S₁ ⊢
    have hi1 : i + 1 < 2 ^ ks.length := by omega
    have hc : ctz (i + 1) < ks.length := ctz_lt' ks.length (by omega) (i + 1) hi1 (Nat.succ_pos _)
    have h16 : 2 ^ ks.length ≤ 2 ^ 4 := Nat.pow_le_pow_right (by decide) hk4
    obtain ⟨i1, i2, i3⟩ := hat i (by omega)
    obtain ⟨k1, k2, k3⟩ := hat (i + 1) hi1
    obtain ⟨q, hq⟩ : ∃ q, ks[ctz (i + 1)]? = some q := ⟨_, List.getElem?_eq_getElem hc⟩
    have hqd : (ks.map (·.1)).getD (ctz (i + 1)) 0 = q.1 := by rw [List.getD_eq_getElem?_getD, List.getElem?_map, hq]; rfl
    have hqm : q.1 ∈ ks.map (·.1) := List.mem_map_of_mem (List.mem_of_getElem? hq)
    obtain ⟨j1, j2⟩ := i1.sp _ hqm
    rw [← e4] at j1 j2
    rw [List.length_map] at j1
    obtain ⟨c, hcq⟩ : ∃ c, rs'[q.1]? = some c := ⟨_, List.getElem?_eq_getElem j1⟩
    have hcd : (rs'.map (·.1)).getD q.1 0 = c.1 := by rw [List.getD_eq_getElem?_getD, List.getElem?_map, hcq]; rfl
    rw [hcd] at j2
    have hrow1 : ∀ tk, (rs'.set q.1 (turnC c.1 (i + 1), tk)).map (·.1) = rowAt (rs.map (·.1)) (ks.map (·.1)) (i + 1) := by
      intro tk
      rw [List.map_set, rowAt, hqd, ← e4, hcd]
    have hlr : rs'.length ≤ 300 := by
      have := congrArg List.length e4
      rw [i2, List.length_map, List.length_map] at this
      omega
    refine wpAny_assign_Name (o_st S₁ (by walk_at "m put") (by walk_at "m set") fun s2 S2 => ?_)
    clear S₁
    with_unfolding_all refine wpAny_execs_cons ?_
    refine wpAny_Assign_Name (r_def (b := up b T) G'.g S2 hGi (wpAny_items_cons (o_ld S2 (by walk_at "m mem") rfl (wpAny_items_cons ?_))))
    refine r_def (b := up b T) G'.g S2 hIx (wpAny_items_cons (o_ld S2 (by walk_at "m mem") rfl (wpAny_items_cons ?_)))
    refine r_def (b := up b T) G'.g S2 hAn (wpAny_items_cons (o_ld S2 (by walk_at "m mem") rfl (wpAny_items_cons ?_)))
    refine r_def (b := up b T) G'.g S2 hNg (wpAny_items_cons (o_ld S2 (by walk_at "m mem") rfl (wpAny_items_nil ⟨⟨_, S2⟩, neg_spec G' S2 (hrd.le (by decide)) hNg fun s3 t3 S3 h3 => ?_⟩)))
    refine wpAny_items_nil ⟨⟨_, S3⟩, and_spec G' S3 (hrd.le (by decide)) hAn fun s4 t4 S4 h4 => ?_⟩
    rw [low_bit (i + 1) (by omega) (Nat.succ_pos _)]
    obtain ⟨p₀, hp0, hp1⟩ := hpl _ hc
    have hT0 : 0 < T := Nat.lt_of_lt_of_le hpos hbT
    have h4' : T ≤ t4 := h4
    refine wpAny_items_nil ⟨⟨_, S4⟩, indexOf_spec G' S4 (hrd.le (by decide)) (ps := ps) (k := ctz (i + 1)) (p₀ := p₀) (Has.lst (by walk_at "m mem")) (Nat.ne_of_gt (Nat.lt_of_lt_of_le hT0 h4')) (fun p hp => ⟨Nat.ne_of_gt (Nat.lt_of_lt_of_le hpos (e3 p hp).1), Nat.ne_of_lt (Nat.lt_of_lt_of_le (e3 p hp).2 h4')⟩) hp0 hp1
      (fun j p hj hp => by rw [hpl' j p (Nat.lt_trans hj hc) hp]; exact pow_ne' _ (Nat.lt_of_lt_of_le hc hk4) _ hj) hIx fun s5 t5 S5 => ?_⟩
    have hspT2 : Has (up b T) (tItems recs ++ l) sp (natsV ks) := hsp'.sub (List.sublist_append_right _ _)
    have hq' : (natsV ks)[((ctz (i + 1) : Nat) : Int).toNat]? = some (.int (q.1 : Int) q.2) := by
      unfold natsV; rw [Int.toNat_natCast, List.getElem?_map, hq]; rfl
    intro _
    refine wpAny_items_nil ⟨⟨_, S5⟩, ?_⟩
    refine getitem_spec G' S5 (hrd.le (by decide)) (hspT2.sub (by walk_at "m sub")) (by omega) (by omega) hq' hGi fun s6 S6 => o_st S6 (by walk_at "m put") (by walk_at "m set") fun s7 S7 => ?_
    clear S2 S3 S4 S5 S6
    with_unfolding_all refine wpAny_execs_cons ?_
    have hc' : (signsV rs')[((q.1 : Nat) : Int).toNat]? = some (.str ⟨#[c.1]⟩ c.2) := by
      unfold signsV; rw [Int.toNat_natCast, List.getElem?_map, hcq]; rfl
    refine wpAny_Assign_Name (r_def (b := up b T) G'.g S7 hGi (wpAny_items_cons (o_ld S7 (by walk_at "m mem") rfl (wpAny_items_cons (o_ld S7 (by walk_at "m mem") rfl (wpAny_items_nil ⟨⟨_, S7⟩, ?_⟩))))))
    refine getitem_spec G' S7 (hrd.le (by decide)) (Has.ils (by walk_at "m mem")) (by omega) (by omega) hc' hGi fun s8 S8 => o_st S8 (by walk_at "m put") (by walk_at "m set") fun s9 S9 => ?_
    clear S7 S8
    with_unfolding_all refine wpAny_execs_cons ?_
    refine wpAny_Assign_Name (r_def (b := up b T) G'.g S9 hMap (wpAny_items_cons (o_ld S9 (by walk_at "m mem") rfl (wpAny_items_nil ⟨⟨_, S9⟩, map_spec G' S9 (hrd.le (by decide)) (folds_let j2) hMap fun s10 t10 S10 => o_st S10 (by walk_at "m put") (by walk_at "m set") fun s11 S11 => ?_⟩))))
    clear S9 S10
    with_unfolding_all refine wpAny_execs_cons ?_
    refine wpAny_mono (Q := fun f s' => f = .next ∧ ∃ tk, St (up b T) s' ((I, .rit (((i + 1 : Nat) : Int) + 1) (((2 ^ ks.length - 1 : Nat) : Int) - ↑i - 1) 1) :: (R2, .rng 1 ((2 : Int) ^ ks.length)) :: (Pw, .lst (intsV ps)) :: (TL, .lst (refsV recs)) :: (L, .fro [((Str.ofString "row"), some (.ref r)), ((Str.ofString "marks"), some (.ref mk)), ((Str.ofString "spots"), some (.ref sp)),
        ((Str.ofString "tells"), some (.ref TL)), ((Str.ofString "powers"), some (.ref Pw)), ((Str.ofString "step"), some (.int ((i + 1 : Nat) : Int) t)), ((Str.ofString "spot"), some (.int (q.1 : Int) q.2)), ((Str.ofString "sign"), some (.str ⟨#[c.1]⟩ c.2)), ((Str.ofString "turned"), some (.str ⟨#[turnC c.1 (i + 1)]⟩ tk))]) :: (r, .ils (signsV rs')) :: (tItems recs ++ l))) ?_ (fun f s' hh => ?_) (fun _ _ x => x)
    · have eb : ((⟨#[fold c.1]⟩ : Str).cps.toList == (⟨#[c.1]⟩ : Str).cps.toList) = decide (fold c.1 = c.1) := by
        by_cases e : fold c.1 = c.1
        · rw [e]; simp
        · rw [decide_eq_false e]; simpa using e
      refine wpAny_If (wpAny_isTrue_value (r_def (b := up b T) G'.g S11 hEq (wpAny_items_cons (o_ld S11 (by walk_at "m mem") rfl (wpAny_items_cons (o_ld S11 (by walk_at "m mem") rfl (wpAny_items_nil ⟨⟨_, S11⟩, eq_spec G' S11 (hrd.le (by decide)) hEq fun s12 S12 => ?_⟩)))))))
      rw [eb]
      refine wpAny_truthy_bool ?_
      by_cases hf : fold c.1 = c.1
      · rw [decide_eq_true hf, if_pos rfl]
        with_unfolding_all refine wpAny_execs_cons ?_
        refine wpAny_Assign_Name (r_def (b := up b T) G'.g S12 hGr (wpAny_items_cons ?_))
        refine wpAny_BinOp (r_bcall (b := up b T) G'.g G'.bl S12 (G.free _ (by decide)) ((G.boot _ (by decide)).trans boot_ord) (wpAny_items_cons (o_ld S12 (by walk_at "m mem") rfl (wpAny_items_nil (P.ord_of_char ?_)))))
        have S13 := S12.tick
        refine r_int S13 fun s14 t14 S14 h14 => P.sub_int ?_
        have S15 := S14.tick
        have hf2 := fold_fix j2 hf
        refine wpAny_items_cons (o_ld S15 (by walk_at "m mem") rfl (wpAny_items_nil ⟨⟨_, S15⟩, great_spec G' S15 (hrd.le (by decide)) (by omega) (by omega) hGr fun s16 t16 S16 => o_st S16 (by walk_at "m put") (by walk_at "m set") fun s17 S17 => ?_⟩))
        have et : turnC c.1 (i + 1) = greatC ((c.1 : Int) - 97) ((i + 1 : Nat) : Int) := if_pos hf
        rw [et]
        exact wpAny_execs_nil ⟨rfl, t16, S17⟩
      · rw [decide_eq_false hf, if_neg (by decide)]
        have et : turnC c.1 (i + 1) = fold c.1 := if_neg hf
        rw [et]
        exact wpAny_execs_nil ⟨rfl, t10, S12⟩
    · obtain ⟨rfl, tk, S12⟩ := hh
      clear S11
      with_unfolding_all refine wpAny_execs_cons ?_
      refine wpAny_Expr_any (r_def (b := up b T) G'.g S12 hSi (wpAny_items_cons (o_ld S12 (by walk_at "m mem") rfl (wpAny_items_cons (o_ld S12 (by walk_at "m mem") rfl (wpAny_items_cons (o_ld S12 (by walk_at "m mem") rfl (wpAny_items_nil ⟨⟨_, S12⟩, ?_⟩))))))))
      have hsl : (signsV rs').length = rs'.length := List.length_map _
      refine setitem_spec G' S12 (hrd.le (by decide)) (vs := signsV rs') (by walk_at "m put") (by omega) (by omega) (by omega) hSi fun s13 S13 => ?_
      have hset : (signsV rs').set ((q.1 : Nat) : Int).toNat (.str ⟨#[turnC c.1 (i + 1)]⟩ tk) = signsV (rs'.set q.1 (turnC c.1 (i + 1), tk)) := by
        unfold signsV; rw [Int.toNat_natCast, List.map_set]
      rw [hset] at S13
      with_unfolding_all refine wpAny_execs_cons ?_
      refine wpAny_Expr_any (r_append (b := up b T) (o_ld S13 (by walk_at "m mem") rfl ⟨TL, _, _, rfl, S13, by walk_at "m mem", ?_⟩))
      refine r_def (b := up b T) G'.g S13 hTl (wpAny_items_cons (o_ld S13 (by walk_at "m mem") rfl (wpAny_items_cons (o_ld S13 (by walk_at "m mem") rfl (wpAny_items_nil ⟨⟨_, S13⟩, ?_⟩)))))
      have hmkT : Has (up b T) (tItems recs ++ l) mk (intsV ms) := hmk'.sub (List.sublist_append_right _ _)
      have hok' : RowOk ((rs'.set q.1 (turnC c.1 (i + 1), tk)).map (·.1)) (ks.map (·.1)) := by rw [hrow1]; exact k1
      refine tell_spec G' S13 hrd (rs := rs'.set q.1 (turnC c.1 (i + 1), tk)) (ms := ms) (fold := fold) (Has.ils (by walk_at "m mem")) (hmkT.sub (by walk_at "m sub")) (by rw [List.length_set]; exact hlr) (by rw [hrow1, k3]; exact hms)
        (fun p hp hg => hok'.folds _ (List.mem_map_of_mem hp) hg) hTl fun s14 D2 Z2 tw2 tt2 htt2 S14 => ?_
      rw [hrow1] at S14
      have hrl : recs.length = i + 1 := by
        have := congrArg List.length e5
        rw [List.length_map, List.length_map, List.length_range] at this
        exact this
      refine ⟨refsV recs, _, _, S14, by walk_at "m put", by unfold refsV; rw [List.length_map]; omega, fun s15 S15 => ?_⟩
      refine wpAny_execs_nil ⟨_, ⟨rs'.set q.1 (turnC c.1 (i + 1), tk), recs ++ [⟨D2, Z2, tw2, tt2, tellF fold (ms.map (·.1)) (rowAt (rs.map (·.1)) (ks.map (·.1)) (i + 1))⟩], some (.int ((i + 1 : Nat) : Int) t), some (.int (q.1 : Int) q.2), some (.str ⟨#[c.1]⟩ c.2), some (.str ⟨#[turnC c.1 (i + 1)]⟩ tk), hrow1 tk, ?_, ?_, rfl⟩, ?_⟩
      · rw [List.map_append, e5, List.range_succ (n := i + 1), List.map_append]; rfl
      · intro t ht
        rcases List.mem_append.mp ht with ht | ht
        · exact e6 t ht
        · rw [List.mem_singleton] at ht; subst ht; exact Nat.le_trans hbT htt2
      · generalize tellF fold (ms.map (·.1)) (rowAt (rs.map (·.1)) (ks.map (·.1)) (i + 1)) = st2 at S15
        have e : refsV (recs ++ [⟨D2, Z2, tw2, tt2, st2⟩]) = refsV recs ++ [.ref D2] := by unfold refsV; rw [List.map_append]; rfl
        rw [e]
        exact S15.next
  · rintro l₁ s₁ ⟨rs', recs, ost, osp, osg, otu, e4, e5, e6, rfl⟩ S₁
    refine wpAny_execs_nil ?_
    with_unfolding_all refine wpAny_execs_cons ?_
    have h2 : 2 ^ ks.length - 1 + 1 = 2 ^ ks.length := Nat.sub_add_cancel Nat.one_le_two_pow
    rw [h2] at e5
    refine wpAny_Return_some (o_ld S₁ (by walk_at "m mem") rfl ?_)
    exact h _ TL recs e5 e6 ((S₁.down hbT hpos).sub (.cons _ (.cons _ (.cons_cons _ (.cons _ (.cons _ (List.Sublist.refl _)))))))
end
end Mine
end

section -- LawCall
open PySem PySem.W PyProof.Rows PySem.Calls
set_option Elab.async false
set_option maxRecDepth 100000
namespace Mine
section
variable {prog : Program} {w : World} {A : Around} {E : Value → Shared → Prop} {b s : Shared} {l : List (Addr × It)}

def cellItems (cs : List (Str × Addr)) : List (Addr × It) := cs.map fun p => (p.2, .cel none)

theorem bindC_local {kindOf : Str → Option NameKind} : ∀ (binds : List (Str × Value)) (m : Str → Option Value), (∀ x ∈ binds, kindOf x.1 = some .local) → bindC kindOf binds m = m
  | [], m, _ => rfl
  | (n, v) :: r, m, h => by
    unfold bindC
    rw [if_pos (h (n, v) (.head _))]
    exact bindC_local r m fun x hx => h x (.tail _ hx)
theorem bindL_local {kindOf : Str → Option NameKind} : ∀ (binds : List (Str × Value)) (m : Str → Option Value), (∀ x ∈ binds, kindOf x.1 = some .local) → ∀ y, bindL kindOf binds m y = (binds.reverse.lookup y).or (m y)
  | [], m, _, y => by simp [bindL]
  | (n, v) :: r, m, h, y => by
    unfold bindL
    rw [if_pos (h (n, v) (.head _)), bindL_local r _ (fun x hx => h x (.tail _ hx)) y, List.reverse_cons, List.lookup_append, List.lookup_cons]
    by_cases e : y = n
    · subst e; simp
    · rw [if_neg e, beq_false_of_ne e]; simp

theorem lookup_of_mem : ∀ {cs : List (Str × Addr)} {q : Str × Addr}, cs.Pairwise (fun x y => x.1 ≠ y.1) → q ∈ cs → cs.lookup q.1 = some q.2
  | (n, c) :: r, q, hp, hm => by
    obtain ⟨h1, h2⟩ := List.pairwise_cons.mp hp
    rw [List.lookup_cons]
    rcases List.mem_cons.mp hm with rfl | hm
    · simp
    · rw [beq_false_of_ne (Ne.symm (h1 q hm))]
      exact lookup_of_mem h2 hm
/-- a def of the text's called that has cells of its own -/
theorem r_callC {name : Str} {params : Arguments} {body : List Stmt} {scope : Scope} {pm cd doc : Value} {a : Addr} {o : Obj} {vals : List Value} {binds : List (Str × Value)} {Q : Value → Shared → Prop}
    (S : St b s l) (ho : b.heap.get? a = some o) (hd : o.data = .func (docDef name params body scope pm cd doc)) (hcd : b.heap.CodeRec cd name) (hlim : b.heap.NoLimit) (hroom : A.depth < recursionLimit)
    (hbind : bindArgs (docDef name params body scope pm cd doc) ⟨vals, []⟩ = pure binds) (hloc : ∀ x ∈ binds, scope.names.lookup x.1 = some .local)
    (hap : apartB (binds.map (·.1)) = true) (hcs : ∀ n, (cellsFrom n scope.names []).Pairwise (fun x y => x.1 ≠ y.1))
    (h : ∀ L s', St b s' ((L, .frm binds) :: (cellItems (cellsFrom (L + 1) scope.names []) ++ l)) →
      wpAny (model prog w) (A.deeper (callEnvC (docDef name params body scope pm cd doc) L a)) (execs body (callEnvC (docDef name params body scope pm cd doc) L a))
        (fun f s'' => Q (match f with | .ret v => v | _ => .none) s'') (fun _ _ => False) s')
    (hco : scope.isCoroutine = false := by rfl) (hgen : scope.isGenerator = false := by rfl) (hk : scope.kind = .function := by rfl) :
    wpAny (model prog w) A (call (.ref a) vals) Q E s := by
  refine wpAny_call (codeAny_call_function hroom (S.keep _ _ ho) hd hco hgen rfl (hcd.keeps S.keep) ?_)
  rw [hbind]
  refine wpAny_pure (wpAny_with_toks (Nat.le_refl s.toks) (wpAny_newFunctionEnv_cells (scope := scope) hk (fun x hx => .inl (hloc x hx)) fun env he s' x htk => ?_))
  subst he
  refine ⟨(hlim.keeps S.keep).keeps x.toInCall.keep, codeAny_func ?_⟩
  have hfr : ∀ c, s.heap.objs.size ≤ c → b.heap.get? c = none := fun c hc => by
    cases q : b.heap.get? c with
    | none => rfl
    | some o => exact absurd (Heap.lt_size (S.keep _ _ q)) (Nat.not_lt.mpr hc)
  have hall : ∀ y ∈ binds, (newEnv scope s.heap.objs.size mainGlobals (cellsFrom (s.heap.objs.size + 1) scope.names []) (name ++ ".<locals>.") (some a) cd none builtinsNs).kindOf y.1 = some .local := hloc
  have hbelow : ∀ p ∈ l, p.1 < s.heap.objs.size := fun p hp => It.at_lt (S.got p hp)
  have hab : ∀ p ∈ cellsFrom (s.heap.objs.size + 1) scope.names [], s.heap.objs.size < p.2 := fun p hp => x.above p.1 p.2 hp
  have S' : St b s' ((s.heap.objs.size, .frm binds) :: (cellItems (cellsFrom (s.heap.objs.size + 1) scope.names []) ++ l)) := {
    keep := fun c o' e => x.toInCall.keep c o' (S.keep c o' e)
    got := fun p hp => by
      rcases List.mem_cons.mp hp with rfl | hp
      · have e : (bindL (newEnv scope s.heap.objs.size mainGlobals (cellsFrom (s.heap.objs.size + 1) scope.names []) (name ++ ".<locals>.") (some a) cd none builtinsNs).kindOf binds fun _ => none) = fun y => binds.lookup y := by
          funext y
          rw [bindL_local binds _ hall y, lookup_rev binds hap y]
          cases binds.lookup y <;> rfl
        have := x.toInCall.ns
        erw [e] at this
        exact this
      · rcases List.mem_append.mp hp with hp | hp
        · obtain ⟨q, hq, rfl⟩ := List.mem_map.mp hp
          have hlk := lookup_of_mem (hcs (s.heap.objs.size + 1)) hq
          have := x.cell q.1 q.2 hlk
          erw [bindC_local binds _ hall] at this
          exact this
        · exact It.at_ext (S.got p hp) (x.toInCall.keep p.1)
    new := fun p hp => by
      rcases List.mem_cons.mp hp with rfl | hp
      · exact hfr _ (Nat.le_refl _)
      · rcases List.mem_append.mp hp with hp | hp
        · obtain ⟨q, hq, rfl⟩ := List.mem_map.mp hp
          exact hfr _ (Nat.le_of_lt (hab q hq))
        · exact S.new p hp
    nd := by
      have em : (cellItems (cellsFrom (s.heap.objs.size + 1) scope.names [])).map (·.1) = (cellsFrom (s.heap.objs.size + 1) scope.names []).map (·.2) := by unfold cellItems; simp
      rw [List.map_cons, List.map_append, em]
      refine List.nodup_cons.mpr ⟨fun hm => ?_, List.nodup_append.mpr ⟨?_, S.nd, ?_⟩⟩
      · rcases List.mem_append.mp hm with hm | hm
        · obtain ⟨q, hq, e⟩ := List.mem_map.mp hm
          exact absurd (e ▸ hab q hq) (Nat.lt_irrefl _)
        · obtain ⟨q, hq, e⟩ := List.mem_map.mp hm
          exact absurd (e ▸ hbelow q hq) (Nat.lt_irrefl _)
      · exact List.pairwise_map.mpr x.apart
      · intro c hc d hd' e
        obtain ⟨q, hq, rfl⟩ := List.mem_map.mp hc
        obtain ⟨r, hr, rfl⟩ := List.mem_map.mp hd'
        have h1 := hab q hq
        have h2 := hbelow r hr
        rw [e] at h1
        exact absurd (Nat.lt_trans h1 h2) (Nat.lt_irrefl _)
    tk := Nat.le_trans S.tk htk
    pos := S.pos
    same := by
      obtain ⟨h', tk, e⟩ := x.toInCall.same
      rw [e]; exact S.same }
  refine wpAny_mono (h _ _ S') (fun f s'' hq => ?_) fun _ _ x => x.elim
  cases f <;> exact hq
end
end Mine
end

section -- LawPure
open PySem PySem.W PyProof.Rows PySem.Calls
set_option Elab.async false
set_option maxRecDepth 100000
namespace Mine

def mkX (x : Int) : Int := x.fmod 8
def kdX (x : Int) : Int := (x.fdiv 8).fmod 5
def ltX (x : Int) : Int := (x.fdiv 40).fmod 26
def gpX (x : Int) : Int := (x.fdiv 4160).fmod 28
def sgX (x : Int) : Nat := if kdX x = 4 then (48 + (ltX x).fmod 10).toNat else if kdX x < 2 then (97 + ltX x).toNat else greatC (ltX x) (x.fdiv 1040)
def wdX (x : Int) : Nat := if kdX x = 4 then (48 + (ltX x).fmod 10).toNat else (97 + ltX x).toNat
def szX (x : Int) : Bool := decide (kdX x = 2) || decide (kdX x = 3)

theorem fm_range (a b : Int) (hb : 0 < b) : 0 ≤ a.fmod b ∧ a.fmod b < b := ⟨Int.fmod_nonneg_of_pos _ hb, Int.fmod_lt_of_pos _ hb⟩
theorem mk_range (x : Int) : 0 ≤ mkX x ∧ mkX x < 8 := fm_range _ _ (by decide)
theorem kd_range (x : Int) : 0 ≤ kdX x ∧ kdX x < 5 := fm_range _ _ (by decide)
theorem lt_range (x : Int) : 0 ≤ ltX x ∧ ltX x < 26 := fm_range _ _ (by decide)
theorem gp_range (x : Int) : 0 ≤ gpX x ∧ gpX x < 28 := fm_range _ _ (by decide)

structure LSt where
  row : List Nat
  word : List Nat
  marks : List Int
  sizes : List Bool
  spots : List Nat
  some : List Int
  masks : List Int
  first : Int
def lRow (st : LSt) (x : Int) : List Nat := if gpX x ≠ 0 then st.row ++ [gapC (gpX x)] else st.row
def lStep (st : LSt) (x : Int) : LSt where
  row := lRow st x ++ [sgX x]
  word := st.word ++ [wdX x]
  marks := st.marks ++ [mkX x]
  sizes := st.sizes ++ [szX x]
  spots := if kdX x = 4 then st.spots else st.spots ++ [(lRow st x).length]
  some := if kdX x = 4 then st.some else st.some ++ [mkX x]
  masks := if kdX x = 4 then st.masks else st.masks ++ st.masks.map (· + 2 ^ st.marks.length)
  first := if szX x then Builtin.bitXor st.first (mkX x) else st.first
def lInit : LSt := ⟨[], [], [], [], [], [], [0], 0⟩
def lRun (xs : List Int) : LSt := xs.foldl lStep lInit

theorem lRow_len (st : LSt) (x : Int) : (lRow st x).length ≤ st.row.length + 1 := by
  unfold lRow; split
  · simp
  · exact Nat.le_succ _

structure LLen (st : LSt) (n : Nat) : Prop where
  row : st.row.length ≤ 2 * n
  word : st.word.length = n
  marks : st.marks.length = n
  sizes : st.sizes.length = n
  spots : st.spots.length ≤ n
  some : st.some.length = st.spots.length
  masks : st.masks.length = 2 ^ st.spots.length
theorem LLen.step {st : LSt} {n : Nat} (h : LLen st n) (x : Int) : LLen (lStep st x) (n + 1) where
  row := by
    have := lRow_len st x
    have := h.row
    show (lRow st x ++ [sgX x]).length ≤ _
    simp; omega
  word := by show (st.word ++ [wdX x]).length = _; simp [h.word]
  marks := by show (st.marks ++ [mkX x]).length = _; simp [h.marks]
  sizes := by show (st.sizes ++ [szX x]).length = _; simp [h.sizes]
  spots := by
    have := h.spots
    show (if kdX x = 4 then st.spots else st.spots ++ [(lRow st x).length]).length ≤ _
    split
    · omega
    · simp; omega
  some := by
    have := h.some
    show (if kdX x = 4 then st.some else st.some ++ [mkX x]).length = (if kdX x = 4 then st.spots else st.spots ++ [(lRow st x).length]).length
    split
    · exact this
    · simp; omega
  masks := by
    have := h.masks
    show (if kdX x = 4 then st.masks else st.masks ++ st.masks.map (· + 2 ^ st.marks.length)).length = 2 ^ (if kdX x = 4 then st.spots else st.spots ++ [(lRow st x).length]).length
    split
    · exact this
    · simp [this, Nat.pow_succ]; omega
theorem lRun_snoc (xs : List Int) (x : Int) : lRun (xs ++ [x]) = lStep (lRun xs) x := by unfold lRun; rw [List.foldl_append]; rfl
theorem LLen.run : ∀ (xs : List Int) (st : LSt) (n : Nat), LLen st n → LLen (xs.foldl lStep st) (n + xs.length)
  | [], _, _, h => h
  | x :: r, st, n, h => by
    have := LLen.run r (lStep st x) (n + 1) (h.step x)
    rw [List.length_cons, List.foldl_cons, show n + (r.length + 1) = n + 1 + r.length by omega]
    exact this
theorem LLen.of (xs : List Int) : LLen (lRun xs) xs.length := by
  have := LLen.run xs lInit 0 ⟨Nat.le_refl _, rfl, rfl, rfl, Nat.le_refl _, rfl, rfl⟩
  rw [Nat.zero_add] at this
  exact this
end Mine
end

section -- Law1
open PySem PySem.W PyProof.Rows PySem.Calls
set_option Elab.async false
set_option maxRecDepth 100000
namespace Mine
section
variable {w : World} {A : Around} {E : Value → Shared → Prop} {b s : Shared} {l : List (Addr × It)} {mg mb : Str → Option Value} {a : Addr} {Q : Value → Shared → Prop}

/-- the law's frame -/
abbrev lawFr (script row word spots some_ masks first x letter kind span told tells numbers turns : Option Value) : List (Str × Option Value) :=
  [((Str.ofString "script"), script), ((Str.ofString "row"), row), ((Str.ofString "word"), word), ((Str.ofString "spots"), spots), ((Str.ofString "some"), some_), ((Str.ofString "masks"), masks), ((Str.ofString "first"), first),
   ((Str.ofString "x"), x), ((Str.ofString "letter"), letter), ((Str.ofString "kind"), kind), ((Str.ofString "span"), span), ((Str.ofString "told"), told), ((Str.ofString "tells"), tells), ((Str.ofString "numbers"), numbers), ((Str.ofString "turns"), turns)]

abbrev lawEnv (L c1 c2 c3 c4 c5 c6 c7 a : Addr) (code : Value) : Env :=
  newEnv (dAt 22).scope L mainGlobals [((Str.ofString "tell"), c7), ((Str.ofString "mark"), c6), ((Str.ofString "one"), c5), ((Str.ofString "wide"), c4), ((Str.ofString "fewest"), c3), ((Str.ofString "sizes"), c2), ((Str.ofString "marks"), c1)]
    ((dAt 22).name ++ ".<locals>.") (some a) code none builtinsNs

theorem law_start (G : Gr w b mg mb) (S : St b s l) (hr : Room A 1) {sc : Addr} (ha : FnAt b.heap mg (dAt 22) a)
    (h : ∀ L c1 c2 c3 c4 c5 c6 c7 code s', St b s' ((L, .fro (lawFr (some (.ref sc)) none none none none none none none none none none none none none none)) ::
        (c7, .cel none) :: (c6, .cel none) :: (c5, .cel none) :: (c4, .cel none) :: (c3, .cel none) :: (c2, .cel none) :: (c1, .cel none) :: l) →
      wpAny (model prg w) (A.deeper (lawEnv L c1 c2 c3 c4 c5 c6 c7 a code)) (execs (dAt 22).body (lawEnv L c1 c2 c3 c4 c5 c6 c7 a code)) (fun f s'' => Q (match f with | .ret v => v | _ => .none) s'') (fun _ _ => False) s') :
    wpAny (model prg w) A (call (.ref a) [.ref sc]) Q E s := by
  obtain ⟨o, pm, code, doc, hmg, ho, hd, hcd⟩ := ha
  refine r_callC (binds := [("script", .ref sc)]) S ho hd hcd G.nolimit hr.room rfl (fun y hy => by rw [List.mem_singleton] at hy; subst hy; rfl) rfl (fun n => ?_) (fun L s1 S1' => ?_) rfl rfl rfl
  · show List.Pairwise _ [((Str.ofString "tell"), _), ((Str.ofString "mark"), _), ((Str.ofString "one"), _), ((Str.ofString "wide"), _), ((Str.ofString "fewest"), _), ((Str.ofString "sizes"), _), ((Str.ofString "marks"), _)]
    simp only [List.pairwise_cons, List.mem_cons, List.not_mem_nil, or_false, forall_eq_or_imp, forall_eq, List.Pairwise.nil, and_true, false_imp_iff, implies_true]
    decide
  · have S1 := S1'.pad ["row", "word", "spots", "some", "masks", "first", "x", "letter", "kind", "span", "told", "tells", "numbers", "turns"]
    exact h L _ _ _ _ _ _ _ code s1 S1
end
end Mine
end

section -- Rules5
open PySem PySem.W PyProof.Rows PySem.Calls
set_option Elab.async false
set_option maxRecDepth 100000
namespace Mine
section
variable {prog : Program} {w : World} {A : Around} {E : Value → Shared → Prop} {b s : Shared} {l l' : List (Addr × It)} {env : Env} {mg mb : Str → Option Value} {x y : Int} {t u : Tok}

theorem r_div {Q : Value → Shared → Prop} (S : St b s l) (hy : y ≠ 0) (hs : y.natAbs < 1073741824) (h : ∀ s' t', St b s' l → b.toks ≤ t' → Q (.int (x.fdiv y) t') s') : wpAny (model prog w) A (binaryOp .FloorDiv (.int x t) (.int y u)) Q E s :=
  floordiv_int hy (h _ _ S.tick S.tk) (.inl (PyProof.noPylong_small hs))
theorem r_mod {Q : Value → Shared → Prop} (S : St b s l) (hy : y ≠ 0) (h : ∀ s' t', St b s' l → b.toks ≤ t' → Q (.int (x.fmod y) t') s') : wpAny (model prog w) A (binaryOp .Mod (.int x t) (.int y u)) Q E s :=
  mod_int' hy (h _ _ S.tick S.tk)
theorem r_add {Q : Value → Shared → Prop} (S : St b s l) (h : ∀ s' t', St b s' l → b.toks ≤ t' → Q (.int (x + y) t') s') : wpAny (model prog w) A (binaryOp .Add (.int x t) (.int y u)) Q E s :=
  P.add_int (h _ _ S.tick S.tk)
theorem r_sub {Q : Value → Shared → Prop} (S : St b s l) (h : ∀ s' t', St b s' l → b.toks ≤ t' → Q (.int (x - y) t') s') : wpAny (model prog w) A (binaryOp .Sub (.int x t) (.int y u)) Q E s :=
  P.sub_int (h _ _ S.tick S.tk)
theorem r_xor {Q : Value → Shared → Prop} (S : St b s l) (h : ∀ s' t', St b s' l → b.toks ≤ t' → t' < s'.toks → Q (.int (Builtin.bitXor x y) t') s') : wpAny (model prog w) A (binaryOp .BitXor (.int x t) (.int y u)) Q E s :=
  xor_int (h _ _ S.tick S.tk (Nat.lt_succ_self _))
theorem r_pow {Q : Value → Shared → Prop} (S : St b s l) (h0 : 0 ≤ y) (h1 : y ≤ 1000000) (hx : x.natAbs < 2 ^ 64) (h : ∀ s' t', St b s' l → b.toks ≤ t' → t' < s'.toks → Q (.int (x ^ y.toNat) t') s') : wpAny (model prog w) A (binaryOp .Pow (.int x t) (.int y u)) Q E s :=
  pow_int_small h0 h1 hx (h _ _ S.tick S.tk (Nat.lt_succ_self _))
theorem r_chr {Q : Value → Shared → Prop} (S : St b s l) (h0 : 0 ≤ x) (h1 : x ≤ 1114111) (h : ∀ s' t', St b s' l → Q (.str ⟨#[x.toNat]⟩ t') s') : wpAny (model prog w) A (call (.builtin "chr") [.int x t]) Q E s :=
  chr_of_range h0 h1 (h _ _ S.tick)

theorem r_iadd_str {x y : Str} {Q : Value → Shared → Prop} (S : St b s l) (hz : x.length + y.length ≤ 1000) (h : ∀ s' t', St b s' l → Q (.str (x ++ y) t') s') : wpAny (model prog w) A (inplaceOp .Add (.str x t) (.str y u)) Q E s := by
  refine P.iadd_str ?_
  by_cases hx : x.length = 0
  · rw [if_pos (by simpa using hx)]
    have e : x = ⟨#[]⟩ := by
      cases x; simp only [Str.mk.injEq]; exact Array.eq_empty_of_size_eq_zero hx
    have := h s u S
    rw [e, str_empty_append] at this
    exact this
  · rw [if_neg (by simpa using hx)]
    by_cases hy : y.length = 0
    · rw [if_pos (by simpa using hy)]
      have e : y = ⟨#[]⟩ := by
        cases y; simp only [Str.mk.injEq]; exact Array.eq_empty_of_size_eq_zero hy
      have := h s t S
      rw [e, str_append_empty] at this
      exact this
    · rw [if_neg (by simpa using hy)]
      refine ⟨?_, h _ _ S.tick⟩
      rw [Str.length_append, sizeLine_eq]; omega

/-- the first few of a list that stands for a moment -/
theorem r_take {value : Expr} {upper : Expr} {p pos : Pos} {Q : Value → Shared → Prop}
    (h : wpAny (model prog w) A (eval value env) (fun o s₁ => wpAny (model prog w) A (eval upper env) (fun vu s₃ => ∃ (D : Addr) (vs : List Value) (l₁ : List (Addr × It)) (k : Nat) (u : Tok), o = .ref D ∧ vu = .int (k : Int) u ∧ St b s₃ l₁ ∧ s₃.heap.IsList D vs.toArray ∧ vs.length ≤ 1000 ∧ k ≤ vs.length ∧
      ∀ D' s', St b s' ((D', .lst (vs.take k)) :: l₁) → Q (.ref D') s') E s₁) E s) :
    wpAny (model prog w) A (eval (.Subscript value (.Slice none (some upper) none p) pos) env) Q E s := by
  refine Subscript_ (wpAny_mono h (fun o s₁ h₁ => wpAny_Slice (wpAny_evalPart_none (wpAny_evalPart_some (wpAny_mono h₁ (fun vu s₃ h₃ => wpAny_evalPart_none ?_) fun _ _ x => x)))) fun _ _ x => x)
  obtain ⟨D, vs, l₁, k, u, rfl, rfl, S3, hl, hz, hk, hQ⟩ := h₃
  refine tail_any (hl.push _).typeIs slot_list_getitem.lookup (wpAny_getItem_list_slice (lo := none) (hi := some (k : Int)) (st := none) (hl.push _) (Heap.IsSliceOf.new ..) .none (.int _ _) .none (by simp) ?_ (by rw [sizeLine_eq]; simp; omega)) rfl
  have e : slicePick vs.toArray none (some (k : Int)) none = (vs.take k).toArray := slicePick_upto _ _ (by simpa using hk)
  rw [e]
  have S4 : St b { s₃ with heap := s₃.heap.push { cls := .type "slice", data := .fields #[.none, .int (k : Int) u, .none] } } l₁ := S3.ext (fun _ _ e => Heap.get?_push_of_some _ e) S3.tk ⟨rfl, rfl, rfl⟩
  exact hQ _ _ (S4.push (it := .lst (vs.take k)) (t := s₃.toks) ⟨_, Heap.get?_push_size _ rfl⟩ S3.tk)

theorem intsV_are : ∀ ps : List (Int × Tok), IntsAre (intsV ps) (ps.map (·.1))
  | [] => .nil
  | p :: r => .cons p.1 p.2 (intsV_are r)
theorem intsV_of : ∀ {vs : List Value} {ns : List Int}, IntsAre vs ns → ∃ ps : List (Int × Tok), vs = intsV ps ∧ ps.map (·.1) = ns
  | _, _, .nil => ⟨[], rfl, rfl⟩
  | _, _, .cons n t h => by
    obtain ⟨xs, e1, e2⟩ := intsV_of h
    exact ⟨(n, t) :: xs, by rw [e1]; rfl, by rw [List.map_cons, e2]⟩
theorem intItems_intsV (ps : List (Int × Tok)) : (intsV ps).toArray = intItems ps.toArray := by
  unfold intsV intItems; simp

theorem r_sum {a : Addr} {ps : List (Int × Tok)} {Q : Value → Shared → Prop} (hh : A.handled = none) (S : St b s l) (hl : s.heap.IsList a (intsV ps).toArray) (hfit : ∀ j, j < ps.length → InLong ((ps.map (·.1)).getD j 0) ∧ InLong (((ps.map (·.1)).take (j + 1)).sum))
    (h : ∀ s' t', St b s' l → Q (.int (ps.map (·.1)).sum t') s') : wpAny (model prog w) A (call (.builtin "sum") [.ref a]) Q E s := by
  rw [intItems_intsV] at hl
  refine wpAny_with_toks (Nat.le_refl s.toks) (sum_intList hh hl (fun j hj => ?_) fun h' tk t' hk htk => ?_)
  · rw [numAt_eq, preSum_eq]; exact hfit j (by simpa using hj)
  · have e : preSum (numAt ps.toArray) ps.toArray.size = (ps.map (·.1)).sum := by
      rw [preSum_eq, List.take_of_length_le (by simp)]
    rw [e]
    exact h _ t' (S.tick_heap hk (Nat.le_trans S.tk htk))

theorem r_min {a : Addr} {ps : List (Int × Tok)} {Q : Value → Shared → Prop} (hh : A.handled = none) (S : St b s l) (hl : s.heap.IsList a (intsV ps).toArray) (hne : 0 < ps.length)
    (h : ∀ s' M t', St b s' l → M ∈ ps.map (·.1) → (∀ c ∈ ps.map (·.1), M ≤ c) → Q (.int M t') s') : wpAny (model prog w) A (call (.builtin "min") [.ref a]) Q E s := by
  rw [intItems_intsV] at hl
  refine wpAny_with_toks (Nat.le_refl s.toks) (min_intList hh hl (by simpa using hne) fun v h' tk hv hk => ?_)
  intro htk
  obtain ⟨t, rfl⟩ := intItems_at hv
  obtain ⟨h1, h2⟩ := argBest_lt (numAt ps.toArray) (ps.toArray.size - 1)
  have hsz : ps.toArray.size = ps.length := by simp
  refine h _ _ t (S.tick_heap hk (Nat.le_trans S.tk htk)) ?_ fun c hc => ?_
  · rw [numAt_eq]; exact getD_mem (by rw [List.length_map]; show _ < ps.length; omega)
  · obtain ⟨j, hj, rfl⟩ := mem_getD hc
    rw [List.length_map] at hj
    have := h2 j (by omega)
    rw [numAt_eq ps.toArray j] at this
    exact this

theorem r_min2 {Q : Value → Shared → Prop} (hh : A.handled = none) (S : St b s l) (h : ∀ s' t', St b s' l → Q (.int (if y < x then y else x) t') s') : wpAny (model prog w) A (call (.builtin "min") [.int x t, .int y u]) Q E s := by
  refine wpAny_with_toks (Nat.le_refl s.toks) (min_two_ints hh fun h' tk hk => ?_)
  intro htk
  by_cases c : y < x
  · rw [if_pos c]
    have := h _ u (S.tick_heap (t := tk) hk (Nat.le_trans S.tk htk))
    rw [if_pos c] at this; exact this
  · rw [if_neg c]
    have := h _ t (S.tick_heap (t := tk) hk (Nat.le_trans S.tk htk))
    rw [if_neg c] at this; exact this

theorem r_sorted {a : Addr} {ps : List (Int × Tok)} {Q : Value → Shared → Prop} (S : St b s l) (hl : s.heap.IsList a (intsV ps).toArray) (h64 : ps.length < 64)
    (h : ∀ s' D qs, (qs.map (·.1)).Perm (ps.map (·.1)) → (qs.map (·.1)).Pairwise (· ≤ ·) → St b s' ((D, .lst (intsV qs)) :: l) → Q (.ref D) s') : wpAny (model prog w) A (call (.builtin "sorted") [.ref a]) Q E s := by
  refine sorted_ints hl (intsV_are ps) (by unfold intsV; rw [List.length_map]; exact h64) fun out ns' ho hp hw => ?_
  obtain ⟨qs, e1, rfl⟩ := intsV_of ho
  refine h _ _ qs hp hw ?_
  obtain ⟨e, hat⟩ := sortedAll_at s.heap (intsV ps) out
  have hnew : b.heap.get? (s.heap.objs.size + 1) = none := by
    cases q : b.heap.get? (s.heap.objs.size + 1) with
    | none => rfl
    | some o => exact absurd (Heap.lt_size (S.keep _ _ q)) (Nat.not_lt.mpr (Nat.le_succ _))
  have k : ∀ c o, s.heap.get? c = some o → (sortedAll s.heap (intsV ps) out).get? c = some o := fun c o e => sortedAll_old e
  refine ⟨fun c o e => k c o (S.keep c o e), fun p hp => ?_, fun p hp => ?_, ?_, S.tk, S.pos, S.same⟩
  · rcases List.mem_cons.mp hp with rfl | hp
    · refine ⟨e, ?_⟩
      rw [hat, ← e1]
    · exact It.at_ext (S.got p hp) (k p.1)
  · rcases List.mem_cons.mp hp with rfl | hp
    · exact hnew
    · exact S.new p hp
  · refine List.nodup_cons.mpr ⟨fun hm => ?_, S.nd⟩
    obtain ⟨p, hp, e⟩ := List.mem_map.mp hm
    have := It.at_lt (S.got p hp)
    rw [e] at this
    exact absurd this (Nat.not_lt.mpr (Nat.le_succ _))
end
end Mine
end

section -- Law2
open PySem PySem.W PyProof.Rows PySem.Calls
set_option Elab.async false
set_option maxRecDepth 100000
namespace Mine
local macro_rules | `(tactic| walk_at "m mem") => `(tactic| first | exact List.Mem.head _ | (refine List.Mem.tail _ ?_; walk_at "m mem"))
local macro_rules | `(tactic| walk_at "m put") => `(tactic| first | exact Put.head | (apply Put.tail; walk_at "m put"))
local macro_rules | `(tactic| walk_at "m set") => `(tactic| first | with_reducible exact OSet.head | (apply OSet.tail; (focus decide); walk_at "m set"))
local macro_rules | `(tactic| walk_at "m sub") => `(tactic| first | exact List.Sublist.refl _ | (apply List.Sublist.cons; walk_at "m sub"))
section
variable {w : World} {A : Around} {E : Value → Shared → Prop} {b s : Shared} {l : List (Addr × It)} {mg mb : Str → Option Value} {a : Addr}

/-- the body of the law's first loop -/
def bodyOfFor : List Stmt → List Stmt
  | .For _ _ bd _ _ :: _ => bd
  | _ => []
def loop1 : List Stmt := bodyOfFor ((dAt 22).body.drop 8)

/-- the ledger within the law's first part -/
abbrev ldg1 (Row Mk Sz Sp So Ma L c1 c2 c3 c4 c5 c6 c7 : Addr) (rs : List (Nat × Tok)) (ms : List (Int × Tok)) (szs : List Bool) (ks : List (Nat × Tok)) (sos mas : List (Int × Tok)) (fr : List (Str × Option Value)) (l : List (Addr × It)) : List (Addr × It) :=
  (L, .fro fr) :: (Row, .lst (signsV rs)) :: (Mk, .lst (intsV ms)) :: (Sz, .lst (boolsV szs)) :: (Sp, .lst (natsV ks)) :: (So, .lst (intsV sos)) :: (Ma, .lst (intsV mas)) ::
    (c7, .cel none) :: (c6, .cel none) :: (c5, .cel none) :: (c4, .cel none) :: (c3, .cel none) :: (c2, .cel (some (.ref Sz))) :: (c1, .cel (some (.ref Mk))) :: l

section
variable {Row Mk Sz Sp So Ma L c1 c2 c3 c4 c5 c6 c7 fa : Addr} {code : Value} {rs : List (Nat × Tok)} {ms : List (Int × Tok)} {szs : List Bool} {ks : List (Nat × Tok)} {sos mas : List (Int × Tok)} {sc : Value} {wd : List Nat} {tw tf tx : Tok} {f0 x : Int} {ol ok : Option Value} {I : Addr} {it : It}
  {Q : Flow → Shared → Prop}

set_option maxHeartbeats 1000000 in
theorem turn1a (G : Gr w b mg mb) (hr : Room A 1) (hn : rs.length ≤ 300)
    (S : St b s ((I, it) :: ldg1 Row Mk Sz Sp So Ma L c1 c2 c3 c4 c5 c6 c7 rs ms szs ks sos mas (lawFr (some sc) (some (.ref Row)) (some (.str ⟨wd.toArray⟩ tw)) (some (.ref Sp)) (some (.ref So)) (some (.ref Ma)) (some (.int f0 tf)) (some (.int x tx)) ol ok none none none none none) l))
    (h : ∀ s' rs' t1 t2, rs'.map (·.1) = lRow ⟨rs.map (·.1), [], [], [], [], [], [], 0⟩ x → St b s' ((I, it) :: ldg1 Row Mk Sz Sp So Ma L c1 c2 c3 c4 c5 c6 c7 rs' ms szs ks sos mas (lawFr (some sc) (some (.ref Row)) (some (.str ⟨wd.toArray⟩ tw)) (some (.ref Sp)) (some (.ref So)) (some (.ref Ma)) (some (.int f0 tf)) (some (.int x tx)) (some (.int (ltX x) t1)) (some (.int (kdX x) t2)) none none none none none) l) →
      wpAny (model prg w) A (execs (loop1.drop 3) (lawEnv L c1 c2 c3 c4 c5 c6 c7 fa code)) Q E s') :
    wpAny (model prg w) A (execs loop1 (lawEnv L c1 c2 c3 c4 c5 c6 c7 fa code)) Q E s := by
  obtain ⟨aGp, hGp⟩ := G.fn 18 (by decide)
  with_unfolding_all refine wpAny_execs_cons ?_
  refine wpAny_Assign_Name (wpAny_BinOp (wpAny_BinOp (o_ld S (by walk_at "m mem") rfl (r_int S fun s1 t1 S1 h1 => r_div S1 (by decide) (by decide) fun s2 t2 S2 h2 => r_int S2 fun s3 t3 S3 h3 => r_mod S3 (by decide) fun s4 t4 S4 h4 => o_st S4 (by walk_at "m put") (by walk_at "m set") fun s5 S5 => ?_))))
  clear S S1 S2 S3 S4
  with_unfolding_all refine wpAny_execs_cons ?_
  refine wpAny_Assign_Name (wpAny_BinOp (wpAny_BinOp (o_ld S5 (by walk_at "m mem") rfl (r_int S5 fun s1 t1 S1 h1 => r_div S1 (by decide) (by decide) fun s2 t2 S2 h2 => r_int S2 fun s3 t3 S3 h3 => r_mod S3 (by decide) fun s4 t4 S4 h4 => o_st S4 (by walk_at "m put") (by walk_at "m set") fun s6 S6 => ?_))))
  clear S5 S1 S2 S3 S4
  with_unfolding_all refine wpAny_execs_cons ?_
  refine wpAny_If (wpAny_isTrue_Compare1 (wpAny_BinOp (wpAny_BinOp (o_ld S6 (by walk_at "m mem") rfl (r_int S6 fun s1 t1 S1 h1 => r_div S1 (by decide) (by decide) fun s2 t2 S2 h2 => r_int S2 fun s3 t3 S3 h3 => r_mod S3 (by decide) fun s4 t4 S4 h4 => r_int S4 fun s7 t7 S7 h7 => P.ne_int (wpAny_truthy_bool ?_))))))
  clear S6 S1 S2 S3 S4
  have hgr := gp_range x
  by_cases hg : gpX x = 0
  · have e : ((x.fdiv 4160).fmod 28 != (0 : Int)) = false := by
      have : (x.fdiv 4160).fmod 28 = 0 := hg
      rw [this]; rfl
    rw [e, if_neg (by decide)]
    refine wpAny_execs_nil ?_
    with_unfolding_all exact h _ rs _ _ (by unfold lRow; rw [if_neg (by simpa using hg)]) S7
  · have e : ((x.fdiv 4160).fmod 28 != (0 : Int)) = true := by
      have : (x.fdiv 4160).fmod 28 ≠ 0 := hg
      simpa using this
    rw [e, if_pos rfl]
    with_unfolding_all refine wpAny_execs_cons ?_
    refine wpAny_Expr_any (r_append (b := b) (o_ld S7 (by walk_at "m mem") rfl ⟨Row, _, _, rfl, S7, by walk_at "m mem", ?_⟩))
    refine r_def (b := b) G.g S7 hGp (wpAny_items_cons (wpAny_BinOp (wpAny_BinOp (o_ld S7 (by walk_at "m mem") rfl (r_int S7 fun s1 t1 S1 h1 => r_div S1 (by decide) (by decide) fun s2 t2 S2 h2 => r_int S2 fun s3 t3 S3 h3 => r_mod S3 (by decide) fun s4 t4 S4 h4 => ?_)))))
    refine wpAny_items_nil ⟨⟨_, S4⟩, gap_spec G S4 hr (show 1 ≤ gpX x by omega) (show gpX x ≤ 27 by omega) hGp fun s8 t8 S8 => ?_⟩
    refine ⟨signsV rs, _, _, S8, by walk_at "m put", by unfold signsV; rw [List.length_map]; omega, fun s9 S9 => ?_⟩
    refine wpAny_execs_nil ?_
    have e2 : signsV rs ++ [.str ⟨#[gapC ((x.fdiv 4160).fmod 28)]⟩ t8] = signsV (rs ++ [(gapC (gpX x), t8)]) := by unfold signsV; rw [List.map_append]; rfl
    rw [e2] at S9
    with_unfolding_all exact h _ (rs ++ [(gapC (gpX x), t8)]) _ _ (by unfold lRow; rw [if_pos hg, List.map_append]; rfl) S9

set_option maxHeartbeats 1000000 in
theorem turn1b (G : Gr w b mg mb) (hr : Room A 1) (hn : rs.length ≤ 300) (hw : wd.length ≤ 300) (hm : ms.length ≤ 300) (hks : ks.length ≤ 300) (hso : sos.length ≤ 300) (hma : mas.length ≤ 300) {t1 t2 : Tok}
    (S : St b s ((I, it) :: ldg1 Row Mk Sz Sp So Ma L c1 c2 c3 c4 c5 c6 c7 rs ms szs ks sos mas (lawFr (some sc) (some (.ref Row)) (some (.str ⟨wd.toArray⟩ tw)) (some (.ref Sp)) (some (.ref So)) (some (.ref Ma)) (some (.int f0 tf)) (some (.int x tx)) (some (.int (ltX x) t1)) (some (.int (kdX x) t2)) none none none none none) l))
    (h : ∀ s' Ma' rs' ks' sos' mas' tw', rs'.map (·.1) = rs.map (·.1) ++ [sgX x] → ks'.map (·.1) = (if kdX x = 4 then ks.map (·.1) else ks.map (·.1) ++ [rs.length]) → sos'.map (·.1) = (if kdX x = 4 then sos.map (·.1) else sos.map (·.1) ++ [mkX x]) →
      mas'.map (·.1) = (if kdX x = 4 then mas.map (·.1) else mas.map (·.1) ++ (mas.map (·.1)).map (· + 2 ^ ms.length)) →
      St b s' ((I, it) :: ldg1 Row Mk Sz Sp So Ma' L c1 c2 c3 c4 c5 c6 c7 rs' ms szs ks' sos' mas' (lawFr (some sc) (some (.ref Row)) (some (.str ⟨(wd ++ [wdX x]).toArray⟩ tw')) (some (.ref Sp)) (some (.ref So)) (some (.ref Ma')) (some (.int f0 tf)) (some (.int x tx)) (some (.int (ltX x) t1)) (some (.int (kdX x) t2)) none none none none none) l) →
      wpAny (model prg w) A (execs (loop1.drop 4) (lawEnv L c1 c2 c3 c4 c5 c6 c7 fa code)) Q E s') :
    wpAny (model prg w) A (execs (loop1.drop 3) (lawEnv L c1 c2 c3 c4 c5 c6 c7 fa code)) Q E s := by
  obtain ⟨aGr, hGr⟩ := G.fn 19 (by decide)
  have hlr := lt_range x
  with_unfolding_all refine wpAny_execs_cons ?_
  refine wpAny_If (wpAny_isTrue_Compare1 (o_ld S (by walk_at "m mem") rfl (r_int S fun s1 t3 S1 h1 => P.eq_int (wpAny_truthy_bool ?_))))
  clear S
  by_cases hk : kdX x = 4
  · rw [hk] at S1 h ⊢
    rw [if_pos (by decide)]
    have hsg : sgX x = (48 + (ltX x).fmod 10).toNat := by unfold sgX; rw [if_pos hk]
    have hwd : wdX x = (48 + (ltX x).fmod 10).toNat := by unfold wdX; rw [if_pos hk]
    have h10 := fm_range (ltX x) 10 (by decide)
    with_unfolding_all refine wpAny_execs_cons ?_
    refine wpAny_AugAssign_Name (o_ldn S1 (by walk_at "m mem") rfl ?_)
    refine r_bcall (b := b) G.g G.bl S1 (G.free _ (by decide)) ((G.boot _ (by decide)).trans boot_chr) (wpAny_items_cons (wpAny_BinOp (r_int S1 fun s2 t4 S2 h2 => wpAny_BinOp (o_ld S2 (by walk_at "m mem") rfl (r_int S2 fun s3 t5 S3 h3 => r_mod S3 (by decide) fun s4 t6 S4 h4 => r_add S4 fun s5 t7 S5 h5 => ?_)))))
    refine wpAny_items_nil (r_chr S5 (by omega) (by omega) fun s6 t8 S6 => r_iadd_str S6 (by show wd.toArray.size + 1 ≤ 1000; rw [List.size_toArray]; omega) fun s7 t9 S7 => o_st S7 (by walk_at "m put") (by walk_at "m set") fun s8 S8 => ?_)
    rw [str_snoc, ← hwd] at S8
    clear S1 S2 S3 S4 S5 S6 S7
    with_unfolding_all refine wpAny_execs_cons ?_
    refine wpAny_Expr_any (r_append (b := b) (o_ld S8 (by walk_at "m mem") rfl ⟨Row, _, _, rfl, S8, by walk_at "m mem", ?_⟩))
    refine r_bcall (b := b) G.g G.bl S8 (G.free _ (by decide)) ((G.boot _ (by decide)).trans boot_chr) (wpAny_items_cons (wpAny_BinOp (r_int S8 fun s2 t4 S2 h2 => wpAny_BinOp (o_ld S2 (by walk_at "m mem") rfl (r_int S2 fun s3 t5 S3 h3 => r_mod S3 (by decide) fun s4 t6 S4 h4 => r_add S4 fun s5 t7 S5 h5 => ?_)))))
    refine wpAny_items_nil (r_chr S5 (by omega) (by omega) fun s6 t10 S6 => ?_)
    refine ⟨signsV rs, _, _, S6, by walk_at "m put", by unfold signsV; rw [List.length_map]; omega, fun s9 S9 => ?_⟩
    rw [← hsg] at S9
    refine wpAny_execs_nil ?_
    have e2 : signsV rs ++ [.str ⟨#[sgX x]⟩ t10] = signsV (rs ++ [(sgX x, t10)]) := by unfold signsV; rw [List.map_append]; rfl
    rw [e2] at S9
    with_unfolding_all exact h _ Ma (rs ++ [(sgX x, t10)]) ks sos mas _ (by rw [List.map_append]; rfl) (by rw [if_pos rfl]) (by rw [if_pos rfl]) (by rw [if_pos rfl]) S9
  · have ek : (kdX x == (4 : Int)) = false := by simpa using hk
    rw [ek, if_neg (by decide)]
    simp only [if_neg hk] at h
    have hwd : wdX x = (97 + ltX x).toNat := by unfold wdX; rw [if_neg hk]
    with_unfolding_all refine wpAny_execs_cons ?_
    refine wpAny_Assign_Name (wpAny_BinOp (o_ld S1 (by walk_at "m mem") rfl (r_ListComp [((Str.ofString "marks"), c1)] rfl (o_ld S1 (by walk_at "m mem") rfl ?_))))
    have hml : (intsV mas).length = mas.length := List.length_map _
    have hmsl : (intsV ms).length = ms.length := List.length_map _
    have hc1 : ∀ (l₁ : List (Addr × It)) (y : Addr × It), y ∈ l₁ → y ∈ l₁ := fun _ _ h => h
    refine r_comp_list (vs := intsV mas) hr.hh S1 (by omega) (fun i outs l₁ tk => l₁ = (I, it) :: ldg1 Row Mk Sz Sp So Ma L c1 c2 c3 c4 c5 c6 c7 rs ms szs ks sos mas (lawFr (some sc) (some (.ref Row)) (some (.str ⟨wd.toArray⟩ tw)) (some (.ref Sp)) (some (.ref So)) (some (.ref Ma)) (some (.int f0 tf)) (some (.int x tx)) (some (.int (ltX x) t1)) (some (.int (kdX x) t2)) none none none none none) l
        ∧ ∃ ps : List (Int × Tok), outs = intsV ps ∧ ps.map (·.1) = ((mas.map (·.1)).take i).map (· + 2 ^ ms.length) ∧ ps.length = i)
      (fun _ _ _ _ _ _ h => h) ⟨rfl, [], rfl, rfl, rfl⟩ ?_ ?_ ?_ ?_
    · rintro i outs l₁ n ⟨_, ps, rfl, _, e⟩
      unfold intsV; rw [List.length_map]; omega
    · rintro i outs l₁ n s₁ ⟨rfl, _⟩ S₁
      exact S₁.lst (by walk_at "m mem")
    · rintro i v outs l₁ s₁ I' C D hi hv ⟨rfl, ps, rfl, e2, e3⟩ S₁
      obtain ⟨p, hp, rfl⟩ : ∃ p, mas[i]? = some p ∧ v = .int p.1 p.2 := by
        unfold intsV at hv
        rw [List.getElem?_map] at hv
        obtain ⟨p, hp, e⟩ := Option.map_eq_some_iff.mp hv
        exact ⟨p, hp, e.symm⟩
      refine wpAny_pure ?_
      rw [if_pos rfl]
      refine wpAny_BinOp (r_ld S₁ (by walk_at "m mem") rfl (wpAny_BinOp (r_int S₁ fun s2 t4 S2 h2 => ?_)))
      refine r_bcall (b := b) G.g G.bl S2 (G.free _ (by decide)) ((G.boot _ (by decide)).trans boot_len') (wpAny_items_cons (r_cell S2 rfl (by walk_at "m mem") (wpAny_items_nil ?_)))
      refine r_len S2 (S2.lst (by walk_at "m mem")) (by omega) fun s3 t5 S3 h3 => r_pow S3 (by omega) (by omega) (by decide) fun s4 t6 S4 h4 _ => r_add S4 fun s5 t7 S5 h5 => ?_
      intro _
      rw [hmsl, Int.toNat_natCast]
      refine ⟨_, ⟨rfl, ps ++ [(p.1 + 2 ^ ms.length, t7)], ?_, ?_, by rw [List.length_append, e3]; rfl⟩, S5⟩
      · unfold intsV; simp
      · rw [List.map_append, e2, List.take_add_one, List.getElem?_map, hp]; simp
    · rintro outs l₁ s₁ D C al ⟨rfl, ps, rfl, e2, e3⟩ S₁
      refine post_none S₁ fun s2 S2 => ?_
      have hpl : ps.length = mas.length := by rw [e3, hml]
      have hfull : ps.map (·.1) = (mas.map (·.1)).map (· + 2 ^ ms.length) := by
        rw [e2, List.take_of_length_le (by rw [List.length_map, hml]; exact Nat.le_refl _)]
      refine r_add_lists S2 (S2.lst (by walk_at "m mem")) (S2.lst (by walk_at "m mem")) (by have : (intsV ps).length = ps.length := List.length_map _; omega) fun Ma' s3 S3 => ?_
      refine o_st S3 (by walk_at "m put") (by walk_at "m set") fun s4 S4 => ?_
      have e5 : intsV mas ++ intsV ps = intsV (mas ++ ps) := by unfold intsV; rw [List.map_append]
      rw [e5] at S4
      have S5 := S4.sub (show List.Sublist ((Ma', It.lst (intsV (mas ++ ps))) :: (I, it) :: (L, _) :: (Row, _) :: (Mk, _) :: (Sz, _) :: (Sp, _) :: (So, _) :: (c7, _) :: (c6, _) :: (c5, _) :: (c4, _) :: (c3, _) :: (c2, _) :: (c1, _) :: l) _ from
        .cons_cons _ (.cons _ (.cons_cons _ (.cons_cons _ (.cons_cons _ (.cons_cons _ (.cons_cons _ (.cons_cons _ (.cons_cons _ (.cons _ (List.Sublist.refl _)))))))))))
      have S6 : St b s4 ((I, it) :: ldg1 Row Mk Sz Sp So Ma' L c1 c2 c3 c4 c5 c6 c7 rs ms szs ks sos (mas ++ ps) _ l) := S5.perm (List.perm_middle (l₁ := [_, _, _, _, _, _, _]))
      have hmas : (mas ++ ps).map (·.1) = mas.map (·.1) ++ (mas.map (·.1)).map (· + 2 ^ ms.length) := by rw [List.map_append, hfull]
      generalize mas ++ ps = mas' at S6 hmas
      clear S1 S₁ S2 S3 S4 S5
      with_unfolding_all refine wpAny_execs_cons ?_
      refine wpAny_Expr_any (r_append (b := b) (o_ld S6 (by walk_at "m mem") rfl ⟨So, _, _, rfl, S6, by walk_at "m mem", wpAny_BinOp (o_ld S6 (by walk_at "m mem") rfl (r_int S6 fun s5 t5 S7 h5 => r_mod S7 (by decide) fun s6 t6 S8 h6 => ?_))⟩))
      refine ⟨intsV sos, _, _, S8, by walk_at "m put", by have : (intsV sos).length = sos.length := List.length_map _; omega, fun s7 S9 => ?_⟩
      have e6 : intsV sos ++ [.int (x.fmod 8) t6] = intsV (sos ++ [(mkX x, t6)]) := by unfold intsV; rw [List.map_append]; rfl
      rw [e6] at S9
      clear S6 S7 S8
      with_unfolding_all refine wpAny_execs_cons ?_
      refine wpAny_Expr_any (r_append (b := b) (o_ld S9 (by walk_at "m mem") rfl ⟨Sp, _, _, rfl, S9, by walk_at "m mem", ?_⟩))
      have hrl : (signsV rs).length = rs.length := List.length_map _
      refine r_bcall (b := b) G.g G.bl S9 (G.free _ (by decide)) ((G.boot _ (by decide)).trans boot_len') (wpAny_items_cons (o_ld S9 (by walk_at "m mem") rfl (wpAny_items_nil (r_len S9 (S9.lst (by walk_at "m mem")) (by omega) fun s8 t8 S10 h8 => ?_))))
      refine ⟨natsV ks, _, _, S10, by walk_at "m put", by have : (natsV ks).length = ks.length := List.length_map _; omega, fun s9 S11 => ?_⟩
      have e7 : natsV ks ++ [.int ((signsV rs).length : Int) t8] = natsV (ks ++ [(rs.length, t8)]) := by unfold natsV; rw [List.map_append, hrl]; rfl
      rw [e7] at S11
      clear S9 S10
      with_unfolding_all refine wpAny_execs_cons ?_
      refine wpAny_AugAssign_Name (o_ldn S11 (by walk_at "m mem") rfl ?_)
      refine r_bcall (b := b) G.g G.bl S11 (G.free _ (by decide)) ((G.boot _ (by decide)).trans boot_chr) (wpAny_items_cons (wpAny_BinOp (r_int S11 fun s2 t4 S2 h2 => o_ld S2 (by walk_at "m mem") rfl (r_add S2 fun s5 t7 S5 h5 => ?_))))
      refine wpAny_items_nil (r_chr S5 (by omega) (by omega) fun s6 t9 S6 => r_iadd_str S6 (by show wd.toArray.size + 1 ≤ 1000; rw [List.size_toArray]; omega) fun s7 t10 S7 => o_st S7 (by walk_at "m put") (by walk_at "m set") fun s8 S8 => ?_)
      rw [str_snoc, ← hwd] at S8
      clear S11 S2 S5 S6 S7
      with_unfolding_all refine wpAny_execs_cons ?_
      refine wpAny_Expr_any (r_append (b := b) (o_ld S8 (by walk_at "m mem") rfl ⟨Row, _, _, rfl, S8, by walk_at "m mem", ?_⟩))
      refine wpAny_mono (Q := fun v s' => ∃ t11, v = .str ⟨#[sgX x]⟩ t11 ∧ St b s' ((I, it) :: ldg1 Row Mk Sz Sp So Ma' L c1 c2 c3 c4 c5 c6 c7 rs ms szs (ks ++ [(rs.length, t8)]) (sos ++ [(mkX x, t6)]) mas' (lawFr (some sc) (some (.ref Row)) (some (.str ⟨(wd ++ [wdX x]).toArray⟩ t10)) (some (.ref Sp)) (some (.ref So)) (some (.ref Ma')) (some (.int f0 tf)) (some (.int x tx)) (some (.int (ltX x) t1)) (some (.int (kdX x) t2)) none none none none none) l)) ?_ (fun v s9 hh => ?_) (fun _ _ x => x)
      · refine wpAny_IfExp (wpAny_isTrue_Compare1 (o_ld S8 (by walk_at "m mem") rfl (r_int S8 fun s2 t4 S2 h2 => P.lt_int (wpAny_truthy_bool ?_))))
        by_cases h2k : kdX x < 2
        · have hsg : sgX x = (97 + ltX x).toNat := by unfold sgX; rw [if_neg hk, if_pos h2k]
          rw [decide_eq_true h2k, if_pos rfl]
          refine r_bcall (b := b) G.g G.bl S2 (G.free _ (by decide)) ((G.boot _ (by decide)).trans boot_chr) (wpAny_items_cons (wpAny_BinOp (r_int S2 fun s3 t5 S3 h3 => o_ld S3 (by walk_at "m mem") rfl (r_add S3 fun s5 t7 S5 h5 => ?_))))
          refine wpAny_items_nil (r_chr S5 (by omega) (by omega) fun s6 t9 S6 => ?_)
          rw [← hsg]
          exact ⟨t9, rfl, S6⟩
        · have hsg : sgX x = greatC (ltX x) (x.fdiv 1040) := by unfold sgX; rw [if_neg hk, if_neg h2k]
          rw [decide_eq_false h2k, if_neg (by decide)]
          refine r_def (b := b) G.g S2 hGr (wpAny_items_cons (o_ld S2 (by walk_at "m mem") rfl (wpAny_items_cons (wpAny_BinOp (o_ld S2 (by walk_at "m mem") rfl (r_int S2 fun s3 t5 S3 h3 => r_div S3 (by decide) (by decide) fun s4 t6 S4 h4 => ?_))))))
          refine wpAny_items_nil ⟨⟨_, S4⟩, great_spec G S4 hr hlr.1 hlr.2 hGr fun s5 t7 S5 => ?_⟩
          rw [← hsg]
          exact ⟨t7, rfl, S5⟩
      · obtain ⟨t11, rfl, S9⟩ := hh
        refine ⟨signsV rs, _, _, S9, by walk_at "m put", by omega, fun s10 S10 => wpAny_execs_nil ?_⟩
        have e2 : signsV rs ++ [.str ⟨#[sgX x]⟩ t11] = signsV (rs ++ [(sgX x, t11)]) := by unfold signsV; rw [List.map_append]; rfl
        rw [e2] at S10
        with_unfolding_all exact h _ Ma' (rs ++ [(sgX x, t11)]) (ks ++ [(rs.length, t8)]) (sos ++ [(mkX x, t6)]) mas' _ (by rw [List.map_append]; rfl) (by rw [List.map_append]; rfl) (by rw [List.map_append]; rfl) hmas S10
end
end
end Mine
end

section -- Law3
open PySem PySem.W PyProof.Rows PySem.Calls
set_option Elab.async false
set_option maxRecDepth 100000
namespace Mine
local macro_rules | `(tactic| walk_at "m mem") => `(tactic| first | exact List.Mem.head _ | (refine List.Mem.tail _ ?_; walk_at "m mem"))
local macro_rules | `(tactic| walk_at "m put") => `(tactic| first | exact Put.head | (apply Put.tail; walk_at "m put"))
local macro_rules | `(tactic| walk_at "m set") => `(tactic| first | with_reducible exact OSet.head | (apply OSet.tail; (focus decide); walk_at "m set"))
local macro_rules | `(tactic| walk_at "m sub") => `(tactic| first | exact List.Sublist.refl _ | (apply List.Sublist.cons; walk_at "m sub"))
section
variable {w : World} {A : Around} {E : Value → Shared → Prop} {b s : Shared} {l : List (Addr × It)} {mg mb : Str → Option Value} {a : Addr}
section
variable {Row Mk Sz Sp So Ma L c1 c2 c3 c4 c5 c6 c7 fa : Addr} {code : Value} {rs : List (Nat × Tok)} {ms : List (Int × Tok)} {szs : List Bool} {ks : List (Nat × Tok)} {sos mas : List (Int × Tok)} {sc wv lv : Value} {tf tx tk : Tok} {f0 x : Int} {I : Addr} {it : It}
  {Q : Flow → Shared → Prop}

set_option maxHeartbeats 1000000 in
theorem turn1c (hm : ms.length ≤ 300) (hz : szs.length ≤ 300)
    (S : St b s ((I, it) :: ldg1 Row Mk Sz Sp So Ma L c1 c2 c3 c4 c5 c6 c7 rs ms szs ks sos mas (lawFr (some sc) (some (.ref Row)) (some wv) (some (.ref Sp)) (some (.ref So)) (some (.ref Ma)) (some (.int f0 tf)) (some (.int x tx)) (some lv) (some (.int (kdX x) tk)) none none none none none) l))
    (h : ∀ s' ms' tf', ms'.map (·.1) = ms.map (·.1) ++ [mkX x] →
      St b s' ((I, it) :: ldg1 Row Mk Sz Sp So Ma L c1 c2 c3 c4 c5 c6 c7 rs ms' (szs ++ [szX x]) ks sos mas (lawFr (some sc) (some (.ref Row)) (some wv) (some (.ref Sp)) (some (.ref So)) (some (.ref Ma)) (some (.int (if szX x then Builtin.bitXor f0 (mkX x) else f0) tf')) (some (.int x tx)) (some lv) (some (.int (kdX x) tk)) none none none none none) l) →
      Q .next s') :
    wpAny (model prg w) A (execs (loop1.drop 4) (lawEnv L c1 c2 c3 c4 c5 c6 c7 fa code)) Q E s := by
  with_unfolding_all refine wpAny_execs_cons ?_
  refine wpAny_mono (Q := fun f s' => f = .next ∧ ∃ tf', St b s' ((I, it) :: ldg1 Row Mk Sz Sp So Ma L c1 c2 c3 c4 c5 c6 c7 rs ms szs ks sos mas (lawFr (some sc) (some (.ref Row)) (some wv) (some (.ref Sp)) (some (.ref So)) (some (.ref Ma)) (some (.int (if szX x then Builtin.bitXor f0 (mkX x) else f0) tf')) (some (.int x tx)) (some lv) (some (.int (kdX x) tk)) none none none none none) l)) ?_ (fun f s' hh => ?_) (fun _ _ x => x)
  · refine wpAny_If (wpAny_isTrue_BoolOp ?_)
    refine wpAny_mono (Q := fun r s' => r = szX x ∧ St b s' ((I, it) :: ldg1 Row Mk Sz Sp So Ma L c1 c2 c3 c4 c5 c6 c7 rs ms szs ks sos mas (lawFr (some sc) (some (.ref Row)) (some wv) (some (.ref Sp)) (some (.ref So)) (some (.ref Ma)) (some (.int f0 tf)) (some (.int x tx)) (some lv) (some (.int (kdX x) tk)) none none none none none) l)) ?_ (fun r s' hh => ?_) (fun _ _ x => x)
    · refine wpAny_allTrue_Or_cons (wpAny_isTrue_Compare1 (o_ld S (by walk_at "m mem") rfl (r_int S fun s2 t2 S2 h2 => P.eq_int (wpAny_truthy_bool ?_))))
      by_cases e2 : kdX x = 2
      · rw [if_pos (by rw [e2]; rfl)]
        exact ⟨by unfold szX; rw [e2]; rfl, S2⟩
      · have e2' : (kdX x == (2 : Int)) = false := by simpa using e2
        rw [e2', if_neg (by decide)]
        refine wpAny_allTrue_Or_cons (wpAny_isTrue_Compare1 (o_ld S2 (by walk_at "m mem") rfl (r_int S2 fun s3 t3 S3 h3 => P.eq_int (wpAny_truthy_bool ?_))))
        by_cases e3 : kdX x = 3
        · rw [if_pos (by rw [e3]; rfl)]
          exact ⟨by unfold szX; rw [e3]; rfl, S3⟩
        · have e3' : (kdX x == (3 : Int)) = false := by simpa using e3
          rw [e3', if_neg (by decide)]
          refine wpAny_pure ⟨?_, S3⟩
          unfold szX
          rw [decide_eq_false e2, decide_eq_false e3]; rfl
    · obtain ⟨rfl, S2⟩ := hh
      cases hs : szX x with
      | false =>
        exact (if_neg Bool.false_ne_true).mpr (wpAny_execs_nil ⟨rfl, tf, S2⟩)
      | true =>
        rw [if_pos rfl]
        with_unfolding_all refine wpAny_execs_cons ?_
        refine wpAny_Assign_Name (wpAny_BinOp (o_ld S2 (by walk_at "m mem") rfl (wpAny_BinOp (o_ld S2 (by walk_at "m mem") rfl (r_int S2 fun s3 t3 S3 h3 => r_mod S3 (by decide) fun s4 t4 S4 h4 => r_xor S4 fun s5 t5 S5 h5 _ => o_st S5 (by walk_at "m put") (by walk_at "m set") fun s6 S6 => ?_)))))
        exact wpAny_execs_nil ⟨rfl, t5, S6⟩
  · obtain ⟨rfl, tf', S1⟩ := hh
    with_unfolding_all refine wpAny_execs_cons ?_
    refine wpAny_Expr_any (r_append (b := b) (r_cell S1 rfl (by walk_at "m mem") ⟨Mk, _, _, rfl, S1, by walk_at "m mem", wpAny_BinOp (o_ld S1 (by walk_at "m mem") rfl (r_int S1 fun s5 t5 S7 h5 => r_mod S7 (by decide) fun s6 t6 S8 h6 => ?_))⟩))
    refine ⟨intsV ms, _, _, S8, by walk_at "m put", by have : (intsV ms).length = ms.length := List.length_map _; omega, fun s7 S9 => ?_⟩
    have e6 : intsV ms ++ [.int (x.fmod 8) t6] = intsV (ms ++ [(mkX x, t6)]) := by unfold intsV; rw [List.map_append]; rfl
    rw [e6] at S9
    clear S S1 S7 S8
    with_unfolding_all refine wpAny_execs_cons ?_
    refine wpAny_Expr_any (r_append (b := b) (r_cell S9 rfl (by walk_at "m mem") ⟨Sz, _, _, rfl, S9, by walk_at "m mem", ?_⟩))
    refine wpAny_mono (Q := fun v s' => v = .bool (szX x) ∧ St b s' ((I, it) :: ldg1 Row Mk Sz Sp So Ma L c1 c2 c3 c4 c5 c6 c7 rs (ms ++ [(mkX x, t6)]) szs ks sos mas (lawFr (some sc) (some (.ref Row)) (some wv) (some (.ref Sp)) (some (.ref So)) (some (.ref Ma)) (some (.int (if szX x then Builtin.bitXor f0 (mkX x) else f0) tf')) (some (.int x tx)) (some lv) (some (.int (kdX x) tk)) none none none none none) l)) ?_ (fun v s' hh => ?_) (fun _ _ x => x)
    · refine BoolOp_or (wpAny_Compare1 (o_ld S9 (by walk_at "m mem") rfl (r_int S9 fun s2 t2 S2 h2 => P.eq_int (wpAny_truthy_bool ?_))))
      by_cases e2 : kdX x = 2
      · rw [if_pos (by rw [e2]; rfl)]
        exact ⟨by unfold szX; rw [e2]; rfl, S2⟩
      · have e2' : (kdX x == (2 : Int)) = false := by simpa using e2
        rw [e2', if_neg (by decide)]
        refine BoolOp_one (wpAny_Compare1 (o_ld S2 (by walk_at "m mem") rfl (r_int S2 fun s3 t3 S3 h3 => P.eq_int ?_)))
        refine ⟨?_, S3⟩
        unfold szX
        rw [decide_eq_false e2, Bool.false_or]
        by_cases e3 : kdX x = 3
        · rw [decide_eq_true e3, e3]; rfl
        · rw [decide_eq_false e3]
          have : (kdX x == (3 : Int)) = false := by simpa using e3
          rw [this]
    · obtain ⟨rfl, S10⟩ := hh
      refine ⟨boolsV szs, _, _, S10, by walk_at "m put", by have : (boolsV szs).length = szs.length := List.length_map _; omega, fun s7 S11 => ?_⟩
      have e7 : boolsV szs ++ [.bool (szX x)] = boolsV (szs ++ [szX x]) := by unfold boolsV; rw [List.map_append]; rfl
      rw [e7] at S11
      exact wpAny_execs_nil (h _ (ms ++ [(mkX x, t6)]) tf' (by rw [List.map_append]; rfl) S11)
end
end
end Mine
end

section -- Law4
open PySem PySem.W PyProof.Rows PySem.Calls
set_option Elab.async false
set_option maxRecDepth 100000
namespace Mine
local macro_rules | `(tactic| walk_at "m mem") => `(tactic| first | exact List.Mem.head _ | (refine List.Mem.tail _ ?_; walk_at "m mem"))
local macro_rules | `(tactic| walk_at "m put") => `(tactic| first | exact Put.head | (apply Put.tail; walk_at "m put"))
local macro_rules | `(tactic| walk_at "m set") => `(tactic| first | with_reducible exact OSet.head | (apply OSet.tail; (focus decide); walk_at "m set"))
local macro_rules | `(tactic| walk_at "m sub") => `(tactic| first | exact List.Sublist.refl _ | (apply List.Sublist.cons; walk_at "m sub"))
section
variable {w : World} {A : Around} {E : Value → Shared → Prop} {b s : Shared} {l : List (Addr × It)} {mg mb : Str → Option Value} {a : Addr}

theorem perm7 (p1 p2 p3 p4 p5 p6 p7 : Addr × It) (r : List (Addr × It)) : (p1 :: p2 :: p3 :: p4 :: p5 :: p6 :: p7 :: r).Perm (p7 :: p6 :: p5 :: p4 :: p3 :: p2 :: p1 :: r) :=
  (List.reverse_perm [p7, p6, p5, p4, p3, p2, p1]).append_right r

/-- what the law's first part has read -/
def lawXs (ns : List Int) : List Int := (ns ++ [1, 10, 20, 3]).take 4

/-- the first part's state -/
structure Part1 (st : LSt) (rs : List (Nat × Tok)) (ms : List (Int × Tok)) (szs : List Bool) (ks : List (Nat × Tok)) (sos mas : List (Int × Tok)) (wd : List Nat) (f0 : Int) : Prop where
  row : rs.map (·.1) = st.row
  marks : ms.map (·.1) = st.marks
  sizes : szs = st.sizes
  spots : ks.map (·.1) = st.spots
  some : sos.map (·.1) = st.some
  masks : mas.map (·.1) = st.masks
  word : wd = st.word
  first : f0 = st.first

set_option maxHeartbeats 1000000 in
theorem part1a {sc L c1 c2 c3 c4 c5 c6 c7 fa : Addr} {code : Value} {Q : Flow → Shared → Prop}
    (S : St b s ((L, .fro (lawFr (some (.ref sc)) none none none none none none none none none none none none none none)) :: (c7, .cel none) :: (c6, .cel none) :: (c5, .cel none) :: (c4, .cel none) :: (c3, .cel none) :: (c2, .cel none) :: (c1, .cel none) :: l))
    (h : ∀ s' Row Mk Sz Sp So Ma tw t0 tf, St b s' (ldg1 Row Mk Sz Sp So Ma L c1 c2 c3 c4 c5 c6 c7 [] [] [] [] [] [(0, t0)] (lawFr (some (.ref sc)) (some (.ref Row)) (some (.str ⟨([] : List Nat).toArray⟩ tw)) (some (.ref Sp)) (some (.ref So)) (some (.ref Ma)) (some (.int 0 tf)) none none none none none none none none) l) →
      wpAny (model prg w) A (execs ((dAt 22).body.drop 8) (lawEnv L c1 c2 c3 c4 c5 c6 c7 fa code)) Q E s') :
    wpAny (model prg w) A (execs (dAt 22).body (lawEnv L c1 c2 c3 c4 c5 c6 c7 fa code)) Q E s := by
  with_unfolding_all refine wpAny_execs_cons ?_
  refine wpAny_Assign_Name (r_List (b := b) (wpAny_items_nil ⟨_, S, Nat.zero_le _, fun Row s1 S1 => o_st S1 (by walk_at "m put") (by walk_at "m set") fun s2 S2 => ?_⟩))
  with_unfolding_all refine wpAny_execs_cons ?_
  refine wpAny_Assign_Name (r_str S2 fun s3 tw S3 => o_st S3 (by walk_at "m put") (by walk_at "m set") fun s4 S4 => ?_)
  clear S S1 S2 S3
  with_unfolding_all refine wpAny_execs_cons ?_
  refine wpAny_Assign_Name (r_List (b := b) (wpAny_items_nil ⟨_, S4, Nat.zero_le _, fun Mk s1 S1 => r_stc S1 rfl (by walk_at "m put") fun s5 S5 => ?_⟩))
  with_unfolding_all refine wpAny_execs_cons ?_
  refine wpAny_Assign_Name (r_List (b := b) (wpAny_items_nil ⟨_, S5, Nat.zero_le _, fun Sz s1 S1 => r_stc S1 rfl (by walk_at "m put") fun s6 S6 => ?_⟩))
  clear S4 S5
  with_unfolding_all refine wpAny_execs_cons ?_
  refine wpAny_Assign_Name (r_List (b := b) (wpAny_items_nil ⟨_, S6, Nat.zero_le _, fun Sp s1 S1 => o_st S1 (by walk_at "m put") (by walk_at "m set") fun s7 S7 => ?_⟩))
  with_unfolding_all refine wpAny_execs_cons ?_
  refine wpAny_Assign_Name (r_List (b := b) (wpAny_items_nil ⟨_, S7, Nat.zero_le _, fun So s1 S1 => o_st S1 (by walk_at "m put") (by walk_at "m set") fun s8 S8 => ?_⟩))
  clear S6 S7
  with_unfolding_all refine wpAny_execs_cons ?_
  refine wpAny_Assign_Name (r_List (b := b) (wpAny_items_cons (r_int S8 fun s9 t0 S9 h9 => wpAny_items_nil ⟨_, S9, Nat.le_of_ble_eq_true rfl, fun Ma s1 S1 => o_st S1 (by walk_at "m put") (by walk_at "m set") fun s10 S10 => ?_⟩)))
  with_unfolding_all refine wpAny_execs_cons ?_
  refine wpAny_Assign_Name (r_int S10 fun s11 tf S11 h11 => o_st S11 (by walk_at "m put") (by walk_at "m set") fun s12 S12 => ?_)
  clear S8 S9 S10 S11
  have e0 : Str.ofString "" = ⟨([] : List Nat).toArray⟩ := by decide +kernel
  rw [e0] at S12
  have S13 := S12.perm (perm7 _ _ _ _ _ _ _ _)
  with_unfolding_all exact h _ Row Mk Sz Sp So Ma tw t0 tf S13

theorem ldg1_perm {Row Mk Sz Sp So Ma L c1 c2 c3 c4 c5 c6 c7 : Addr} {rs : List (Nat × Tok)} {ms : List (Int × Tok)} {szs : List Bool} {ks : List (Nat × Tok)} {sos mas : List (Int × Tok)} {fr : List (Str × Option Value)} (p : Addr × It) :
    (ldg1 Row Mk Sz Sp So Ma L c1 c2 c3 c4 c5 c6 c7 rs ms szs ks sos mas fr (p :: l)).Perm (p :: ldg1 Row Mk Sz Sp So Ma L c1 c2 c3 c4 c5 c6 c7 rs ms szs ks sos mas fr l) :=
  List.perm_middle (l₁ := [_, _, _, _, _, _, _, _, _, _, _, _, _, _])

set_option maxHeartbeats 2000000 in
theorem part1b (G : Gr w b mg mb) (hr : Room A 1) {sc L c1 c2 c3 c4 c5 c6 c7 fa Row Mk Sz Sp So Ma : Addr} {tw t0 tf : Tok} {code : Value} {sps : List (Int × Tok)} {Q : Flow → Shared → Prop} (hsc : Has b l sc (intsV sps)) (hsl : sps.length ≤ 63)
    (S : St b s (ldg1 Row Mk Sz Sp So Ma L c1 c2 c3 c4 c5 c6 c7 [] [] [] [] [] [(0, t0)] (lawFr (some (.ref sc)) (some (.ref Row)) (some (.str ⟨([] : List Nat).toArray⟩ tw)) (some (.ref Sp)) (some (.ref So)) (some (.ref Ma)) (some (.int 0 tf)) none none none none none none none none) l))
    (h : ∀ s' Ma rs ms szs ks sos mas wd f0 tw tf ox ol ok, Part1 (lRun (lawXs (sps.map (·.1)))) rs ms szs ks sos mas wd f0 → St b s' (ldg1 Row Mk Sz Sp So Ma L c1 c2 c3 c4 c5 c6 c7 rs ms szs ks sos mas (lawFr (some (.ref sc)) (some (.ref Row)) (some (.str ⟨wd.toArray⟩ tw)) (some (.ref Sp)) (some (.ref So)) (some (.ref Ma)) (some (.int f0 tf)) ox ol ok none none none none none) l) →
      wpAny (model prg w) A (execs ((dAt 22).body.drop 9) (lawEnv L c1 c2 c3 c4 c5 c6 c7 fa code)) Q (fun _ _ => False) s') :
    wpAny (model prg w) A (execs ((dAt 22).body.drop 8) (lawEnv L c1 c2 c3 c4 c5 c6 c7 fa code)) Q (fun _ _ => False) s := by
  with_unfolding_all refine wpAny_execs_cons ?_
  have hspl : (intsV sps).length = sps.length := List.length_map _
  refine wpAny_For (r_take (b := b) (wpAny_BinOp (o_ld S (by walk_at "m mem") rfl ?_)))
  with_reducible refine r_List (b := b) ?_
  with_reducible refine wpAny_items_cons (he := star_const) (r_int S fun s1 u1 S1 _ => ?_)
  with_reducible refine wpAny_items_cons (he := star_const) (r_int S1 fun s2 u2 S2 _ => ?_)
  with_reducible refine wpAny_items_cons (he := star_const) (r_int S2 fun s3 u3 S3 _ => ?_)
  with_reducible refine wpAny_items_cons (he := star_const) (r_int S3 fun s4 u4 S4 _ => ?_)
  refine wpAny_items_nil ⟨_, S4, Nat.le_of_ble_eq_true rfl, fun K s5 S5 => ?_⟩
  clear S S1 S2 S3 S4
  refine r_add_lists S5 (hsc.at' S5 (by walk_at "m sub")) (S5.lst (by walk_at "m mem")) (by rw [hspl]; show sps.length + 4 ≤ 1000; omega) fun X0 s6 S6 => r_int S6 fun s7 u7 S7 _ => ?_
  have e0 : intsV sps ++ [.int 1 u1, .int 10 u2, .int 20 u3, .int 3 u4] = intsV (sps ++ [(1, u1), (10, u2), (20, u3), (3, u4)]) := by unfold intsV; rw [List.map_append]; rfl
  rw [e0] at S7
  have hlen0 : (intsV (sps ++ [(1, u1), (10, u2), (20, u3), (3, u4)])).length = sps.length + 4 := by unfold intsV; rw [List.length_map, List.length_append]; rfl
  refine ⟨X0, _, _, 4, u7, rfl, rfl, S7, S7.lst (by walk_at "m mem"), by omega, by omega, fun X s8 S8 => ?_⟩
  have e1 : (intsV (sps ++ [(1, u1), (10, u2), (20, u3), (3, u4)])).take 4 = intsV ((sps ++ [(1, u1), (10, u2), (20, u3), (3, u4)]).take 4) := by unfold intsV; rw [List.map_take]
  rw [e1] at S8
  have hxs : ((sps ++ [(1, u1), (10, u2), (20, u3), (3, u4)]).take 4).map (fun q : Int × Tok => q.1) = lawXs (sps.map (·.1)) := by unfold lawXs; rw [List.map_take, List.map_append]; rfl
  have hx4 : ((sps ++ [(1, u1), (10, u2), (20, u3), (3, u4)]).take 4).length = 4 := by rw [List.length_take, List.length_append]; show min 4 (sps.length + 4) = 4; omega
  generalize (sps ++ [(1, u1), (10, u2), (20, u3), (3, u4)]).take 4 = xp at S8 hxs hx4
  have S9 := S8.sub (List.Sublist.cons_cons _ (.cons _ (.cons _ (List.Sublist.refl _))))
  clear S5 S6 S7 S8
  have hxl : (intsV xp).length = 4 := (List.length_map _).trans hx4
  refine r_iter_list (vs := intsV xp) (fun i l₁ => ∃ Ma rs ms szs ks sos mas wd f0 tw tf ox ol ok, Part1 (lRun ((lawXs (sps.map (·.1))).take i)) rs ms szs ks sos mas wd f0 ∧
      l₁ = ldg1 Row Mk Sz Sp So Ma L c1 c2 c3 c4 c5 c6 c7 rs ms szs ks sos mas (lawFr (some (.ref sc)) (some (.ref Row)) (some (.str ⟨wd.toArray⟩ tw)) (some (.ref Sp)) (some (.ref So)) (some (.ref Ma)) (some (.int f0 tf)) ox ol ok none none none none none) ((X, .lst (intsV xp)) :: l))
    hr.hh (S9.perm (ldg1_perm _)) ⟨Ma, [], [], [], [], [], [(0, t0)], [], 0, tw, tf, none, none, none, ⟨rfl, rfl, rfl, rfl, rfl, rfl, rfl, rfl⟩, rfl⟩ ?_ ?_ ?_
  · rintro i l₁ s₁ ⟨Ma, rs, ms, szs, ks, sos, mas, wd, f0, tw, tf, ox, ol, ok, _, rfl⟩ S₁
    exact S₁.lst (by walk_at "m mem")
  · rintro i v l₁ s₁ I hv ⟨Ma, rs, ms, szs, ks, sos, mas, wd, f0, tw, tf, ox, ol, ok, hP, rfl⟩ S₁
    obtain ⟨p, hp, rfl⟩ : ∃ p, xp[i]? = some p ∧ v = .int p.1 p.2 := by
      unfold intsV at hv
      rw [List.getElem?_map] at hv
      obtain ⟨p, hp, e⟩ := Option.map_eq_some_iff.mp hv
      exact ⟨p, hp, e.symm⟩
    have hi4 : i < 4 := by have := (List.getElem?_eq_some_iff.mp hp).1; omega
    have hstep : lRun ((lawXs (sps.map (·.1))).take (i + 1)) = lStep (lRun ((lawXs (sps.map (·.1))).take i)) p.1 := by
      rw [List.take_add_one, ← hxs, List.getElem?_map, hp]; exact lRun_snoc _ _
    have hlen := LLen.of ((lawXs (sps.map (·.1))).take i)
    have hti : ((lawXs (sps.map (·.1))).take i).length = i := by rw [List.length_take, ← hxs, List.length_map, hx4]; omega
    rw [hti] at hlen
    generalize lRun ((lawXs (sps.map (·.1))).take i) = st at hP hstep hlen
    obtain ⟨q1, q2, q3, q4, q5, q6, q7, q8⟩ := hP
    have g1 : rs.length = st.row.length := by rw [← q1, List.length_map]
    have g2 : ms.length = st.marks.length := by rw [← q2, List.length_map]
    have g4 : ks.length = st.spots.length := by rw [← q4, List.length_map]
    have g5 : sos.length = st.some.length := by rw [← q5, List.length_map]
    have g6 : mas.length = st.masks.length := by rw [← q6, List.length_map]
    have w1 := hlen.row
    have w2 := hlen.marks
    have w3 := hlen.sizes
    have w4 := hlen.spots
    have w5 := hlen.some
    have w6 := hlen.masks
    have w7 := hlen.word
    have w8 : 2 ^ st.spots.length ≤ 2 ^ 4 := Nat.pow_le_pow_right (by decide) (by omega)
    refine wpAny_assign_Name (o_st S₁ (by walk_at "m put") (by walk_at "m set") fun s2 S2 => ?_)
    refine turn1a G hr (by omega) S2 fun s3 rs' t1 t2 hrow S3 => ?_
    have hrow' : rs'.map (·.1) = lRow st p.1 := by rw [hrow]; unfold lRow; rw [q1]
    have hrl' : rs'.length ≤ st.row.length + 1 := by
      have := congrArg List.length hrow'
      rw [List.length_map] at this
      have := lRow_len st p.1
      omega
    have hwl : wd.length = st.word.length := by rw [q7]
    refine turn1b G hr (by omega) (by omega) (by omega) (by omega) (by omega) (by omega) S3 fun s4 Ma' rs2 ks' sos' mas' tw' hr2 hk2 hs2 hm2 S4 => ?_
    have hzl : szs.length = st.sizes.length := by rw [q3]
    refine turn1c (by omega) (by omega) S4 fun s5 ms' tf' hms2 S5 => ?_
    have hrl2 : rs'.length = (lRow st p.1).length := by rw [← hrow', List.length_map]
    rw [hstep]
    refine ⟨_, ⟨Ma', rs2, ms', szs ++ [szX p.1], ks', sos', mas', wd ++ [wdX p.1], _, tw', tf', _, _, _, ⟨?_, ?_, ?_, ?_, ?_, ?_, ?_, ?_⟩, rfl⟩, S5⟩
    · rw [hr2, hrow']; rfl
    · rw [hms2, q2]; rfl
    · rw [q3]; rfl
    · rw [hk2, q4, hrl2]; rfl
    · rw [hs2, q5]; rfl
    · rw [hm2, q6, g2]; rfl
    · rw [q7]; rfl
    · rw [q8]; rfl
  · rintro l₁ s₁ ⟨Ma, rs, ms, szs, ks, sos, mas, wd, f0, tw, tf, ox, ol, ok, hP, rfl⟩ S₁
    refine wpAny_execs_nil ?_
    rw [hxl, List.take_of_length_le (by rw [← hxs, List.length_map, hx4]; exact Nat.le_refl _)] at hP
    exact h _ Ma rs ms szs ks sos mas wd f0 tw tf ox ol ok hP ((S₁.perm (ldg1_perm _).symm).sub (List.sublist_cons_self _ _))
end
end Mine
end

section -- Law5
open PySem PySem.W PyProof.Rows PySem.Calls
set_option Elab.async false
set_option maxRecDepth 100000
namespace Mine
local macro_rules | `(tactic| walk_at "m mem") => `(tactic| first | exact List.Mem.head _ | (refine List.Mem.tail _ ?_; walk_at "m mem"))
local macro_rules | `(tactic| walk_at "m put") => `(tactic| first | exact Put.head | (apply Put.tail; walk_at "m put"))
local macro_rules | `(tactic| walk_at "m set") => `(tactic| first | with_reducible exact OSet.head | (apply OSet.tail; (focus decide); walk_at "m set"))
local macro_rules | `(tactic| walk_at "m sub") => `(tactic| first | exact List.Sublist.refl _ | (apply List.Sublist.cons; walk_at "m sub"))
section
variable {w : World} {A : Around} {E : Value → Shared → Prop} {b s : Shared} {l : List (Addr × It)} {mg mb : Str → Option Value} {a : Addr}

theorem r_int' {prog : Program} {env : Env} {i : Int} {k : Nat} {pos : Pos} {Q : Value → Shared → Prop} (S : St b s l) (h : ∀ s' t', St b s' l → b.toks ≤ t' → t' < s'.toks → Q (.int i t') s') : wpAny (model prog w) A (eval (.Constant (.int i) k pos) env) Q E s :=
  wpAny_Constant_int (h _ _ S.tick S.tk (Nat.lt_succ_self _))
theorem r_List' {prog : Program} {env : Env} {elts : List Expr} {pos : Pos} {Q : Value → Shared → Prop}
    (h : wpAny (model prog w) A (spliced (backTo pos (starEach elts env))) (fun vs s₁ => ∃ b' l₁, St b' s₁ l₁ ∧ vs.length ≤ 1000 ∧ ∀ D s', St b' s' ((D, .lst vs) :: l₁) → Q (.ref D) s') E s) :
    wpAny (model prog w) A (eval (.List elts pos) env) Q E s :=
  PySem.wpAny_List (wpAny_mono h (fun _ _ x => let ⟨_, _, S₁, hz, hQ⟩ := x; r_list_end S₁ hz hQ) fun _ _ x => x)
theorem perm4 (p1 p2 p3 p4 : Addr × It) (r : List (Addr × It)) : (p1 :: p2 :: p3 :: p4 :: r).Perm (p4 :: p3 :: p2 :: p1 :: r) :=
  (List.reverse_perm [p4, p3, p2, p1]).append_right r

def ones : List Int := [5, 2 ^ 40 + 6, 9 - 2 ^ 70]
def wideAt : Nat → List Int
  | 0 => [0]
  | i + 1 => wideAt i ++ (wideAt i).map fun o => Builtin.bitXor (ones.getD i 0) o
theorem wideAt_len : ∀ i, (wideAt i).length = 2 ^ i
  | 0 => rfl
  | i + 1 => by rw [wideAt, List.length_append, List.length_map, wideAt_len i, Nat.pow_succ]; omega

/-- the ledger of the second part -/
abbrev ldg2 (Sn Fw Wd Row Mk Sz Sp So Ma L c1 c2 c3 c4 c5 c6 c7 : Addr) (sns fws wds : List (Int × Tok)) (o5 o6 : Option Value) (rs : List (Nat × Tok)) (ms : List (Int × Tok)) (szs : List Bool) (ks : List (Nat × Tok)) (sos mas : List (Int × Tok)) (fr : List (Str × Option Value)) (l : List (Addr × It)) : List (Addr × It) :=
  (L, .fro fr) :: (Sn, .lst (intsV sns)) :: (Fw, .lst (intsV fws)) :: (Wd, .lst (intsV wds)) :: (Row, .lst (signsV rs)) :: (Mk, .lst (intsV ms)) :: (Sz, .lst (boolsV szs)) :: (Sp, .lst (natsV ks)) :: (So, .lst (intsV sos)) :: (Ma, .lst (intsV mas)) ::
    (c7, .cel none) :: (c6, .cel o6) :: (c5, .cel o5) :: (c4, .cel (some (.ref Wd))) :: (c3, .cel (some (.ref Fw))) :: (c2, .cel (some (.ref Sz))) :: (c1, .cel (some (.ref Mk))) :: l

section
variable {Row Mk Sz Sp So Ma L c1 c2 c3 c4 c5 c6 c7 fa : Addr} {code : Value} {rs : List (Nat × Tok)} {ms : List (Int × Tok)} {szs : List Bool} {ks : List (Nat × Tok)} {sos mas : List (Int × Tok)} {sc wv fv : Value} {ox ol ok : Option Value}
  {Q : Flow → Shared → Prop}

set_option maxHeartbeats 1000000 in
theorem part2a (S : St b s (ldg1 Row Mk Sz Sp So Ma L c1 c2 c3 c4 c5 c6 c7 rs ms szs ks sos mas (lawFr (some sc) (some (.ref Row)) (some wv) (some (.ref Sp)) (some (.ref So)) (some (.ref Ma)) (some fv) ox ol ok none none none none none) l))
    (h : ∀ s' Sn Fw Wd t0 fws t1, fws.map (fun q : Int × Tok => q.1) = [0, 9, 9, 9, 9, 9, 9, 9] → b.toks ≤ t1 → t1 < s'.toks → St b s' (ldg2 Sn Fw Wd Row Mk Sz Sp So Ma L c1 c2 c3 c4 c5 c6 c7 [(0, t0)] fws [(0, t1)] none none rs ms szs ks sos mas (lawFr (some sc) (some (.ref Row)) (some wv) (some (.ref Sp)) (some (.ref So)) (some (.ref Ma)) (some fv) ox ol ok (some (.ref Sn)) none none none none) l) →
      wpAny (model prg w) A (execs ((dAt 22).body.drop 12) (lawEnv L c1 c2 c3 c4 c5 c6 c7 fa code)) Q E s') :
    wpAny (model prg w) A (execs ((dAt 22).body.drop 9) (lawEnv L c1 c2 c3 c4 c5 c6 c7 fa code)) Q E s := by
  with_unfolding_all refine wpAny_execs_cons ?_
  refine wpAny_Assign_Name (r_List (b := b) (wpAny_items_cons (r_int S fun s9 t0 S9 h9 => wpAny_items_nil ⟨_, S9, Nat.le_of_ble_eq_true rfl, fun Sn s1 S1 => o_st S1 (by walk_at "m put") (by walk_at "m set") fun s2 S2 => ?_⟩)))
  clear S S9 S1
  with_unfolding_all refine wpAny_execs_cons ?_
  refine wpAny_Assign_Name (wpAny_BinOp (r_List (b := b) (wpAny_items_cons (r_int S2 fun s3 t3 S3 h3 => wpAny_items_nil ⟨_, S3, Nat.le_of_ble_eq_true rfl, fun F1 s4 S4 => ?_⟩))))
  refine wpAny_BinOp (r_List (b := b) (wpAny_items_cons (r_int S4 fun s5 t5 S5 h5 => wpAny_items_nil ⟨_, S5, Nat.le_of_ble_eq_true rfl, fun F2 s6 S6 => r_int S6 fun s7 t7 S7 h7 => ?_⟩)))
  refine r_mul_list S7 (by walk_at "m mem") (by decide) (by decide) (by decide) fun F3 s8 S8 => ?_
  refine r_add_lists S8 (S8.lst (by walk_at "m mem")) (S8.lst (by walk_at "m mem")) (Nat.le_of_ble_eq_true rfl) fun Fw s9 S9 => ?_
  refine r_stc S9 rfl (by walk_at "m put") fun s10 S10 => ?_
  have S11 := S10.sub (List.Sublist.cons_cons _ (.cons _ (.cons _ (.cons _ (List.Sublist.refl _)))))
  clear S2 S3 S4 S5 S6 S7 S8 S9 S10
  have ef : ([.int 0 t3] ++ (List.replicate (7 : Int).toNat [.int 9 t5]).flatten : List Value) = intsV [(0, t3), (9, t5), (9, t5), (9, t5), (9, t5), (9, t5), (9, t5), (9, t5)] := rfl
  rw [ef] at S11
  with_unfolding_all refine wpAny_execs_cons ?_
  refine wpAny_Assign_Name (r_List' (wpAny_items_cons (r_int' S11 fun s12 t1 S12 h12 h12' => wpAny_items_nil ⟨_, _, S12.up, Nat.le_of_ble_eq_true rfl, fun Wd s13 S13 => r_stc S13 rfl (by walk_at "m put") fun s14 S14 => ?_⟩)))
  have S15 := (S14.down S12.tk S12.pos).perm (perm4 _ _ _ _ _)
  with_unfolding_all exact h _ Sn Fw Wd t0 [(0, t3), (9, t5), (9, t5), (9, t5), (9, t5), (9, t5), (9, t5), (9, t5)] t1 rfl h12 (Nat.lt_of_lt_of_le h12' S14.tk) S15
end
end
end Mine
end

section -- Law6
open PySem PySem.W PyProof.Rows PySem.Calls
set_option Elab.async false
set_option maxRecDepth 100000
namespace Mine
local macro_rules | `(tactic| walk_at "m mem") => `(tactic| first | exact List.Mem.head _ | (refine List.Mem.tail _ ?_; walk_at "m mem"))
local macro_rules | `(tactic| walk_at "m put") => `(tactic| first | exact Put.head | (apply Put.tail; walk_at "m put"))
local macro_rules | `(tactic| walk_at "m set") => `(tactic| first | with_reducible exact OSet.head | (apply OSet.tail; (focus decide); walk_at "m set"))
local macro_rules | `(tactic| walk_at "m sub") => `(tactic| first | exact List.Sublist.refl _ | (apply List.Sublist.cons; walk_at "m sub"))
section
variable {w : World} {A : Around} {E : Value → Shared → Prop} {b s : Shared} {l : List (Addr × It)} {mg mb : Str → Option Value} {a : Addr}
section
variable {Sn Fw Wd Row Mk Sz Sp So Ma L c1 c2 c3 c4 c5 c6 c7 fa : Addr} {code : Value} {sns fws : List (Int × Tok)} {rs : List (Nat × Tok)} {ms : List (Int × Tok)} {szs : List Bool} {ks : List (Nat × Tok)} {sos mas : List (Int × Tok)} {fr : List (Str × Option Value)} {o6 : Option Value}
  {Q : Flow → Shared → Prop}

theorem ldg2_perm {wds : List (Int × Tok)} {o5 : Option Value} (p : Addr × It) :
    (ldg2 Sn Fw Wd Row Mk Sz Sp So Ma L c1 c2 c3 c4 c5 c6 c7 sns fws wds o5 o6 rs ms szs ks sos mas fr (p :: l)).Perm (p :: ldg2 Sn Fw Wd Row Mk Sz Sp So Ma L c1 c2 c3 c4 c5 c6 c7 sns fws wds o5 o6 rs ms szs ks sos mas fr l) :=
  List.perm_middle (l₁ := [_, _, _, _, _, _, _, _, _, _, _, _, _, _, _, _, _])

set_option maxHeartbeats 1000000 in
theorem part2b (hr : Room A 1) {t1 : Tok} (ht1 : t1 < s.toks) (hb1 : b.toks ≤ t1)
    (S : St b s (ldg2 Sn Fw Wd Row Mk Sz Sp So Ma L c1 c2 c3 c4 c5 c6 c7 sns fws [(0, t1)] none o6 rs ms szs ks sos mas fr l))
    (h : ∀ s' Wd wds o5, wds.map (fun q : Int × Tok => q.1) = wideAt 3 → (∀ p ∈ wds, b.toks ≤ p.2 ∧ p.2 < s'.toks) → St b s' (ldg2 Sn Fw Wd Row Mk Sz Sp So Ma L c1 c2 c3 c4 c5 c6 c7 sns fws wds o5 o6 rs ms szs ks sos mas fr l) →
      wpAny (model prg w) A (execs ((dAt 22).body.drop 13) (lawEnv L c1 c2 c3 c4 c5 c6 c7 fa code)) Q (fun _ _ => False) s') :
    wpAny (model prg w) A (execs ((dAt 22).body.drop 12) (lawEnv L c1 c2 c3 c4 c5 c6 c7 fa code)) Q (fun _ _ => False) s := by
  with_unfolding_all refine wpAny_execs_cons ?_
  have S0 := S.up
  refine wpAny_For (r_List (b := up b s.toks) (wpAny_items_cons (r_int S0 fun s1 u1 S1 _ => wpAny_items_cons ?_)))
  refine wpAny_BinOp (wpAny_BinOp (r_int S1 fun s2 u2 S2 _ => r_int S2 fun s3 u3 S3 _ => r_pow S3 (by decide) (by decide) (by decide) fun s4 u4 S4 _ _ => r_int S4 fun s5 u5 S5 _ => r_add S5 fun s6 u6 S6 _ => wpAny_items_cons ?_))
  refine wpAny_BinOp (r_int S6 fun s7 u7 S7 _ => wpAny_BinOp (r_int S7 fun s8 u8 S8 _ => r_int S8 fun s9 u9 S9 _ => r_pow S9 (by decide) (by decide) (by decide) fun s10 u10 S10 _ _ => r_sub S10 fun s11 u11 S11 _ => wpAny_items_nil ⟨_, S11, Nat.le_of_ble_eq_true rfl, fun X s12 S12 => ?_⟩))
  have T0 : s.toks ≤ s12.toks := S12.tk
  have eo : ([.int 5 u1, .int (2 ^ (40 : Int).toNat + 6) u6, .int (9 - 2 ^ (70 : Int).toNat) u11] : List Value) = intsV [(5, u1), (2 ^ 40 + 6, u6), (9 - 2 ^ 70, u11)] := rfl
  rw [eo] at S12
  have S13 := (S12.down S.tk S.pos).perm (ldg2_perm _)
  clear S0 S1 S2 S3 S4 S5 S6 S7 S8 S9 S10 S11 S12
  refine r_iter_listT (vs := intsV [(5, u1), (2 ^ 40 + 6, u6), (9 - 2 ^ 70, u11)]) (fun i l₁ tk => ∃ Wd wds o5, wds.map (fun q : Int × Tok => q.1) = wideAt i ∧ (∀ p ∈ wds, b.toks ≤ p.2 ∧ p.2 < tk) ∧
      l₁ = ldg2 Sn Fw Wd Row Mk Sz Sp So Ma L c1 c2 c3 c4 c5 c6 c7 sns fws wds o5 o6 rs ms szs ks sos mas fr ((X, .lst (intsV [(5, u1), (2 ^ 40 + 6, u6), (9 - 2 ^ 70, u11)])) :: l))
    ?_ hr.hh S13 ⟨Wd, [(0, t1)], none, rfl, fun p hp => ?_, rfl⟩ ?_ ?_ ?_
  · rintro i l₁ m n hmn ⟨Wd, wds, o5, e1, e2, rfl⟩
    exact ⟨Wd, wds, o5, e1, fun p hp => ⟨(e2 p hp).1, Nat.lt_of_lt_of_le (e2 p hp).2 hmn⟩, rfl⟩
  · rw [List.mem_singleton] at hp; subst hp
    exact ⟨hb1, Nat.lt_of_lt_of_le ht1 T0⟩
  · rintro i l₁ n s₁ ⟨Wd, wds, o5, e1, e2, rfl⟩ S₁
    exact S₁.lst (by walk_at "m mem")
  · rintro i v l₁ s₁ I hv ⟨Wd, wds, o5, e1, e2, rfl⟩ S₁
    have hi3 : i < 3 := (List.getElem?_eq_some_iff.mp hv).1
    obtain ⟨u, hu⟩ : ∃ u, v = .int (ones.getD i 0) u := by
      obtain ⟨t, ht⟩ := item_of (ns := ones) (S₁.lst (a := X) (by walk_at "m mem")) (show IntsAre _ ones from intsV_are [(5, u1), (2 ^ 40 + 6, u6), (9 - 2 ^ 70, u11)]) (k := i) hi3
      rw [hv] at ht
      exact ⟨t, Option.some.inj ht⟩
    subst hu
    have hwl : (intsV wds).length = wds.length := List.length_map _
    have hwl2 : wds.length = 2 ^ i := by rw [← wideAt_len i, ← e1, List.length_map]
    have h8 : 2 ^ i ≤ 2 ^ 3 := Nat.pow_le_pow_right (by decide) (by omega)
    refine wpAny_assign_Name (r_stc S₁ rfl (by walk_at "m put") fun s2 S2 => ?_)
    with_unfolding_all refine wpAny_execs_cons ?_
    refine wpAny_Assign_Name (wpAny_BinOp (r_cell S2 rfl (by walk_at "m mem") (r_ListComp [((Str.ofString "one"), c5)] rfl (r_cell S2 rfl (by walk_at "m mem") ?_))))
    refine r_comp_list (vs := intsV wds) hr.hh S2 (by omega) (fun j outs l₁ tk => l₁ = (I, .itr X (i + 1)) :: ldg2 Sn Fw Wd Row Mk Sz Sp So Ma L c1 c2 c3 c4 c5 c6 c7 sns fws wds (some (.int (ones.getD i 0) u)) o6 rs ms szs ks sos mas fr ((X, .lst (intsV [(5, u1), (2 ^ 40 + 6, u6), (9 - 2 ^ 70, u11)])) :: l)
        ∧ ∃ ps : List (Int × Tok), outs = intsV ps ∧ ps.map (·.1) = ((wds.map (fun q : Int × Tok => q.1)).take j).map (fun o => Builtin.bitXor (ones.getD i 0) o) ∧ ps.length = j ∧ ∀ p ∈ ps, b.toks ≤ p.2 ∧ p.2 < tk)
      ?_ ⟨rfl, [], rfl, rfl, rfl, by simp⟩ ?_ ?_ ?_ ?_
    · rintro j outs l₁ m n hmn ⟨rfl, ps, f1, f2, f3, f4⟩
      exact ⟨rfl, ps, f1, f2, f3, fun p hp => ⟨(f4 p hp).1, Nat.lt_of_lt_of_le (f4 p hp).2 hmn⟩⟩
    · rintro j outs l₁ n ⟨_, ps, rfl, _, e, _⟩
      unfold intsV; rw [List.length_map]; omega
    · rintro j outs l₁ n s₁ ⟨rfl, _⟩ S₁
      exact S₁.lst (by walk_at "m mem")
    · rintro j v outs l₁ s₁ I' C D hj hv ⟨rfl, ps, rfl, f2, f3, f4⟩ S₁
      obtain ⟨p, hp, rfl⟩ : ∃ p, wds[j]? = some p ∧ v = .int p.1 p.2 := by
        unfold intsV at hv
        rw [List.getElem?_map] at hv
        obtain ⟨p, hp, e⟩ := Option.map_eq_some_iff.mp hv
        exact ⟨p, hp, e.symm⟩
      refine wpAny_pure ?_
      rw [if_pos rfl]
      refine wpAny_BinOp (r_cell S₁ rfl (by walk_at "m mem") (r_ld S₁ (by walk_at "m mem") rfl (r_xor S₁ fun s5 t7 S5 h5 h5' => ?_)))
      intro htk
      refine ⟨_, ⟨rfl, ps ++ [(Builtin.bitXor (ones.getD i 0) p.1, t7)], ?_, ?_, by rw [List.length_append, f3]; rfl, ?_⟩, S5⟩
      · unfold intsV; simp
      · rw [List.map_append, f2, List.take_add_one, List.getElem?_map, hp]; simp
      · intro q hq
        rcases List.mem_append.mp hq with hq | hq
        · exact ⟨(f4 q hq).1, Nat.lt_of_lt_of_le (f4 q hq).2 htk⟩
        · rw [List.mem_singleton] at hq; subst hq; exact ⟨h5, h5'⟩
    · rintro outs l₁ s₃ D C al ⟨rfl, ps, rfl, f2, f3, f4⟩ S₃
      have hT := S₃.tk
      have hP := S₃.pos
      refine post_none S₃.up fun s4 S4 => ?_
      have hpl : ps.length = wds.length := by rw [f3, hwl]
      have hfull : ps.map (·.1) = (wds.map (fun q : Int × Tok => q.1)).map (fun o => Builtin.bitXor (ones.getD i 0) o) := by
        rw [f2, List.take_of_length_le (by rw [List.length_map, hwl]; exact Nat.le_refl _)]
      refine r_add_lists S4 (S4.lst (by walk_at "m mem")) (S4.lst (by walk_at "m mem")) (by have : (intsV ps).length = ps.length := List.length_map _; omega) fun Wd' s5 S5 => ?_
      refine r_stc S5 rfl (by walk_at "m put") fun s6 S6 => ?_
      refine wpAny_execs_nil ?_
      intro htk
      have e5 : intsV wds ++ intsV ps = intsV (wds ++ ps) := by unfold intsV; rw [List.map_append]
      rw [e5] at S6
      have hT6 : s₃.toks ≤ s6.toks := S6.tk
      have S7 := ((S6.down hT hP).sub (.cons_cons _ (.cons _ (.cons_cons _ (.cons_cons _ (.cons_cons _ (.cons_cons _ (.cons _ (List.Sublist.refl _))))))))).perm (List.perm_middle (l₁ := [_, _, _, _]))
      refine ⟨_, ⟨Wd', wds ++ ps, some (.int (ones.getD i 0) u), ?_, ?_, rfl⟩, S7⟩
      · rw [List.map_append, e1, hfull, e1]; rfl
      · intro q hq
        rcases List.mem_append.mp hq with hq | hq
        · exact ⟨(e2 q hq).1, Nat.lt_of_lt_of_le (e2 q hq).2 htk⟩
        · exact ⟨(f4 q hq).1, Nat.lt_of_lt_of_le (f4 q hq).2 hT6⟩
  · rintro l₁ s₁ ⟨Wd, wds, o5, e1, e2, rfl⟩ S₁
    refine wpAny_execs_nil ?_
    exact h _ Wd wds o5 e1 e2 ((S₁.perm (ldg2_perm _).symm).sub (List.sublist_cons_self _ _))
end
end
end Mine
end

section -- Law7
open PySem PySem.W PyProof.Rows PySem.Calls
set_option Elab.async false
set_option maxRecDepth 100000
namespace Mine
local macro_rules | `(tactic| walk_at "m mem") => `(tactic| first | exact List.Mem.head _ | (refine List.Mem.tail _ ?_; walk_at "m mem"))
local macro_rules | `(tactic| walk_at "m put") => `(tactic| first | exact Put.head | (apply Put.tail; walk_at "m put"))
local macro_rules | `(tactic| walk_at "m set") => `(tactic| first | with_reducible exact OSet.head | (apply OSet.tail; (focus decide); walk_at "m set"))
local macro_rules | `(tactic| walk_at "m sub") => `(tactic| first | exact List.Sublist.refl _ | (apply List.Sublist.cons; walk_at "m sub"))
section
variable {w : World} {A : Around} {E : Value → Shared → Prop} {b s : Shared} {l : List (Addr × It)} {mg mb : Str → Option Value} {a : Addr}

def spanStep (sp : List Int) (m : Int) : List Int := if sp.any (· == m) then sp else sp ++ sp.map fun t => Builtin.bitXor m t
def fewAt (fw : List Int) (m : Int) (t : Nat) : Int :=
  if 1 + fw.getD (Builtin.bitXor (t : Int) m).toNat 0 < fw.getD t 0 then 1 + fw.getD (Builtin.bitXor (t : Int) m).toNat 0 else fw.getD t 0
def fewStep (fw : List Int) (m : Int) : List Int := (List.range 8).map (fewAt fw m)
theorem rng8 : Builtin.Range.small 0 8 1 = true ∧ Builtin.Range.rangeSize 0 8 1 = ((8 : Nat) : Int) := by decide +kernel
def spanOf (ms : List Int) : List Int := ms.foldl spanStep [0]
def fewOf (ms : List Int) : List Int := ms.foldl fewStep [0, 9, 9, 9, 9, 9, 9, 9]

theorem span_len : ∀ (ms sp : List Int), (ms.foldl spanStep sp).length ≤ 2 ^ ms.length * sp.length
  | [], sp => by simp
  | m :: r, sp => by
    have h1 : (spanStep sp m).length ≤ 2 * sp.length := by
      unfold spanStep; split
      · omega
      · simp; omega
    have := span_len r (spanStep sp m)
    rw [List.foldl_cons, List.length_cons, Nat.pow_succ]
    refine Nat.le_trans this ?_
    rw [Nat.mul_assoc]
    exact Nat.mul_le_mul_left _ h1
theorem few_len (fw : List Int) (m : Int) : (fewStep fw m).length = 8 := by unfold fewStep; simp

theorem xor8n : ∀ a : Nat, a < 8 → ∀ c : Nat, c < 8 → Builtin.bitXor (a : Int) (c : Int) = ((a ^^^ c : Nat) : Int) ∧ a ^^^ c < 8 := by decide +kernel
theorem xor8 {x y : Int} (h0 : 0 ≤ x) (h1 : x < 8) (h2 : 0 ≤ y) (h3 : y < 8) : Builtin.bitXor x y = ((x.toNat ^^^ y.toNat : Nat) : Int) ∧ 0 ≤ Builtin.bitXor x y ∧ Builtin.bitXor x y < 8 := by
  obtain ⟨e, h⟩ := xor8n x.toNat (by omega) y.toNat (by omega)
  have ex : ((x.toNat : Nat) : Int) = x := by omega
  have ey : ((y.toNat : Nat) : Int) = y := by omega
  rw [ex, ey] at e
  exact ⟨e, by omega, by omega⟩

theorem r_notin {prog : Program} {c : Addr} {ps : List (Int × Tok)} {m : Int} {t : Tok} {Q : Value → Shared → Prop} (hl : s.heap.IsList c (intsV ps).toArray) (h : Q (.bool (!(ps.map (fun q : Int × Tok => q.1)).any (· == m))) s) :
    wpAny (model prog w) A (compareOp .NotIn (.int m t) (.ref c)) Q E s := by
  refine SeqAt.notIn_listAt (fun y => match y with | .int a _ => a == m | _ => false) hl (fun y hy => ?_) ?_
  · have hy' : y ∈ intsV ps := by simpa using hy
    obtain ⟨p, _, rfl⟩ := List.mem_map.mp hy'
    exact SeqAt.EqAt.int_int _ _ _ _
  · have e : ((intsV ps).toArray.any fun y => match y with | .int a _ => a == m | _ => false) = (ps.map (fun q : Int × Tok => q.1)).any (· == m) := by
      unfold intsV
      rw [List.any_toArray, List.any_map, List.any_map]; rfl
    rw [e]; exact h

theorem boot_min : bootBuiltins (Str.ofString "min") = some (.builtin "min") := by kernel_rfl

section
variable {Sn Fw Wd Row Mk Sz Sp So Ma L c1 c2 c3 c4 c5 c6 c7 fa : Addr} {code : Value} {sns fws wds : List (Int × Tok)} {rs : List (Nat × Tok)} {ms : List (Int × Tok)} {szs : List Bool} {ks : List (Nat × Tok)} {sos mas : List (Int × Tok)} {o5 : Option Value}
  {Q : Flow → Shared → Prop} {sc wv fv : Value} {rv pv ov av : Value} {ox ol ok : Option Value} {I : Addr} {it : It}

def loop3 : List Stmt := bodyOfFor ((dAt 22).body.drop 13)

set_option maxHeartbeats 2000000 in
theorem turn3 (G : Gr w b mg mb) (hr : Room A 1) {m : Int} {u : Tok} (hm0 : 0 ≤ m) (hm1 : m < 8) (hfl : fws.length = 8) (hsl : sns.length ≤ 100)
    (S : St b s ((I, it) :: ldg2 Sn Fw Wd Row Mk Sz Sp So Ma L c1 c2 c3 c4 c5 c6 c7 sns fws wds o5 (some (.int m u)) rs ms szs ks sos mas (lawFr (some sc) (some rv) (some wv) (some pv) (some ov) (some av) (some fv) ox ol ok (some (.ref Sn)) none none none none) l))
    (h : ∀ s' Sn' Fw' sns' fws', sns'.map (fun q : Int × Tok => q.1) = spanStep (sns.map (fun q : Int × Tok => q.1)) m → fws'.map (fun q : Int × Tok => q.1) = fewStep (fws.map (fun q : Int × Tok => q.1)) m →
      St b s' ((I, it) :: ldg2 Sn' Fw' Wd Row Mk Sz Sp So Ma L c1 c2 c3 c4 c5 c6 c7 sns' fws' wds o5 (some (.int m u)) rs ms szs ks sos mas (lawFr (some sc) (some rv) (some wv) (some pv) (some ov) (some av) (some fv) ox ol ok (some (.ref Sn')) none none none none) l) → Q .next s') :
    wpAny (model prg w) A (execs loop3 (lawEnv L c1 c2 c3 c4 c5 c6 c7 fa code)) Q E s := by
  with_unfolding_all refine wpAny_execs_cons ?_
  refine wpAny_mono (Q := fun f s' => f = .next ∧ ∃ Sn' sns', sns'.map (fun q : Int × Tok => q.1) = spanStep (sns.map (fun q : Int × Tok => q.1)) m ∧ St b s' ((I, it) :: ldg2 Sn' Fw Wd Row Mk Sz Sp So Ma L c1 c2 c3 c4 c5 c6 c7 sns' fws wds o5 (some (.int m u)) rs ms szs ks sos mas (lawFr (some sc) (some rv) (some wv) (some pv) (some ov) (some av) (some fv) ox ol ok (some (.ref Sn')) none none none none) l)) ?_ (fun f s' hh => ?_) (fun _ _ x => x)
  · refine wpAny_If (wpAny_isTrue_Compare1 (r_cell S rfl (by walk_at "m mem") (o_ld S (by walk_at "m mem") rfl (r_notin (S.lst (by walk_at "m mem")) (wpAny_truthy_bool ?_)))))
    have hsn : (intsV sns).length = sns.length := List.length_map _
    cases hin : (sns.map (fun q : Int × Tok => q.1)).any (· == m) with
    | true =>
      rw [if_neg (by decide)]
      exact wpAny_execs_nil ⟨rfl, Sn, sns, by unfold spanStep; rw [if_pos hin], S⟩
    | false =>
      rw [if_pos (by decide)]
      with_unfolding_all refine wpAny_execs_cons ?_
      refine wpAny_Assign_Name (wpAny_BinOp (o_ld S (by walk_at "m mem") rfl (r_ListComp [((Str.ofString "mark"), c6)] rfl (o_ld S (by walk_at "m mem") rfl ?_))))
      refine r_comp_list (vs := intsV sns) hr.hh S (by omega) (fun j outs l₁ tk => l₁ = (I, it) :: ldg2 Sn Fw Wd Row Mk Sz Sp So Ma L c1 c2 c3 c4 c5 c6 c7 sns fws wds o5 (some (.int m u)) rs ms szs ks sos mas (lawFr (some sc) (some rv) (some wv) (some pv) (some ov) (some av) (some fv) ox ol ok (some (.ref Sn)) none none none none) l
          ∧ ∃ ps : List (Int × Tok), outs = intsV ps ∧ ps.map (·.1) = ((sns.map (fun q : Int × Tok => q.1)).take j).map (fun o => Builtin.bitXor m o) ∧ ps.length = j)
        (fun _ _ _ _ _ _ h => h) ⟨rfl, [], rfl, rfl, rfl⟩ ?_ ?_ ?_ ?_
      · rintro j outs l₁ n ⟨_, ps, rfl, _, e⟩
        unfold intsV; rw [List.length_map]; omega
      · rintro j outs l₁ n s₁ ⟨rfl, _⟩ S₁
        exact S₁.lst (by walk_at "m mem")
      · rintro j v outs l₁ s₁ I' C D hj hv ⟨rfl, ps, rfl, f2, f3⟩ S₁
        obtain ⟨p, hp, rfl⟩ : ∃ p, sns[j]? = some p ∧ v = .int p.1 p.2 := by
          unfold intsV at hv
          rw [List.getElem?_map] at hv
          obtain ⟨p, hp, e⟩ := Option.map_eq_some_iff.mp hv
          exact ⟨p, hp, e.symm⟩
        refine wpAny_pure ?_
        rw [if_pos rfl]
        refine wpAny_BinOp (r_cell S₁ rfl (by walk_at "m mem") (r_ld S₁ (by walk_at "m mem") rfl (r_xor S₁ fun s5 t7 S5 h5 h5' => ?_)))
        intro htk
        refine ⟨_, ⟨rfl, ps ++ [(Builtin.bitXor m p.1, t7)], ?_, ?_, by rw [List.length_append, f3]; rfl⟩, S5⟩
        · unfold intsV; simp
        · rw [List.map_append, f2, List.take_add_one, List.getElem?_map, hp]; simp
      · rintro outs l₁ s₃ D C al ⟨rfl, ps, rfl, f2, f3⟩ S₃
        refine post_none S₃ fun s4 S4 => ?_
        have hpl : ps.length = sns.length := by rw [f3, hsn]
        have hfull : ps.map (·.1) = (sns.map (fun q : Int × Tok => q.1)).map (fun o => Builtin.bitXor m o) := by
          rw [f2, List.take_of_length_le (by rw [List.length_map, hsn]; exact Nat.le_refl _)]
        refine r_add_lists S4 (S4.lst (by walk_at "m mem")) (S4.lst (by walk_at "m mem")) (by have : (intsV ps).length = ps.length := List.length_map _; omega) fun Sn' s5 S5 => ?_
        refine o_st S5 (by walk_at "m put") (by walk_at "m set") fun s6 S6 => ?_
        refine wpAny_execs_nil ?_
        have e5 : intsV sns ++ intsV ps = intsV (sns ++ ps) := by unfold intsV; rw [List.map_append]
        rw [e5] at S6
        have S7 := (S6.sub (.cons_cons _ (.cons _ (.cons_cons _ (.cons_cons _ (.cons _ (List.Sublist.refl _))))))).perm (List.perm_middle (l₁ := [_, _]))
        exact ⟨rfl, Sn', sns ++ ps, by rw [List.map_append, hfull]; unfold spanStep; rw [if_neg (by rw [hin]; decide)], S7⟩
  · obtain ⟨rfl, Sn', sns', hs', S1⟩ := hh
    with_unfolding_all refine wpAny_execs_cons ?_
    refine wpAny_Assign_Name (r_ListComp [((Str.ofString "mark"), c6), ((Str.ofString "fewest"), c3)] rfl (r_tcall (b := b) G.g G.bl S1 (G.free _ (by decide)) ((G.boot _ (by decide)).trans boot_range) (wpAny_items_cons (r_int S1 fun s2 u2 S2 _ => wpAny_items_nil (r_range1 S2 fun R s3 S3 => ?_)))))
    have hfn : (intsV fws).length = 8 := (List.length_map _).trans hfl
    refine r_comp_range (n := 8) hr.hh S3 (by walk_at "m mem") (rng8).1 (rng8).2 (by decide)
      (fun i outs l₁ tk => l₁ = (R, .rng 0 8) :: (I, it) :: ldg2 Sn' Fw Wd Row Mk Sz Sp So Ma L c1 c2 c3 c4 c5 c6 c7 sns' fws wds o5 (some (.int m u)) rs ms szs ks sos mas (lawFr (some sc) (some rv) (some wv) (some pv) (some ov) (some av) (some fv) ox ol ok (some (.ref Sn')) none none none none) l
        ∧ ∃ ps : List (Int × Tok), outs = intsV ps ∧ ps.map (·.1) = (List.range i).map (fewAt (fws.map (fun q : Int × Tok => q.1)) m) ∧ ps.length = i)
      (fun _ _ _ _ _ _ h => h) ⟨rfl, [], rfl, rfl, rfl⟩ ?_ ?_ ?_
    · rintro i outs l₁ n ⟨_, ps, rfl, _, e⟩
      unfold intsV; rw [List.length_map]; omega
    · rintro i t outs l₁ s₁ I' C D hi ht ⟨rfl, ps, rfl, e2, e3⟩ S₁
      refine wpAny_pure ?_
      rw [if_pos rfl]
      have ei : (0 + (i : Int)) = (i : Int) := by omega
      rw [ei] at S₁ ⊢
      obtain ⟨x1, x2, x3⟩ := xor8 (x := (i : Int)) (y := m) (by omega) (by omega) hm0 hm1
      obtain ⟨v1, hv1⟩ := item_of (S₁.lst (a := Fw) (by walk_at "m mem")) (intsV_are fws) (k := (i : Int).toNat) (by rw [List.length_map, hfl, Int.toNat_natCast]; exact hi)
      obtain ⟨v2, hv2⟩ := item_of (S₁.lst (a := Fw) (by walk_at "m mem")) (intsV_are fws) (k := (Builtin.bitXor (i : Int) m).toNat) (by rw [List.length_map, hfl]; omega)
      refine r_bcall (b := b) G.g G.bl S₁ (G.free _ (by decide)) ((G.boot _ (by decide)).trans boot_min) (wpAny_items_cons (Subscript_ (r_cell S₁ rfl (by walk_at "m mem") (r_ld S₁ (by walk_at "m mem") rfl (r_item (S₁.lst (by walk_at "m mem")) (by omega) (by omega) hv1 ?_)))))
      refine wpAny_items_cons (wpAny_BinOp (r_int S₁ fun s5 u5 S5 _ => Subscript_ (r_cell S5 rfl (by walk_at "m mem") (wpAny_BinOp (r_ld S5 (by walk_at "m mem") rfl (r_cell S5 rfl (by walk_at "m mem") (r_xor S5 fun s6 u6 S6 _ _ => ?_)))))))
      refine r_item (S6.lst (by walk_at "m mem")) (by omega) (by omega) hv2 (r_add S6 fun s7 u7 S7 _ => wpAny_items_nil (r_min2 hr.hh S7 fun s8 u8 S8 => ?_))
      intro _
      rw [Int.toNat_natCast]
      refine ⟨_, ⟨rfl, ps ++ [(fewAt (fws.map (fun q : Int × Tok => q.1)) m i, u8)], ?_, ?_, by rw [List.length_append, e3]; rfl⟩, S8⟩
      · unfold intsV; rw [List.map_append]; rfl
      · rw [List.map_append, e2, List.range_succ, List.map_append]; rfl
    · rintro outs l₁ s8 D C al ⟨rfl, ps, rfl, e2, e3⟩ S8
      refine post_none S8 fun s4 S4 => ?_
      refine r_stc S4 rfl (by walk_at "m put") fun s6 S6 => ?_
      refine wpAny_execs_nil ?_
      have S7 := (S6.sub (.cons_cons _ (.cons _ (.cons_cons _ (.cons_cons _ (.cons_cons _ (.cons _ (List.Sublist.refl _)))))))).perm (List.perm_middle (l₁ := [_, _, _]))
      exact h _ Sn' D sns' ps hs' (by rw [e2]; rfl) S7
end
end
end Mine
end

section -- Law8
open PySem PySem.W PyProof.Rows PySem.Calls
set_option Elab.async false
set_option maxRecDepth 100000
namespace Mine
local macro_rules | `(tactic| walk_at "m mem") => `(tactic| first | exact List.Mem.head _ | (refine List.Mem.tail _ ?_; walk_at "m mem"))
local macro_rules | `(tactic| walk_at "m put") => `(tactic| first | exact Put.head | (apply Put.tail; walk_at "m put"))
local macro_rules | `(tactic| walk_at "m set") => `(tactic| first | with_reducible exact OSet.head | (apply OSet.tail; (focus decide); walk_at "m set"))
local macro_rules | `(tactic| walk_at "m sub") => `(tactic| first | exact List.Sublist.refl _ | (apply List.Sublist.cons; walk_at "m sub"))
section
variable {w : World} {A : Around} {E : Value → Shared → Prop} {b s : Shared} {l : List (Addr × It)} {mg mb : Str → Option Value} {a : Addr}
theorem few_lens : ∀ (xs fw : List Int), fw.length = 8 → (xs.foldl fewStep fw).length = 8
  | [], _, h => h
  | x :: r, fw, _ => few_lens r (fewStep fw x) (few_len _ _)
section
variable {Sn Fw Wd Row Mk Sz Sp So Ma L c1 c2 c3 c4 c5 c6 c7 fa : Addr} {code : Value} {sns fws wds : List (Int × Tok)} {rs : List (Nat × Tok)} {ms : List (Int × Tok)} {szs : List Bool} {ks : List (Nat × Tok)} {sos mas : List (Int × Tok)} {o5 : Option Value}
  {Q : Flow → Shared → Prop} {sc wv fv : Value} {rv pv av : Value} {ox ol ok : Option Value} {I : Addr} {it : It}

set_option maxHeartbeats 2000000 in
theorem part3 (G : Gr w b mg mb) (hr : Room A 1) (hm : ∀ p ∈ sos, 0 ≤ p.1 ∧ p.1 < 8) (hs4 : sos.length ≤ 4) (hsn : sns.map (fun q : Int × Tok => q.1) = [0]) (hfw : fws.map (fun q : Int × Tok => q.1) = [0, 9, 9, 9, 9, 9, 9, 9])
    (S : St b s (ldg2 Sn Fw Wd Row Mk Sz Sp So Ma L c1 c2 c3 c4 c5 c6 c7 sns fws wds o5 none rs ms szs ks sos mas (lawFr (some sc) (some rv) (some wv) (some pv) (some (.ref So)) (some av) (some fv) ox ol ok (some (.ref Sn)) none none none none) l))
    (h : ∀ s' Sn Fw sns fws o6, sns.map (fun q : Int × Tok => q.1) = spanOf (sos.map (fun q : Int × Tok => q.1)) → fws.map (fun q : Int × Tok => q.1) = fewOf (sos.map (fun q : Int × Tok => q.1)) →
      St b s' (ldg2 Sn Fw Wd Row Mk Sz Sp So Ma L c1 c2 c3 c4 c5 c6 c7 sns fws wds o5 o6 rs ms szs ks sos mas (lawFr (some sc) (some rv) (some wv) (some pv) (some (.ref So)) (some av) (some fv) ox ol ok (some (.ref Sn)) none none none none) l) →
      wpAny (model prg w) A (execs ((dAt 22).body.drop 14) (lawEnv L c1 c2 c3 c4 c5 c6 c7 fa code)) Q (fun _ _ => False) s') :
    wpAny (model prg w) A (execs ((dAt 22).body.drop 13) (lawEnv L c1 c2 c3 c4 c5 c6 c7 fa code)) Q (fun _ _ => False) s := by
  with_unfolding_all refine wpAny_execs_cons ?_
  have hsl : (intsV sos).length = sos.length := List.length_map _
  refine wpAny_For (o_ld S (by walk_at "m mem") rfl ?_)
  refine r_iter_list (vs := intsV sos) (fun i l₁ => ∃ Sn Fw sns fws o6, sns.map (fun q : Int × Tok => q.1) = spanOf ((sos.map (fun q : Int × Tok => q.1)).take i) ∧ fws.map (fun q : Int × Tok => q.1) = fewOf ((sos.map (fun q : Int × Tok => q.1)).take i) ∧
      l₁ = ldg2 Sn Fw Wd Row Mk Sz Sp So Ma L c1 c2 c3 c4 c5 c6 c7 sns fws wds o5 o6 rs ms szs ks sos mas (lawFr (some sc) (some rv) (some wv) (some pv) (some (.ref So)) (some av) (some fv) ox ol ok (some (.ref Sn)) none none none none) l)
    hr.hh S ⟨Sn, Fw, sns, fws, none, hsn, hfw, rfl⟩ ?_ ?_ ?_
  · rintro i l₁ s₁ ⟨Sn, Fw, sns, fws, o6, e1, e2, rfl⟩ S₁
    exact S₁.lst (by walk_at "m mem")
  · rintro i v l₁ s₁ I hv ⟨Sn, Fw, sns, fws, o6, e1, e2, rfl⟩ S₁
    obtain ⟨p, hp, rfl⟩ : ∃ p, sos[i]? = some p ∧ v = .int p.1 p.2 := by
      unfold intsV at hv
      rw [List.getElem?_map] at hv
      obtain ⟨p, hp, e⟩ := Option.map_eq_some_iff.mp hv
      exact ⟨p, hp, e.symm⟩
    have hi : i < sos.length := (List.getElem?_eq_some_iff.mp hp).1
    have hpm := hm p (List.mem_of_getElem? hp)
    have htk : (sos.map (fun q : Int × Tok => q.1)).take (i + 1) = (sos.map (fun q : Int × Tok => q.1)).take i ++ [p.1] := by
      rw [List.take_add_one, List.getElem?_map, hp]; rfl
    have hsl1 : sns.length ≤ 100 := by
      have h1 := span_len ((sos.map (fun q : Int × Tok => q.1)).take i) [0]
      have h2 := congrArg List.length e1
      have h3 : ((sos.map (fun q : Int × Tok => q.1)).take i).length = i := by rw [List.length_take, List.length_map]; omega
      rw [List.length_map] at h2
      rw [h3] at h1
      have h4 : 2 ^ i ≤ 2 ^ 4 := Nat.pow_le_pow_right (by decide) (by omega)
      rw [h2]
      exact Nat.le_trans h1 (by show 2 ^ i * 1 ≤ 100; omega)
    have hfl1 : fws.length = 8 := by
      have h2 := congrArg List.length e2
      rw [List.length_map] at h2
      rw [h2]
      unfold fewOf
      exact few_lens _ _ rfl
    refine wpAny_assign_Name (r_stc S₁ rfl (by walk_at "m put") fun s2 S2 => ?_)
    refine turn3 G hr hpm.1 hpm.2 hfl1 hsl1 S2 fun s3 Sn' Fw' sns' fws' g1 g2 S3 => ?_
    refine ⟨_, ⟨Sn', Fw', sns', fws', _, ?_, ?_, rfl⟩, S3⟩
    · rw [g1, e1, htk]; unfold spanOf; rw [List.foldl_append]; rfl
    · rw [g2, e2, htk]; unfold fewOf; rw [List.foldl_append]; rfl
  · rintro l₁ s₁ ⟨Sn, Fw, sns, fws, o6, e1, e2, rfl⟩ S₁
    refine wpAny_execs_nil ?_
    have hfull : (sos.map (fun q : Int × Tok => q.1)).take (intsV sos).length = sos.map (fun q : Int × Tok => q.1) := List.take_of_length_le (by rw [List.length_map, hsl]; exact Nat.le_refl _)
    rw [hfull] at e1 e2
    exact h _ Sn Fw sns fws o6 e1 e2 S₁
end
end
end Mine
end

section -- Law9
open PySem PySem.W PyProof.Rows PySem.Calls
set_option Elab.async false
set_option maxRecDepth 100000
namespace Mine
local macro_rules | `(tactic| walk_at "m mem") => `(tactic| first | exact List.Mem.head _ | (refine List.Mem.tail _ ?_; walk_at "m mem"))
local macro_rules | `(tactic| walk_at "m put") => `(tactic| first | exact Put.head | (apply Put.tail; walk_at "m put"))
local macro_rules | `(tactic| walk_at "m set") => `(tactic| first | with_reducible exact OSet.head | (apply OSet.tail; (focus decide); walk_at "m set"))
local macro_rules | `(tactic| walk_at "m sub") => `(tactic| first | exact List.Sublist.refl _ | (apply List.Sublist.cons; walk_at "m sub"))
section
variable {w : World} {A : Around} {E : Value → Shared → Prop} {b s : Shared} {l : List (Addr × It)} {mg mb : Str → Option Value} {a : Addr}

theorem St.slack {c : Addr} {vs : List Value} (S : St b s ((c, .lst vs) :: l)) : St b s ((c, .ils vs) :: l) where
  keep := S.keep
  got p hp := by
    rcases List.mem_cons.mp hp with rfl | hp
    · exact S.lst (.head _)
    · exact S.got p (.tail _ hp)
  new p hp := by
    rcases List.mem_cons.mp hp with rfl | hp
    · exact S.new (c, .lst vs) (.head _)
    · exact S.new p (.tail _ hp)
  nd := S.nd
  tk := S.tk
  pos := S.pos
  same := S.same

abbrev ldg4 (TL Sn Fw Wd Sz So Ma L c2 c3 c4 c5 c6 c7 : Addr) (recs : List TRec) (sns fws wds : List (Int × Tok)) (o5 o6 o7 : Option Value) (szs : List Bool) (sos mas : List (Int × Tok)) (fr : List (Str × Option Value)) (l : List (Addr × It)) : List (Addr × It) :=
  (L, .fro fr) :: (TL, .lst (refsV recs)) :: (Sn, .lst (intsV sns)) :: (Fw, .lst (intsV fws)) :: (Wd, .lst (intsV wds)) :: (Sz, .lst (boolsV szs)) :: (So, .lst (intsV sos)) :: (Ma, .lst (intsV mas)) ::
    (c7, .cel o7) :: (c6, .cel o6) :: (c5, .cel o5) :: (c4, .cel (some (.ref Wd))) :: (c3, .cel (some (.ref Fw))) :: (c2, .cel (some (.ref Sz))) :: (tItems recs ++ l)

section
variable {Sn Fw Wd Row Mk Sz Sp So Ma L c1 c2 c3 c4 c5 c6 c7 fa : Addr} {code : Value} {sns fws wds : List (Int × Tok)} {rs : List (Nat × Tok)} {ms : List (Int × Tok)} {szs : List Bool} {ks : List (Nat × Tok)} {sos mas : List (Int × Tok)} {o5 o6 : Option Value}
  {Q : Flow → Shared → Prop} {sc wv fv : Value} {ov av : Value} {ox ol ok : Option Value}

/-- the marks as the walk gets them -/
def wideMarks (wds ms : List (Int × Tok)) : List (Int × Tok) := ms.map fun p => wds.getD p.1.toNat (0, 0)

set_option maxHeartbeats 2000000 in
theorem part4 (G : Gr w b mg mb) (hr : Room A 4) (hm : ∀ p ∈ ms, 0 ≤ p.1 ∧ p.1 < 8) (hml : ms.length = 4) (hwl : wds.length = 8) (hwt : ∀ p ∈ wds, p.2 < s.toks) (hrl : rs.length ≤ 300) (hk4 : ks.length ≤ 4)
    (hlet : letters (rs.map (·.1)) ≤ 4) (hok : RowOk (rs.map (·.1)) (ks.map (·.1)))
    (S : St b s (ldg2 Sn Fw Wd Row Mk Sz Sp So Ma L c1 c2 c3 c4 c5 c6 c7 sns fws wds o5 o6 rs ms szs ks sos mas (lawFr (some sc) (some (.ref Row)) (some wv) (some (.ref Sp)) (some ov) (some av) (some fv) ox ol ok (some (.ref Sn)) none none none none) l))
    (h : ∀ s' TL recs, recs.map (·.st) = (List.range (2 ^ ks.length)).map (fun k => tellF fold ((wideMarks wds ms).map (·.1)) (rowAt (rs.map (·.1)) (ks.map (·.1)) k)) → (∀ t ∈ recs, b.toks ≤ t.tt ∧ ∀ p ∈ wds, p.2 ≠ t.tt) →
      St b s' (ldg4 TL Sn Fw Wd Sz So Ma L c2 c3 c4 c5 c6 c7 recs sns fws wds o5 o6 none szs sos mas (lawFr (some sc) (some (.ref Row)) (some wv) (some (.ref Sp)) (some ov) (some av) (some fv) ox ol ok (some (.ref Sn)) none (some (.ref TL)) none none) l) →
      wpAny (model prg w) A (execs ((dAt 22).body.drop 15) (lawEnv L c1 c2 c3 c4 c5 c6 c7 fa code)) Q (fun _ _ => False) s') :
    wpAny (model prg w) A (execs ((dAt 22).body.drop 14) (lawEnv L c1 c2 c3 c4 c5 c6 c7 fa code)) Q (fun _ _ => False) s := by
  obtain ⟨aWk, hWk⟩ := G.fn 21 (by decide)
  have hmsl : (intsV ms).length = ms.length := List.length_map _
  have hT := S.tk
  have hP := S.pos
  have G' := G.up s.toks
  with_unfolding_all refine wpAny_execs_cons ?_
  refine wpAny_Assign_Name (r_def G'.g S.up hWk (wpAny_items_cons (o_ld S.up (by walk_at "m mem") rfl (wpAny_items_cons (r_ListComp [((Str.ofString "wide"), c4)] rfl (r_cell S.up rfl (by walk_at "m mem") ?_))))))
  refine r_comp_list (vs := intsV ms) hr.hh S.up (by omega) (fun j outs l₁ tk => l₁ = ldg2 Sn Fw Wd Row Mk Sz Sp So Ma L c1 c2 c3 c4 c5 c6 c7 sns fws wds o5 o6 rs ms szs ks sos mas (lawFr (some sc) (some (.ref Row)) (some wv) (some (.ref Sp)) (some ov) (some av) (some fv) ox ol ok (some (.ref Sn)) none none none none) l
        ∧ outs = intsV (wideMarks wds (ms.take j)) ∧ outs.length ≤ j)
      (fun _ _ _ _ _ _ h => h) ⟨rfl, rfl, Nat.le_refl _⟩ ?_ ?_ ?_ ?_
  · rintro j outs l₁ n ⟨_, _, e⟩; exact e
  · rintro j outs l₁ n s₁ ⟨rfl, _⟩ S₁
    exact S₁.lst (by walk_at "m mem")
  · rintro j v outs l₁ s₁ I' C D hj hv ⟨rfl, rfl, f3⟩ S₁
    obtain ⟨p, hp, rfl⟩ : ∃ p, ms[j]? = some p ∧ v = .int p.1 p.2 := by
      unfold intsV at hv
      rw [List.getElem?_map] at hv
      obtain ⟨p, hp, e⟩ := Option.map_eq_some_iff.mp hv
      exact ⟨p, hp, e.symm⟩
    have hpm := hm p (List.mem_of_getElem? hp)
    have hq : (intsV wds)[p.1.toNat]? = some (.int (wds.getD p.1.toNat (0, 0)).1 (wds.getD p.1.toNat (0, 0)).2) := by
      unfold intsV
      rw [List.getElem?_map, List.getD_eq_getElem?_getD, List.getElem?_eq_getElem (by omega)]; rfl
    refine wpAny_pure ?_
    rw [if_pos rfl]
    refine Subscript_ (r_cell S₁ rfl (by walk_at "m mem") (r_ld S₁ (by walk_at "m mem") rfl (r_item (S₁.lst (by walk_at "m mem")) hpm.1 (by omega) hq ?_)))
    intro _
    refine ⟨_, ⟨rfl, ?_, by rw [List.length_append]; show _ + 1 ≤ _; omega⟩, S₁⟩
    unfold wideMarks intsV
    rw [List.take_add_one, hp, List.map_append, List.map_append]; rfl
  · rintro outs l₁ s₃ D C al ⟨rfl, rfl, f3⟩ S₃
    refine post_none S₃ fun s4 S4 => ?_
    have hfull : ms.take (intsV ms).length = ms := List.take_of_length_le (by rw [hmsl]; exact Nat.le_refl _)
    rw [hfull] at S4
    refine wpAny_items_cons (o_ld S4 (by walk_at "m mem") rfl (wpAny_items_nil ⟨⟨_, S4⟩, ?_⟩))
    have S5 : St (up b s.toks) s4 ((Row, .lst (signsV rs)) :: (D, .lst (intsV (wideMarks wds ms))) :: (L, .fro (lawFr (some sc) (some (.ref Row)) (some wv) (some (.ref Sp)) (some ov) (some av) (some fv) ox ol ok (some (.ref Sn)) none none none none)) :: (Sn, .lst (intsV sns)) :: (Fw, .lst (intsV fws)) :: (Wd, .lst (intsV wds)) ::
        (Mk, .lst (intsV ms)) :: (Sz, .lst (boolsV szs)) :: (Sp, .lst (natsV ks)) :: (So, .lst (intsV sos)) :: (Ma, .lst (intsV mas)) ::
        (c7, .cel none) :: (c6, .cel o6) :: (c5, .cel o5) :: (c4, .cel (some (.ref Wd))) :: (c3, .cel (some (.ref Fw))) :: (c2, .cel (some (.ref Sz))) :: (c1, .cel (some (.ref Mk))) :: l) := S4.perm (List.perm_middle (l₁ := [_, _, _, _, _])).symm
    clear S4 S₃
    have hwm : (wideMarks wds ms).length = 4 := (List.length_map _).trans hml
    refine walk_spec G' S5.slack (hr.le (by decide)) (ms := wideMarks wds ms) (ks := ks) (Has.lst (by walk_at "m mem")) (Has.lst (by walk_at "m mem")) hrl (by omega) hk4 hok hWk fun s6 TL recs e1 e2 S6 => ?_
    have S7 := S6.perm ((List.perm_append_comm_assoc [_, _, _, _, _, _, _, _, _, _, _, _, _, _, _, _, _] (tItems recs) l).cons _)
    have S8 : St (up b s.toks) s6 (_ :: _ :: _ :: _ :: _ :: _ :: _ :: _ :: _ :: _ :: _ :: _ :: _ :: _ :: (tItems recs ++ l)) := S7.sub (.cons_cons _ (.cons _ (.cons_cons _ (.cons_cons _ (.cons_cons _ (.cons_cons _ (.cons _ (.cons_cons _ (.cons _ (.cons_cons _ (.cons_cons _ (.cons_cons _ (.cons_cons _ (.cons_cons _ (.cons_cons _ (.cons_cons _ (.cons_cons _ (.cons _ (List.Sublist.refl _)))))))))))))))))))
    have S9 := S8.perm (List.Perm.swap _ _ _)
    clear S6 S7 S8
    refine o_st S9 (by walk_at "m put") (by walk_at "m set") fun s7 S10 => ?_
    with_unfolding_all exact h _ TL recs e1 (fun t ht => ⟨Nat.le_trans hT (e2 t ht), fun p hp => Nat.ne_of_lt (Nat.lt_of_lt_of_le (hwt p hp) (e2 t ht))⟩) (S10.down hT hP)
end
end
end Mine
end

section -- Law10
open PySem PySem.W PyProof.Rows PySem.Calls PySem.SeqAt
set_option Elab.async false
set_option maxRecDepth 100000
namespace Mine
local macro_rules | `(tactic| walk_at "m mem") => `(tactic| first | exact List.Mem.head _ | (refine List.Mem.tail _ ?_; walk_at "m mem"))
local macro_rules | `(tactic| walk_at "m put") => `(tactic| first | exact Put.head | (apply Put.tail; walk_at "m put"))
local macro_rules | `(tactic| walk_at "m set") => `(tactic| first | with_reducible exact OSet.head | (apply OSet.tail; (focus decide); walk_at "m set"))
local macro_rules | `(tactic| walk_at "m sub") => `(tactic| first | exact List.Sublist.refl _ | (apply List.Sublist.cons; walk_at "m sub"))
section
variable {w : World} {A : Around} {E : Value → Shared → Prop} {b s : Shared} {l : List (Addr × It)} {mg mb : Str → Option Value} {a : Addr}

theorem St.apart {h0 t : List (Addr × It)} (S : St b s (h0 ++ t)) {p q : Addr × It} (hp : p ∈ h0) (hq : q ∈ t) : q.1 ≠ p.1 := by
  have nd := S.nd
  rw [List.map_append] at nd
  intro e
  exact (List.nodup_append.mp nd).2.2 p.1 (List.mem_map_of_mem (f := (·.1)) hp) q.1 (List.mem_map_of_mem (f := (·.1)) hq) e.symm
theorem r_ne_same {prog : Program} {c d : Addr} {vs ws : List Value} {Q : Value → Shared → Prop} (hl : s.heap.IsList c vs.toArray) (hd : s.heap.IsList d ws.toArray) (hu : A.units < cLine) (hsz : vs.length = ws.length)
    (he : ∀ (j : Nat) v u, vs[j]? = some v → ws[j]? = some u → EqAt A.in1 s v u true) (h : Q (.bool false) s) : wpAny (model prog w) A (compareOp .NotEq (.ref c) (.ref d)) Q E s := by
  show wpAny _ _ (richCompare .NotEq (.ref c) (.ref d)) Q E s
  refine RcNeAt.lists (e := fun _ => true) hl hd (by simpa using hsz) hu (fun j h1 h2 => he j _ _ (by simp at h1; simp [h1]) (by simp at h2; simp [h2])) prog w E Q ?_
  have e : (!(List.range vs.toArray.size).all fun _ => true) = false := by simp
  rw [e]; exact h
theorem eq_same_list {c d : Addr} {vs : List Value} (hl : s.heap.IsList c vs.toArray) (hd : s.heap.IsList d vs.toArray) (hne : c ≠ d) (hu : A.units < cLine) : EqAt A s (.ref c) (.ref d) true := by
  refine EqAt.of_refs hne ?_
  have := RcAt.lists (A := A) (e := fun _ => true) hl hd rfl hu (fun j h1 h2 => EqAt.same _)
  have e : ((List.range vs.toArray.size).all fun _ => true) = true := by simp
  rw [e] at this; exact this
theorem in1_units (A : Around) : A.in1.units = A.units + 1 := rfl

section
variable {TL Sn Fw Wd Row Mk Sz Sp So Ma L c1 c2 c3 c4 c5 c6 c7 fa : Addr} {code : Value} {sns fws wds : List (Int × Tok)} {szs : List Bool} {sos mas : List (Int × Tok)} {o5 o6 o7 : Option Value} {recs : List TRec}
  {Q : Flow → Shared → Prop} {sc rv pv fv : Value} {ov av : Value} {ox ol ok og ot on ou : Option Value} {wd : List Nat} {tw tf : Tok} {f0 : Int}

theorem str_same {A : Around} (x : Str) (t u : Tok) : EqAt A s (.str x t) (.str x u) true := by
  have := EqAt.str_str (A := A) (s := s) x t x u
  have e : (x == x) = true := beq_self_eq_true x
  rw [e] at this; exact this
theorem int_same {A : Around} (x : Int) (t u : Tok) : EqAt A s (.int x t) (.int x u) true := by
  have := EqAt.int_int (A := A) (s := s) x t x u
  have e : (x == x) = true := beq_self_eq_true x
  rw [e] at this; exact this

set_option maxHeartbeats 2000000 in
theorem part5 (hr : Room A 1) {t0 : TRec} {rest : List TRec} (hrec : recs = t0 :: rest) (h1 : t0.st.1 = wd) (h2 : t0.st.2.1 = szs) (h3 : t0.st.2.2 = (wds.getD f0.toNat (0, 0)).1) (hf0 : 0 ≤ f0) (hf8 : f0 < 8) (hwl : wds.length = 8)
    (S : St b s (ldg4 TL Sn Fw Wd Sz So Ma L c2 c3 c4 c5 c6 c7 recs sns fws wds o5 o6 o7 szs sos mas (lawFr (some sc) (some rv) (some (.str ⟨wd.toArray⟩ tw)) (some pv) (some ov) (some av) (some (.int f0 tf)) ox ol ok (some (.ref Sn)) ot (some (.ref TL)) on ou) l))
    (h : ∀ s', St b s' (ldg4 TL Sn Fw Wd Sz So Ma L c2 c3 c4 c5 c6 c7 recs sns fws wds o5 o6 o7 szs sos mas (lawFr (some sc) (some rv) (some (.str ⟨wd.toArray⟩ tw)) (some pv) (some ov) (some av) (some (.int f0 tf)) ox ol ok (some (.ref Sn)) ot (some (.ref TL)) on ou) l) →
      wpAny (model prg w) A (execs ((dAt 22).body.drop 16) (lawEnv L c1 c2 c3 c4 c5 c6 c7 fa code)) Q E s') :
    wpAny (model prg w) A (execs ((dAt 22).body.drop 15) (lawEnv L c1 c2 c3 c4 c5 c6 c7 fa code)) Q E s := by
  have hu : A.units + 16 < cLine := hr.2.2
  have hwds : (intsV wds)[f0.toNat]? = some (.int (wds.getD f0.toNat (0, 0)).1 (wds.getD f0.toNat (0, 0)).2) := by
    unfold intsV
    rw [List.getElem?_map, List.getD_eq_getElem?_getD, List.getElem?_eq_getElem (by omega)]; rfl
  with_unfolding_all refine wpAny_execs_cons ?_
  refine wpAny_If (wpAny_isTrue_Compare1 (Subscript_ (o_ld S (by walk_at "m mem") rfl (r_int S fun s1 u1 S1 _ => r_item (v := .ref t0.D) (S1.lst (by walk_at "m mem")) (by decide) (by decide) (by rw [hrec]; rfl) ?_))))
  refine r_List (b := b) (wpAny_items_cons (o_ld S1 (by walk_at "m mem") rfl (wpAny_items_cons (r_cell S1 rfl (by walk_at "m mem") (wpAny_items_cons (Subscript_ (r_cell S1 rfl (by walk_at "m mem") (o_ld S1 (by walk_at "m mem") rfl (r_item (S1.lst (by walk_at "m mem")) hf0 (by omega) hwds (wpAny_items_nil ⟨_, S1, Nat.le_of_ble_eq_true rfl, fun D s2 S2 => ?_⟩))))))))))
  have hD0 : (t0.D, It.lst [.str ⟨t0.st.1.toArray⟩ t0.tw, .ref t0.Z, .int t0.st.2.2 t0.tt]) ∈ tItems recs := by
    rw [hrec]; exact List.mem_append_left _ (.head _)
  have hZ0 : (t0.Z, It.lst (boolsV t0.st.2.1)) ∈ tItems recs := by
    rw [hrec]; exact List.mem_append_left _ (.tail _ (.head _))
  have hmem : ∀ p, p ∈ tItems recs → p ∈ (D, It.lst [.str ⟨wd.toArray⟩ tw, .ref Sz, .int (wds.getD f0.toNat (0, 0)).1 (wds.getD f0.toNat (0, 0)).2]) :: ldg4 TL Sn Fw Wd Sz So Ma L c2 c3 c4 c5 c6 c7 recs sns fws wds o5 o6 o7 szs sos mas (lawFr (some sc) (some rv) (some (.str ⟨wd.toArray⟩ tw)) (some pv) (some ov) (some av) (some (.int f0 tf)) ox ol ok (some (.ref Sn)) ot (some (.ref TL)) on ou) l := fun p hp => by
    iterate 15 apply List.Mem.tail
    exact List.mem_append_left _ hp
  have hZS : t0.Z ≠ Sz := by
    exact S.apart (h0 := [_, _, _, _, _, _, _, _, _, _, _, _, _, _]) (p := (Sz, It.lst (boolsV szs))) (q := (t0.Z, It.lst (boolsV t0.st.2.1))) (by walk_at "m mem") (List.mem_append_left _ hZ0)
  have hZl : s2.heap.IsList t0.Z (boolsV szs).toArray := by rw [← h2]; exact S2.lst (hmem _ hZ0)
  have hSl : s2.heap.IsList Sz (boolsV szs).toArray := S2.lst (by walk_at "m mem")
  refine r_ne_same (S2.lst (hmem _ hD0)) (S2.lst (by walk_at "m mem")) (by omega) (Eq.refl 3) (fun j v u hv hu' => ?_) (wpAny_truthy_bool ?_)
  · match j, hv, hu' with
    | 0, hv, hu' => cases hv; cases hu'; rw [h1]; exact str_same _ _ _
    | 1, hv, hu' =>
      cases hv; cases hu'
      exact eq_same_list hZl hSl hZS (by rw [in1_units]; omega)
    | 2, hv, hu' => cases hv; cases hu'; rw [h3]; exact int_same _ _ _
    | j + 3, hv, _ => cases hv
  · rw [if_neg (by decide)]
    with_unfolding_all exact wpAny_execs_nil (h _ (S2.sub (List.sublist_cons_self _ _)))
end
end
end Mine
end

section -- Law11
open PySem PySem.W PyProof.Rows PySem.Calls PySem.SeqAt
set_option Elab.async false
set_option maxRecDepth 100000
namespace Mine
local macro_rules | `(tactic| walk_at "m mem") => `(tactic| first | exact List.Mem.head _ | (refine List.Mem.tail _ ?_; walk_at "m mem"))
local macro_rules | `(tactic| walk_at "m put") => `(tactic| first | exact Put.head | (apply Put.tail; walk_at "m put"))
local macro_rules | `(tactic| walk_at "m set") => `(tactic| first | with_reducible exact OSet.head | (apply OSet.tail; (focus decide); walk_at "m set"))
local macro_rules | `(tactic| walk_at "m sub") => `(tactic| first | exact List.Sublist.refl _ | (apply List.Sublist.cons; walk_at "m sub"))
section
variable {w : World} {A : Around} {E : Value → Shared → Prop} {b s : Shared} {l : List (Addr × It)} {mg mb : Str → Option Value} {a : Addr}

theorem r_if1 {M : Model} {env : Env} {c : Expr} {Q : Bool → Shared → Prop} (h : wpAny M A (isTrue c env (eval c env)) Q E s) :
    wpAny M A (forIn [c] true fun c r => if r = true then do let ok ← isTrue c env (eval c env); pure (ForInStep.yield ok) else pure (ForInStep.yield r)) Q E s := by
  rw [List.forIn_cons, if_pos rfl]
  refine wpAny_bind (wpAny_bind (wpAny_mono h (fun ok s' hq => wpAny_pure ?_) fun _ _ x => x))
  exact wpAny_pure hq

section
variable {TL Sn Fw Wd Row Mk Sz Sp So Ma L c1 c2 c3 c4 c5 c6 c7 fa : Addr} {code : Value} {sns fws wds : List (Int × Tok)} {szs : List Bool} {sos mas : List (Int × Tok)} {o5 o6 o7 : Option Value} {recs : List TRec}
  {Q : Flow → Shared → Prop} {sc rv pv fv : Value} {ov av : Value} {ox ol ok og ot on ou : Option Value} {wd : List Nat} {tw tf : Tok} {f0 : Int}

theorem rec_mem {t : TRec} {h0 : List (Addr × It)} (ht : t ∈ recs) : (t.D, It.lst [.str ⟨t.st.1.toArray⟩ t.tw, .ref t.Z, .int t.st.2.2 t.tt]) ∈ h0 ++ (tItems recs ++ l) ∧ (t.Z, It.lst (boolsV t.st.2.1)) ∈ h0 ++ (tItems recs ++ l) := by
  constructor
  · exact List.mem_append_right _ (List.mem_append_left _ (List.mem_flatMap.mpr ⟨t, ht, .head _⟩))
  · exact List.mem_append_right _ (List.mem_append_left _ (List.mem_flatMap.mpr ⟨t, ht, .tail _ (.head _)⟩))

set_option maxHeartbeats 2000000 in
theorem part6 (hr : Room A 1) (hall : ∀ t ∈ recs, t.st.1 = wd) (hzl : ∀ t ∈ recs, t.st.2.1.length ≤ 300)
    (S : St b s (ldg4 TL Sn Fw Wd Sz So Ma L c2 c3 c4 c5 c6 c7 recs sns fws wds o5 o6 o7 szs sos mas (lawFr (some sc) (some rv) (some (.str ⟨wd.toArray⟩ tw)) (some pv) (some ov) (some av) (some fv) ox ol ok (some (.ref Sn)) ot (some (.ref TL)) on ou) l))
    (h : ∀ s' o7, St b s' (ldg4 TL Sn Fw Wd Sz So Ma L c2 c3 c4 c5 c6 c7 recs sns fws wds o5 o6 o7 szs sos mas (lawFr (some sc) (some rv) (some (.str ⟨wd.toArray⟩ tw)) (some pv) (some ov) (some av) (some fv) ox ol ok (some (.ref Sn)) ot (some (.ref TL)) on ou) l) →
      wpAny (model prg w) A (execs ((dAt 22).body.drop 17) (lawEnv L c1 c2 c3 c4 c5 c6 c7 fa code)) Q (fun _ _ => False) s') :
    wpAny (model prg w) A (execs ((dAt 22).body.drop 16) (lawEnv L c1 c2 c3 c4 c5 c6 c7 fa code)) Q (fun _ _ => False) s := by
  have hu : A.units + 16 < cLine := hr.2.2
  with_unfolding_all refine wpAny_execs_cons ?_
  refine wpAny_For (o_ld S (by walk_at "m mem") rfl ?_)
  refine r_iter_list (vs := refsV recs) (fun i l₁ => ∃ o7, l₁ = ldg4 TL Sn Fw Wd Sz So Ma L c2 c3 c4 c5 c6 c7 recs sns fws wds o5 o6 o7 szs sos mas (lawFr (some sc) (some rv) (some (.str ⟨wd.toArray⟩ tw)) (some pv) (some ov) (some av) (some fv) ox ol ok (some (.ref Sn)) ot (some (.ref TL)) on ou) l)
    hr.hh S ⟨o7, rfl⟩ ?_ ?_ ?_
  · rintro i l₁ s₁ ⟨o7, rfl⟩ S₁
    exact S₁.lst (by walk_at "m mem")
  · rintro i v l₁ s₁ I hv ⟨o7, rfl⟩ S₁
    obtain ⟨t, ht, rfl⟩ : ∃ t, recs[i]? = some t ∧ v = .ref t.D := by
      unfold refsV at hv
      rw [List.getElem?_map] at hv
      obtain ⟨p, hp, e⟩ := Option.map_eq_some_iff.mp hv
      exact ⟨p, hp, e.symm⟩
    have htm := List.mem_of_getElem? ht
    refine wpAny_assign_Name (r_stc S₁ rfl (by walk_at "m put") fun s2 S2 => ?_)
    with_unfolding_all refine wpAny_execs_cons ?_
    have hD := S2.lst (rec_mem (h0 := [_, _, _, _, _, _, _, _, _, _, _, _, _, _, _]) htm).1
    refine wpAny_If (wpAny_isTrue_BoolOp (wpAny_allTrue_Or_cons (wpAny_isTrue_Compare1 (Subscript_ (r_cell S2 rfl (by walk_at "m mem") (r_int S2 fun s3 u3 S3 _ => ?_))))))
    have hD3 := S3.lst (rec_mem (h0 := [_, _, _, _, _, _, _, _, _, _, _, _, _, _, _]) htm).1
    refine r_item (v := .str ⟨t.st.1.toArray⟩ t.tw) hD3 (by decide) (by decide) rfl (o_ld S3 (by walk_at "m mem") rfl (P.ne_str (wpAny_truthy_bool ?_)))
    have e1 : ((⟨t.st.1.toArray⟩ : Str).cps.toList != (⟨wd.toArray⟩ : Str).cps.toList) = false := by rw [hall t htm]; simp
    rw [e1, if_neg (by decide)]
    refine wpAny_allTrue_Or_cons (wpAny_isTrue_Compare1 (r_ListComp [] (by exact closureFor_none (by decide)) (Subscript_ (r_cell S3 rfl (by walk_at "m mem") (r_int S3 fun s4 u4 S4 _ => ?_)))))
    have hD4 := S4.lst (rec_mem (h0 := [_, _, _, _, _, _, _, _, _, _, _, _, _, _, _]) htm).1
    refine r_item (v := .ref t.Z) hD4 (by decide) (by decide) rfl ?_
    have hzn : (boolsV t.st.2.1).length = t.st.2.1.length := List.length_map _
    have hz := hzl t htm
    refine r_comp_list (vs := boolsV t.st.2.1) hr.hh S4 (by omega) (fun j outs l₁ tk => l₁ = (I, .itr TL (i + 1)) :: ldg4 TL Sn Fw Wd Sz So Ma L c2 c3 c4 c5 c6 c7 recs sns fws wds o5 o6 (some (.ref t.D)) szs sos mas (lawFr (some sc) (some rv) (some (.str ⟨wd.toArray⟩ tw)) (some pv) (some ov) (some av) (some fv) ox ol ok (some (.ref Sn)) ot (some (.ref TL)) on ou) l ∧ outs = [])
      (fun _ _ _ _ _ _ h => h) ⟨rfl, rfl⟩ ?_ ?_ ?_ ?_
    · rintro j outs l₁ n ⟨_, rfl⟩; exact Nat.zero_le _
    · rintro j outs l₁ n s₁ ⟨rfl, _⟩ S₁
      exact S₁.lst (rec_mem (h0 := [_, _, _, _, _, _, _, _, _, _, _, _, _, _, _]) htm).2
    · rintro j v outs l₁ s₁ I' C D hj hv ⟨rfl, rfl⟩ S₁
      obtain ⟨p, hp, rfl⟩ : ∃ p, t.st.2.1[j]? = some p ∧ v = .bool p := by
        unfold boolsV at hv
        rw [List.getElem?_map] at hv
        obtain ⟨p, hp, e⟩ := Option.map_eq_some_iff.mp hv
        exact ⟨p, hp, e.symm⟩
      refine r_if1 (wpAny_isTrue_BoolOp ?_)
      refine wpAny_allTrue_And_cons (wpAny_isTrue_Compare1 (r_ld S₁ (by walk_at "m mem") rfl (Constant_bool (wpAny_isNot_plain rfl (wpAny_truthy_bool ?_)))))
      cases p with
      | true =>
        rw [if_neg (by decide)]
        rw [if_neg (by decide)]
        intro _
        exact ⟨_, ⟨rfl, rfl⟩, S₁⟩
      | false =>
        rw [if_pos (by decide)]
        refine wpAny_allTrue_And_cons (wpAny_isTrue_Compare1 (r_ld S₁ (by walk_at "m mem") rfl (Constant_bool (wpAny_isNot_plain rfl (wpAny_truthy_bool ?_)))))
        rw [if_neg (by decide)]
        rw [if_neg (by decide)]
        intro _
        exact ⟨_, ⟨rfl, rfl⟩, S₁⟩
    · rintro outs l₁ s₃ D C al ⟨rfl, rfl⟩ S₃
      refine post_none S₃ fun s5 S5 => ?_
      refine r_List (b := b) (wpAny_items_nil ⟨_, S5, Nat.zero_le _, fun D2 s6 S6 => ?_⟩)
      refine r_ne_same (vs := []) (ws := []) (S6.lst (by walk_at "m mem")) (S6.lst (by walk_at "m mem")) (by omega) (Eq.refl 0) (fun j v u hv _ => by cases hv) (wpAny_truthy_bool ?_)
      rw [if_neg (by decide)]
      refine wpAny_allTrue_Or_nil ?_
      rw [if_neg (by decide)]
      exact wpAny_execs_nil (wpAny_execs_nil ⟨_, ⟨_, rfl⟩, S6.sub ((List.sublist_cons_self _ _).trans (List.sublist_cons_self _ _))⟩)
  · rintro l₁ s₁ ⟨o7, rfl⟩ S₁
    refine wpAny_execs_nil ?_
    exact h _ o7 S₁
end
end
end Mine
end

section -- Comps3
open PySem PySem.W PyProof.Rows PySem.Calls
set_option Elab.async false
set_option maxRecDepth 100000
namespace Mine
section
variable {prog : Program} {w : World} {A : Around} {E : Value → Shared → Prop} {b s : Shared} {l : List (Addr × It)} {env : Env}

theorem perm4' (c C D I : Addr × It) (r : List (Addr × It)) : (I :: D :: C :: c :: r).Perm (c :: C :: D :: I :: r) :=
  (List.reverse_perm [c, C, D, I]).append_right r

theorem comp_coreC {elt iter : Expr} {x : Str} {px : Pos} {ifs : List Expr} {scope : Scope} {pos : Pos} {RR : Value → Addr → Result → Shared → Prop} {I : Addr} {itAt : Nat → It} {n : Nat} {P : Nat → Value → Prop} {side : Shared → Prop}
    (W : Walker prog w A b I itAt n P side) (hcells : ∀ n, cellsFrom n scope.names [] = [(x, n)]) (hpush : ∀ h, pushCells h scope.names = h.push { cls := .type "cell", data := .cell none }) (hkind : scope.kind = .function) (hx : (relabel scope env).names.lookup x = some .cell) (hn : n ≤ 1000)
    (J : Nat → List Value → List (Addr × It) → Nat → Prop) (mono : ∀ i outs l m n, m ≤ n → J i outs l m → J i outs l n) (S : St b s ((I, itAt 0) :: l)) (h0 : J 0 [] l s.toks) (hlen : ∀ i outs l₁ n, J i outs l₁ n → outs.length ≤ i)
    (hside : ∀ i outs l₁ n s₁, J i outs l₁ n → St b s₁ l₁ → side s₁)
    (turn : ∀ i v outs l₁ s₁ I C cc D, i < n → P i v → J i outs l₁ s₁.toks → St b s₁ ((I, itAt (i + 1)) :: (D, .lst outs) :: (C, .frm []) :: (cc, .cel (some v)) :: l₁) →
      wpAny (model prog w) A (forIn ifs true fun c r => if r = true then do let ok ← isTrue c (compEnvC scope [(x, cc)] C env) (eval c (compEnvC scope [(x, cc)] C env)); pure (ForInStep.yield ok) else pure (ForInStep.yield r))
        (fun ok s₃ => if ok = true then wpAny (model prog w) A (eval elt (compEnvC scope [(x, cc)] C env)) (fun y s₄ => s₁.toks ≤ s₄.toks → ∃ l₂, J (i + 1) (outs ++ [y]) l₂ s₄.toks ∧ St b s₄ ((I, itAt (i + 1)) :: (D, .lst outs) :: (C, .frm []) :: (cc, .cel (some v)) :: l₂)) (fun _ _ => False) s₃
          else s₁.toks ≤ s₃.toks → ∃ l₂, J (i + 1) outs l₂ s₃.toks ∧ St b s₃ ((I, itAt (i + 1)) :: (D, .lst outs) :: (C, .frm []) :: (cc, .cel (some v)) :: l₂)) (fun _ _ => False) s₁)
    (fin : ∀ outs l₁ s₁ D C cc o, J n outs l₁ s₁.toks → St b s₁ ((C, .frm []) :: (D, .lst outs) :: (cc, .cel o) :: l₁) → RR (.ref D) C (.ok .next) s₁) :
    wpAny (model prog w) A (newList []) (fun acc s₃ => wpAny (model prog w) A (newFunctionEnv scope env.globals [] [] env.qual none .none (some env)) (fun cenv s₄ =>
      codeAny (model prog w) A (.compStart (.ListComp elt [⟨.Name x px, iter, ifs, 0⟩] scope pos) 0 (.ref I) acc { cenv with scope := relabel scope env }) (RR acc cenv.locals) s₄) E s₃) E s := by
  refine wpAny_newObj_type ?_
  have h1 : J 0 [] l ({ s with heap := s.heap.push { cls := .type "list", dict := none, data := .seq ([] : List Value).toArray }, toks := s.toks } : Shared).toks := h0
  have S1 : St b { s with heap := s.heap.push { cls := .type "list", dict := none, data := .seq ([] : List Value).toArray }, toks := s.toks } ((s.heap.objs.size, .lst []) :: (I, itAt 0) :: l) :=
    S.push (it := .lst []) ⟨_, Heap.get?_push_size _ rfl⟩ S.tk
  generalize s.heap.objs.size = D at S1
  generalize ({ s with heap := s.heap.push { cls := .type "list", dict := none, data := .seq ([] : List Value).toArray }, toks := s.toks } : Shared) = s1 at S1 h1
  simp only [newFunctionEnv, Option.isSome_some, if_true]
  refine wpAny_bind (wpAny_alloc ?_)
  refine wpAny_bind (wpAny_layCells _ (fun name kind cells => by cases hkc : kind == NameKind.cell <;> simp [hkc]) _ _ _ _ ?_)
  rw [List.forIn_nil]
  refine wpAny_bind (wpAny_pure (wpAny_pure ?_))
  have S2' : St b { s1 with heap := s1.heap.push { cls := .type "dict", data := .dict #[] }, toks := s1.toks } ((s1.heap.objs.size, .frm []) :: (D, .lst []) :: (I, itAt 0) :: l) :=
    S1.push (it := .frm []) (Heap.Ns.new s1.heap (.type "dict")) S1.tk
  have hC1 : (s1.heap.push { cls := .type "dict", data := .dict #[] }).objs.size = s1.heap.objs.size + 1 := Heap.size_push ..
  have S2 := S2'.push (it := .cel none) (o := { cls := .type "cell", data := .cell none }) ⟨_, Heap.get?_push_size _ rfl, rfl⟩ S2'.tk
  have h2 : J 0 [] l ({ s1 with heap := (s1.heap.push { cls := .type "dict", data := .dict #[] }).push { cls := .type "cell", data := .cell none }, toks := s1.toks } : Shared).toks := h1
  show codeAny _ A (.compStart _ 0 (.ref I) (.ref D) { newEnv scope s1.heap.objs.size env.globals (cellsFrom (s1.heap.push { cls := .type "dict", data := .dict #[] }).objs.size scope.names []) env.qual none .none (some env) builtinsNs with scope := relabel scope env }) _
    { s1 with heap := pushCells (s1.heap.push { cls := .type "dict", data := .dict #[] }) scope.names }
  rw [hcells, hpush]
  have S2 : St b { s1 with heap := (s1.heap.push { cls := .type "dict", data := .dict #[] }).push { cls := .type "cell", data := .cell none }, toks := s1.toks } (((s1.heap.push { cls := .type "dict", data := .dict #[] }).objs.size, .cel none) :: (s1.heap.objs.size, .frm []) :: (D, .lst []) :: (I, itAt 0) :: l) := S2
  show codeAny _ A (.compStart _ 0 (.ref I) (.ref D) (compEnvC scope [(x, (s1.heap.push { cls := .type "dict", data := .dict #[] }).objs.size)] s1.heap.objs.size env)) (RR (.ref D) s1.heap.objs.size) { s1 with heap := (s1.heap.push { cls := .type "dict", data := .dict #[] }).push { cls := .type "cell", data := .cell none }, toks := s1.toks }
  generalize ({ s1 with heap := (s1.heap.push { cls := .type "dict", data := .dict #[] }).push { cls := .type "cell", data := .cell none }, toks := s1.toks } : Shared) = s2 at S2 h2
  generalize (s1.heap.push { cls := .type "dict", data := .dict #[] }).objs.size = cc at S2
  generalize s1.heap.objs.size = C at S2
  have S3 : St b s2 ((I, itAt 0) :: (D, .lst []) :: (C, .frm []) :: (cc, .cel none) :: l) := S2.perm (perm4' _ _ _ _ _)
  have key : ∀ s₃ : Shared, J 0 [] l s₃.toks → St b s₃ ((I, itAt 0) :: (D, .lst []) :: (C, .frm []) :: (cc, .cel none) :: l) →
      codeAny (model prog w) A (.compLoop (.ListComp elt [⟨.Name x px, iter, ifs, 0⟩] scope pos) 0 (.ref I) (.ref D) (compEnvC scope [(x, cc)] C env)) (RR (.ref D) C) s₃ := by
    intro s₃ h3 S3
    refine codeAny_compLoop_tests (fun k s' => ∃ i outs l₁ o, k + i = n ∧ J i outs l₁ s'.toks ∧ St b s' ((I, itAt i) :: (D, .lst outs) :: (C, .frm []) :: (cc, .cel o) :: l₁)) ?_ n ⟨0, [], l, none, rfl, h3, S3⟩
    rintro k s' ⟨i, outs, l₁, o, hk, hJ, S'⟩
    have hs' : side s' := hside i outs l₁ _ s' hJ (S'.sub (.cons _ (.cons _ (.cons _ (.cons _ (List.Sublist.refl _))))))
    by_cases hlt : i < n
    · refine wpAny_with_toks (Nat.le_refl s'.toks) (W.item i _ s' _ _ hlt hs' S' fun v s4 hv S4 => ?_)
      intro q1
      refine wpAny_with_toks q1 (wpAny_assign_Name (r_stc (env := compEnvC scope [(x, cc)] C env) S4 (by simp [compEnvC]) (.tail (.tail (.tail .head))) (fun s5 S5 => ?_) (by simp [compEnvC, relabel, hkind]) hx))
      intro q2
      refine wpAny_mono (wpAny_toks (turn i v outs l₁ s5 I C cc D hlt hv (mono _ _ _ _ _ q2 hJ) S5)) (fun ok s6 h6 => ?_) fun _ _ f => noted_false f.2
      obtain ⟨q3, h6⟩ := h6
      cases ok with
      | false =>
        obtain ⟨l₂, j, S6⟩ := h6 q3
        exact ⟨k - 1, by omega, i + 1, outs, l₂, _, by omega, j, S6⟩
      | true =>
        refine wpAny_mono (wpAny_toks_of q3 h6) (fun y s7 h7 => ?_) fun _ _ f => noted_false f.2
        obtain ⟨q4, h7⟩ := h7
        obtain ⟨l₂, j, S7⟩ := h7 q4
        have hD : s7.heap.PlainList D outs.toArray := S7.got (D, .lst outs) (.tail _ (.head _))
        have hl := hlen i outs l₁ _ hJ
        refine wpAny_list_append_plain hD (fun h' hp hb => ?_) (by rw [List.size_toArray, sizeLine_eq]; omega)
        refine ⟨k - 1, by omega, i + 1, outs ++ [y], l₂, some v, by omega, j, ?_⟩
        refine S7.upd (.tail .head) hb ?_ S7.tk
        show h'.PlainList D (outs ++ [y]).toArray
        have e : (outs ++ [y]).toArray = outs.toArray.push y := by simp
        rw [e]; exact hp
    · have hi : i = n := by omega
      subst hi
      refine wpAny_with_toks (Nat.le_refl s'.toks) (W.done _ s' _ _ hs' S' fun s4 S4 => ?_)
      intro q1
      exact fin outs l₁ _ D C cc o (mono _ _ _ _ _ q1 hJ) (S4.perm (List.Perm.swap _ _ _))
  exact codeAny_compStart_list (key _ h2 S3) (W.self 0 _ _ _ _ S3 (key _ h2 S3))


end
end Mine
end

section -- Law12
open PySem PySem.W PyProof.Rows PySem.Calls PySem.SeqAt
set_option Elab.async false
set_option maxRecDepth 100000
namespace Mine
local macro_rules | `(tactic| walk_at "m mem") => `(tactic| first | exact List.Mem.head _ | (refine List.Mem.tail _ ?_; walk_at "m mem"))
local macro_rules | `(tactic| walk_at "m put") => `(tactic| first | exact Put.head | (apply Put.tail; walk_at "m put"))
local macro_rules | `(tactic| walk_at "m set") => `(tactic| first | with_reducible exact OSet.head | (apply OSet.tail; (focus decide); walk_at "m set"))
local macro_rules | `(tactic| walk_at "m sub") => `(tactic| first | exact List.Sublist.refl _ | (apply List.Sublist.cons; walk_at "m sub"))
section
variable {w : World} {A : Around} {E : Value → Shared → Prop} {b s : Shared} {l : List (Addr × It)} {mg mb : Str → Option Value} {a : Addr}

theorem r_comp_listC {prog : Program} {env : Env} {elt iter : Expr} {x : Str} {px : Pos} {ifs : List Expr} {scope : Scope} {pos : Pos} {use : Option (Value → Sem Unit)} {Q : Value → Shared → Prop} {a : Addr} {vs : List Value} (hh : A.handled = none)
    (S : St b s l) (hn : vs.length ≤ 1000) (J : Nat → List Value → List (Addr × It) → Nat → Prop) (mono : ∀ i outs l m n, m ≤ n → J i outs l m → J i outs l n) (h0 : J 0 [] l s.toks) (hlen : ∀ i outs l₁ n, J i outs l₁ n → outs.length ≤ i)
    (hside : ∀ i outs l₁ n s₁, J i outs l₁ n → St b s₁ l₁ → s₁.heap.IsList a vs.toArray)
    (turn : ∀ i v outs l₁ s₁ I C cc D, i < vs.length → vs[i]? = some v → J i outs l₁ s₁.toks → St b s₁ ((I, .itr a (i + 1)) :: (D, .lst outs) :: (C, .frm []) :: (cc, .cel (some v)) :: l₁) →
      wpAny (model prog w) A (forIn ifs true fun c r => if r = true then do let ok ← isTrue c (compEnvC scope [(x, cc)] C env) (eval c (compEnvC scope [(x, cc)] C env)); pure (ForInStep.yield ok) else pure (ForInStep.yield r))
        (fun ok s₃ => if ok = true then wpAny (model prog w) A (eval elt (compEnvC scope [(x, cc)] C env)) (fun y s₄ => s₁.toks ≤ s₄.toks → ∃ l₂, J (i + 1) (outs ++ [y]) l₂ s₄.toks ∧ St b s₄ ((I, .itr a (i + 1)) :: (D, .lst outs) :: (C, .frm []) :: (cc, .cel (some v)) :: l₂)) (fun _ _ => False) s₃
          else s₁.toks ≤ s₃.toks → ∃ l₂, J (i + 1) outs l₂ s₃.toks ∧ St b s₃ ((I, .itr a (i + 1)) :: (D, .lst outs) :: (C, .frm []) :: (cc, .cel (some v)) :: l₂)) (fun _ _ => False) s₁)
    (fin : ∀ outs l₁ s₁ D C cc o, J vs.length outs l₁ s₁.toks → St b s₁ ((C, .frm []) :: (D, .lst outs) :: (cc, .cel o) :: l₁) → compPost (model prog w) A E use Q (.ref D) C (.ok .next) s₁)
    (hcells : ∀ n, cellsFrom n scope.names [] = [(x, n)] := by intro _; rfl) (hpush : ∀ h, pushCells h scope.names = h.push { cls := .type "cell", data := .cell none } := by intro _; rfl)
    (hkind : scope.kind = .function := by rfl) (hx : (relabel scope env).names.lookup x = some .cell := by rfl) :
    wpAny (model prog w) A (pyIter (.ref a)) (fun it s₂ => CompCore prog w A E env elt iter x px ifs scope [] pos use Q it s₂) E s := by
  refine wpAny_pyIter_list (hside 0 [] l _ s h0 S) ?_
  have S₂ : St b { s with heap := s.heap.push { cls := .type "list_iterator", data := .fields #[.ref a, .int 0 0] }, toks := s.toks } ((s.heap.objs.size, .itr a 0) :: l) :=
    S.push (it := .itr a 0) ⟨_, Heap.get?_push_size _ rfl, rfl, rfl⟩ S.tk
  exact comp_coreC (walker_list hh _ a vs) hcells hpush hkind hx hn J mono S₂ h0 hlen hside turn fin

/-- the sizes as a number -/
def maskL (zs : List Bool) (n : Nat) : List Int := ((List.range n).filter fun k => zs.getD k false).map fun k => (2 : Int) ^ k
def maskOf (zs : List Bool) : Int := (maskL zs 4).sum

theorem sum_bd : ∀ L : List Int, (∀ x ∈ L, 0 ≤ x ∧ x ≤ 8) → 0 ≤ L.sum ∧ L.sum ≤ 8 * L.length
  | [], _ => ⟨Int.le_refl _, Int.le_refl _⟩
  | x :: r, h => by
    have h1 := h x (.head _)
    have h2 := sum_bd r fun y hy => h y (.tail _ hy)
    rw [List.sum_cons, List.length_cons]
    omega
theorem maskL_bd (zs : List Bool) (n : Nat) (hn : n ≤ 4) : ∀ x ∈ maskL zs n, 0 ≤ x ∧ x ≤ 8 := by
  intro x hx
  obtain ⟨k, hk, rfl⟩ := List.mem_map.mp hx
  have : k < 4 := by have := List.mem_range.mp (List.mem_filter.mp hk).1; omega
  have : k = 0 ∨ k = 1 ∨ k = 2 ∨ k = 3 := by omega
  rcases this with rfl | rfl | rfl | rfl <;> decide
theorem maskL_len (zs : List Bool) (n : Nat) : (maskL zs n).length ≤ n := by
  unfold maskL
  rw [List.length_map]
  exact Nat.le_trans (List.length_filter_le _ _) (by simp)
theorem maskL_fit (zs : List Bool) : ∀ j, j < (maskL zs 4).length → InLong ((maskL zs 4).getD j 0) ∧ InLong (((maskL zs 4).take (j + 1)).sum) := by
  intro j hj
  have hb := maskL_bd zs 4 (Nat.le_refl _)
  have hl := maskL_len zs 4
  have h1 : (maskL zs 4).getD j 0 ∈ maskL zs 4 := getD_mem hj
  have h2 := hb _ h1
  have h3 := sum_bd ((maskL zs 4).take (j + 1)) fun x hx => hb x (List.mem_of_mem_take hx)
  have h4 : ((maskL zs 4).take (j + 1)).length ≤ 4 := Nat.le_trans (List.length_take_le _ _) (by omega)
  constructor
  · constructor <;> omega
  · constructor <;> omega
theorem maskL_succ (zs : List Bool) (n : Nat) : maskL zs (n + 1) = if zs.getD n false then maskL zs n ++ [(2 : Int) ^ n] else maskL zs n := by
  unfold maskL
  rw [List.range_succ, List.filter_append, List.map_append]
  cases h : zs.getD n false with
  | true =>
    rw [List.filter_cons, if_pos h, if_pos rfl]; rfl
  | false =>
    rw [List.filter_cons, if_neg (by rw [h]; decide), if_neg (by decide)]; simp

theorem boot_sum : bootBuiltins (Str.ofString "sum") = some (.builtin "sum") := by kernel_rfl
theorem boot_sorted : bootBuiltins (Str.ofString "sorted") = some (.builtin "sorted") := by kernel_rfl
theorem rng4 : Builtin.Range.small 0 4 1 = true ∧ Builtin.Range.rangeSize 0 4 1 = ((4 : Nat) : Int) := by decide +kernel

section
variable {TL Sn Fw Wd Row Mk Sz Sp So Ma L c1 c2 c3 c4 c5 c6 c7 fa : Addr} {code : Value} {sns fws wds : List (Int × Tok)} {szs : List Bool} {sos mas : List (Int × Tok)} {o5 o6 o7 : Option Value} {recs : List TRec}
  {Q : Flow → Shared → Prop} {sc rv pv fv wv : Value} {ov av : Value} {ox ol ok og ot on ou : Option Value} {wd : List Nat} {tw tf : Tok} {f0 : Int}

set_option maxHeartbeats 2000000 in
theorem part7 (G : Gr w b mg mb) (hr : Room A 1) (hr16 : recs.length ≤ 16) (hzl : ∀ t ∈ recs, t.st.2.1.length = 4) (hmask : ∀ qs : List Int, qs.Perm (recs.map fun t => maskOf t.st.2.1) → qs.Pairwise (· ≤ ·) → qs = mas.map (fun q : Int × Tok => q.1))
    (S : St b s (ldg4 TL Sn Fw Wd Sz So Ma L c2 c3 c4 c5 c6 c7 recs sns fws wds o5 o6 o7 szs sos mas (lawFr (some sc) (some rv) (some wv) (some pv) (some ov) (some (.ref Ma)) (some fv) ox ol ok (some (.ref Sn)) ot (some (.ref TL)) on ou) l))
    (h : ∀ s', St b s' (ldg4 TL Sn Fw Wd Sz So Ma L c2 c3 c4 c5 c6 c7 recs sns fws wds o5 o6 o7 szs sos mas (lawFr (some sc) (some rv) (some wv) (some pv) (some ov) (some (.ref Ma)) (some fv) ox ol ok (some (.ref Sn)) ot (some (.ref TL)) on ou) l) →
      wpAny (model prg w) A (execs ((dAt 22).body.drop 18) (lawEnv L c1 c2 c3 c4 c5 c6 c7 fa code)) Q E s') :
    wpAny (model prg w) A (execs ((dAt 22).body.drop 17) (lawEnv L c1 c2 c3 c4 c5 c6 c7 fa code)) Q E s := by
  have hu : A.units + 16 < cLine := hr.2.2
  have hrl : (refsV recs).length = recs.length := List.length_map _
  with_unfolding_all refine wpAny_execs_cons ?_
  refine wpAny_If (wpAny_isTrue_Compare1 (r_bcall (b := b) G.g G.bl S (G.free _ (by decide)) ((G.boot _ (by decide)).trans boot_sorted) (wpAny_items_cons (r_ListComp [] (by exact closureFor_none (by decide)) (o_ld S (by walk_at "m mem") rfl ?_)))))
  refine r_comp_listC (vs := refsV recs) hr.hh S (by omega) (fun j outs l₁ tk => l₁ = ldg4 TL Sn Fw Wd Sz So Ma L c2 c3 c4 c5 c6 c7 recs sns fws wds o5 o6 o7 szs sos mas (lawFr (some sc) (some rv) (some wv) (some pv) (some ov) (some (.ref Ma)) (some fv) ox ol ok (some (.ref Sn)) ot (some (.ref TL)) on ou) l
      ∧ ∃ ps : List (Int × Tok), outs = intsV ps ∧ ps.map (·.1) = (recs.take j).map (fun t => maskOf t.st.2.1) ∧ ps.length = j)
      (fun _ _ _ _ _ _ h => h) ⟨rfl, [], rfl, rfl, rfl⟩ ?_ ?_ ?_ ?_
  · rintro j outs l₁ n ⟨_, ps, rfl, _, e⟩
    unfold intsV; rw [List.length_map]; omega
  · rintro j outs l₁ n s₁ ⟨rfl, _⟩ S₁
    exact S₁.lst (by walk_at "m mem")
  · rintro j v outs l₁ s₁ I C cc D hj hv ⟨rfl, ps, rfl, e2, e3⟩ S₁
    obtain ⟨t, ht, rfl⟩ : ∃ t, recs[j]? = some t ∧ v = .ref t.D := by
      unfold refsV at hv
      rw [List.getElem?_map] at hv
      obtain ⟨p, hp, e⟩ := Option.map_eq_some_iff.mp hv
      exact ⟨p, hp, e.symm⟩
    have htm := List.mem_of_getElem? ht
    have hz := hzl t htm
    refine wpAny_pure ?_
    rw [if_pos rfl]
    refine r_bcall (b := b) G.g G.bl S₁ (G.free _ (by decide)) ((G.boot _ (by decide)).trans boot_sum) (wpAny_items_cons (r_ListComp [((Str.ofString "tell"), cc)] rfl (r_tcall (b := b) G.g G.bl S₁ (G.free _ (by decide)) ((G.boot _ (by decide)).trans boot_range) (wpAny_items_cons (r_int S₁ fun s2 u2 S2 _ => wpAny_items_nil (r_range1 S2 fun R s3 S3 => ?_))))))
    refine r_comp_range (n := 4) hr.hh S3 (by walk_at "m mem") rng4.1 rng4.2 (by decide)
      (fun i outs l₁ tk => l₁ = (R, .rng 0 4) :: (I, .itr TL (j + 1)) :: (D, .lst (intsV ps)) :: (C, .frm []) :: (cc, .cel (some (.ref t.D))) :: ldg4 TL Sn Fw Wd Sz So Ma L c2 c3 c4 c5 c6 c7 recs sns fws wds o5 o6 o7 szs sos mas (lawFr (some sc) (some rv) (some wv) (some pv) (some ov) (some (.ref Ma)) (some fv) ox ol ok (some (.ref Sn)) ot (some (.ref TL)) on ou) l
        ∧ ∃ qs : List (Int × Tok), outs = intsV qs ∧ qs.map (·.1) = maskL t.st.2.1 i ∧ qs.length ≤ i)
      (fun _ _ _ _ _ _ h => h) ⟨rfl, [], rfl, rfl, Nat.le_refl _⟩ ?_ ?_ ?_
    · rintro i outs l₁ n ⟨_, qs, rfl, _, e⟩
      unfold intsV; rw [List.length_map]; omega
    · rintro i tk outs l₁ s₁ I' C' D' hi _ ⟨rfl, qs, rfl, f2, f3⟩ S₁
      have ei : (0 + (i : Int)) = (i : Int) := by omega
      rw [ei] at S₁ ⊢
      refine r_if1 (wpAny_isTrue_value (Subscript_ (Subscript_ (r_cell S₁ rfl (by walk_at "m mem") (r_int S₁ fun s5 u5 S5 _ => ?_)))))
      have hD5 := S5.lst (rec_mem (h0 := [_, _, _, _, _, _, _, _, _, _, _, _, _, _, _, _, _, _, _, _, _, _]) htm).1
      refine r_item (v := .ref t.Z) hD5 (by decide) (by decide) rfl (r_ld S5 (by walk_at "m mem") rfl ?_)
      have hZ5 := S5.lst (rec_mem (h0 := [_, _, _, _, _, _, _, _, _, _, _, _, _, _, _, _, _, _, _, _, _, _]) htm).2
      have hzi : (boolsV t.st.2.1)[((i : Nat) : Int).toNat]? = some (.bool (t.st.2.1.getD i false)) := by
        unfold boolsV
        rw [Int.toNat_natCast, List.getElem?_map, List.getD_eq_getElem?_getD, List.getElem?_eq_getElem (by omega)]; rfl
      refine r_item hZ5 (by omega) (by omega) hzi (wpAny_truthy_bool ?_)
      have hsucc := maskL_succ t.st.2.1 i
      cases hb : t.st.2.1.getD i false with
      | false =>
        rw [hb, if_neg (by decide)] at hsucc
        rw [if_neg (by decide)]
        intro _
        exact ⟨_, ⟨rfl, qs, rfl, by rw [f2, hsucc], by omega⟩, S5⟩
      | true =>
        rw [hb, if_pos rfl] at hsucc
        rw [if_pos rfl]
        refine wpAny_BinOp (r_int S5 fun s6 u6 S6 _ => r_ld S6 (by walk_at "m mem") rfl (r_pow S6 (by omega) (by omega) (by decide) fun s7 u7 S7 _ _ => ?_))
        intro _
        rw [Int.toNat_natCast]
        refine ⟨_, ⟨rfl, qs ++ [((2 : Int) ^ i, u7)], ?_, ?_, by rw [List.length_append]; show _ + 1 ≤ _; omega⟩, S7⟩
        · unfold intsV; simp
        · rw [List.map_append, f2, hsucc]; rfl
    · rintro outs l₁ s8 D' C' al ⟨rfl, qs, rfl, f2, f3⟩ S8
      refine post_none S8 fun s9 S9 => ?_
      have hfit := maskL_fit t.st.2.1
      rw [← f2] at hfit
      refine wpAny_items_nil (r_sum hr.hh S9 (S9.lst (by walk_at "m mem")) (fun i hi => hfit i (by rw [List.length_map]; exact hi)) fun s10 u10 S10 => ?_)
      intro _
      have S11 := S10.sub (.cons _ (.cons _ (List.Sublist.refl _)))
      refine ⟨_, ⟨rfl, ps ++ [(maskOf t.st.2.1, u10)], ?_, ?_, by rw [List.length_append, e3]; rfl⟩, S11⟩
      · rw [f2]; unfold intsV; rw [List.map_append]; rfl
      · rw [List.map_append, e2, List.take_add_one, ht, List.map_append]; rfl
  · rintro outs l₁ s₃ D C cc o ⟨rfl, ps, rfl, e2, e3⟩ S₃
    refine post_none S₃ fun s4 S4 => ?_
    refine wpAny_items_nil (r_sorted S4 (S4.lst (by walk_at "m mem")) (by omega) fun s5 D5 qs hp hw S5 => ?_)
    have hfull : recs.take (refsV recs).length = recs := List.take_of_length_le (by rw [hrl]; exact Nat.le_refl _)
    rw [hfull] at e2
    rw [e2] at hp
    have hq := hmask _ hp hw
    refine o_ld S5 (by walk_at "m mem") rfl ?_
    have hql : (intsV qs).length = (intsV mas).length := by
      have := congrArg List.length hq
      unfold intsV
      rw [List.length_map, List.length_map] at *
      exact this
    refine r_ne_same (S5.lst (by walk_at "m mem")) (S5.lst (a := Ma) (vs := intsV mas) (by walk_at "m mem")) (by omega) hql (fun i v u hv hu' => ?_) (wpAny_truthy_bool ?_)
    · unfold intsV at hv hu'
      rw [List.getElem?_map] at hv hu'
      obtain ⟨p, hp1, rfl⟩ := Option.map_eq_some_iff.mp hv
      obtain ⟨q, hq1, rfl⟩ := Option.map_eq_some_iff.mp hu'
      have e := congrArg (fun x => x[i]?) hq
      simp only [List.getElem?_map, hp1, hq1, Option.map_some, Option.some.injEq] at e
      rw [e]; exact int_same _ _ _
    · rw [if_neg (by decide)]
      with_unfolding_all exact wpAny_execs_nil (h _ (S5.sub (.cons _ (.cons _ (.cons _ (List.Sublist.refl _))))))
end
end
end Mine
end

section -- Law13
open PySem PySem.W PyProof.Rows PySem.Calls PySem.SeqAt
set_option Elab.async false
set_option maxRecDepth 100000
namespace Mine
local macro_rules | `(tactic| walk_at "m mem") => `(tactic| first | exact List.Mem.head _ | (refine List.Mem.tail _ ?_; walk_at "m mem"))
local macro_rules | `(tactic| walk_at "m put") => `(tactic| first | exact Put.head | (apply Put.tail; walk_at "m put"))
local macro_rules | `(tactic| walk_at "m set") => `(tactic| first | with_reducible exact OSet.head | (apply OSet.tail; (focus decide); walk_at "m set"))
local macro_rules | `(tactic| walk_at "m sub") => `(tactic| first | exact List.Sublist.refl _ | (apply List.Sublist.cons; walk_at "m sub"))
section
variable {w : World} {A : Around} {E : Value → Shared → Prop} {b s : Shared} {l : List (Addr × It)} {mg mb : Str → Option Value} {a : Addr}

/-- the told numbers of the records -/
def numsR (recs : List TRec) : List (Int × Tok) := recs.map fun t => (t.st.2.2, t.tt)

section
variable {TL Sn Fw Wd Row Mk Sz Sp So Ma L c1 c2 c3 c4 c5 c6 c7 fa : Addr} {code : Value} {sns fws wds : List (Int × Tok)} {szs : List Bool} {sos mas : List (Int × Tok)} {o5 o6 o7 : Option Value} {recs : List TRec}
  {Q : Flow → Shared → Prop} {sc rv pv fv wv : Value} {ov av : Value} {ox ol ok og ot on ou : Option Value} {wd : List Nat} {tw tf : Tok} {f0 : Int}

set_option maxHeartbeats 2000000 in
theorem part8 (hr : Room A 1) (hr16 : recs.length ≤ 16)
    (S : St b s (ldg4 TL Sn Fw Wd Sz So Ma L c2 c3 c4 c5 c6 c7 recs sns fws wds o5 o6 o7 szs sos mas (lawFr (some sc) (some rv) (some wv) (some pv) (some ov) (some av) (some fv) ox ol ok (some (.ref Sn)) ot (some (.ref TL)) on ou) l))
    (h : ∀ s' NB, St b s' ((NB, .lst (intsV (numsR recs))) :: ldg4 TL Sn Fw Wd Sz So Ma L c2 c3 c4 c5 c6 c7 recs sns fws wds o5 o6 o7 szs sos mas (lawFr (some sc) (some rv) (some wv) (some pv) (some ov) (some av) (some fv) ox ol ok (some (.ref Sn)) ot (some (.ref TL)) (some (.ref NB)) ou) l) →
      wpAny (model prg w) A (execs ((dAt 22).body.drop 19) (lawEnv L c1 c2 c3 c4 c5 c6 c7 fa code)) Q E s') :
    wpAny (model prg w) A (execs ((dAt 22).body.drop 18) (lawEnv L c1 c2 c3 c4 c5 c6 c7 fa code)) Q E s := by
  have hrl : (refsV recs).length = recs.length := List.length_map _
  with_unfolding_all refine wpAny_execs_cons ?_
  refine r_AssignComp [] (by exact closureFor_none (by decide)) (o_ld S (by walk_at "m mem") rfl ?_)
  refine r_comp_list (vs := refsV recs) hr.hh S (by omega) (fun j outs l₁ tk => l₁ = ldg4 TL Sn Fw Wd Sz So Ma L c2 c3 c4 c5 c6 c7 recs sns fws wds o5 o6 o7 szs sos mas (lawFr (some sc) (some rv) (some wv) (some pv) (some ov) (some av) (some fv) ox ol ok (some (.ref Sn)) ot (some (.ref TL)) on ou) l
      ∧ outs = intsV (numsR (recs.take j)) ∧ outs.length ≤ j)
      (fun _ _ _ _ _ _ h => h) ⟨rfl, rfl, Nat.le_refl _⟩ ?_ ?_ ?_ ?_
  · rintro j outs l₁ n ⟨_, _, e⟩; exact e
  · rintro j outs l₁ n s₁ ⟨rfl, _⟩ S₁
    exact S₁.lst (by walk_at "m mem")
  · rintro j v outs l₁ s₁ I C D hj hv ⟨rfl, rfl, e3⟩ S₁
    obtain ⟨t, ht, rfl⟩ : ∃ t, recs[j]? = some t ∧ v = .ref t.D := by
      unfold refsV at hv
      rw [List.getElem?_map] at hv
      obtain ⟨p, hp, e⟩ := Option.map_eq_some_iff.mp hv
      exact ⟨p, hp, e.symm⟩
    have htm := List.mem_of_getElem? ht
    refine wpAny_pure ?_
    rw [if_pos rfl]
    refine Subscript_ (r_ld S₁ (by walk_at "m mem") rfl (r_int S₁ fun s5 u5 S5 _ => ?_))
    have hD5 := S5.lst (rec_mem (h0 := [_, _, _, _, _, _, _, _, _, _, _, _, _, _, _, _, _]) htm).1
    refine r_item (v := .int t.st.2.2 t.tt) hD5 (by decide) (by decide) rfl ?_
    intro _
    refine ⟨_, ⟨rfl, ?_, by rw [List.length_append]; show _ + 1 ≤ _; omega⟩, S5⟩
    unfold numsR intsV
    rw [List.take_add_one, ht, List.map_append, List.map_append]; rfl
  · rintro outs l₁ s₃ D C al ⟨rfl, rfl, e3⟩ S₃
    have hfull : recs.take (refsV recs).length = recs := List.take_of_length_le (by rw [hrl]; exact Nat.le_refl _)
    rw [hfull] at S₃
    refine post_assign S₃ (by walk_at "m put") (by walk_at "m set") fun s4 S4 => ?_
    with_unfolding_all exact h _ D S4
end
end
end Mine
end

section -- Law14
open PySem PySem.W PyProof.Rows PySem.Calls PySem.SeqAt
set_option Elab.async false
set_option maxRecDepth 100000
namespace Mine
local macro_rules | `(tactic| walk_at "m mem") => `(tactic| first | exact List.Mem.head _ | (refine List.Mem.tail _ ?_; walk_at "m mem"))
local macro_rules | `(tactic| walk_at "m put") => `(tactic| first | exact Put.head | (apply Put.tail; walk_at "m put"))
local macro_rules | `(tactic| walk_at "m set") => `(tactic| first | with_reducible exact OSet.head | (apply OSet.tail; (focus decide); walk_at "m set"))
local macro_rules | `(tactic| walk_at "m sub") => `(tactic| first | exact List.Sublist.refl _ | (apply List.Sublist.cons; walk_at "m sub"))
section
variable {w : World} {A : Around} {E : Value → Shared → Prop} {b s : Shared} {l : List (Addr × It)} {mg mb : Str → Option Value} {a : Addr}

theorem ne_bools {Q : Value → Shared → Prop} (G : Gr w b mg mb) (S : St b s l) (hr : Room A 1) {x y : Bool} (ha : FnAt b.heap mg (dAt 2) a) (h : ∀ s', St b s' l → Q (.bool (x != y)) s') :
    wpAny (model prg w) A (call (.ref a) [.bool x, .bool y]) Q E s := by
  obtain ⟨o, pm, code, doc, hmg, ho, hd, hcd⟩ := ha
  refine r_call (binds := [("a", .bool x), ("b", .bool y)]) S ho hd hcd G.nolimit hr.room rfl rfl rfl (fun L s1 S1 => ?_) (by decide) rfl rfl rfl
  with_unfolding_all refine wpAny_execs_cons ?_
  refine wpAny_Return_some (wpAny_Compare1 (r_ld S1 (List.Mem.head _) rfl (r_ld S1 (List.Mem.head _) rfl (ne_bool ?_))))
  exact h _ (S1.sub (List.sublist_cons_self _ _))

def elseOfIf : List Stmt → List Stmt
  | .If _ _ e _ :: _ => e
  | _ => []
def loop9 : List Stmt := bodyOfFor ((dAt 22).body.drop 19)
def else9 : List Stmt := elseOfIf loop9
def loop9c : List Stmt := bodyOfFor (else9.drop 2)

def diffsL (zs szs : List Bool) (n : Nat) : List Bool := (List.range n).map fun k => zs.getD k false != szs.getD k false
def dcount (zs szs : List Bool) : Nat := (diffsL zs szs 4).countP fun x => x == true
def turnsL (recs : List TRec) (W : Int) (szs : List Bool) : List Int := (recs.filter fun t => t.st.2.2 == W).map fun t => ((dcount t.st.2.1 szs : Nat) : Int)

section
variable {TL Sn Fw Wd Row Mk Sz Sp So Ma L c1 c2 c3 c4 c5 c6 c7 fa NB TN I : Addr} {it : It} {code : Value} {sns fws wds : List (Int × Tok)} {szs : List Bool} {sos mas tps : List (Int × Tok)} {o5 o6 o7 : Option Value} {recs : List TRec}
  {Q : Flow → Shared → Prop} {sc rv pv fv wv : Value} {ov av : Value} {ox ol ok og ot on ou : Option Value} {wd : List Nat} {tw tf tk : Tok} {f0 k : Int}

set_option maxHeartbeats 2000000 in
theorem turn9c (G : Gr w b mg mb) (hr : Room A 1) {t : TRec} (htm : t ∈ recs) (hz : t.st.2.1.length = 4) (hsz : szs.length = 4) (hk0 : 0 ≤ k) (hk8 : k < 8) (hwl : wds.length = 8) (htp : tps.length ≤ 100)
    (S : St b s ((I, it) :: (TN, .lst (intsV tps)) :: (NB, .lst (intsV (numsR recs))) :: ldg4 TL Sn Fw Wd Sz So Ma L c2 c3 c4 c5 c6 c7 recs sns fws wds o5 o6 (some (.ref t.D)) szs sos mas (lawFr (some sc) (some rv) (some wv) (some pv) (some ov) (some av) (some fv) ox ol ok (some (.ref Sn)) (some (.int k tk)) (some (.ref TL)) (some (.ref NB)) (some (.ref TN))) l))
    (h : ∀ s' tps', tps'.map (fun q : Int × Tok => q.1) = tps.map (fun q : Int × Tok => q.1) ++ (if t.st.2.2 == (wds.getD k.toNat (0, 0)).1 then [((dcount t.st.2.1 szs : Nat) : Int)] else []) →
      St b s' ((I, it) :: (TN, .lst (intsV tps')) :: (NB, .lst (intsV (numsR recs))) :: ldg4 TL Sn Fw Wd Sz So Ma L c2 c3 c4 c5 c6 c7 recs sns fws wds o5 o6 (some (.ref t.D)) szs sos mas (lawFr (some sc) (some rv) (some wv) (some pv) (some ov) (some av) (some fv) ox ol ok (some (.ref Sn)) (some (.int k tk)) (some (.ref TL)) (some (.ref NB)) (some (.ref TN))) l) → Q .next s') :
    wpAny (model prg w) A (execs loop9c (lawEnv L c1 c2 c3 c4 c5 c6 c7 fa code)) Q E s := by
  obtain ⟨aNe, hNe⟩ := G.fn 2 (by decide)
  obtain ⟨aCo, hCo⟩ := G.fn 8 (by decide)
  have hwds : (intsV wds)[k.toNat]? = some (.int (wds.getD k.toNat (0, 0)).1 (wds.getD k.toNat (0, 0)).2) := by
    unfold intsV
    rw [List.getElem?_map, List.getD_eq_getElem?_getD, List.getElem?_eq_getElem (by omega)]; rfl
  with_unfolding_all refine wpAny_execs_cons ?_
  refine wpAny_If (wpAny_isTrue_Compare1 (Subscript_ (r_cell S rfl (by walk_at "m mem") (r_int S fun s1 u1 S1 _ => ?_))))
  have hD1 := S1.lst (rec_mem (h0 := [_, _, _, _, _, _, _, _, _, _, _, _, _, _, _, _, _]) htm).1
  refine r_item (v := .int t.st.2.2 t.tt) hD1 (by decide) (by decide) rfl (Subscript_ (r_cell S1 rfl (by walk_at "m mem") (o_ld S1 (by walk_at "m mem") rfl (r_item (S1.lst (by walk_at "m mem")) hk0 (by omega) hwds (P.eq_int (wpAny_truthy_bool ?_))))))
  cases he : (t.st.2.2 == (wds.getD k.toNat (0, 0)).1) with
  | false =>
    rw [if_neg (by decide)]
    exact wpAny_execs_nil (wpAny_execs_nil (h _ tps (by rw [he, if_neg (by decide), List.append_nil]) S1))
  | true =>
    rw [if_pos rfl]
    with_unfolding_all refine wpAny_execs_cons ?_
    refine wpAny_Expr_any (r_append (b := b) (o_ld S1 (by walk_at "m mem") rfl ⟨TN, _, _, rfl, S1, by walk_at "m mem", ?_⟩))
    refine r_def (b := b) G.g S1 hCo (wpAny_items_cons (r_ListComp [((Str.ofString "tell"), c7), ((Str.ofString "sizes"), c2)] rfl (r_tcall (b := b) G.g G.bl S1 (G.free _ (by decide)) ((G.boot _ (by decide)).trans boot_range) (wpAny_items_cons (r_int S1 fun s2 u2 S2 _ => wpAny_items_nil (r_range1 S2 fun R s3 S3 => ?_))))))
    refine r_comp_range (n := 4) hr.hh S3 (by walk_at "m mem") rng4.1 rng4.2 (by decide)
      (fun i outs l₁ tk' => l₁ = (R, .rng 0 4) :: (I, it) :: (TN, .lst (intsV tps)) :: (NB, .lst (intsV (numsR recs))) :: ldg4 TL Sn Fw Wd Sz So Ma L c2 c3 c4 c5 c6 c7 recs sns fws wds o5 o6 (some (.ref t.D)) szs sos mas (lawFr (some sc) (some rv) (some wv) (some pv) (some ov) (some av) (some fv) ox ol ok (some (.ref Sn)) (some (.int k tk)) (some (.ref TL)) (some (.ref NB)) (some (.ref TN))) l
        ∧ outs = boolsV (diffsL t.st.2.1 szs i))
      (fun _ _ _ _ _ _ h => h) ⟨rfl, rfl⟩ ?_ ?_ ?_
    · rintro i outs l₁ n ⟨_, rfl⟩
      unfold boolsV diffsL; simp
    · rintro i tk' outs l₁ s₁ I' C' D' hi _ ⟨rfl, rfl⟩ S₁
      have ei : (0 + (i : Int)) = (i : Int) := by omega
      rw [ei] at S₁ ⊢
      have hzi : (boolsV t.st.2.1)[((i : Nat) : Int).toNat]? = some (.bool (t.st.2.1.getD i false)) := by
        unfold boolsV
        rw [Int.toNat_natCast, List.getElem?_map, List.getD_eq_getElem?_getD, List.getElem?_eq_getElem (by omega)]; rfl
      have hzj : (boolsV szs)[((i : Nat) : Int).toNat]? = some (.bool (szs.getD i false)) := by
        unfold boolsV
        rw [Int.toNat_natCast, List.getElem?_map, List.getD_eq_getElem?_getD, List.getElem?_eq_getElem (by omega)]; rfl
      refine wpAny_pure ?_
      rw [if_pos rfl]
      refine r_def (b := b) G.g S₁ hNe (wpAny_items_cons (Subscript_ (Subscript_ (r_cell S₁ rfl (by walk_at "m mem") (r_int S₁ fun s5 u5 S5 _ => ?_)))))
      have hD5 := S5.lst (rec_mem (h0 := [_, _, _, _, _, _, _, _, _, _, _, _, _, _, _, _, _, _, _, _, _]) htm).1
      have hZ5 := S5.lst (rec_mem (h0 := [_, _, _, _, _, _, _, _, _, _, _, _, _, _, _, _, _, _, _, _, _]) htm).2
      refine r_item (v := .ref t.Z) hD5 (by decide) (by decide) rfl (r_ld S5 (by walk_at "m mem") rfl ?_)
      refine r_item hZ5 (by omega) (by omega) hzi (wpAny_items_cons (Subscript_ (r_cell S5 rfl (by walk_at "m mem") (r_ld S5 (by walk_at "m mem") rfl (r_item (S5.lst (by walk_at "m mem")) (by omega) (by omega) hzj ?_)))))
      refine wpAny_items_nil ⟨⟨_, S5⟩, ne_bools G S5 hr hNe fun s6 S6 => ?_⟩
      intro _
      refine ⟨_, ⟨rfl, ?_⟩, S6⟩
      unfold boolsV diffsL
      rw [List.range_succ, List.map_append, List.map_append]; rfl
    · rintro outs l₁ s8 D' C' al ⟨rfl, rfl⟩ S8
      refine post_none S8 fun s9 S9 => ?_
      refine wpAny_items_cons (Constant_bool (wpAny_items_nil ⟨⟨_, S9⟩, ?_⟩))
      refine countOf_bools G S9 hr (Has.lst (by walk_at "m mem")) hCo fun s10 u10 S10 h10 => ?_
      have S11 := S10.sub (.cons _ (.cons _ (List.Sublist.refl _)))
      refine ⟨intsV tps, _, _, S11, by walk_at "m put", by unfold intsV; rw [List.length_map]; omega, fun s12 S12 => wpAny_execs_nil (wpAny_execs_nil ?_)⟩
      refine h _ (tps ++ [(((dcount t.st.2.1 szs : Nat) : Int), u10)]) (by rw [he, if_pos rfl, List.map_append]; rfl) ?_
      have e9 : intsV tps ++ [.int (((diffsL t.st.2.1 szs 4).countP fun x => x == true : Nat) : Int) u10] = intsV (tps ++ [(((dcount t.st.2.1 szs : Nat) : Int), u10)]) := by unfold intsV dcount; rw [List.map_append]; rfl
      rw [e9] at S12
      exact S12
end
end
end Mine
end

section -- Law15
open PySem PySem.W PyProof.Rows PySem.Calls PySem.SeqAt
set_option Elab.async false
set_option maxRecDepth 100000
namespace Mine
local macro_rules | `(tactic| walk_at "m mem") => `(tactic| first | exact List.Mem.head _ | (refine List.Mem.tail _ ?_; walk_at "m mem"))
local macro_rules | `(tactic| walk_at "m put") => `(tactic| first | exact Put.head | (apply Put.tail; walk_at "m put"))
local macro_rules | `(tactic| walk_at "m set") => `(tactic| first | with_reducible exact OSet.head | (apply OSet.tail; (focus decide); walk_at "m set"))
local macro_rules | `(tactic| walk_at "m sub") => `(tactic| first | exact List.Sublist.refl _ | (apply List.Sublist.cons; walk_at "m sub"))
section
variable {w : World} {A : Around} {E : Value → Shared → Prop} {b s : Shared} {l : List (Addr × It)} {mg mb : Str → Option Value} {a : Addr}

/-- what the law's last loop asks of one number -/
structure Asks (recs : List TRec) (wides span few : List Int) (n : Nat) (szs : List Bool) (f0 k : Int) : Prop where
  out : span.any (· == Builtin.bitXor k f0) = false → recs.countP (fun t => t.st.2.2 == wides.getD k.toNat 0) = 0
  cnt : span.any (· == Builtin.bitXor k f0) = true → ((recs.countP (fun t => t.st.2.2 == wides.getD k.toNat 0) : Nat) : Int) = ((2 : Int) ^ n).fdiv span.length
  ne : span.any (· == Builtin.bitXor k f0) = true → turnsL recs (wides.getD k.toNat 0) szs ≠ []
  min : span.any (· == Builtin.bitXor k f0) = true → ∀ M, M ∈ turnsL recs (wides.getD k.toNat 0) szs → (∀ c ∈ turnsL recs (wides.getD k.toNat 0) szs, M ≤ c) → M = few.getD (Builtin.bitXor k f0).toNat 0

theorem push_in (h0 m : List (Addr × It)) (p : Addr × It) : (h0 ++ (m ++ (p :: l))).Perm (p :: (h0 ++ (m ++ l))) := by
  rw [← List.append_assoc, ← List.append_assoc]
  exact List.perm_middle
theorem turnsL_snoc (recs : List TRec) (t : TRec) (W : Int) (szs : List Bool) : turnsL (recs ++ [t]) W szs = turnsL recs W szs ++ (if t.st.2.2 == W then [((dcount t.st.2.1 szs : Nat) : Int)] else []) := by
  unfold turnsL
  rw [List.filter_append, List.map_append]
  congr 1
  rw [List.filter_cons]
  cases h : (t.st.2.2 == W) with
  | true => rfl
  | false => rfl
theorem turnsL_len (recs : List TRec) (W : Int) (szs : List Bool) : (turnsL recs W szs).length ≤ recs.length := by
  unfold turnsL; rw [List.length_map]; exact List.length_filter_le _ _

section
variable {TL Sn Fw Wd Row Mk Sz Sp So Ma L c1 c2 c3 c4 c5 c6 c7 fa NB I : Addr} {it : It} {code : Value} {sns fws wds : List (Int × Tok)} {szs : List Bool} {sos mas : List (Int × Tok)} {o5 o6 o7 : Option Value} {recs : List TRec}
  {Q : Flow → Shared → Prop} {sc rv pv wv : Value} {av : Value} {ox ol ok ou : Option Value} {tf tk : Tok} {f0 k : Int}

set_option maxHeartbeats 2000000 in
theorem turn9 (G : Gr w b mg mb) (hr : Room A 1) (hr16 : recs.length ≤ 16) (hz : ∀ t ∈ recs, t.st.2.1.length = 4) (hsz : szs.length = 4) (hk0 : 0 ≤ k) (hk8 : k < 8) (hf0 : 0 ≤ f0) (hf8 : f0 < 8) (hwl : wds.length = 8) (hfl : fws.length = 8) (hsl : sns.length ≤ 100) (hsn0 : sns.length ≠ 0) (hso : sos.length ≤ 4)
    (htk : ∀ t ∈ recs, b.toks ≤ t.tt ∧ ∀ p ∈ wds, p.2 ≠ t.tt) (hwt : ∀ p ∈ wds, b.toks ≤ p.2)
    (hask : Asks recs (wds.map (fun q : Int × Tok => q.1)) (sns.map (fun q : Int × Tok => q.1)) (fws.map (fun q : Int × Tok => q.1)) sos.length szs f0 k)
    (S : St b s ((I, it) :: (NB, .lst (intsV (numsR recs))) :: ldg4 TL Sn Fw Wd Sz So Ma L c2 c3 c4 c5 c6 c7 recs sns fws wds o5 o6 o7 szs sos mas (lawFr (some sc) (some rv) (some wv) (some pv) (some (.ref So)) (some av) (some (.int f0 tf)) ox ol ok (some (.ref Sn)) (some (.int k tk)) (some (.ref TL)) (some (.ref NB)) ou) l))
    (h : ∀ s' o7 ou, St b s' ((I, it) :: (NB, .lst (intsV (numsR recs))) :: ldg4 TL Sn Fw Wd Sz So Ma L c2 c3 c4 c5 c6 c7 recs sns fws wds o5 o6 o7 szs sos mas (lawFr (some sc) (some rv) (some wv) (some pv) (some (.ref So)) (some av) (some (.int f0 tf)) ox ol ok (some (.ref Sn)) (some (.int k tk)) (some (.ref TL)) (some (.ref NB)) ou) l) → Q .next s') :
    wpAny (model prg w) A (execs loop9 (lawEnv L c1 c2 c3 c4 c5 c6 c7 fa code)) Q (fun _ _ => False) s := by
  obtain ⟨aCo, hCo⟩ := G.fn 8 (by decide)
  have hwds : (intsV wds)[k.toNat]? = some (.int (wds.getD k.toNat (0, 0)).1 (wds.getD k.toNat (0, 0)).2) := by
    unfold intsV
    rw [List.getElem?_map, List.getD_eq_getElem?_getD, List.getElem?_eq_getElem (by omega)]; rfl
  have hwm : wds.getD k.toNat (0, 0) ∈ wds := by
    rw [List.getD_eq_getElem?_getD, List.getElem?_eq_getElem (by omega)]; exact List.getElem_mem _
  have hwv : (wds.map (fun q : Int × Tok => q.1)).getD k.toNat 0 = (wds.getD k.toNat (0, 0)).1 := by
    rw [List.getD_eq_getElem?_getD, List.getD_eq_getElem?_getD, List.getElem?_map, List.getElem?_eq_getElem (by omega)]; rfl
  obtain ⟨x1, x2, x3⟩ := xor8 (x := k) (y := f0) hk0 hk8 hf0 hf8
  obtain ⟨a1, a2, a3, a4⟩ := hask
  rw [hwv] at a1 a2 a3 a4
  have hpos := S.pos
  have hu0 : (wds.getD k.toNat (0, 0)).2 ≠ 0 := Nat.ne_of_gt (Nat.lt_of_lt_of_le hpos (hwt _ hwm))
  have htoks : ∀ p ∈ numsR recs, p.2 ≠ 0 ∧ p.2 ≠ (wds.getD k.toNat (0, 0)).2 := by
    intro p hp
    obtain ⟨t, ht, rfl⟩ := List.mem_map.mp hp
    exact ⟨Nat.ne_of_gt (Nat.lt_of_lt_of_le hpos (htk t ht).1), Ne.symm ((htk t ht).2 _ hwm)⟩
  have hcnt : ((numsR recs).countP fun x => x.1 == (wds.getD k.toNat (0, 0)).1) = recs.countP fun t => t.st.2.2 == (wds.getD k.toNat (0, 0)).1 := by
    unfold numsR; rw [List.countP_map]; rfl
  with_unfolding_all refine wpAny_execs_cons ?_
  refine wpAny_If (wpAny_isTrue_Compare1 (wpAny_BinOp (o_ld S (by walk_at "m mem") rfl (o_ld S (by walk_at "m mem") rfl (r_xor S fun s1 u1 S1 _ _ => o_ld S1 (by walk_at "m mem") rfl (r_notin (S1.lst (by walk_at "m mem")) (wpAny_truthy_bool ?_)))))))
  cases hin : (sns.map (fun q : Int × Tok => q.1)).any (· == Builtin.bitXor k f0) with
  | false =>
    rw [if_pos (by decide)]
    with_unfolding_all refine wpAny_execs_cons ?_
    refine wpAny_If (wpAny_isTrue_Compare1 (r_def (b := b) G.g S1 hCo (wpAny_items_cons (o_ld S1 (by walk_at "m mem") rfl (wpAny_items_cons (Subscript_ (r_cell S1 rfl (by walk_at "m mem") (o_ld S1 (by walk_at "m mem") rfl (r_item (S1.lst (by walk_at "m mem")) hk0 (by omega) hwds (wpAny_items_nil ⟨⟨_, S1⟩, ?_⟩))))))))))
    refine countOf_ints G S1 hr (ps := numsR recs) (Has.lst (by walk_at "m mem")) hu0 htoks hCo fun s2 u2 S2 _ => r_int S2 fun s3 u3 S3 _ => P.ne_int (wpAny_truthy_bool ?_)
    rw [hcnt, a1 hin, if_neg (by decide)]
    exact wpAny_execs_nil (wpAny_execs_nil (wpAny_execs_nil (h _ _ _ S3)))
  | true =>
    rw [if_neg (by decide)]
    with_unfolding_all refine wpAny_execs_cons ?_
    refine wpAny_If (wpAny_isTrue_Compare1 (r_def (b := b) G.g S1 hCo (wpAny_items_cons (o_ld S1 (by walk_at "m mem") rfl (wpAny_items_cons (Subscript_ (r_cell S1 rfl (by walk_at "m mem") (o_ld S1 (by walk_at "m mem") rfl (r_item (S1.lst (by walk_at "m mem")) hk0 (by omega) hwds (wpAny_items_nil ⟨⟨_, S1⟩, ?_⟩))))))))))
    refine countOf_ints G S1 hr (ps := numsR recs) (Has.lst (by walk_at "m mem")) hu0 htoks hCo fun s2 u2 S2 _ => wpAny_BinOp (wpAny_BinOp (r_int S2 fun s3 u3 S3 _ => ?_))
    have hsol : (intsV sos).length = sos.length := List.length_map _
    have hsnl : (intsV sns).length = sns.length := List.length_map _
    refine r_bcall (b := b) G.g G.bl S3 (G.free _ (by decide)) ((G.boot _ (by decide)).trans boot_len') (wpAny_items_cons (o_ld S3 (by walk_at "m mem") rfl (wpAny_items_nil (r_len S3 (S3.lst (by walk_at "m mem")) (by omega) fun s4 u4 S4 _ => ?_))))
    refine r_pow S4 (by omega) (by omega) (by decide) fun s5 u5 S5 _ _ => ?_
    refine r_bcall (b := b) G.g G.bl S5 (G.free _ (by decide)) ((G.boot _ (by decide)).trans boot_len') (wpAny_items_cons (o_ld S5 (by walk_at "m mem") rfl (wpAny_items_nil (r_len S5 (S5.lst (by walk_at "m mem")) (by omega) fun s6 u6 S6 _ => ?_))))
    refine r_div S6 (by omega) (by omega) fun s7 u7 S7 _ => P.ne_int (wpAny_truthy_bool ?_)
    have ec : (((numsR recs).countP fun x => x.1 == (wds.getD k.toNat (0, 0)).1 : Nat) : Int) = (2 ^ ((intsV sos).length : Int).toNat : Int).fdiv ((intsV sns).length : Int) := by
      rw [hcnt, a2 hin, hsol, hsnl, Int.toNat_natCast, List.length_map]
    rw [ec]
    rw [if_neg (by simp)]
    refine wpAny_execs_nil ?_
    clear S S1 S2 S3 S4 S5 S6
    with_unfolding_all refine wpAny_execs_cons ?_
    refine wpAny_Assign_Name (r_List (b := b) (wpAny_items_nil ⟨_, S7, Nat.zero_le _, fun TN s8 S8 => o_st S8 (by walk_at "m put") (by walk_at "m set") fun s9 S9 => ?_⟩))
    have S10 := S9.perm ((push_in [_, _, _, _, _, _, _, _, _, _, _, _, _, _, _] (tItems recs) (I, it)).cons _)
    clear S7 S8 S9
    with_unfolding_all refine wpAny_execs_cons ?_
    have hrl : (refsV recs).length = recs.length := List.length_map _
    refine wpAny_For (o_ld S10 (by walk_at "m mem") rfl ?_)
    refine r_iter_list (vs := refsV recs) (fun i l₁ => ∃ o7 tps, tps.map (fun q : Int × Tok => q.1) = turnsL (recs.take i) (wds.getD k.toNat (0, 0)).1 szs ∧
        l₁ = (TN, .lst (intsV tps)) :: (NB, .lst (intsV (numsR recs))) :: ldg4 TL Sn Fw Wd Sz So Ma L c2 c3 c4 c5 c6 c7 recs sns fws wds o5 o6 o7 szs sos mas (lawFr (some sc) (some rv) (some wv) (some pv) (some (.ref So)) (some av) (some (.int f0 tf)) ox ol ok (some (.ref Sn)) (some (.int k tk)) (some (.ref TL)) (some (.ref NB)) (some (.ref TN))) ((I, it) :: l))
      hr.hh S10 ⟨o7, [], rfl, rfl⟩ ?_ ?_ ?_
    · rintro i l₁ s₁ ⟨o7, tps, _, rfl⟩ S₁
      exact S₁.lst (by walk_at "m mem")
    · rintro i v l₁ s₁ I' hv ⟨o7, tps, e2, rfl⟩ S₁
      obtain ⟨t, ht, rfl⟩ : ∃ t, recs[i]? = some t ∧ v = .ref t.D := by
        unfold refsV at hv
        rw [List.getElem?_map] at hv
        obtain ⟨p, hp, e⟩ := Option.map_eq_some_iff.mp hv
        exact ⟨p, hp, e.symm⟩
      have htm := List.mem_of_getElem? ht
      have htl : tps.length ≤ 100 := by
        have h1 := congrArg List.length e2
        have h2 := turnsL_len (recs.take i) (wds.getD k.toNat (0, 0)).1 szs
        have h3 : (recs.take i).length ≤ recs.length := by rw [List.length_take]; omega
        rw [List.length_map] at h1
        omega
      refine wpAny_assign_Name (r_stc S₁ rfl (by walk_at "m put") fun s2 S2 => ?_)
      refine turn9c G hr htm (hz t htm) hsz hk0 hk8 hwl htl S2 fun s3 tps' e3 S3 => ?_
      refine ⟨_, ⟨_, tps', ?_, rfl⟩, S3⟩
      rw [e3, e2, List.take_add_one, ht]
      exact (turnsL_snoc _ _ _ _).symm
    · rintro l₁ s₁ ⟨o7, tps, e2, rfl⟩ S₁
      have hfull : recs.take (refsV recs).length = recs := List.take_of_length_le (by rw [hrl]; exact Nat.le_refl _)
      rw [hfull] at e2
      refine wpAny_execs_nil ?_
      with_unfolding_all refine wpAny_execs_cons ?_
      have hne : 0 < tps.length := by
        have h1 := congrArg List.length e2
        rw [List.length_map] at h1
        have h2 := List.length_pos_iff.mpr (a3 hin)
        omega
      refine wpAny_If (wpAny_isTrue_Compare1 (r_bcall (b := b) G.g G.bl S₁ (G.free _ (by decide)) ((G.boot _ (by decide)).trans boot_min) (wpAny_items_cons (o_ld S₁ (by walk_at "m mem") rfl (wpAny_items_nil (r_min hr.hh S₁ (S₁.lst (by walk_at "m mem")) hne fun s2 M u2 S2 hM hMin => ?_))))))
      obtain ⟨v1, hv1⟩ := item_of (S2.lst (a := Fw) (by walk_at "m mem")) (intsV_are fws) (k := (Builtin.bitXor k f0).toNat) (by rw [List.length_map, hfl]; omega)
      refine Subscript_ (r_cell S2 rfl (by walk_at "m mem") (wpAny_BinOp (o_ld S2 (by walk_at "m mem") rfl (o_ld S2 (by walk_at "m mem") rfl (r_xor S2 fun s3 u3 S3 _ _ => ?_)))))
      refine r_item (S3.lst (by walk_at "m mem")) x2 (by omega) hv1 (P.ne_int (wpAny_truthy_bool ?_))
      rw [e2] at hM hMin
      have hMe := a4 hin M hM hMin
      rw [hMe, if_neg (by simp)]
      have S4 := (S3.sub (List.sublist_cons_self _ _)).perm (push_in [_, _, _, _, _, _, _, _, _, _, _, _, _, _, _] (tItems recs) (I, it)).symm
      exact wpAny_execs_nil (wpAny_execs_nil (wpAny_execs_nil (h _ _ _ S4)))
end
end
end Mine
end

section -- Law16
open PySem PySem.W PyProof.Rows PySem.Calls PySem.SeqAt
set_option Elab.async false
set_option maxRecDepth 100000
namespace Mine
local macro_rules | `(tactic| walk_at "m mem") => `(tactic| first | exact List.Mem.head _ | (refine List.Mem.tail _ ?_; walk_at "m mem"))
local macro_rules | `(tactic| walk_at "m put") => `(tactic| first | exact Put.head | (apply Put.tail; walk_at "m put"))
local macro_rules | `(tactic| walk_at "m set") => `(tactic| first | with_reducible exact OSet.head | (apply OSet.tail; (focus decide); walk_at "m set"))
section
variable {w : World} {A : Around} {E : Value → Shared → Prop} {b s : Shared} {l : List (Addr × It)} {mg mb : Str → Option Value} {a : Addr}
section
variable {TL Sn Fw Wd Row Mk Sz Sp So Ma L c1 c2 c3 c4 c5 c6 c7 fa NB I : Addr} {it : It} {code : Value} {sns fws wds : List (Int × Tok)} {szs : List Bool} {sos mas : List (Int × Tok)} {o5 o6 o7 : Option Value} {recs : List TRec}
  {Q : Flow → Shared → Prop} {sc rv pv wv : Value} {av : Value} {ox ol ok ot ou : Option Value} {tf tk : Tok} {f0 k : Int}

set_option maxHeartbeats 2000000 in
theorem part9 (G : Gr w b mg mb) (hr : Room A 1) (hr16 : recs.length ≤ 16) (hz : ∀ t ∈ recs, t.st.2.1.length = 4) (hsz : szs.length = 4) (hf0 : 0 ≤ f0) (hf8 : f0 < 8) (hwl : wds.length = 8) (hfl : fws.length = 8) (hsl : sns.length ≤ 100) (hsn0 : sns.length ≠ 0) (hso : sos.length ≤ 4)
    (htk : ∀ t ∈ recs, b.toks ≤ t.tt ∧ ∀ p ∈ wds, p.2 ≠ t.tt) (hwt : ∀ p ∈ wds, b.toks ≤ p.2)
    (hask : ∀ k : Nat, k < 8 → Asks recs (wds.map (fun q : Int × Tok => q.1)) (sns.map (fun q : Int × Tok => q.1)) (fws.map (fun q : Int × Tok => q.1)) sos.length szs f0 k)
    (S : St b s ((NB, .lst (intsV (numsR recs))) :: ldg4 TL Sn Fw Wd Sz So Ma L c2 c3 c4 c5 c6 c7 recs sns fws wds o5 o6 o7 szs sos mas (lawFr (some sc) (some rv) (some wv) (some pv) (some (.ref So)) (some av) (some (.int f0 tf)) ox ol ok (some (.ref Sn)) ot (some (.ref TL)) (some (.ref NB)) ou) l))
    (h : ∀ s' l', St b s' l' → Q (.ret (.bool true)) s') :
    wpAny (model prg w) A (execs ((dAt 22).body.drop 19) (lawEnv L c1 c2 c3 c4 c5 c6 c7 fa code)) Q (fun _ _ => False) s := by
  with_unfolding_all refine wpAny_execs_cons ?_
  refine wpAny_For (r_tcall (b := b) G.g G.bl S (G.free _ (by decide)) ((G.boot _ (by decide)).trans boot_range) (wpAny_items_cons (r_int S fun s1 u1 S1 _ => wpAny_items_nil (r_range1 S1 fun R s2 S2 => ?_))))
  have S3 := S2.perm (push_in [_, _, _, _, _, _, _, _, _, _, _, _, _, _, _] (tItems recs) (R, .rng 0 8))
  clear S S1 S2
  have hRm : ∀ (h0 m r : List (Addr × It)) (p : Addr × It), p ∈ h0 ++ (m ++ (p :: r)) := fun h0 m r p => List.mem_append_right _ (List.mem_append_right _ (.head _))
  refine r_iter_range (n := 8) (fun i l₁ => ∃ o7 ot ou, l₁ = (NB, .lst (intsV (numsR recs))) :: ldg4 TL Sn Fw Wd Sz So Ma L c2 c3 c4 c5 c6 c7 recs sns fws wds o5 o6 o7 szs sos mas (lawFr (some sc) (some rv) (some wv) (some pv) (some (.ref So)) (some av) (some (.int f0 tf)) ox ol ok (some (.ref Sn)) ot (some (.ref TL)) (some (.ref NB)) ou) ((R, .rng 0 8) :: l))
    hr.hh S3 ⟨o7, ot, ou, rfl⟩ (hRm [_, _, _, _, _, _, _, _, _, _, _, _, _, _, _] (tItems recs) l (R, .rng 0 8)) rng8.1 rng8.2 ?_ ?_
  · rintro i t l₁ s₁ I hi ⟨o7, ot, ou, rfl⟩ ht S₁
    have ei : (0 + (i : Int)) = (i : Int) := by omega
    rw [ei] at S₁ ⊢
    refine wpAny_assign_Name (o_st S₁ (by walk_at "m put") (by walk_at "m set") fun s2 S2 => ?_)
    exact turn9 G hr hr16 hz hsz (by omega) (by omega) hf0 hf8 hwl hfl hsl hsn0 hso htk hwt (hask i hi) S2 fun s3 o7 ou S3 => ⟨_, ⟨o7, _, ou, rfl⟩, S3⟩
  · rintro l₁ s₁ ⟨o7, ot, ou, rfl⟩ S₁
    refine wpAny_execs_nil ?_
    with_unfolding_all refine wpAny_execs_cons ?_
    exact wpAny_Return_some (Constant_bool (h _ _ S₁))
end
end
end Mine
end

section -- Law17
open PySem PySem.W PyProof.Rows PySem.Calls PySem.SeqAt
set_option Elab.async false
set_option maxRecDepth 100000
namespace Mine
section
variable {w : World} {A : Around} {E : Value → Shared → Prop} {b s : Shared} {l : List (Addr × It)} {mg mb : Str → Option Value} {a : Addr}

/-- the marks as the walk gets them -/
def wideL (ms : List Int) : List Int := ms.map fun m => (wideAt 3).getD m.toNat 0
/-- the readings -/
def tellsOf (st : LSt) : List TSt := (List.range (2 ^ st.spots.length)).map fun k => tellF fold (wideL st.marks) (rowAt st.row st.spots k)
def turnsP (sts : List TSt) (W : Int) (szs : List Bool) : List Int := (sts.filter fun t => t.2.2 == W).map fun t => ((dcount t.2.1 szs : Nat) : Int)

structure AsksP (sts : List TSt) (wides span few : List Int) (n : Nat) (szs : List Bool) (f0 k : Int) : Prop where
  out : span.any (· == Builtin.bitXor k f0) = false → sts.countP (fun t => t.2.2 == wides.getD k.toNat 0) = 0
  cnt : span.any (· == Builtin.bitXor k f0) = true → ((sts.countP (fun t => t.2.2 == wides.getD k.toNat 0) : Nat) : Int) = ((2 : Int) ^ n).fdiv span.length
  ne : span.any (· == Builtin.bitXor k f0) = true → turnsP sts (wides.getD k.toNat 0) szs ≠ []
  min : span.any (· == Builtin.bitXor k f0) = true → ∀ M, M ∈ turnsP sts (wides.getD k.toNat 0) szs → (∀ c ∈ turnsP sts (wides.getD k.toNat 0) szs, M ≤ c) → M = few.getD (Builtin.bitXor k f0).toNat 0

/-- the plain law: what is left to show of the numbers -/
structure PureOk (st : LSt) : Prop where
  marks : ∀ m ∈ st.marks, 0 ≤ m ∧ m < 8
  some : ∀ m ∈ st.some, 0 ≤ m ∧ m < 8
  first : 0 ≤ st.first ∧ st.first < 8
  row : RowOk st.row st.spots
  lets : letters st.row ≤ 4
  head : ∃ rest, tellsOf st = (st.word, st.sizes, (wideAt 3).getD st.first.toNat 0) :: rest
  words : ∀ t ∈ tellsOf st, t.1 = st.word ∧ t.2.1.length = 4
  masks : ∀ qs : List Int, qs.Perm ((tellsOf st).map fun t => maskOf t.2.1) → qs.Pairwise (· ≤ ·) → qs = st.masks
  spanlen : (spanOf st.some).length ≠ 0
  asks : ∀ k : Nat, k < 8 → AsksP (tellsOf st) (wideAt 3) (spanOf st.some) (fewOf st.some) st.some.length st.sizes st.first k

theorem turns_recs (recs : List TRec) (W : Int) (szs : List Bool) : turnsL recs W szs = turnsP (recs.map (·.st)) W szs := by
  unfold turnsL turnsP
  rw [List.filter_map, List.map_map]; rfl
theorem count_recs (recs : List TRec) (W : Int) : recs.countP (fun t => t.st.2.2 == W) = (recs.map (·.st)).countP (fun t => t.2.2 == W) := by
  rw [List.countP_map]; rfl
theorem AsksP.asks {recs : List TRec} {wides span few : List Int} {n : Nat} {szs : List Bool} {f0 k : Int} (h : AsksP (recs.map (·.st)) wides span few n szs f0 k) : Asks recs wides span few n szs f0 k where
  out hh := by rw [count_recs]; exact h.out hh
  cnt hh := by rw [count_recs]; exact h.cnt hh
  ne hh := by rw [turns_recs]; exact h.ne hh
  min hh := by rw [turns_recs]; exact h.min hh

set_option maxHeartbeats 2000000 in
theorem law_spec (G : Gr w b mg mb) (S : St b s l) (hr : Room A 5) {sc : Addr} {sps : List (Int × Tok)} (hsc : Has b l sc (intsV sps)) (hsl : sps.length ≤ 63) (hP : PureOk (lRun (lawXs (sps.map (·.1))))) (ha : FnAt b.heap mg (dAt 22) a) {Q : Value → Shared → Prop}
    (h : ∀ s' l', St b s' l' → Q (.bool true) s') :
    wpAny (model prg w) A (call (.ref a) [.ref sc]) Q E s := by
  have hxl : (lawXs (sps.map (·.1))).length = 4 := by
    unfold lawXs
    rw [List.length_take, List.length_append]
    show min 4 (_ + 4) = 4; omega
  have hlen := LLen.of (lawXs (sps.map (·.1)))
  rw [hxl] at hlen
  generalize hst : lRun (lawXs (sps.map (·.1))) = st at hP hlen
  refine law_start G S (hr.le (by decide)) ha fun L c1 c2 c3 c4 c5 c6 c7 code s1 S1 => ?_
  have hrd : Room (A.deeper (lawEnv L c1 c2 c3 c4 c5 c6 c7 a code)) 4 := hr.deeper
  have hr1 := hrd.le (j := 1) (by decide)
  refine part1a S1 fun s2 Row Mk Sz Sp So Ma tw t0 tf S2 => ?_
  refine part1b G hr1 hsc hsl S2 fun s3 Ma rs ms szs ks sos mas wd f0 tw tf ox ol ok hp1 S3 => ?_
  rw [hst] at hp1
  obtain ⟨q1, q2, q3, q4, q5, q6, q7, q8⟩ := hp1
  have g1 : rs.length = st.row.length := by rw [← q1, List.length_map]
  have g2 : ms.length = 4 := by rw [← hlen.marks, ← q2, List.length_map]
  have g4 : ks.length = st.spots.length := by rw [← q4, List.length_map]
  have g5 : sos.length = st.some.length := by rw [← q5, List.length_map]
  have w1 := hlen.row
  have w4 := hlen.spots
  have w5 := hlen.some
  subst q3 q7 q8
  refine part2a S3 fun s4 Sn Fw Wd t0 fws t1 hfw hb1 ht1 S4 => ?_
  refine part2b hr1 ht1 hb1 S4 fun s5 Wd wds o5 hwd hwt S5 => ?_
  have hwl : wds.length = 8 := by have := congrArg List.length hwd; rw [List.length_map, wideAt_len] at this; exact this
  have hsom : ∀ p ∈ sos, 0 ≤ p.1 ∧ p.1 < 8 := fun p hp => hP.some _ (q5 ▸ List.mem_map_of_mem hp)
  have hmar : ∀ p ∈ ms, 0 ≤ p.1 ∧ p.1 < 8 := fun p hp => hP.marks _ (q2 ▸ List.mem_map_of_mem hp)
  refine part3 (G.up s5.toks) hr1 hsom (by omega) rfl hfw S5.up fun s6 Sn Fw sns fws o6 e1 e2 S6' => ?_
  have hT : s5.toks ≤ s6.toks := S6'.tk
  have S6 := S6'.down S5.tk S5.pos
  clear S6' S1 S2 S3 S4
  have hrow : RowOk (rs.map (·.1)) (ks.map (·.1)) := by rw [q1, q4]; exact hP.row
  have hlets : letters (rs.map (·.1)) ≤ 4 := by rw [q1]; exact hP.lets
  refine part4 G hrd hmar g2 hwl (fun p hp => Nat.lt_of_lt_of_le (hwt p hp).2 hT) (by omega) (by omega) hlets hrow S6 fun s7 TL recs r1 r2 S7 => ?_
  have hwm : (wideMarks wds ms).map (·.1) = wideL st.marks := by
    unfold wideMarks wideL
    rw [← q2, List.map_map, List.map_map, ← hwd]
    refine List.map_congr_left fun p hp => ?_
    have := hmar p hp
    show (wds.getD p.1.toNat (0, 0)).1 = (wds.map (fun q : Int × Tok => q.1)).getD p.1.toNat 0
    rw [List.getD_eq_getElem?_getD, List.getD_eq_getElem?_getD, List.getElem?_map, List.getElem?_eq_getElem (by omega)]; rfl
  have hrec : recs.map (·.st) = tellsOf st := by
    rw [r1, hwm, q1, q4, g4]; rfl
  have hrl : recs.length ≤ 16 := by
    have h1 := congrArg List.length hrec
    unfold tellsOf at h1
    rw [List.length_map, List.length_map, List.length_range] at h1
    have : 2 ^ st.spots.length ≤ 2 ^ 4 := Nat.pow_le_pow_right (by decide) (by omega)
    omega
  have hwds : ∀ t ∈ recs, t.st.1 = st.word ∧ t.st.2.1.length = 4 := fun t ht => hP.words _ (hrec ▸ List.mem_map_of_mem (f := (·.st)) ht)
  obtain ⟨rest, hhd⟩ := hP.head
  obtain ⟨t0', rest', hcons, hst0, _⟩ : ∃ t0' rest', recs = t0' :: rest' ∧ t0'.st = (st.word, st.sizes, (wideAt 3).getD st.first.toNat 0) ∧ True := by
    cases recs with
    | nil => rw [hhd] at hrec; cases hrec
    | cons t r =>
      rw [hhd, List.map_cons] at hrec
      exact ⟨t, r, rfl, (List.cons.inj hrec).1, trivial⟩
  have hw0 : (wds.getD st.first.toNat (0, 0)).1 = (wideAt 3).getD st.first.toNat 0 := by
    have := hP.first
    rw [← hwd, List.getD_eq_getElem?_getD, List.getD_eq_getElem?_getD, List.getElem?_map, List.getElem?_eq_getElem (by omega)]; rfl
  refine part5 hr1 hcons (by rw [hst0]) (by rw [hst0]) (by rw [hst0, hw0]) hP.first.1 hP.first.2 hwl S7 fun s8 S8 => ?_
  refine part6 hr1 (fun t ht => (hwds t ht).1) (fun t ht => by rw [(hwds t ht).2]; decide) S8 fun s9 o7 S9 => ?_
  have hmask : ∀ qs : List Int, qs.Perm (recs.map fun t => maskOf t.st.2.1) → qs.Pairwise (· ≤ ·) → qs = mas.map (fun q : Int × Tok => q.1) := by
    intro qs hp hw
    rw [q6]
    refine hP.masks qs ?_ hw
    rw [← hrec, List.map_map]; exact hp
  refine part7 G hr1 hrl (fun t ht => (hwds t ht).2) hmask S9 fun s10 S10 => ?_
  refine part8 hr1 hrl S10 fun s11 NB S11 => ?_
  have hfl : fws.length = 8 := by
    have h1 := congrArg List.length e2
    rw [List.length_map] at h1
    rw [h1]; exact few_lens _ _ rfl
  have hsnl : sns.length = (spanOf st.some).length := by rw [← q5, ← e1, List.length_map]
  have hsn100 : sns.length ≤ 100 := by
    rw [hsnl]
    have h1 := span_len st.some [0]
    have h4 : 2 ^ st.some.length ≤ 2 ^ 4 := Nat.pow_le_pow_right (by decide) (by omega)
    exact Nat.le_trans h1 (by show 2 ^ st.some.length * 1 ≤ 100; omega)
  refine part9 G hr1 hrl (fun t ht => (hwds t ht).2) (by rw [hlen.sizes]) hP.first.1 hP.first.2 hwl hfl hsn100 (by rw [hsnl]; exact hP.spanlen) (by omega) r2 (fun p hp => (hwt p hp).1) (fun k hk => ?_) S11 fun s12 l' S12 => h _ _ S12
  refine AsksP.asks ?_
  rw [hrec, hwd, e1, e2, q5, g5]
  exact hP.asks k hk
end
end Mine
end

section -- Pure1
open PySem PySem.W PyProof.Rows PySem.Calls
set_option Elab.async false
set_option maxRecDepth 100000
namespace Mine

theorem xor8n' : ∀ a : Nat, a < 8 → ∀ c : Nat, c < 8 → Builtin.bitXor (a : Int) (c : Int) = ((a ^^^ c : Nat) : Int) ∧ a ^^^ c < 8 := by decide +kernel
theorem xor8' {x y : Int} (h0 : 0 ≤ x ∧ x < 8) (h2 : 0 ≤ y ∧ y < 8) : Builtin.bitXor x y = ((x.toNat ^^^ y.toNat : Nat) : Int) ∧ 0 ≤ Builtin.bitXor x y ∧ Builtin.bitXor x y < 8 := by
  obtain ⟨e, h⟩ := xor8n' x.toNat (by omega) y.toNat (by omega)
  have ex : ((x.toNat : Nat) : Int) = x := by omega
  have ey : ((y.toNat : Nat) : Int) = y := by omega
  rw [ex, ey] at e
  exact ⟨e, by omega, by omega⟩

theorem gap_isGap' : ∀ k : Nat, k < 28 → 1 ≤ k → isGap (gapC (k : Int)) = true := by decide +kernel
theorem gap_isGap {k : Int} (h1 : 1 ≤ k) (h2 : k < 28) : isGap (gapC k) = true := by
  have := gap_isGap' k.toNat (by omega) (by omega)
  have e : ((k.toNat : Nat) : Int) = k := by omega
  rw [e] at this; exact this
theorem sg_dig {x : Int} (h : kdX x = 4) : isDig (sgX x) = true := by
  have := fm_range (ltX x) 10 (by decide)
  unfold sgX isDig
  rw [if_pos h]
  simp; omega
theorem sg_let {x : Int} (h : kdX x ≠ 4) : isLet (sgX x) = true := by
  have := lt_range x
  unfold sgX
  rw [if_neg h]
  split
  · exact small_let (by omega)
  · exact great_let _ _ this.1 this.2
theorem dig_fold' : ∀ i, i < 10 → fold (48 + i) = 48 + i := by decide +kernel
theorem sg_fold (x : Int) : fold (sgX x) = wdX x ∧ (fold (sgX x) != sgX x) = szX x := by
  have hl := lt_range x
  have hk := kd_range x
  by_cases h4 : kdX x = 4
  · have h10 := fm_range (ltX x) 10 (by decide)
    have e : sgX x = 48 + ((ltX x).fmod 10).toNat := by unfold sgX; rw [if_pos h4]; omega
    have e2 : wdX x = 48 + ((ltX x).fmod 10).toNat := by unfold wdX; rw [if_pos h4]; omega
    have e3 : szX x = false := by unfold szX; rw [h4]; decide
    rw [e, e2, e3, dig_fold' _ (by omega)]
    exact ⟨rfl, by simp⟩
  · have e2 : wdX x = 97 + (ltX x).toNat := by unfold wdX; rw [if_neg h4]; omega
    by_cases h2 : kdX x < 2
    · have e : sgX x = 97 + (ltX x).toNat := by unfold sgX; rw [if_neg h4, if_pos h2]; omega
      have e3 : szX x = false := by
        unfold szX
        rw [decide_eq_false (by omega), decide_eq_false (by omega)]; rfl
      rw [e, e2, e3, fold_let' 97 (by simp) _ (by omega)]
      exact ⟨rfl, by simp⟩
    · have e : sgX x = greatC (ltX x) (x.fdiv 1040) := by unfold sgX; rw [if_neg h4, if_neg h2]
      have e3 : szX x = true := by
        unfold szX
        by_cases h5 : kdX x = 2
        · rw [decide_eq_true h5]; rfl
        · rw [decide_eq_true (p := kdX x = 3) (by omega), Bool.or_true]
      obtain ⟨g1, g2⟩ := great_fold (ltX x) (x.fdiv 1040) hl.1 hl.2
      rw [e, e2, e3, g1]
      exact ⟨rfl, by simpa using Ne.symm g2⟩
theorem sg_nogap (x : Int) : isGap (sgX x) = false := by
  by_cases h : kdX x = 4
  · exact dig_nogap (sg_dig h)
  · exact let_nogap (sg_let h)

theorem getD_append_left' {cs : List Nat} {c p : Nat} (h : p < cs.length) : (cs ++ [c]).getD p 0 = cs.getD p 0 := by
  rw [List.getD_eq_getElem?_getD, List.getD_eq_getElem?_getD, List.getElem?_append_left h]
theorem RowOk.snoc {cs sp : List Nat} (h : RowOk cs sp) {c : Nat} (hc : isGap c = true ∨ isLet c = true ∨ isDig c = true) : RowOk (cs ++ [c]) sp where
  sp p hp := by
    obtain ⟨h1, h2⟩ := h.sp p hp
    refine ⟨by rw [List.length_append]; exact Nat.lt_of_lt_of_le h1 (Nat.le_add_right _ _), ?_⟩
    rw [getD_append_left' h1]; exact h2
  all d hd := by
    rcases List.mem_append.mp hd with hd | hd
    · exact h.all d hd
    · rw [List.mem_singleton] at hd; subst hd; exact hc
theorem RowOk.spot {cs sp : List Nat} (h : RowOk cs sp) {p : Nat} (h1 : p < cs.length) (h2 : isLet (cs.getD p 0) = true) : RowOk cs (sp ++ [p]) where
  sp q hq := by
    rcases List.mem_append.mp hq with hq | hq
    · exact h.sp q hq
    · rw [List.mem_singleton] at hq; subst hq; exact ⟨h1, h2⟩
  all := h.all
theorem lRow_ok {st : LSt} {x : Int} {sp : List Nat} (h : RowOk st.row sp) : RowOk (lRow st x) sp := by
  have hg := gp_range x
  unfold lRow
  split
  · exact h.snoc (.inl (gap_isGap (by omega) (by omega)))
  · exact h
theorem letters_snoc (cs : List Nat) (c : Nat) : letters (cs ++ [c]) = letters cs + (if isGap c then 0 else 1) := by
  unfold letters
  rw [List.countP_append, List.countP_cons]
  cases isGap c <;> simp
theorem letters_lRow (st : LSt) (x : Int) : letters (lRow st x) = letters st.row := by
  have hg := gp_range x
  unfold lRow
  split
  · rw [letters_snoc, gap_isGap (by omega) (by omega)]; rfl
  · rfl

structure Inv (st : LSt) : Prop where
  marks : ∀ m ∈ st.marks, 0 ≤ m ∧ m < 8
  some : ∀ m ∈ st.some, 0 ≤ m ∧ m < 8
  first : 0 ≤ st.first ∧ st.first < 8
  row : RowOk st.row st.spots
  lets : letters st.row = st.marks.length
theorem Inv.step {st : LSt} (h : Inv st) (x : Int) : Inv (lStep st x) where
  marks m hm := by
    rcases List.mem_append.mp hm with hm | hm
    · exact h.marks m hm
    · rw [List.mem_singleton] at hm; subst hm; exact mk_range x
  some m hm := by
    have hm : m ∈ (if kdX x = 4 then st.some else st.some ++ [mkX x]) := hm
    split at hm
    · exact h.some m hm
    · rcases List.mem_append.mp hm with hm | hm
      · exact h.some m hm
      · rw [List.mem_singleton] at hm; subst hm; exact mk_range x
  first := by
    show 0 ≤ (if szX x then Builtin.bitXor st.first (mkX x) else st.first) ∧ (if szX x then Builtin.bitXor st.first (mkX x) else st.first) < 8
    split
    · exact (xor8' h.first (mk_range x)).2
    · exact h.first
  row := by
    show RowOk (lRow st x ++ [sgX x]) (if kdX x = 4 then st.spots else st.spots ++ [(lRow st x).length])
    split
    · rename_i h4
      exact (lRow_ok h.row).snoc (.inr (.inr (sg_dig h4)))
    · rename_i h4
      have hs := sg_let h4
      refine ((lRow_ok h.row).snoc (.inr (.inl hs))).spot (by simp) ?_
      rw [List.getD_eq_getElem?_getD, List.getElem?_append_right (Nat.le_refl _)]
      simpa using hs
  lets := by
    show letters (lRow st x ++ [sgX x]) = (st.marks ++ [mkX x]).length
    rw [letters_snoc, letters_lRow, sg_nogap, h.lets]; simp
theorem Inv.fold : ∀ (xs : List Int) (st : LSt), Inv st → Inv (xs.foldl lStep st)
  | [], _, h => h
  | x :: r, st, h => Inv.fold r (lStep st x) (h.step x)
theorem Inv.of (xs : List Int) : Inv (lRun xs) := Inv.fold xs lInit ⟨by simp [lInit], by simp [lInit], by simp [lInit], ⟨by simp [lInit], by simp [lInit]⟩, rfl⟩
end Mine
end

section -- Pure2
open PySem PySem.W PyProof.Rows PySem.Calls
set_option Elab.async false
set_option maxRecDepth 100000
namespace Mine

def nong (cs : List Nat) : List Nat := cs.filter fun c => !isGap c
def wordR (cs : List Nat) : List Nat := (nong cs).map fold
def sizesR (cs : List Nat) : List Bool := (nong cs).map fun c => fold c != c
def stepT (ms : List Int) (p : Nat × Int) (z : Bool) : Nat × Int := (p.1 + 1, if z then Builtin.bitXor p.2 (ms.getD p.1 0) else p.2)
def toldS (ms : List Int) (zs : List Bool) : Int := (zs.foldl (stepT ms) (0, 0)).2

theorem tell_acc (ms : List Int) : ∀ (cs : List Nat) (W : List Nat) (Z : List Bool) (T : Int), cs.foldl (tStep fold ms) (W, Z, T) = (W ++ wordR cs, Z ++ sizesR cs, ((sizesR cs).foldl (stepT ms) (Z.length, T)).2)
  | [], W, Z, T => by simp [wordR, sizesR, nong]
  | c :: r, W, Z, T => by
    rw [List.foldl_cons]
    cases hg : isGap c with
    | true =>
      have e : tStep fold ms (W, Z, T) c = (W, Z, T) := if_pos hg
      have e1 : nong (c :: r) = nong r := by unfold nong; rw [List.filter_cons, if_neg (by rw [hg]; decide)]
      rw [e, tell_acc ms r W Z T]
      unfold wordR sizesR
      rw [e1]
    | false =>
      have e : tStep fold ms (W, Z, T) c = (W ++ [fold c], Z ++ [fold c != c], if fold c != c then Builtin.bitXor T (ms.getD Z.length 0) else T) := if_neg (by rw [hg]; decide)
      have e1 : nong (c :: r) = c :: nong r := by unfold nong; rw [List.filter_cons, if_pos (by rw [hg]; decide)]
      rw [e, tell_acc ms r]
      have e2 : wordR (c :: r) = fold c :: wordR r := by unfold wordR; rw [e1]; rfl
      have e3 : sizesR (c :: r) = (fold c != c) :: sizesR r := by unfold sizesR; rw [e1]; rfl
      rw [e2, e3, List.foldl_cons, List.length_append]
      simp only [List.append_assoc, List.singleton_append]
      rfl
theorem tell_eq (ms : List Int) (cs : List Nat) : tellF fold ms cs = (wordR cs, sizesR cs, toldS ms (sizesR cs)) := by
  unfold tellF
  rw [tell_acc]; rfl

/-- xor of the chosen ones -/
def xorN : List Nat → List Bool → Nat
  | m :: r, z :: zs => (if z then m else 0) ^^^ xorN r zs
  | _, _ => 0
theorem xor_lt8 {a c : Nat} (h1 : a < 8) (h2 : c < 8) : a ^^^ c < 8 := Nat.xor_lt_two_pow (n := 3) h1 h2
theorem xorN_lt : ∀ (ms : List Nat) (zs : List Bool), (∀ m ∈ ms, m < 8) → xorN ms zs < 8
  | [], _, _ => by simp [xorN]
  | _ :: _, [], _ => by simp [xorN]
  | m :: r, z :: zs, h => by
    unfold xorN
    refine xor_lt8 ?_ (xorN_lt r zs fun x hx => h x (.tail _ hx))
    split
    · exact h m (.head _)
    · decide

abbrev Wf (a : Nat) : Int := (wideAt 3).getD a 0
theorem wfact : ∀ a, a < 8 → ∀ c, c < 8 → Builtin.bitXor (Wf a) (Wf c) = Wf (a ^^^ c) := by decide +kernel
theorem winj : ∀ a, a < 8 → ∀ c, c < 8 → Wf a = Wf c → a = c := by decide +kernel
theorem w0 : Wf 0 = 0 := by decide +kernel

theorem told_acc (mn : List Nat) (hm : ∀ m ∈ mn, m < 8) : ∀ (zs : List Bool) (i acc : Nat), acc < 8 → i + zs.length ≤ mn.length → (zs.foldl (stepT (mn.map Wf)) (i, Wf acc)).2 = Wf (acc ^^^ xorN (mn.drop i) zs)
  | [], i, acc, _, _ => by
    have : xorN (mn.drop i) [] = 0 := by cases mn.drop i <;> rfl
    rw [this, Nat.xor_zero]; rfl
  | z :: r, i, acc, ha, hl => by
    rw [List.length_cons] at hl
    have hi : i < mn.length := by omega
    have hd : mn.drop i = mn[i] :: mn.drop (i + 1) := List.drop_eq_getElem_cons hi
    have hmi : mn[i] < 8 := hm _ (List.getElem_mem _)
    rw [List.foldl_cons, hd]
    have e : stepT (mn.map Wf) (i, Wf acc) z = (i + 1, Wf (acc ^^^ (if z then mn[i] else 0))) := by
      unfold stepT
      cases z with
      | false => simp
      | true =>
        have : (mn.map Wf).getD i 0 = Wf mn[i] := by rw [List.getD_eq_getElem?_getD, List.getElem?_map, List.getElem?_eq_getElem hi]; rfl
        simp only [this, if_true]
        rw [wfact acc ha _ hmi]
    rw [e, told_acc mn hm r (i + 1) _ (xor_lt8 ha (by split; exact hmi; decide)) (by omega)]
    rw [Nat.xor_assoc]; rfl
theorem told_eq (mn : List Nat) (hm : ∀ m ∈ mn, m < 8) (zs : List Bool) (hl : zs.length ≤ mn.length) : toldS (mn.map Wf) zs = Wf (xorN mn zs) := by
  have := told_acc mn hm zs 0 0 (by decide) (by omega)
  rw [w0, Nat.zero_xor, List.drop_zero] at this
  exact this
end Mine
end

section -- Pure3
open PySem PySem.W PyProof.Rows PySem.Calls
set_option Elab.async false
set_option maxRecDepth 100000
namespace Mine

def rank (cs : List Nat) (p : Nat) : Nat := letters (cs.take p)
def flip (zs : List Bool) (j : Nat) : List Bool := zs.set j (!(zs.getD j false))
def zAt (z0 : List Bool) (lp : List Nat) : Nat → List Bool
  | 0 => z0
  | k + 1 => flip (zAt z0 lp k) (lp.getD (ctz (k + 1)) 0)

theorem nong_cons_gap {c : Nat} {r : List Nat} (h : isGap c = true) : nong (c :: r) = nong r := by unfold nong; rw [List.filter_cons, if_neg (by rw [h]; decide)]
theorem nong_cons {c : Nat} {r : List Nat} (h : isGap c = false) : nong (c :: r) = c :: nong r := by unfold nong; rw [List.filter_cons, if_pos (by rw [h]; decide)]
theorem rank_cons (c : Nat) (r : List Nat) (p : Nat) : rank (c :: r) (p + 1) = rank r p + (if isGap c then 0 else 1) := by
  unfold rank letters
  rw [List.take_succ_cons, List.countP_cons]
  cases isGap c <;> simp
theorem rank_zero (cs : List Nat) : rank cs 0 = 0 := by unfold rank letters; simp

theorem nong_set : ∀ {cs : List Nat} {p x : Nat}, p < cs.length → isGap (cs.getD p 0) = false → isGap x = false → nong (cs.set p x) = (nong cs).set (rank cs p) x ∧ (nong cs)[rank cs p]? = some (cs.getD p 0)
  | [], p, x, h, _, _ => by cases h
  | c :: r, 0, x, _, h2, h3 => by
    rw [List.getD_cons_zero] at h2 ⊢
    rw [List.set_cons_zero, nong_cons h3, nong_cons h2, rank_zero]
    exact ⟨rfl, rfl⟩
  | c :: r, p + 1, x, h1, h2, h3 => by
    rw [List.getD_cons_succ] at h2 ⊢
    obtain ⟨i1, i2⟩ := nong_set (cs := r) (p := p) (Nat.lt_of_succ_lt_succ h1) h2 h3
    rw [List.set_cons_succ, rank_cons]
    cases hg : isGap c with
    | true =>
      rw [nong_cons_gap hg, nong_cons_gap hg, if_pos rfl, Nat.add_zero]
      exact ⟨i1, i2⟩
    | false =>
      rw [nong_cons hg, nong_cons hg, if_neg (by decide), i1]
      exact ⟨rfl, i2⟩
theorem rank_set : ∀ {cs : List Nat} {p x : Nat}, p < cs.length → isGap (cs.getD p 0) = false → isGap x = false → ∀ q, rank (cs.set p x) q = rank cs q
  | [], p, x, h, _, _, q => by cases h
  | c :: r, 0, x, _, h2, h3, q => by
    rw [List.getD_cons_zero] at h2
    rw [List.set_cons_zero]
    cases q with
    | zero => rw [rank_zero, rank_zero]
    | succ q => rw [rank_cons, rank_cons, h2, h3]
  | c :: r, p + 1, x, h1, h2, h3, q => by
    rw [List.getD_cons_succ] at h2
    rw [List.set_cons_succ]
    cases q with
    | zero => rw [rank_zero, rank_zero]
    | succ q => rw [rank_cons, rank_cons, rank_set (Nat.lt_of_succ_lt_succ h1) h2 h3 q]
theorem set_same {α : Type} {xs : List α} {j : Nat} {x : α} (h : xs[j]? = some x) : xs.set j x = xs := by
  obtain ⟨hj, e⟩ := List.getElem?_eq_some_iff.mp h
  rw [← e, List.set_getElem_self]

theorem turn_row {cs : List Nat} {p : Nat} (k : Nat) (h1 : p < cs.length) (h2 : isLet (cs.getD p 0) = true) :
    wordR (cs.set p (turnC (cs.getD p 0) k)) = wordR cs ∧ sizesR (cs.set p (turnC (cs.getD p 0) k)) = flip (sizesR cs) (rank cs p) ∧ ∀ q, rank (cs.set p (turnC (cs.getD p 0) k)) q = rank cs q := by
  have hx := turn_let h2 k
  obtain ⟨n1, n2⟩ := nong_set (x := turnC (cs.getD p 0) k) h1 (let_nogap h2) (let_nogap hx)
  obtain ⟨f1, f2⟩ := turn_fold h2 k
  refine ⟨?_, ?_, rank_set h1 (let_nogap h2) (let_nogap hx)⟩
  · unfold wordR
    rw [n1, List.map_set, f1]
    exact set_same (by rw [List.getElem?_map, n2]; rfl)
  · unfold sizesR flip
    rw [n1, List.map_set, f2]
    have e : (List.map (fun c => fold c != c) (nong cs)).getD (rank cs p) false = (fold (cs.getD p 0) != cs.getD p 0) := by
      rw [List.getD_eq_getElem?_getD (l := List.map (fun c => fold c != c) (nong cs)), List.getElem?_map, n2]; rfl
    rw [e]

theorem rows_at {cs sp : List Nat} (h : RowOk cs sp) (h4 : sp.length ≤ 4) : ∀ k, k < 2 ^ sp.length → wordR (rowAt cs sp k) = wordR cs ∧ sizesR (rowAt cs sp k) = zAt (sizesR cs) (sp.map (rank cs)) k ∧ ∀ q, rank (rowAt cs sp k) q = rank cs q
  | 0, _ => ⟨rfl, rfl, fun _ => rfl⟩
  | k + 1, hk => by
    obtain ⟨i1, i2, i3⟩ := rows_at h h4 k (Nat.lt_of_succ_lt hk)
    obtain ⟨o1, _, _⟩ := h.at h4 k (Nat.lt_of_succ_lt hk)
    have hc : ctz (k + 1) < sp.length := ctz_lt' sp.length (by omega) (k + 1) hk (Nat.succ_pos _)
    have hm : sp.getD (ctz (k + 1)) 0 ∈ sp := by rw [List.getD_eq_getElem?_getD, List.getElem?_eq_getElem hc]; exact List.getElem_mem _
    obtain ⟨j1, j2⟩ := o1.sp _ hm
    obtain ⟨t1, t2, t3⟩ := turn_row (k + 1) j1 j2
    have hr : (sp.map (rank cs)).getD (ctz (k + 1)) 0 = rank cs (sp.getD (ctz (k + 1)) 0) := by
      rw [List.getD_eq_getElem?_getD, List.getD_eq_getElem?_getD, List.getElem?_map, List.getElem?_eq_getElem hc]; rfl
    refine ⟨by rw [rowAt, t1, i1], ?_, fun q => by rw [rowAt, t3, i3]⟩
    rw [rowAt, t2, i2, i3, zAt, hr]
end Mine
end

section -- Pure4
open PySem PySem.W PyProof.Rows PySem.Calls
set_option Elab.async false
set_option maxRecDepth 100000
namespace Mine

theorem nong_snoc (cs : List Nat) (c : Nat) : nong (cs ++ [c]) = nong cs ++ (if isGap c then [] else [c]) := by
  unfold nong
  rw [List.filter_append, List.filter_cons]
  cases isGap c <;> rfl
theorem nong_lRow (st : LSt) (x : Int) : nong (lRow st x) = nong st.row := by
  have hg := gp_range x
  unfold lRow
  split
  · rw [nong_snoc, gap_isGap (by omega) (by omega), if_pos rfl, List.append_nil]
  · rfl
theorem rank_app (cs ds : List Nat) (p : Nat) (h : p ≤ cs.length) : rank (cs ++ ds) p = rank cs p := by
  unfold rank
  rw [List.take_append_of_le_length h]
theorem xorN_snoc : ∀ (ms : List Nat) (zs : List Bool) (m : Nat) (z : Bool), ms.length = zs.length → xorN (ms ++ [m]) (zs ++ [z]) = xorN ms zs ^^^ (if z then m else 0)
  | [], [], m, z, _ => by show (if z then m else 0) ^^^ 0 = 0 ^^^ _; simp
  | a :: r, c :: s, m, z, h => by
    have ih := xorN_snoc r s m z (by simpa using h)
    show (if c then a else 0) ^^^ xorN (r ++ [m]) (s ++ [z]) = ((if c then a else 0) ^^^ xorN r s) ^^^ _
    rw [ih, Nat.xor_assoc]
  | [], _ :: _, _, _, h => by cases h
  | _ :: _, [], _, _, h => by cases h

/-- the places of the letters, by flags -/
def plOf (cb : List Bool) : List Nat := (List.range cb.length).filter fun i => cb.getD i false
def masksP (pl : List Nat) : List Int := pl.foldl (fun ms p => ms ++ ms.map (· + 2 ^ p)) [0]
theorem plOf_snoc (cb : List Bool) (c : Bool) : plOf (cb ++ [c]) = plOf cb ++ (if c then [cb.length] else []) := by
  unfold plOf
  rw [List.length_append, List.length_singleton, List.range_succ, List.filter_append]
  congr 1
  · refine List.filter_congr fun i hi => ?_
    have := List.mem_range.mp hi
    rw [List.getD_eq_getElem?_getD, List.getD_eq_getElem?_getD, List.getElem?_append_left this]
  · rw [List.filter_cons]
    have : (cb ++ [c]).getD cb.length false = c := by rw [List.getD_eq_getElem?_getD, List.getElem?_append_right (Nat.le_refl _)]; simp
    rw [this]
    cases c <;> rfl

structure Inv2 (st : LSt) (cb : List Bool) : Prop where
  len : cb.length = st.marks.length
  word : wordR st.row = st.word
  sizes : sizesR st.row = st.sizes
  spots : st.spots.map (rank st.row) = plOf cb
  masks : st.masks = masksP (plOf cb)
  first : st.first = ((xorN (st.marks.map Int.toNat) st.sizes : Nat) : Int)
  some : st.some = (plOf cb).map fun i => st.marks.getD i 0
  flags : ∀ i, st.sizes.getD i false = true → cb.getD i false = true

theorem plOf_lt {cb : List Bool} {p : Nat} (h : p ∈ plOf cb) : p < cb.length := List.mem_range.mp (List.mem_filter.mp h).1

theorem Inv2.step {st : LSt} {cb : List Bool} {n : Nat} (h : Inv2 st cb) (I : Inv st) (hl : LLen st n) (x : Int) : Inv2 (lStep st x) (cb ++ [decide (kdX x ≠ 4)]) := by
  have hno : nong (lRow st x ++ [sgX x]) = nong st.row ++ [sgX x] := by rw [nong_snoc, nong_lRow, sg_nogap]; rfl
  obtain ⟨f1, f2⟩ := sg_fold x
  have hz : st.sizes.length = st.marks.length := by rw [hl.sizes, hl.marks]
  have hmk := mk_range x
  have hpl : plOf (cb ++ [decide (kdX x ≠ 4)]) = if kdX x = 4 then plOf cb else plOf cb ++ [cb.length] := by
    rw [plOf_snoc]
    by_cases h4 : kdX x = 4
    · rw [if_pos h4, decide_eq_false (by simpa using h4)]; simp
    · rw [if_neg h4, decide_eq_true h4]; rfl
  constructor
  · rw [List.length_append, h.len]; show _ = (st.marks ++ [mkX x]).length; rw [List.length_append]; rfl
  · show wordR (lRow st x ++ [sgX x]) = st.word ++ [wdX x]
    unfold wordR
    rw [hno, List.map_append, ← h.word, ← f1]; rfl
  · show sizesR (lRow st x ++ [sgX x]) = st.sizes ++ [szX x]
    unfold sizesR
    rw [hno, List.map_append, ← h.sizes, ← f2]; rfl
  · rw [hpl]
    show (if kdX x = 4 then st.spots else st.spots ++ [(lRow st x).length]).map (rank (lRow st x ++ [sgX x])) = _
    have hold : st.spots.map (rank (lRow st x ++ [sgX x])) = plOf cb := by
      rw [← h.spots]
      refine List.map_congr_left fun p hp => ?_
      have hp1 := (I.row.sp p hp).1
      have e : ∃ d, lRow st x ++ [sgX x] = st.row ++ d := by
        unfold lRow
        split
        · exact ⟨_, List.append_assoc _ _ _⟩
        · exact ⟨_, rfl⟩
      obtain ⟨d, e⟩ := e
      rw [e, rank_app _ _ _ (Nat.le_of_lt hp1)]
    split
    · exact hold
    · rw [List.map_append, hold]
      congr 1
      show [rank (lRow st x ++ [sgX x]) (lRow st x).length] = [cb.length]
      rw [rank_app _ _ _ (Nat.le_refl _)]
      unfold rank
      rw [List.take_length, letters_lRow, I.lets, h.len]
  · rw [hpl]
    show (if kdX x = 4 then st.masks else st.masks ++ st.masks.map (· + 2 ^ st.marks.length)) = _
    split
    · exact h.masks
    · unfold masksP
      rw [List.foldl_append, h.masks, h.len]; rfl
  · show (if szX x then Builtin.bitXor st.first (mkX x) else st.first) = ((xorN ((st.marks ++ [mkX x]).map Int.toNat) (st.sizes ++ [szX x]) : Nat) : Int)
    rw [List.map_append]
    show _ = ((xorN (st.marks.map Int.toNat ++ [(mkX x).toNat]) (st.sizes ++ [szX x]) : Nat) : Int)
    rw [xorN_snoc _ _ _ _ (by rw [List.length_map, hz])]
    cases hs : szX x with
    | false => simp [h.first]
    | true =>
      rw [if_pos rfl, if_pos rfl, (xor8' I.first hmk).1, h.first, Int.toNat_natCast]
  · rw [hpl]
    show (if kdX x = 4 then st.some else st.some ++ [mkX x]) = (if kdX x = 4 then plOf cb else plOf cb ++ [cb.length]).map fun i => (st.marks ++ [mkX x]).getD i 0
    have hold : (plOf cb).map (fun i => (st.marks ++ [mkX x]).getD i 0) = st.some := by
      rw [h.some]
      refine List.map_congr_left fun p hp => ?_
      have := plOf_lt hp
      rw [List.getD_eq_getElem?_getD, List.getD_eq_getElem?_getD, List.getElem?_append_left (by rw [← h.len]; exact this)]
    split
    · exact hold.symm
    · rw [List.map_append, hold]
      congr 1
      show [mkX x] = [(st.marks ++ [mkX x]).getD cb.length 0]
      rw [List.getD_eq_getElem?_getD, h.len, List.getElem?_append_right (Nat.le_refl _)]; simp
  · intro i hi
    have hi : (st.sizes ++ [szX x]).getD i false = true := hi
    rw [List.getD_eq_getElem?_getD] at hi ⊢
    rcases Nat.lt_trichotomy i cb.length with hlt | heq | hgt
    · rw [List.getElem?_append_left (by rw [hz, ← h.len]; exact hlt)] at hi
      rw [List.getElem?_append_left hlt]
      have := h.flags i (by rw [List.getD_eq_getElem?_getD]; exact hi)
      rw [List.getD_eq_getElem?_getD] at this; exact this
    · subst heq
      have e1 : cb.length = st.sizes.length := by rw [hz, h.len]
      rw [e1, List.getElem?_append_right (Nat.le_refl _)] at hi
      rw [List.getElem?_append_right (Nat.le_refl _)]
      simp only [Nat.sub_self, List.getElem?_cons_zero, Option.getD_some] at hi ⊢
      unfold szX at hi
      have h4 : kdX x ≠ 4 := by
        intro h4
        rw [h4] at hi
        exact absurd hi (by decide)
      exact decide_eq_true h4
    · rw [List.getElem?_eq_none (by rw [List.length_append, hz, ← h.len]; show cb.length + 1 ≤ i; omega)] at hi
      exact absurd hi (by decide)
end Mine
end

section -- Pure5
open PySem PySem.W PyProof.Rows PySem.Calls
set_option Elab.async false
set_option maxRecDepth 100000
namespace Mine

theorem Inv2.fold : ∀ (xs : List Int) (st : LSt) (cb : List Bool) (n : Nat), Inv st → LLen st n → Inv2 st cb → Inv2 (xs.foldl lStep st) (cb ++ xs.map fun x => decide (kdX x ≠ 4))
  | [], st, cb, _, _, _, h => by rw [List.map_nil, List.append_nil]; exact h
  | x :: r, st, cb, n, I, hl, h => by
    have := Inv2.fold r (lStep st x) (cb ++ [decide (kdX x ≠ 4)]) (n + 1) (I.step x) (hl.step x) (h.step I hl x)
    rw [List.append_assoc] at this
    exact this
theorem Inv2.of (xs : List Int) : Inv2 (lRun xs) (xs.map fun x => decide (kdX x ≠ 4)) := by
  have := Inv2.fold xs lInit [] 0 ⟨by simp [lInit], by simp [lInit], by simp [lInit], ⟨by simp [lInit], by simp [lInit]⟩, rfl⟩ ⟨Nat.le_refl _, rfl, rfl, rfl, Nat.le_refl _, rfl, rfl⟩
    ⟨rfl, rfl, rfl, rfl, rfl, rfl, rfl, fun i hi => by simp [lInit] at hi⟩
  rw [List.nil_append] at this
  exact this

theorem zAt_len (z0 : List Bool) (lp : List Nat) : ∀ k, (zAt z0 lp k).length = z0.length
  | 0 => rfl
  | k + 1 => by rw [zAt, flip, List.length_set]; exact zAt_len z0 lp k

theorem sorted_perm_eq : ∀ {as bs : List Int}, as.Perm bs → as.Pairwise (· ≤ ·) → bs.Pairwise (· ≤ ·) → as = bs
  | [], bs, h, _, _ => h.nil_eq
  | a :: as, [], h, _, _ => absurd h.length_eq (by simp)
  | a :: as, c :: bs, h, ha, hb => by
    obtain ⟨ha1, ha2⟩ := List.pairwise_cons.mp ha
    obtain ⟨hb1, hb2⟩ := List.pairwise_cons.mp hb
    have e : a = c := by
      have h1 : a ∈ c :: bs := h.subset (.head _)
      have h2 : c ∈ a :: as := h.symm.subset (.head _)
      rcases List.mem_cons.mp h1 with h1 | h1
      · exact h1
      · rcases List.mem_cons.mp h2 with h2 | h2
        · exact h2.symm
        · have := hb1 a h1
          have := ha1 c h2
          omega
    subst e
    rw [sorted_perm_eq (List.Perm.cons_inv h) ha2 hb2]

def maskChk (cb z : List Bool) : Bool := ((List.range (2 ^ (plOf cb).length)).map fun k => maskOf (zAt z (plOf cb) k)).isPerm (masksP (plOf cb)) && decide ((masksP (plOf cb)).Pairwise (· ≤ ·))
theorem mask_all : ∀ c0 c1 c2 c3 z0 z1 z2 z3 : Bool, (z0 = true → c0 = true) → (z1 = true → c1 = true) → (z2 = true → c2 = true) → (z3 = true → c3 = true) → maskChk [c0, c1, c2, c3] [z0, z1, z2, z3] = true := by decide +kernel
theorem mask_ok {cb z : List Bool} (h1 : cb.length = 4) (h2 : z.length = 4) (h : ∀ i, z.getD i false = true → cb.getD i false = true) :
    ((List.range (2 ^ (plOf cb).length)).map fun k => maskOf (zAt z (plOf cb) k)).Perm (masksP (plOf cb)) ∧ (masksP (plOf cb)).Pairwise (· ≤ ·) := by
  match cb, h1, z, h2 with
  | [c0, c1, c2, c3], _, [z0, z1, z2, z3], _ =>
    have := mask_all c0 c1 c2 c3 z0 z1 z2 z3 (h 0) (h 1) (h 2) (h 3)
    unfold maskChk at this
    rw [Bool.and_eq_true] at this
    exact ⟨List.isPerm_iff.mp this.1, of_decide_eq_true this.2⟩

theorem tells_eq {st : LSt} {cb : List Bool} (h : Inv2 st cb) (I : Inv st) (hl : LLen st 4) :
    tellsOf st = (List.range (2 ^ (plOf cb).length)).map fun k => (st.word, zAt st.sizes (plOf cb) k, Wf (xorN (st.marks.map Int.toNat) (zAt st.sizes (plOf cb) k))) := by
  have hpl : (plOf cb).length = st.spots.length := by rw [← h.spots, List.length_map]
  unfold tellsOf
  rw [hpl]
  refine List.map_congr_left fun k hk => ?_
  have hk := List.mem_range.mp hk
  obtain ⟨r1, r2, _⟩ := rows_at I.row hl.spots k hk
  have hw : wideL st.marks = (st.marks.map Int.toNat).map Wf := by unfold wideL; rw [List.map_map]; rfl
  have hmn : ∀ m ∈ st.marks.map Int.toNat, m < 8 := by
    intro m hm
    obtain ⟨x, hx, rfl⟩ := List.mem_map.mp hm
    have := I.marks x hx
    omega
  have hz : (zAt st.sizes (plOf cb) k).length = 4 := by rw [zAt_len, hl.sizes]
  rw [tell_eq, r1, r2, h.word, h.sizes, h.spots, hw, told_eq _ hmn _ (by rw [hz, List.length_map, hl.marks]; exact Nat.le_refl _)]
end Mine
end

section -- Pure6
open PySem PySem.W PyProof.Rows PySem.Calls
set_option Elab.async false
set_option maxRecDepth 100000
namespace Mine

def allB : Nat → List (List Bool)
  | 0 => [[]]
  | n + 1 => (allB n).map (· ++ [false]) ++ (allB n).map (· ++ [true])
def ct (g : List Bool) : Nat := g.countP fun x => x
def cntN (ss : List Nat) (v : Nat) : Nat := (allB ss.length).countP fun g => xorN ss g == v
def spanN (sp : List Nat) (m : Nat) : List Nat := if sp.any (· == m) then sp else sp ++ sp.map fun t => m ^^^ t

theorem allB_len : ∀ {n : Nat} {g : List Bool}, g ∈ allB n → g.length = n
  | 0, g, h => by rw [allB, List.mem_singleton] at h; subst h; rfl
  | n + 1, g, h => by
    rw [allB] at h
    rcases List.mem_append.mp h with h | h <;> obtain ⟨g', h', rfl⟩ := List.mem_map.mp h <;> rw [List.length_append, allB_len h'] <;> rfl
theorem ct_snoc (g : List Bool) (c : Bool) : ct (g ++ [c]) = ct g + (if c then 1 else 0) := by
  unfold ct; rw [List.countP_append, List.countP_cons]; cases c <;> simp
theorem ct_le : ∀ {n : Nat} {g : List Bool}, g ∈ allB n → ct g ≤ n := fun {n g} h => by
  have := List.countP_le_length (p := fun x : Bool => x) (l := g)
  rw [allB_len h] at this; exact this
theorem xor_back (v m : Nat) : (v ^^^ m) ^^^ m = v := by rw [Nat.xor_assoc, Nat.xor_self, Nat.xor_zero]
theorem xor_move {a m v : Nat} : a ^^^ m = v ↔ a = v ^^^ m := ⟨fun h => by rw [← h, xor_back], fun h => by rw [h, xor_back]⟩

theorem cnt_snoc (ss : List Nat) (m v : Nat) : cntN (ss ++ [m]) v = cntN ss v + cntN ss (v ^^^ m) := by
  unfold cntN
  rw [List.length_append, List.length_singleton, allB, List.countP_append, List.countP_map, List.countP_map]
  congr 1
  · refine List.countP_congr fun g hg => ?_
    have hl := allB_len hg
    show (xorN (ss ++ [m]) (g ++ [false]) == v) = true ↔ _
    rw [xorN_snoc _ _ _ _ hl.symm, if_neg (by decide), Nat.xor_zero]
  · refine List.countP_congr fun g hg => ?_
    have hl := allB_len hg
    show (xorN (ss ++ [m]) (g ++ [true]) == v) = true ↔ _
    rw [xorN_snoc _ _ _ _ hl.symm, if_pos rfl, beq_iff_eq, beq_iff_eq]
    exact xor_move

structure Comb (ss sp : List Nat) (fw : List Int) : Prop where
  lt : ∀ a ∈ sp, a < 8
  zero : 0 ∈ sp
  clos : ∀ a ∈ sp, ∀ c ∈ sp, a ^^^ c ∈ sp
  cin : ∀ v, v ∈ sp → cntN ss v * sp.length = 2 ^ ss.length
  cout : ∀ v, v ∉ sp → cntN ss v = 0
  low : ∀ g ∈ allB ss.length, fw.getD (xorN ss g) 0 ≤ ct g
  att : ∀ v ∈ sp, ∃ g ∈ allB ss.length, xorN ss g = v ∧ (ct g : Int) = fw.getD v 0
  far : ∀ v, v < 8 → v ∉ sp → fw.getD v 0 = 9

theorem Comb.nil : Comb [] [0] [0, 9, 9, 9, 9, 9, 9, 9] where
  lt a ha := by rw [List.mem_singleton] at ha; omega
  zero := .head _
  clos a ha c hc := by
    rw [List.mem_singleton] at ha hc
    subst ha hc; exact .head _
  cin v hv := by rw [List.mem_singleton] at hv; subst hv; rfl
  cout v hv := by
    have : v ≠ 0 := fun e => hv (e ▸ .head _)
    unfold cntN
    rw [List.countP_eq_zero]
    intro g _
    have e : xorN [] g = 0 := by cases g <;> rfl
    rw [e, beq_iff_eq]
    exact fun h => this h.symm
  low g hg := by
    have : g = [] := by have := allB_len hg; exact List.eq_nil_of_length_eq_zero this
    subst this; decide
  att v hv := by rw [List.mem_singleton] at hv; subst hv; exact ⟨[], .head _, rfl, rfl⟩
  far v h8 hv := by
    have : v ≠ 0 := fun e => hv (e ▸ .head _)
    have : v = 1 ∨ v = 2 ∨ v = 3 ∨ v = 4 ∨ v = 5 ∨ v = 6 ∨ v = 7 := by omega
    rcases this with rfl | rfl | rfl | rfl | rfl | rfl | rfl <;> rfl

theorem mem_spanN {sp : List Nat} {m v : Nat} : v ∈ spanN sp m ↔ v ∈ sp ∨ (m ∉ sp ∧ v ^^^ m ∈ sp) := by
  unfold spanN
  by_cases h : m ∈ sp
  · have hb : (sp.any (· == m)) = true := List.any_eq_true.mpr ⟨m, h, beq_self_eq_true m⟩
    rw [if_pos hb]
    exact ⟨.inl, fun x => x.elim id fun y => absurd h y.1⟩
  · rw [if_neg (fun e => by obtain ⟨a, ha, e⟩ := List.any_eq_true.mp e; exact h (eq_of_beq e ▸ ha)), List.mem_append]
    refine or_congr Iff.rfl ⟨fun hv => ⟨h, ?_⟩, fun hv => List.mem_map.mpr ⟨v ^^^ m, hv.2, ?_⟩⟩
    · obtain ⟨t, ht, rfl⟩ := List.mem_map.mp hv
      rw [Nat.xor_comm m t, xor_back]; exact ht
    · rw [Nat.xor_comm, xor_back]

theorem Comb.span {ss sp : List Nat} {fw : List Int} (h : Comb ss sp fw) {m : Nat} (hm : m < 8) : (∀ a ∈ spanN sp m, a < 8) ∧ 0 ∈ spanN sp m ∧ (∀ a ∈ spanN sp m, ∀ c ∈ spanN sp m, a ^^^ c ∈ spanN sp m) := by
  refine ⟨fun a ha => ?_, mem_spanN.mpr (.inl h.zero), fun a ha c hc => ?_⟩
  · rcases mem_spanN.mp ha with ha | ⟨_, ha⟩
    · exact h.lt a ha
    · have := xor_lt8 (h.lt _ ha) hm
      rw [xor_back] at this; exact this
  · rcases mem_spanN.mp ha with ha | ⟨h1, ha⟩ <;> rcases mem_spanN.mp hc with hc | ⟨h2, hc⟩
    · exact mem_spanN.mpr (.inl (h.clos a ha c hc))
    · refine mem_spanN.mpr (.inr ⟨h2, ?_⟩)
      rw [Nat.xor_assoc]; exact h.clos a ha _ hc
    · refine mem_spanN.mpr (.inr ⟨h1, ?_⟩)
      have := h.clos _ ha c hc
      rw [Nat.xor_assoc, Nat.xor_comm m c, ← Nat.xor_assoc] at this; exact this
    · refine mem_spanN.mpr (.inl ?_)
      have := h.clos _ ha _ hc
      rw [Nat.xor_assoc, ← Nat.xor_assoc m, Nat.xor_comm m c, xor_back] at this
      exact this

theorem Comb.counts {ss sp : List Nat} {fw : List Int} (h : Comb ss sp fw) {m : Nat} : (∀ v, v ∈ spanN sp m → cntN (ss ++ [m]) v * (spanN sp m).length = 2 ^ (ss ++ [m]).length) ∧ (∀ v, v ∉ spanN sp m → cntN (ss ++ [m]) v = 0) := by
  have hL : (ss ++ [m]).length = ss.length + 1 := by rw [List.length_append]; rfl
  by_cases hm : m ∈ sp
  · have hb : (sp.any (· == m)) = true := List.any_eq_true.mpr ⟨m, hm, beq_self_eq_true m⟩
    have e : spanN sp m = sp := if_pos hb
    rw [e]
    refine ⟨fun v hv => ?_, fun v hv => ?_⟩
    · rw [cnt_snoc, Nat.add_mul, h.cin v hv, h.cin _ (h.clos v hv m hm), hL, Nat.pow_succ]; omega
    · have : v ^^^ m ∉ sp := fun hc => hv (by have := h.clos _ hc m hm; rw [xor_back] at this; exact this)
      rw [cnt_snoc, h.cout v hv, h.cout _ this]
  · have e : (spanN sp m).length = 2 * sp.length := by
      unfold spanN
      rw [if_neg (fun e => by obtain ⟨a, ha, e⟩ := List.any_eq_true.mp e; exact hm (eq_of_beq e ▸ ha)), List.length_append, List.length_map]; omega
    rw [e]
    refine ⟨fun v hv => ?_, fun v hv => ?_⟩
    · have key : ∀ n, n * sp.length = 2 ^ ss.length → n * (2 * sp.length) = 2 ^ (ss ++ [m]).length := fun n hn => by
        rw [hL, Nat.pow_succ, ← hn, Nat.mul_comm 2, Nat.mul_assoc]
      rcases mem_spanN.mp hv with hv | ⟨_, hv⟩
      · have : v ^^^ m ∉ sp := fun hc => hm (by have := h.clos _ hv _ hc; rw [← Nat.xor_assoc, Nat.xor_self, Nat.zero_xor] at this; exact this)
        rw [cnt_snoc, h.cout _ this, Nat.add_zero]
        exact key _ (h.cin v hv)
      · have : v ∉ sp := fun hc => hm (by have := h.clos _ hc _ hv; rw [← Nat.xor_assoc, Nat.xor_self, Nat.zero_xor] at this; exact this)
        rw [cnt_snoc, h.cout _ this, Nat.zero_add]
        exact key _ (h.cin _ hv)
    · have h1 : v ∉ sp := fun hc => hv (mem_spanN.mpr (.inl hc))
      have h2 : v ^^^ m ∉ sp := fun hc => hv (mem_spanN.mpr (.inr ⟨hm, hc⟩))
      rw [cnt_snoc, h.cout v h1, h.cout _ h2]
end Mine
end

section -- Pure7
open PySem PySem.W PyProof.Rows PySem.Calls
set_option Elab.async false
set_option maxRecDepth 100000
namespace Mine

def fewAtN (fw : List Int) (m t : Nat) : Int := if 1 + fw.getD (t ^^^ m) 0 < fw.getD t 0 then 1 + fw.getD (t ^^^ m) 0 else fw.getD t 0
def fewN (fw : List Int) (m : Nat) : List Int := (List.range 8).map (fewAtN fw m)
theorem fewN_at (fw : List Int) (m : Nat) {v : Nat} (h : v < 8) : (fewN fw m).getD v 0 = fewAtN fw m v := by
  unfold fewN
  rw [List.getD_eq_getElem?_getD, List.getElem?_map, List.getElem?_range h]; rfl
theorem fewAtN_le (fw : List Int) (m t : Nat) : fewAtN fw m t ≤ fw.getD t 0 ∧ fewAtN fw m t ≤ 1 + fw.getD (t ^^^ m) 0 := by
  unfold fewAtN; split <;> omega

theorem Comb.step {ss sp : List Nat} {fw : List Int} (h : Comb ss sp fw) {m : Nat} (hm : m < 8) (hss : ∀ x ∈ ss, x < 8) (h3 : ss.length ≤ 3) : Comb (ss ++ [m]) (spanN sp m) (fewN fw m) := by
  obtain ⟨s1, s2, s3⟩ := h.span hm
  obtain ⟨c1, c2⟩ := h.counts (m := m)
  have hL : (ss ++ [m]).length = ss.length + 1 := by rw [List.length_append]; rfl
  have hin : ∀ v, v ∈ sp → fw.getD v 0 ≤ 3 := fun v hv => by
    obtain ⟨g, hg, _, e⟩ := h.att v hv
    have := ct_le hg
    omega
  have hsnoc0 : ∀ g ∈ allB ss.length, xorN (ss ++ [m]) (g ++ [false]) = xorN ss g := fun g hg => by
    rw [xorN_snoc _ _ _ _ (allB_len hg).symm, if_neg (by decide), Nat.xor_zero]
  have hsnoc1 : ∀ g ∈ allB ss.length, xorN (ss ++ [m]) (g ++ [true]) = xorN ss g ^^^ m := fun g hg => by
    rw [xorN_snoc _ _ _ _ (allB_len hg).symm, if_pos rfl]
  have hmem : ∀ (g : List Bool) (c : Bool), g ∈ allB ss.length → g ++ [c] ∈ allB (ss ++ [m]).length := fun g c hg => by
    rw [hL, allB]
    cases c with
    | false => exact List.mem_append_left _ (List.mem_map_of_mem hg)
    | true => exact List.mem_append_right _ (List.mem_map_of_mem hg)
  refine ⟨s1, s2, s3, c1, c2, fun g hg => ?_, fun v hv => ?_, fun v h8 hv => ?_⟩
  · rw [hL, allB] at hg
    rcases List.mem_append.mp hg with hg | hg <;> obtain ⟨g', hg', rfl⟩ := List.mem_map.mp hg
    · rw [hsnoc0 g' hg', fewN_at _ _ (xorN_lt ss g' hss), ct_snoc]
      have := (fewAtN_le fw m (xorN ss g')).1
      have := h.low g' hg'
      simp; omega
    · rw [hsnoc1 g' hg', fewN_at _ _ (xor_lt8 (xorN_lt ss g' hss) hm), ct_snoc]
      have h1 := (fewAtN_le fw m (xorN ss g' ^^^ m)).2
      rw [xor_back] at h1
      have := h.low g' hg'
      simp; omega
  · have h8 := s1 v hv
    rw [fewN_at _ _ h8]
    have hvm8 : v ^^^ m < 8 := xor_lt8 h8 hm
    unfold fewAtN
    by_cases hc : 1 + fw.getD (v ^^^ m) 0 < fw.getD v 0
    · rw [if_pos hc]
      have hvm : v ^^^ m ∈ sp := by
        by_cases hx : v ^^^ m ∈ sp
        · exact hx
        · have e9 := h.far _ hvm8 hx
          by_cases hy : v ∈ sp
          · have := hin v hy; omega
          · have := h.far v h8 hy; omega
      obtain ⟨g, hg, e1, e2⟩ := h.att _ hvm
      refine ⟨g ++ [true], hmem g true hg, by rw [hsnoc1 g hg, e1, xor_back], ?_⟩
      rw [ct_snoc, if_pos rfl]; omega
    · rw [if_neg hc]
      have hvs : v ∈ sp := by
        by_cases hy : v ∈ sp
        · exact hy
        · have e9 := h.far v h8 hy
          rcases mem_spanN.mp hv with hx | ⟨_, hx⟩
          · exact absurd hx hy
          · have := hin _ hx; omega
      obtain ⟨g, hg, e1, e2⟩ := h.att _ hvs
      refine ⟨g ++ [false], hmem g false hg, by rw [hsnoc0 g hg, e1], ?_⟩
      rw [ct_snoc, if_neg (by decide)]; omega
  · have hv1 : v ∉ sp := fun hx => hv (mem_spanN.mpr (.inl hx))
    have hv2 : v ^^^ m ∉ sp := fun hx => by
      by_cases hms : m ∈ sp
      · exact hv1 (by have := h.clos _ hx m hms; rw [xor_back] at this; exact this)
      · exact hv (mem_spanN.mpr (.inr ⟨hms, hx⟩))
    rw [fewN_at _ _ h8]
    unfold fewAtN
    rw [h.far v h8 hv1, h.far _ (xor_lt8 h8 hm) hv2]; rfl

theorem Comb.fold : ∀ (r ss sp : List Nat) (fw : List Int), Comb ss sp fw → (∀ x ∈ ss, x < 8) → (∀ x ∈ r, x < 8) → ss.length + r.length ≤ 4 → Comb (ss ++ r) (r.foldl spanN sp) (r.foldl fewN fw)
  | [], ss, sp, fw, h, _, _, _ => by rw [List.append_nil]; exact h
  | m :: r, ss, sp, fw, h, h1, h2, h3 => by
    rw [List.length_cons] at h3
    have hm := h2 m (.head _)
    have := Comb.fold r (ss ++ [m]) (spanN sp m) (fewN fw m) (h.step hm h1 (by omega)) (fun x hx => by
      rcases List.mem_append.mp hx with hx | hx
      · exact h1 x hx
      · rw [List.mem_singleton] at hx; subst hx; exact hm) (fun x hx => h2 x (.tail _ hx)) (by rw [List.length_append]; show ss.length + 1 + r.length ≤ 4; omega)
    rw [List.append_assoc] at this
    exact this
theorem Comb.of (r : List Nat) (h2 : ∀ x ∈ r, x < 8) (h3 : r.length ≤ 4) : Comb r (r.foldl spanN [0]) (r.foldl fewN [0, 9, 9, 9, 9, 9, 9, 9]) :=
  Comb.fold r [] [0] _ Comb.nil (by simp) h2 (by simpa using h3)
end Mine
end

section -- Pure8
open PySem PySem.W PyProof.Rows PySem.Calls
set_option Elab.async false
set_option maxRecDepth 100000
namespace Mine

def spread : List Bool → List Bool → List Bool
  | true :: cb, g :: gs => g :: spread cb gs
  | false :: cb, gs => false :: spread cb gs
  | _, _ => []
def chosen : List Bool → List Nat → List Nat
  | true :: cb, m :: ms => m :: chosen cb ms
  | false :: cb, _ :: ms => chosen cb ms
  | _, _ => []
def gk (n k : Nat) : List Bool := zAt (List.replicate n false) (List.range n) k
def grayChk (cb z : List Bool) : Bool := (List.range (2 ^ (plOf cb).length)).all fun k =>
  zAt z (plOf cb) k == List.zipWith (fun a c => a != c) z (spread cb (gk (plOf cb).length k)) && dcount (zAt z (plOf cb) k) z == ct (gk (plOf cb).length k) && (spread cb (gk (plOf cb).length k)).length == 4
theorem gray_all : ∀ c0 c1 c2 c3 z0 z1 z2 z3 : Bool, grayChk [c0, c1, c2, c3] [z0, z1, z2, z3] = true := by decide +kernel
theorem gk_len (n k : Nat) : (gk n k).length = n := by unfold gk; rw [zAt_len, List.length_replicate]
theorem gk_perm : ∀ n, n < 5 → ((List.range (2 ^ n)).map (gk n)).isPerm (allB n) = true := by decide +kernel

theorem xorN_zip : ∀ (mn : List Nat) (z d : List Bool), z.length = d.length → xorN mn (List.zipWith (fun a c => a != c) z d) = xorN mn z ^^^ xorN mn d
  | [], z, d, _ => by
    have e : ∀ y, xorN [] y = 0 := fun y => by cases y <;> rfl
    rw [e, e, e]; rfl
  | m :: r, [], [], _ => by simp [xorN]
  | m :: r, a :: z, c :: d, h => by
    have ih := xorN_zip r z d (by simpa using h)
    show (if a != c then m else 0) ^^^ xorN r (List.zipWith _ z d) = ((if a then m else 0) ^^^ xorN r z) ^^^ ((if c then m else 0) ^^^ xorN r d)
    rw [ih]
    have e : (if a != c then m else 0) = (if a then m else 0) ^^^ (if c then m else 0) := by cases a <;> cases c <;> simp
    rw [e]
    generalize (if a then m else 0) = p
    generalize (if c then m else 0) = q
    rw [Nat.xor_assoc, Nat.xor_assoc, ← Nat.xor_assoc q, Nat.xor_comm q, Nat.xor_assoc]
  | _ :: _, [], _ :: _, h => by cases h
  | _ :: _, _ :: _, [], h => by cases h
theorem xorN_spread : ∀ (cb : List Bool) (mn : List Nat) (g : List Bool), cb.length = mn.length → xorN mn (spread cb g) = xorN (chosen cb mn) g
  | [], mn, g, h => by
    have : mn = [] := List.eq_nil_of_length_eq_zero h.symm
    subst this; cases g <;> rfl
  | true :: cb, m :: ms, g :: gs, h => by
    have ih := xorN_spread cb ms gs (by simpa using h)
    show (if g then m else 0) ^^^ xorN ms (spread cb gs) = (if g then m else 0) ^^^ xorN (chosen cb ms) gs
    rw [ih]
  | true :: cb, m :: ms, [], h => rfl
  | false :: cb, m :: ms, g, h => by
    have ih := xorN_spread cb ms g (by simpa using h)
    show (if false then m else 0) ^^^ xorN ms (spread cb g) = xorN (chosen cb ms) g
    rw [ih]; simp
  | _ :: _, [], _, h => by cases h

theorem gray_ok {cb z : List Bool} {mn : List Nat} (h1 : cb.length = 4) (h2 : z.length = 4) (h3 : mn.length = 4) {k : Nat} (hk : k < 2 ^ (plOf cb).length) :
    xorN mn (zAt z (plOf cb) k) = xorN mn z ^^^ xorN (chosen cb mn) (gk (plOf cb).length k) ∧ dcount (zAt z (plOf cb) k) z = ct (gk (plOf cb).length k) := by
  have hchk : grayChk cb z = true := by
    match cb, h1, z, h2 with
    | [c0, c1, c2, c3], _, [z0, z1, z2, z3], _ => exact gray_all c0 c1 c2 c3 z0 z1 z2 z3
  unfold grayChk at hchk
  have := List.all_eq_true.mp hchk k (List.mem_range.mpr hk)
  rw [Bool.and_eq_true, Bool.and_eq_true, beq_iff_eq, beq_iff_eq, beq_iff_eq] at this
  obtain ⟨⟨e1, e2⟩, e3⟩ := this
  refine ⟨?_, e2⟩
  rw [e1, xorN_zip _ _ _ (h2.trans e3.symm), xorN_spread _ _ _ (h1.trans h3.symm)]

theorem chosen_pl {cb : List Bool} {mn : List Nat} (h1 : cb.length = 4) (h3 : mn.length = 4) : chosen cb mn = (plOf cb).map fun i => mn.getD i 0 := by
  match cb, h1, mn, h3 with
  | [c0, c1, c2, c3], _, [m0, m1, m2, m3], _ => cases c0 <;> cases c1 <;> cases c2 <;> cases c3 <;> rfl

theorem span_int : ∀ (ms sp : List Nat), (∀ m ∈ ms, m < 8) → (∀ a ∈ sp, a < 8) → (ms.map fun m : Nat => (m : Int)).foldl spanStep (sp.map fun m : Nat => (m : Int)) = (ms.foldl spanN sp).map fun m : Nat => (m : Int)
  | [], sp, _, _ => rfl
  | m :: r, sp, h, hs => by
    have hm := h m (.head _)
    have hany : ((sp.map fun m : Nat => (m : Int)).any (· == (m : Int))) = sp.any (· == m) := by
      rw [List.any_map]
      congr 1
      funext a
      show ((a : Int) == (m : Int)) = (a == m)
      by_cases e : a = m
      · rw [e]; simp
      · have : (a : Int) ≠ m := by omega
        rw [beq_false_of_ne e, beq_false_of_ne this]
    have e : spanStep (sp.map fun m : Nat => (m : Int)) (m : Int) = (spanN sp m).map fun m : Nat => (m : Int) := by
      unfold spanStep spanN
      rw [hany]
      split
      · rfl
      · rw [List.map_append, List.map_map, List.map_map]
        congr 1
        refine List.map_congr_left fun a ha => ?_
        show Builtin.bitXor (m : Int) (a : Int) = ((m ^^^ a : Nat) : Int)
        exact (xor8n' m hm a (hs a ha)).1
    rw [List.map_cons, List.foldl_cons, List.foldl_cons, e]
    refine span_int r (spanN sp m) (fun x hx => h x (.tail _ hx)) fun a ha => ?_
    unfold spanN at ha
    split at ha
    · exact hs a ha
    · rcases List.mem_append.mp ha with ha | ha
      · exact hs a ha
      · obtain ⟨t, ht, rfl⟩ := List.mem_map.mp ha
        exact xor_lt8 hm (hs t ht)
theorem few_int : ∀ (ms : List Nat) (fw : List Int), (∀ m ∈ ms, m < 8) → (ms.map fun m : Nat => (m : Int)).foldl fewStep fw = ms.foldl fewN fw
  | [], fw, _ => rfl
  | m :: r, fw, h => by
    have hm := h m (.head _)
    have e : fewStep fw (m : Int) = fewN fw m := by
      unfold fewStep fewN
      refine List.map_congr_left fun t ht => ?_
      have ht := List.mem_range.mp ht
      unfold fewAt fewAtN
      rw [(xor8n' t ht m hm).1, Int.toNat_natCast]
    rw [List.map_cons, List.foldl_cons, List.foldl_cons, e]
    exact few_int r _ fun x hx => h x (.tail _ hx)
end Mine
end

section -- Pure9
open PySem PySem.W PyProof.Rows PySem.Calls
set_option Elab.async false
set_option maxRecDepth 100000
namespace Mine

theorem plOf_len (cb : List Bool) : (plOf cb).length ≤ cb.length := by
  unfold plOf
  exact Nat.le_trans (List.length_filter_le _ _) (by simp)

theorem pure_ok (xs : List Int) (h4 : xs.length = 4) : PureOk (lRun xs) := by
  have I := Inv.of xs
  have hl := LLen.of xs
  have h := Inv2.of xs
  have hcb : (xs.map fun x => decide (kdX x ≠ 4)).length = 4 := by rw [List.length_map, h4]
  rw [h4] at hl
  generalize (xs.map fun x => decide (kdX x ≠ 4)) = cb at h hcb
  generalize lRun xs = st at I hl h
  have ht := tells_eq h I hl
  have hmn : ∀ m ∈ st.marks.map Int.toNat, m < 8 := by
    intro m hm
    obtain ⟨x, hx, rfl⟩ := List.mem_map.mp hm
    have := I.marks x hx
    omega
  have hmn4 : (st.marks.map Int.toNat).length = 4 := by rw [List.length_map, hl.marks]
  have hn4 : (plOf cb).length ≤ 4 := hcb ▸ plOf_len cb
  have hss := chosen_pl hcb hmn4
  have hssl : (chosen cb (st.marks.map Int.toNat)).length = (plOf cb).length := by rw [hss, List.length_map]
  have hget : ∀ i, i ∈ plOf cb → (((st.marks.map Int.toNat).getD i 0 : Nat) : Int) = st.marks.getD i 0 ∧ (st.marks.map Int.toNat).getD i 0 < 8 := by
    intro i hi
    have hi4 : i < st.marks.length := by have := plOf_lt hi; rw [hl.marks]; omega
    have hm := I.marks _ (List.getElem_mem hi4)
    rw [List.getD_eq_getElem?_getD, List.getD_eq_getElem?_getD, List.getElem?_map, List.getElem?_eq_getElem hi4]
    show ((st.marks[i].toNat : Nat) : Int) = st.marks[i] ∧ st.marks[i].toNat < 8
    omega
  have hsome : st.some = (chosen cb (st.marks.map Int.toNat)).map fun m : Nat => (m : Int) := by
    rw [h.some, hss, List.map_map]
    exact List.map_congr_left fun i hi => (hget i hi).1.symm
  have hss8 : ∀ x ∈ chosen cb (st.marks.map Int.toNat), x < 8 := by
    rw [hss]
    intro x hx
    obtain ⟨i, hi, rfl⟩ := List.mem_map.mp hx
    exact (hget i hi).2
  have hf0 : xorN (st.marks.map Int.toNat) st.sizes < 8 := xorN_lt _ _ hmn
  have hC := Comb.of _ hss8 (by omega)
  have hspan : spanOf st.some = ((chosen cb (st.marks.map Int.toNat)).foldl spanN [0]).map fun m : Nat => (m : Int) := by
    unfold spanOf; rw [hsome]; exact span_int _ [0] hss8 (by simp)
  have hfew : fewOf st.some = (chosen cb (st.marks.map Int.toNat)).foldl fewN [0, 9, 9, 9, 9, 9, 9, 9] := by
    unfold fewOf; rw [hsome]; exact few_int _ _ hss8
  generalize hmnE : st.marks.map Int.toNat = mn at *
  generalize hspE : (chosen cb mn).foldl spanN [0] = sp at hC hspan
  generalize hfwE : (chosen cb mn).foldl fewN [0, 9, 9, 9, 9, 9, 9, 9] = fw at hC hfew
  have hgr := fun {k : Nat} (hk : k < 2 ^ (plOf cb).length) => gray_ok (mn := mn) hcb hl.sizes hmn4 hk
  have hperm : ((List.range (2 ^ (plOf cb).length)).map (gk (plOf cb).length)).Perm (allB (plOf cb).length) := List.isPerm_iff.mp (gk_perm _ (by omega))
  refine ⟨I.marks, I.some, I.first, I.row, by rw [I.lets, hl.marks]; exact Nat.le_refl _, ?_, ?_, ?_, ?_, fun k hk => ?_⟩
  · rw [ht, h.first, Int.toNat_natCast, hmnE]
    obtain ⟨j, hj⟩ : ∃ j, 2 ^ (plOf cb).length = j + 1 := ⟨2 ^ (plOf cb).length - 1, (Nat.sub_add_cancel Nat.one_le_two_pow).symm⟩
    rw [hj, List.range_succ_eq_map, List.map_cons]
    exact ⟨_, rfl⟩
  · intro t htm
    rw [ht] at htm
    obtain ⟨k, _, rfl⟩ := List.mem_map.mp htm
    exact ⟨rfl, by rw [zAt_len, hl.sizes]⟩
  · intro qs hp hw
    obtain ⟨m1, m2⟩ := mask_ok hcb hl.sizes h.flags
    rw [ht, List.map_map] at hp
    rw [h.masks]
    exact sorted_perm_eq (hp.trans m1) hw m2
  · rw [hspan, List.length_map]
    exact fun e => by have := hC.zero; rw [List.eq_nil_of_length_eq_zero e] at this; cases this
  · have hfirst : st.first = ((xorN mn st.sizes : Nat) : Int) := by rw [h.first, hmnE]
    generalize hfE : xorN mn st.sizes = f0 at *
    have hv8 : k ^^^ f0 < 8 := xor_lt8 hk hf0
    have hv : Builtin.bitXor (k : Int) st.first = ((k ^^^ f0 : Nat) : Int) := by rw [hfirst]; exact (xor8n' k hk f0 hf0).1
    have hsl : st.some.length = (chosen cb mn).length := by rw [hsome, List.length_map]
    have hany : (spanOf st.some).any (· == Builtin.bitXor (k : Int) st.first) = decide (k ^^^ f0 ∈ sp) := by
      rw [hv, hspan, List.any_map]
      by_cases hm : k ^^^ f0 ∈ sp
      · rw [decide_eq_true hm]
        exact List.any_eq_true.mpr ⟨_, hm, beq_self_eq_true ((k ^^^ f0 : Nat) : Int)⟩
      · rw [decide_eq_false hm, List.any_eq_false]
        intro a ha e
        have e : ((a : Int) == ((k ^^^ f0 : Nat) : Int)) = true := e
        have := eq_of_beq e
        exact hm (by rw [← Int.ofNat.inj this]; exact ha)
    have hhit : ∀ j, j < 2 ^ (plOf cb).length → ((Wf (xorN mn (zAt st.sizes (plOf cb) j)) == (wideAt 3).getD (k : Int).toNat 0) = true ↔ (xorN (chosen cb mn) (gk (plOf cb).length j) == k ^^^ f0) = true) := by
      intro j hj
      have hx8 : xorN (chosen cb mn) (gk (plOf cb).length j) < 8 := xorN_lt _ _ hss8
      rw [(hgr hj).1, Int.toNat_natCast, beq_iff_eq, beq_iff_eq]
      constructor
      · intro e
        have e2 := winj _ (xor_lt8 hf0 hx8) k hk e
        rw [← e2, Nat.xor_comm f0, xor_back]
      · intro e
        show Wf _ = Wf k
        rw [e, Nat.xor_comm f0, xor_back]
    have hcount : (tellsOf st).countP (fun t => t.2.2 == (wideAt 3).getD (k : Int).toNat 0) = cntN (chosen cb mn) (k ^^^ f0) := by
      rw [ht, List.countP_map]
      unfold cntN
      rw [hssl, ← hperm.countP_eq, List.countP_map]
      exact List.countP_congr fun j hj => hhit j (List.mem_range.mp hj)
    have hturn : ∀ M, M ∈ turnsP (tellsOf st) ((wideAt 3).getD (k : Int).toNat 0) st.sizes ↔ ∃ g ∈ allB (chosen cb mn).length, xorN (chosen cb mn) g = k ^^^ f0 ∧ M = ((ct g : Nat) : Int) := by
      intro M
      unfold turnsP
      rw [List.mem_map, hssl]
      constructor
      · rintro ⟨t, htm, rfl⟩
        obtain ⟨h1, h2⟩ := List.mem_filter.mp htm
        rw [ht] at h1
        obtain ⟨j, hj, rfl⟩ := List.mem_map.mp h1
        have hj := List.mem_range.mp hj
        refine ⟨gk (plOf cb).length j, hperm.subset (List.mem_map_of_mem (List.mem_range.mpr hj)), eq_of_beq ((hhit j hj).mp h2), ?_⟩
        rw [← (hgr hj).2]
      · rintro ⟨g, hg, e, rfl⟩
        obtain ⟨j, hj, rfl⟩ := List.mem_map.mp (hperm.symm.subset hg)
        have hjl := List.mem_range.mp hj
        refine ⟨_, List.mem_filter.mpr ⟨by rw [ht]; exact List.mem_map_of_mem hj, (hhit j hjl).mpr (by rw [e]; exact beq_self_eq_true _)⟩, ?_⟩
        rw [← (hgr hjl).2]
    refine ⟨fun hh => ?_, fun hh => ?_, fun hh => ?_, fun hh M hM hMin => ?_⟩
    · rw [hany] at hh
      rw [hcount, hC.cout _ (of_decide_eq_false hh)]
    · rw [hany] at hh
      have hin := of_decide_eq_true hh
      have hc := hC.cin _ hin
      have hpos : 0 < sp.length := List.length_pos_of_mem hC.zero
      rw [hcount, hsl, hspan, List.length_map]
      have e : ((2 : Int) ^ (chosen cb mn).length) = ((cntN (chosen cb mn) (k ^^^ f0) : Nat) : Int) * (sp.length : Int) := by
        rw [← Int.natCast_mul, hc]; simp
      rw [e, Int.mul_fdiv_cancel _ (by omega)]
    · rw [hany] at hh
      obtain ⟨g, hg, e1, e2⟩ := hC.att _ (of_decide_eq_true hh)
      intro e
      have := (hturn (ct g)).mpr ⟨g, hg, e1, rfl⟩
      rw [e] at this; cases this
    · rw [hany] at hh
      obtain ⟨g, hg, e1, e2⟩ := hC.att _ (of_decide_eq_true hh)
      obtain ⟨g', hg', e1', rfl⟩ := (hturn M).mp hM
      have l1 := hMin _ ((hturn (ct g)).mpr ⟨g, hg, e1, rfl⟩)
      have l2 := hC.low g' hg'
      rw [e1'] at l2
      rw [hv, hfew, Int.toNat_natCast]
      omega
end Mine
end

section -- Head20
open PySem PySem.W PyProof.Rows PySem.Calls
set_option Elab.async false
set_option maxRecDepth 100000
set_option linter.all false
namespace Mine
theorem ints_of {vs : List Value} {ns : List Int} (h : IntsAre vs ns) : ∃ sps : List (Int × Tok), vs = intsV sps ∧ sps.map (·.1) = ns := by
  induction h with
  | nil => exact ⟨[], rfl, rfl⟩
  | cons n t _ ih =>
    obtain ⟨sps, rfl, rfl⟩ := ih
    exact ⟨(n, t) :: sps, rfl, rfl⟩
theorem room_caller : Room callerA 5 := ⟨rfl, by decide +kernel, by decide +kernel⟩
theorem law_goal {w : World} {s₀ s₁ : Shared} {mg mb : Str → Option Value} {fa sc : Addr} {vs : List Value} {ns : List Int} {c : ClaimW} {cl : Str → Option Addr} {mean : ExcName → Option Value} {args : List WData} (y : YfQ s₀ = YaQ w)
    (k : ∀ b o, s₀.heap.get? b = some o → s₁.heap.get? b = some o) (tk : 2353 ≤ s₁.toks) (g : s₁.heap.Ns mainGlobals mg) (gb : s₁.heap.Ns builtinsNs mb) (hmg : mg (dAt 22).name = some (.ref fa)) (hg : s₁.gens = #[])
    (hL : s₁.heap.IsList sc vs.toArray) (hI : IntsAre vs ns) (hlen : ns.length ≤ 63) (hr : ∀ cls, c.raises args cls = false) (hp : c.post args (.bool true) args = true) :
    wpAny (model prg w) callerA (call (.ref fa) [.ref sc]) (fun v s' => GoodWG c cl mean args s₁ (.ok (.ret v)) s') (fun e s' => GoodWG c cl mean args s₁ (.error e) s') s₁ := by
  obtain ⟨G, e1, hf⟩ := gr_ok y k g gb
  obtain ⟨sps, rfl, rfl⟩ := ints_of hI
  rw [List.length_map] at hlen
  have hfa : fa = 186 := by
    obtain ⟨_, _, _, _, h, _⟩ := hf
    rw [hmg] at h
    injection h with h; injection h
  subst hfa
  have S : St s₁ s₁ [] := ⟨fun _ _ e => e, fun _ h => (nomatch h), fun _ h => (nomatch h), List.nodup_nil, Nat.le_refl _, by omega, ⟨rfl, rfl, rfl⟩⟩
  have h4 : (lawXs (sps.map (·.1))).length = 4 := by
    unfold lawXs
    rw [List.length_take, List.length_append]
    show min 4 (_ + 4) = 4; omega
  refine law_spec G S room_caller (Has.base hL) hlen (pure_ok _ h4) hf fun s' l' S' => ?_
  exact ⟨.inl ⟨_, _, [], rfl, hr, ReadsW.bool true, hp, fun _ => ⟨List.nodup_nil, fun _ hm => (nomatch hm)⟩⟩, .of_keep S'.keep, S'.same.2.2, .of_eq (S'.same.1.trans hg)⟩
end Mine
end

section -- Head21
open PySem PySem.W PyProof.Rows PySem.Calls
set_option Elab.async false
set_option maxRecDepth 100000
set_option linter.all false
set_option maxHeartbeats 0
namespace Mine
theorem ls_names : namesResolve PySem.Challenge.rw_pg0231_01.row.prog = true := by kernel_rfl
theorem ls_meet : (namesMeet PySem.Challenge.rw_pg0231_01.row.prog PySem.Challenge.rw_pg0231_01.row.prog.main.body fun x n => attrL n) = true := by kernel_rfl
theorem ls_open : looksOpen PySem.Challenge.rw_pg0231_01.row.prog = true := by
  unfold looksOpen
  rw [ls_names, ls_meet, PySem.W.Fast.te8326940854005059898]; kernel_rfl
theorem ls_part : PySem.Challenge.rw_pg0231_01.row.partSaid = true := by
  unfold OpenRow.partSaid
  rw [ls_open]; kernel_rfl
theorem ls_row : PySem.Challenge.rw_pg0231_01.row.wellSaid = true := by
  unfold OpenRow.wellSaid
  rw [ls_part]; kernel_rfl
theorem law_said : PySem.Challenge.rw_pg0231_01.wellSaid = true := by
  unfold OpenLaw.wellSaid
  rw [ls_row]; kernel_rfl
theorem open_said : (chainsOk viewQ && opensWell prg && (frees PySem.Challenge.rw_pg0231_01.row.toRowW && PySem.Challenge.rw_pg0231_01.row.toRowW.within.isEmpty)) = true := by kernel_rfl
end Mine
end

-- Final
open PySem PySem.W PyProof.Rows PySem.Calls
set_option Elab.async false
set_option maxRecDepth 100000
set_option linter.all false
set_option maxHeartbeats 0
open Mine in
theorem PySem.Challenge.cw_pg0231_01_holds : PySem.Challenge.rw_pg0231_01.Holds := by
  refine holds_law law_said fun said => ?_
  refine holds_openX (d := dAt 22) (kwd := []) (q := viewQ) (loose := looseL) (Xt := XtQ) (XP := XL viewQ []) (Yf := YfQ) (Ya := YaQ) (N := 100000) left_ok (fun s e => xl_of s (Bool.and_eq_true_iff.mp e).1) XL.keeps (by rfl) (by rfl) (by rfl) (fun s e => recFacts_of (Bool.and_eq_true_iff.mp e).2) (by rfl) said open_said ⟨rfl, rfl, rfl, rfl, rfl, by decide +kernel⟩ ?hw ?hc
  case hw => w_witness2
  case hc =>
    intro w s₀ s₁ mg mb G y fa o pm cd doc dV kV ho hd hcd hD hmg hg args vals as L hpre hlay hrd hwl hlo
    refine Ground.open G ?_
    intro T B D TE TW
    wrow_args hpre hlay hrd hwl hlo
    refine law_goal y L.keeps (X.script_toks L (congrArg Prod.snd y)) T.g T.b hmg hg (by assumption) (by assumption) (by omega) (fun _ => rfl) ?_
    wrow_post
