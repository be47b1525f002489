import PyProof.Rows.All
import Wide.All
import OpenK.AllK
import Wide.FinOn
import Lean
import PySem.Challenge.RW_xe0003_01
set_option Elab.async false
/-! text B1 -/
section
open PySem PySem.W PyProof.Rows PySem.Calls
set_option Elab.async false
set_option linter.unusedVariables false
namespace Mine

/-! the state: V the frame's locals (name, value or none), O the known objects -/
structure Sd (h₀ : Heap) (L : Addr) (V : List (Str × Option Value)) (O : List (Addr × Obj)) (h : Heap) : Prop where
  ns : ∃ m, h.Ns L m ∧ ∀ p ∈ V, m p.1 = p.2
  ndV : (V.map (·.1)).Nodup
  L0 : h₀.get? L = none
  keep : ∀ b o, h₀.get? b = some o → h.get? b = some o
  obj : ∀ p ∈ O, h.get? p.1 = some p.2
  off : ∀ p ∈ O, p.1 ≠ L ∧ h₀.get? p.1 = none
  nd : (O.map (·.1)).Nodup

/-- one entry of a list of pairs put anew -/
inductive Upd1 {α β : Type} (a : α) (o o' : β) : List (α × β) → List (α × β) → Prop
  | head (r) : Upd1 a o o' ((a, o) :: r) ((a, o') :: r)
  | tail (p) {r r'} : Upd1 a o o' r r' → Upd1 a o o' (p :: r) (p :: r')

theorem Upd1.keys {α β : Type} {a : α} {o o' : β} {l l' : List (α × β)} (u : Upd1 a o o' l l') : l'.map (·.1) = l.map (·.1) := by
  induction u with
  | head r => rfl
  | tail p _ ih => simp [ih]
theorem Upd1.mem {α β : Type} {a : α} {o o' : β} {l l' : List (α × β)} (u : Upd1 a o o' l l') : (a, o) ∈ l := by
  induction u with
  | head r => exact .head _
  | tail p _ ih => exact .tail _ ih
theorem Upd1.mem' {α β : Type} {a : α} {o o' : β} {l l' : List (α × β)} (u : Upd1 a o o' l l') : (a, o') ∈ l' := by
  induction u with
  | head r => exact .head _
  | tail p _ ih => exact .tail _ ih
/-- behind the change each entry is the new one or an old one of another key -/
theorem Upd1.cases {α β : Type} {a : α} {o o' : β} {l l' : List (α × β)} (u : Upd1 a o o' l l') (nd : (l.map (·.1)).Nodup) : ∀ p ∈ l', p = (a, o') ∨ (p ∈ l ∧ p.1 ≠ a) := by
  induction u with
  | head r =>
    intro p hp
    rcases List.mem_cons.mp hp with rfl | hp
    · exact .inl rfl
    · refine .inr ⟨.tail _ hp, fun e => ?_⟩
      rw [List.map_cons, List.nodup_cons] at nd
      exact nd.1 (List.mem_map.mpr ⟨p, hp, e⟩)
  | tail q u ih =>
    intro p hp
    rw [List.map_cons, List.nodup_cons] at nd
    rcases List.mem_cons.mp hp with rfl | hp
    · refine .inr ⟨.head _, fun e => ?_⟩
      exact nd.1 (e ▸ List.mem_map_of_mem u.mem)
    · exact (ih nd.2 p hp).imp id fun ⟨x, y⟩ => ⟨.tail _ x, y⟩

namespace Sd
variable {h₀ h h' : Heap} {L : Addr} {V V' : List (Str × Option Value)} {O O' : List (Addr × Obj)} {o o' : Obj} {a : Addr}

theorem get (D : Sd h₀ L V O h) (hm : (a, o) ∈ O) : h.get? a = some o := D.obj _ hm
theorem neL (D : Sd h₀ L V O h) (hm : (a, o) ∈ O) : a ≠ L := (D.off _ hm).1
theorem new0 (D : Sd h₀ L V O h) (hm : (a, o) ∈ O) : h₀.get? a = none := (D.off _ hm).2
theorem Llt (D : Sd h₀ L V O h) : L < h.objs.size := let ⟨_, hn, _⟩ := D.ns; hn.lt
theorem lt (D : Sd h₀ L V O h) (hm : (a, o) ∈ O) : a < h.objs.size := Heap.lt_size (D.get hm)
theorem size0 (D : Sd h₀ L V O h) : h₀.get? h.objs.size = none := by
  cases e : h₀.get? h.objs.size with
  | none => rfl
  | some o => exact absurd (Heap.lt_size (D.keep _ _ e)) (Nat.lt_irrefl _)

theorem keeps (D : Sd h₀ L V O h) (k : ∀ b o, h.get? b = some o → h'.get? b = some o) : Sd h₀ L V O h' where
  ns := let ⟨m, hn, hv⟩ := D.ns; ⟨m, hn.keeps k, hv⟩
  ndV := D.ndV
  L0 := D.L0
  keep := fun b o e => k b o (D.keep b o e)
  obj := fun p hp => k _ _ (D.obj p hp)
  off := D.off
  nd := D.nd

theorem pushG (D : Sd h₀ L V O h) (o : Obj) : Sd h₀ L V O (h.push o) := D.keeps fun _ _ e => Heap.get?_push_of_some _ e

theorem push (D : Sd h₀ L V O h) (o : Obj) (hf : o.isFreed = false := by rfl) : Sd h₀ L V ((h.objs.size, o) :: O) (h.push o) where
  ns := (D.pushG o).ns
  ndV := D.ndV
  L0 := D.L0
  keep := (D.pushG o).keep
  obj := fun p hp => by
    rcases List.mem_cons.mp hp with rfl | hp
    · exact Heap.get?_push_size _ hf
    · exact (D.pushG o).obj p hp
  off := fun p hp => by
    rcases List.mem_cons.mp hp with rfl | hp
    · exact ⟨Nat.ne_of_gt D.Llt, D.size0⟩
    · exact D.off p hp
  nd := by
    rw [List.map_cons, List.nodup_cons]
    refine ⟨fun hm => ?_, D.nd⟩
    obtain ⟨p, hp, e⟩ := List.mem_map.mp hm
    exact absurd (D.lt (o := p.2) (a := p.1) hp) (by rw [e]; exact Nat.lt_irrefl _)

/-- one object changed (garbage may be made) -/
theorem upd (D : Sd h₀ L V O h) (u : Upd1 a o o' O O') (hx : Heap.ExtBut a h h') (he : h'.get? a = some o') : Sd h₀ L V O' h' where
  ns := let ⟨m, hn, hv⟩ := D.ns; ⟨m, hn.extBut hx (Ne.symm (D.neL u.mem)), hv⟩
  ndV := D.ndV
  L0 := D.L0
  keep := fun b ob e => hx b ob (by rintro rfl; rw [D.new0 u.mem] at e; cases e) (D.keep b ob e)
  obj := fun p hp => by
    rcases u.cases D.nd p hp with rfl | ⟨hm, hne⟩
    · exact he
    · exact hx _ _ hne (D.obj p hm)
  off := fun p hp => by
    rcases u.cases D.nd p hp with rfl | ⟨hm, _⟩
    · exact ⟨D.neL u.mem, D.new0 u.mem⟩
    · exact D.off p hm
  nd := by rw [u.keys]; exact D.nd

theorem weak (D : Sd h₀ L V O h) (s : O'.Sublist O) : Sd h₀ L V O' h where
  ns := D.ns
  ndV := D.ndV
  L0 := D.L0
  keep := D.keep
  obj := fun p hp => D.obj p (s.subset hp)
  off := fun p hp => D.off p (s.subset hp)
  nd := List.Nodup.sublist (s.map _) D.nd

theorem perm (D : Sd h₀ L V O h) (s : O'.Perm O) : Sd h₀ L V O' h where
  ns := D.ns
  ndV := D.ndV
  L0 := D.L0
  keep := D.keep
  obj := fun p hp => D.obj p (s.subset hp)
  off := fun p hp => D.off p (s.subset hp)
  nd := (s.map _).nodup_iff.mpr D.nd

theorem setL (D : Sd h₀ L V O h) {m : Str → Option Value} {x : Str} {v : Value} {u : Option Value} (hn : h.Ns L m) (hv : ∀ p ∈ V, m p.1 = p.2) (up : Upd1 x u (some v) V V')
    (hn' : h'.Ns L (fun y => if y = x then some v else m y)) (hs : Heap.SameBut L h h') : Sd h₀ L V' O h' where
  ns := ⟨_, hn', fun p hp => by
    rcases up.cases D.ndV p hp with rfl | ⟨hm, hne⟩
    · simp
    · simp only [if_neg hne]; exact hv p hm⟩
  ndV := by rw [up.keys]; exact D.ndV
  L0 := D.L0
  keep := fun b ob e => hs.extBut b ob (by rintro rfl; rw [D.L0] at e; cases e) (D.keep b ob e)
  obj := fun p hp => hs.extBut _ _ (D.off p hp).1 (D.obj p hp)
  off := D.off
  nd := D.nd

/-- into another frame: the old one's object is an entry -/
theorem enter (D : Sd h₀ L V O h) {C : Addr} {V' : List (Str × Option Value)} {m' : Str → Option Value} (hC : h.get? C = none) (k : ∀ b o, h.get? b = some o → h'.get? b = some o) (hn' : h'.Ns C m')
    (hv' : ∀ p ∈ V', m' p.1 = p.2) (nd' : (V'.map (·.1)).Nodup) :
    ∃ oL, (∀ h'' : Heap, h''.get? L = some oL → ∃ m, h''.Ns L m ∧ ∀ p ∈ V, m p.1 = p.2) ∧ Sd h₀ C V' ((L, oL) :: O) h' := by
  obtain ⟨m, ⟨oL, es, ep, ho, hd, hk, hf⟩, hv⟩ := D.ns
  refine ⟨oL, fun h'' e => ⟨m, ⟨oL, es, ep, e, hd, hk, hf⟩, hv⟩, ?_⟩
  have hne : ∀ p ∈ (L, oL) :: O, p.1 ≠ C := fun p hp e => by
    rcases List.mem_cons.mp hp with rfl | hp
    · rw [← e] at hC; rw [ho] at hC; cases hC
    · have := D.obj p hp; rw [e, hC] at this; cases this
  refine ⟨⟨m', hn', hv'⟩, nd', ?_, fun b o e => k b o (D.keep b o e), fun p hp => ?_, fun p hp => ⟨hne p hp, ?_⟩, ?_⟩
  · cases e : h₀.get? C with
    | none => rfl
    | some o => rw [D.keep _ _ e] at hC; cases hC
  · rcases List.mem_cons.mp hp with rfl | hp
    · exact k _ _ ho
    · exact k _ _ (D.obj p hp)
  · rcases List.mem_cons.mp hp with rfl | hp
    · exact D.L0
    · exact (D.off p hp).2
  · rw [List.map_cons, List.nodup_cons]
    refine ⟨fun hm => ?_, D.nd⟩
    obtain ⟨p, hp, e⟩ := List.mem_map.mp hm
    exact (D.off p hp).1 e

/-- back to the old frame: pre and post are the entries before and behind its object -/
theorem leave {C : Addr} {V' : List (Str × Option Value)} {oL : Obj} {pre post : List (Addr × Obj)} (D : Sd h₀ C V' (pre ++ (L, oL) :: post) h') (L0 : h₀.get? L = none) (ndV : (V.map (·.1)).Nodup)
    (back : ∀ h'' : Heap, h''.get? L = some oL → ∃ m, h''.Ns L m ∧ ∀ p ∈ V, m p.1 = p.2) : Sd h₀ L V (pre ++ post) h' where
  ns := back _ (D.get (by simp))
  ndV := ndV
  L0 := L0
  keep := D.keep
  obj := fun p hp => D.obj p (by rcases List.mem_append.mp hp with h | h <;> simp [h])
  off := fun p hp => by
    refine ⟨fun e => ?_, (D.off p (by rcases List.mem_append.mp hp with h | h <;> simp [h])).2⟩
    have nd := D.nd
    rw [List.map_append, List.map_cons, List.nodup_append] at nd
    obtain ⟨n1, n2, n3⟩ := nd
    rw [List.nodup_cons] at n2
    rcases List.mem_append.mp hp with h | h
    · exact n3 _ (List.mem_map_of_mem h) _ (.head _) e
    · exact n2.1 (List.mem_map.mpr ⟨p, h, e⟩)
  nd := List.Nodup.sublist (List.Sublist.map _ (List.Sublist.append_left (List.sublist_cons_self _ _) _)) D.nd
end Sd

noncomputable abbrev lstO (vs : List Value) (n : Nat) : Obj := { cls := .type "list", data := .seq vs.toArray n }
noncomputable abbrev tupO (vs : List Value) : Obj := { cls := .type "tuple", data := .seq vs.toArray }
noncomputable abbrev cellL (o : Obj) (v : Option Value) : Obj := { o with data := .cell v }

structure Ok (k : Nat) (A : Around) : Prop where
  handled : A.handled = none
  room : A.depth + k < recursionLimit
  units : A.units + 16 * k < cLine

theorem Ok.deeper {k : Nat} {A : Around} (h : Ok (k + 1) A) (env : Env) : Ok k (A.deeper env) :=
  ⟨h.handled, by have := h.room; show A.depth + 1 + k < _; omega, by have := h.units; show A.units + 3 + 16 * k < _; omega⟩
theorem Ok.in1 {k : Nat} {A : Around} (h : Ok (k + 1) A) : Ok k A.in1 :=
  ⟨h.handled, by have := h.room; show A.depth + k < _; omega, by have := h.units; show A.units + 1 + 16 * k < _; omega⟩
theorem Ok.less {k j : Nat} {A : Around} (h : Ok k A) (hj : j ≤ k) : Ok j A :=
  ⟨h.handled, by have := h.room; omega, by have := h.units; omega⟩

section
variable {prog : Program} {w : World} {A : Around} {E : Value → Shared → Prop} {s : Shared} {env : Env} {h₀ : Heap} {L : Addr} {V V' : List (Str × Option Value)} {O O' : List (Addr × Obj)}

/-! names -/
theorem nmL {x : Str} {pos : Pos} {v : Value} {Q : Value → Shared → Prop} (D : Sd h₀ L V O s.heap) (hk : env.scope.kind = .function) (hL : env.locals = L) (hl : env.kindOf x = some .local) (hv : (x, some v) ∈ V)
    (h : Q v s) (hd : (x == ("__debug__" : Str)) = false := by decide) : wpAny (model prog w) A (eval (.Name x pos) env) Q E s := by
  obtain ⟨m, hn, hm⟩ := D.ns
  exact wpAny_Name (wpAny_loadName_local hk hl (hL ▸ hn) (hm _ hv) h) hd
theorem nmC {x : Str} {pos : Pos} {v : Value} {c : Addr} {oc : Obj} {Q : Value → Shared → Prop} (D : Sd h₀ L V O s.heap) (hk : env.scope.kind = .function) (hl : env.kindOf x = some .cell) (hc : env.cells.lookup x = some c)
    (hm : (c, cellL oc (some v)) ∈ O) (h : Q v s) (hd : (x == ("__debug__" : Str)) = false := by decide) : wpAny (model prog w) A (eval (.Name x pos) env) Q E s :=
  wpAny_Name (wpAny_loadName_cell hk hl hc ⟨_, D.get hm, rfl⟩ h) hd
theorem nmF {x : Str} {pos : Pos} {v : Value} {c : Addr} {oc : Obj} {Q : Value → Shared → Prop} (D : Sd h₀ L V O s.heap) (hk : env.scope.kind = .function) (hl : env.kindOf x = some .free) (hc : env.cells.lookup x = some c)
    (hm : (c, cellL oc (some v)) ∈ O) (h : Q v s) (hd : (x == ("__debug__" : Str)) = false := by decide) (hcd : (x == ("__classdict__" : Str)) = false := by decide) : wpAny (model prog w) A (eval (.Name x pos) env) Q E s :=
  wpAny_Name (wpAny_loadName_free hk hl hc ⟨_, D.get hm, rfl⟩ h hcd) hd

/-! stores -/
theorem stL {x : Str} {v : Value} {u : Option Value} {Q : Unit → Shared → Prop} (D : Sd h₀ L V O s.heap) (hk : env.scope.kind = .function) (hL : env.locals = L) (hl : env.kindOf x = some .local)
    (up : Upd1 x u (some v) V V') (h : ∀ h', Sd h₀ L V' O h' → Q () { s with heap := h', toks := s.toks + 1 }) : wpAny (model prog w) A (storeName env x v) Q E s := by
  obtain ⟨m, hn, hm⟩ := D.ns
  subst hL
  refine wpAny_storeName_local hl hn (fun h' hn' hs => h h' (D.setL hn hm up hn' hs)) (by rw [hk]; rfl)
theorem stC {x : Str} {v : Value} {u : Option Value} {c : Addr} {oc : Obj} {Q : Unit → Shared → Prop} (D : Sd h₀ L V O s.heap) (hk : env.scope.kind = .function) (hl : env.kindOf x = some .cell) (hc : env.cells.lookup x = some c)
    (up : Upd1 c (cellL oc u) (cellL oc (some v)) O O') (h : ∀ h', Sd h₀ L V O' h' → Q () { s with heap := h' }) : wpAny (model prog w) A (storeName env x v) Q E s := by
  unfold storeName
  simp only [hl, hk]
  refine wpAny_bind (wpAny_cellOf hc ?_)
  unfold cellSet
  have ho : s.heap.get? c = some (cellL oc u) := D.get up.mem
  refine wpAny_bind (wpAny_load ho ?_)
  have hu : (s.heap.update c fun o => { o with data := .cell (some v) }).get? c = some (cellL oc (some v)) := @Heap.get?_update_self s.heap c (cellL oc u) (fun o => { o with data := .cell (some v) }) ho rfl
  exact wpAny_update ho (h _ (D.upd up (Heap.SameBut.update ..).extBut hu))
end
end Mine
end
/-! text B2 -/
section
open PySem PySem.W PyProof.Rows PySem.Calls
set_option Elab.async false
set_option linter.unusedVariables false
namespace Mine

/-- what a loop draws from: the object I, the objects that it reads (need), n turns -/
noncomputable def Drv (prog : Program) (w : World) (A : Around) (h₀ : Heap) (I : Addr) (need : List (Addr × Obj)) (n : Nat) (P : Nat → Value → Prop) (St : Nat → Heap → Prop) : Prop :=
  ∃ fp wr, Walks prog w A I fp wr n P St ∧ (∀ b ∈ wr, b = I) ∧ (∀ b ∈ fp, b = I ∨ (∃ o, (b, o) ∈ need) ∨ ∃ o, h₀.get? b = some o) ∧ ∀ i h, St i h → ∃ o, h.get? I = some o

theorem Drv.list {prog : Program} {w : World} {A : Around} {h₀ : Heap} (hh : A.handled = none) {I l : Addr} (hne : l ≠ I) (vs : List Value) (n : Nat) :
    Drv prog w A h₀ I [(l, lstO vs n)] vs.length (fun i v => vs[i]? = some v) (fun i h => h.IsListIter I l i ∧ h.IsList l vs.toArray) := by
  have W := Walks.list (prog := prog) (w := w) hh I l hne vs.toArray
  rw [List.size_toArray] at W
  refine ⟨_, _, by simpa using W, fun b hb => by simpa using hb, fun b hb => ?_, fun i h st => let ⟨o, ho, _⟩ := st.1; ⟨o, ho⟩⟩
  simp only [List.mem_cons, List.not_mem_nil, or_false] at hb
  rcases hb with rfl | rfl
  · exact .inl rfl
  · exact .inr (.inl ⟨_, .head _⟩)

theorem Drv.list0 {prog : Program} {w : World} {A : Around} {h₀ : Heap} (hh : A.handled = none) {I l : Addr} (hne : l ≠ I) (vs : List Value) (hl : h₀.IsList l vs.toArray) :
    Drv prog w A h₀ I [] vs.length (fun i v => vs[i]? = some v) (fun i h => h.IsListIter I l i ∧ h.IsList l vs.toArray) := by
  have W := Walks.list (prog := prog) (w := w) hh I l hne vs.toArray
  rw [List.size_toArray] at W
  refine ⟨_, _, by simpa using W, fun b hb => by simpa using hb, fun b hb => ?_, fun i h st => let ⟨o, ho, _⟩ := st.1; ⟨o, ho⟩⟩
  simp only [List.mem_cons, List.not_mem_nil, or_false] at hb
  rcases hb with rfl | rfl
  · exact .inl rfl
  · obtain ⟨o, ho, _⟩ := hl; exact .inr (.inr ⟨o, ho⟩)

theorem Drv.range {prog : Program} {w : World} {A : Around} {h₀ : Heap} (hh : A.handled = none) (I : Addr) (a c : Int) (n : Nat) :
    Drv prog w A h₀ I [] n (fun i v => ∃ t, v = .int (a + i * c) t) (fun i h => IsRangeIter h I (a + (i : Nat) * c) ((n : Int) - (i : Nat)) c) :=
  ⟨_, _, Walks.range hh I a c n, fun b hb => by simpa using hb, fun b hb => .inl (by simpa using hb), fun _ _ st => ⟨_, st⟩⟩

section
variable {prog : Program} {w : World} {A : Around} {E : Value → Shared → Prop} {s : Shared} {env : Env} {h₀ : Heap} {L : Addr} {V V' : List (Str × Option Value)} {O O' : List (Addr × Obj)}

/-- the end of a loop's turn -/
noncomputable def TurnE (h₀ : Heap) (L I : Addr) (oI : Obj) (J : List (Str × Option Value) → List (Addr × Obj) → Prop) (s : Shared) (f : Flow) (s' : Shared) : Prop :=
  f = .next ∧ ∃ V' O' h' tk, s' = { s with heap := h', toks := tk } ∧ Sd h₀ L V' ((I, oI) :: O') h' ∧ J V' O'
theorem TurnE.intro {L I : Addr} {oI : Obj} {J : List (Str × Option Value) → List (Addr × Obj) → Prop} {h' : Heap} {tk : Nat} (D : Sd h₀ L V' ((I, oI) :: O') h') (j : J V' O') :
    TurnE h₀ L I oI J s .next { s with heap := h', toks := tk } := ⟨rfl, V', O', h', tk, rfl, D, j⟩

theorem forLoop {R : Result → Shared → Prop} {target : Expr} {body : List Stmt} {I : Addr} {oI : Obj} {need : List (Addr × Obj)} {n : Nat} {P : Nat → Value → Prop} {St : Nat → Heap → Prop}
    (Dv : Drv prog w A h₀ I need n P St) (J : Nat → List (Str × Option Value) → List (Addr × Obj) → Prop)
    (D : Sd h₀ L V ((I, oI) :: O) s.heap) (hst : St 0 s.heap) (h0 : J 0 V O) (hneed : ∀ i V O, J i V O → ∀ p ∈ need, p ∈ O)
    (turn : ∀ i v V₁ O₁ oI h tk E', i < n → P i v → J i V₁ O₁ → Sd h₀ L V₁ ((I, oI) :: O₁) h →
      wpAny (model prog w) A (assign target env v) (fun _ s₂ => wpAny (model prog w) A (execs body env) (TurnE h₀ L I oI (J (i + 1)) { s with heap := h, toks := tk }) E' s₂) E' { s with heap := h, toks := tk })
    (fin : ∀ V₁ O₁ h' tk, J n V₁ O₁ → Sd h₀ L V₁ O₁ h' → R (.ok .next) { s with heap := h', toks := tk })
    (ht : ∀ v, letOwnedTupleGo target (.ref I) v = pure () := by intro _; rfl) :
    codeAny (model prog w) A (.forLoop target (.ref I) body [] env) R s := by
  obtain ⟨fp, wr, W, hwr, hfp, hlive⟩ := Dv
  refine codeAny_forLoop (ht := ht)
    (fun k s' => ∃ i V₁ O₁ oI h' tk, s' = { s with heap := h', toks := tk } ∧ St i h' ∧ Sd h₀ L V₁ ((I, oI) :: O₁) h' ∧ J i V₁ O₁ ∧ i ≤ n ∧ k = n + 1 - i) ?_ (n + 1)
    ⟨0, V, O, oI, s.heap, s.toks, rfl, hst, D, h0, Nat.zero_le _, rfl⟩
  rintro k s' ⟨i, V₁, O₁, oI, h', tk, rfl, hst', D', hJ, hi, rfl⟩
  by_cases hlt : i < n
  · refine W.item i _ _ _ hlt hst' fun v h₁ tk₁ hP hst₁ hk₁ => ?_
    obtain ⟨oI', hoI'⟩ := hlive _ _ hst₁
    have D₁ : Sd h₀ L V₁ ((I, oI') :: O₁) h₁ := D'.upd (.head _) (fun b o hb e => hk₁ b o (fun h => hb (hwr b h)) e) hoI'
    refine wpAny_mono (turn i v V₁ O₁ oI' h₁ tk₁ _ hlt hP hJ D₁) (fun _ s₂ h₂ => wpAny_mono h₂ (fun f s₃ h₃ => ?_) fun _ _ e => e) fun _ _ e => e
    obtain ⟨rfl, V₂, O₂, h₃, tk₃, rfl, D₃, hJ₃⟩ := h₃
    refine ⟨n + 1 - (i + 1), by omega, i + 1, V₂, O₂, oI', h₃, tk₃, rfl, ?_, D₃, hJ₃, hlt, rfl⟩
    refine W.frame _ _ _ hst₁ fun b hb o e => ?_
    rcases hfp b hb with rfl | ⟨o', ho'⟩ | ⟨o', ho'⟩
    · have e1 : h₁.get? b = some oI' := hoI'
      rw [e] at e1; cases e1
      exact D₃.get (.head _)
    · have e1 := D₁.get (a := b) (o := o') (.tail _ (hneed _ _ _ hJ _ ho'))
      rw [e] at e1; cases e1
      exact D₃.get (.tail _ (hneed _ _ _ hJ₃ _ ho'))
    · have e1 := D₁.keep _ _ ho'
      rw [e] at e1; cases e1
      exact D₃.keep _ _ ho'
  · have hin : i = n := by omega
    subst hin
    refine W.done _ _ _ hst' fun h₁ tk₁ hk₁ => wpAny_execs_nil ?_
    have hI : I ∉ O₁.map (·.1) := by have := D'.nd; rw [List.map_cons, List.nodup_cons] at this; exact this.1
    have hIL : I ≠ L := D'.neL (.head _)
    refine fin V₁ O₁ h₁ tk₁ hJ ?_
    have D₂ := D'.weak (List.sublist_cons_self _ _)
    have hx : ∀ b o, b ≠ I → h'.get? b = some o → h₁.get? b = some o := fun b o hb e => hk₁ b o (fun h => hb (hwr b h)) e
    exact ⟨let ⟨m, hn, hv⟩ := D₂.ns; ⟨m, hn.at' fun o e => hx _ _ (Ne.symm hIL) e, hv⟩, D₂.ndV, D₂.L0,
      fun b o e => hx _ _ (by rintro rfl; rw [D'.new0 (.head _)] at e; cases e) (D₂.keep b o e),
      fun p hp => hx _ _ (fun e => hI (List.mem_map.mpr ⟨p, hp, e⟩)) (D₂.obj p hp), D₂.off, D₂.nd⟩

/-- a for statement, from its iterator on -/
noncomputable def ForAt (prog : Program) (w : World) (A : Around) (h₀ : Heap) (L : Addr) (target : Expr) (body : List Stmt) (env : Env) (Q : Flow → Shared → Prop) (it : Value) (s : Shared) : Prop :=
  ∃ I oI need n P St V O, ∃ J : Nat → List (Str × Option Value) → List (Addr × Obj) → Prop, it = .ref I ∧ Drv prog w A h₀ I need n P St ∧ Sd h₀ L V ((I, oI) :: O) s.heap ∧ St 0 s.heap ∧ J 0 V O ∧ (∀ i V O, J i V O → ∀ p ∈ need, p ∈ O) ∧
    (∀ i v V₁ O₁ oI h tk E', i < n → P i v → J i V₁ O₁ → Sd h₀ L V₁ ((I, oI) :: O₁) h →
      wpAny (model prog w) A (assign target env v) (fun _ s₂ => wpAny (model prog w) A (execs body env) (TurnE h₀ L I oI (J (i + 1)) { s with heap := h, toks := tk }) E' s₂) E' { s with heap := h, toks := tk }) ∧
    ∀ V₁ O₁ h' tk, J n V₁ O₁ → Sd h₀ L V₁ O₁ h' → Q .next { s with heap := h', toks := tk }

theorem for_ {x : Str} {px pos : Pos} {iter : Expr} {body : List Stmt} {Q : Flow → Shared → Prop}
    (h : wpAny (model prog w) A (eval iter env) (fun xv s₁ => wpAny (model prog w) A (pyIter xv) (fun it s₂ => ForAt prog w A h₀ L (.Name x px) body env Q it s₂) E s₁) E s)
    (hs : ∀ x, foldedSetIterable iter env x = pure x := by intro _; rfl) :
    wpAny (model prog w) A (exec (.For (.Name x px) iter body [] pos) env) Q E s := by
  refine wpAny_For (wpAny_mono h (fun xv s₁ h₁ => wpAny_mono h₁ (fun it s₂ h₂ => ?_) fun _ _ e => e) fun _ _ e => e) hs
  obtain ⟨I, oI, need, n, P, St, V, O, J, rfl, Dv, D, hst, h0, hneed, turn, fin⟩ := h₂
  exact forLoop (R := fun r s' => match r with | .ok f => Q f s' | .error e => cameBackBy (model prog w) A env E e s') Dv J D hst h0 hneed turn fin

/-! comprehensions -/
theorem mapSeq_push (vs : List Value) (n : Nat) (x : Value) : Obj.mapSeq (fun a => a.push x) (lstO vs n) = lstO (vs ++ [x]) (n + 1) := by
  simp [Obj.mapSeq, lstO]

theorem append_ {l : Addr} {vs : List Value} {n : Nat} {x : Value} {Q : Value → Shared → Prop} (D : Sd h₀ L V O s.heap) (u : Upd1 l (lstO vs n) (lstO (vs ++ [x]) (n + 1)) O O')
    (h : ∀ h', Sd h₀ L V O' h' → Q .none { s with heap := h' }) (hsz : vs.length ≤ sizeLine) : wpAny (model prog w) A (call (.builtin "list.append") [.ref l, x]) Q E s := by
  have ho := D.get u.mem
  refine wpAny_call_entry slot_list_append (⟨_, ho, rfl⟩ : s.TypeIs (.ref l) "list") entry_list_append ?_ (args_list_append _ _)
  show wpAny _ _ (updateSeq l (·.push x) >>= fun _ => ret .none) _ _ s
  refine wpAny_bind (wpAny_updateSeq ho rfl (wpAny_pure ⟨.none, rfl, h _ ?_⟩) (by simpa using hsz) (by simp; omega))
  refine D.upd u (Heap.SameBut.update ..).extBut ?_
  have := Heap.get?_update_self (Obj.mapSeq fun a => a.push x) ho (by rw [mapSeq_push]; rfl)
  rw [this, mapSeq_push]

noncomputable abbrev cTests (ifs : List Expr) (cenv : Env) : Sem Bool := forIn ifs true fun c r => if r = true then do let ok ← isTrue c cenv (eval c cenv); pure (ForInStep.yield ok) else pure (ForInStep.yield r)

theorem compLoop {R : Result → Shared → Prop} {elt target iter : Expr} {ifs : List Expr} {scope : Scope} {pos : Pos} {cenv : Env} {C B I : Addr} {oI oL : Obj} {need : List (Addr × Obj)} {n : Nat} {P : Nat → Value → Prop} {St : Nat → Heap → Prop}
    (Dv : Drv prog w A h₀ I need n P St) (hsz : n ≤ sizeLine) (J : Nat → List Value → List (Str × Option Value) → List (Addr × Obj) → Prop)
    (D : Sd h₀ C V ((I, oI) :: (B, lstO [] 0) :: (L, oL) :: O) s.heap) (hst : St 0 s.heap) (h0 : J 0 [] V O) (hneed : ∀ i ys V O, J i ys V O → ∀ p ∈ need, p ∈ O)
    (turn : ∀ i v ys V₁ O₁ oI k h tk E', i < n → P i v → J i ys V₁ O₁ → Sd h₀ C V₁ ((I, oI) :: (B, lstO ys k) :: (L, oL) :: O₁) h →
      wpAny (model prog w) A (assign target cenv v) (fun _ s₂ => wpAny (model prog w) A (cTests ifs cenv) (fun ok s₃ =>
        if ok = true then wpAny (model prog w) A (eval elt cenv) (fun y s₄ => ∃ V₂ O₂ h' tk', s₄ = { s with heap := h', toks := tk' } ∧ Sd h₀ C V₂ ((I, oI) :: (B, lstO ys k) :: (L, oL) :: O₂) h' ∧ J (i + 1) (ys ++ [y]) V₂ O₂) E' s₃
        else ∃ V₂ O₂ h' tk', s₃ = { s with heap := h', toks := tk' } ∧ Sd h₀ C V₂ ((I, oI) :: (B, lstO ys k) :: (L, oL) :: O₂) h' ∧ J (i + 1) ys V₂ O₂) E' s₂) E' { s with heap := h, toks := tk })
    (fin : ∀ ys k V₁ O₁ h' tk, ys.length ≤ n → J n ys V₁ O₁ → Sd h₀ C V₁ ((B, lstO ys k) :: (L, oL) :: O₁) h' → R (.ok .next) { s with heap := h', toks := tk })
    (ht : ∀ v, letOwnedTupleGo target (.ref I) v = pure () := by intro _; rfl) :
    codeAny (model prog w) A (.compStart (.ListComp elt [⟨target, iter, ifs, 0⟩] scope pos) 0 (.ref I) (.ref B) cenv) R s := by
  obtain ⟨fp, wr, W, hwr, hfp, hlive⟩ := Dv
  have loop : codeAny (model prog w) A (.compLoop (.ListComp elt [⟨target, iter, ifs, 0⟩] scope pos) 0 (.ref I) (.ref B) cenv) R s := by
    refine codeAny_compLoop_tests (ht := ht)
      (fun k s' => ∃ i ys V₁ O₁ oI e h' tk, s' = { s with heap := h', toks := tk } ∧ St i h' ∧ Sd h₀ C V₁ ((I, oI) :: (B, lstO ys e) :: (L, oL) :: O₁) h' ∧ J i ys V₁ O₁ ∧ ys.length ≤ i ∧ i ≤ n ∧ k = n + 1 - i) ?_ (n + 1)
      ⟨0, [], V, O, oI, 0, s.heap, s.toks, rfl, hst, D, h0, Nat.le_refl _, Nat.zero_le _, rfl⟩
    rintro k s' ⟨i, ys, V₁, O₁, oI, ep, h', tk, rfl, hst', D', hJ, hyl, hi, rfl⟩
    by_cases hlt : i < n
    · refine W.item i _ _ _ hlt hst' fun v h₁ tk₁ hP hst₁ hk₁ => ?_
      obtain ⟨oI', hoI'⟩ := hlive _ _ hst₁
      have D₁ : Sd h₀ C V₁ ((I, oI') :: (B, lstO ys ep) :: (L, oL) :: O₁) h₁ := D'.upd (.head _) (fun b o hb e => hk₁ b o (fun h => hb (hwr b h)) e) hoI'
      have frm : ∀ (Y : Obj) (V₂ : List (Str × Option Value)) (O₂ : List (Addr × Obj)) (h₃ : Heap) ys', Sd h₀ C V₂ ((I, oI') :: (B, Y) :: (L, oL) :: O₂) h₃ → J (i + 1) ys' V₂ O₂ → St (i + 1) h₃ := fun Y V₂ O₂ h₃ ys' D₃ hJ₃ => by
        refine W.frame _ _ _ hst₁ fun b hb o e => ?_
        rcases hfp b hb with rfl | ⟨o', ho'⟩ | ⟨o', ho'⟩
        · have e1 : h₁.get? b = some oI' := hoI'
          rw [e] at e1; cases e1
          exact D₃.get (.head _)
        · have e1 := D₁.get (a := b) (o := o') (.tail _ (.tail _ (.tail _ (hneed _ _ _ _ hJ _ ho'))))
          rw [e] at e1; cases e1
          exact D₃.get (.tail _ (.tail _ (.tail _ (hneed _ _ _ _ hJ₃ _ ho'))))
        · have e1 := D₁.keep _ _ ho'
          rw [e] at e1; cases e1
          exact D₃.keep _ _ ho'
      refine wpAny_mono (turn i v ys V₁ O₁ oI' ep h₁ tk₁ _ hlt hP hJ D₁) (fun _ s₂ h₂ => wpAny_mono h₂ (fun ok s₃ h₃ => ?_) fun _ _ e => e) fun _ _ e => e
      cases ok with
      | false =>
        simp only [Bool.false_eq_true, if_false] at h₃ ⊢
        obtain ⟨V₂, O₂, h₃', tk₃, rfl, D₃, hJ₃⟩ := h₃
        exact ⟨n + 1 - (i + 1), by omega, i + 1, ys, V₂, O₂, oI', ep, h₃', tk₃, rfl, frm _ _ _ _ _ D₃ hJ₃, D₃, hJ₃, by omega, hlt, rfl⟩
      | true =>
        simp only [if_true] at h₃ ⊢
        refine wpAny_mono h₃ (fun y s₄ h₄ => ?_) fun _ _ e => e
        obtain ⟨V₂, O₂, h₃', tk₃, rfl, D₃, hJ₃⟩ := h₄
        refine append_ D₃ (.tail _ (.head _)) (fun h₅ D₅ => ?_) (by omega)
        exact ⟨n + 1 - (i + 1), by omega, i + 1, ys ++ [y], V₂, O₂, oI', ep + 1, h₅, tk₃, rfl, frm _ _ _ _ _ D₅ hJ₃, D₅, hJ₃, by simp; omega, hlt, rfl⟩
    · have hin : i = n := by omega
      subst hin
      refine W.done _ _ _ hst' fun h₁ tk₁ hk₁ => ?_
      have hI : I ∉ ((B, lstO ys ep) :: (L, oL) :: O₁).map (·.1) := by have := D'.nd; rw [List.map_cons, List.nodup_cons] at this; exact this.1
      have hIC : I ≠ C := D'.neL (.head _)
      refine fin ys ep V₁ O₁ h₁ tk₁ hyl hJ ?_
      have D₂ := D'.weak (List.sublist_cons_self _ _)
      have hx : ∀ b o, b ≠ I → h'.get? b = some o → h₁.get? b = some o := fun b o hb e => hk₁ b o (fun h => hb (hwr b h)) e
      exact ⟨let ⟨m, hn, hv⟩ := D₂.ns; ⟨m, hn.at' fun o e => hx _ _ (Ne.symm hIC) e, hv⟩, D₂.ndV, D₂.L0,
        fun b o e => hx _ _ (by rintro rfl; rw [D'.new0 (.head _)] at e; cases e) (D₂.keep b o e),
        fun p hp => hx _ _ (fun e => hI (List.mem_map.mpr ⟨p, hp, e⟩)) (D₂.obj p hp), D₂.off, D₂.nd⟩
  exact codeAny_compStart_list loop (W.self 0 _ _ _ hst loop)
end
end Mine
end
/-! text B3 -/
section
open PySem PySem.W PyProof.Rows PySem.Calls
set_option Elab.async false
set_option linter.unusedVariables false
namespace Mine

theorem Sd.swap {h₀ h : Heap} {L C : Addr} {V V' : List (Str × Option Value)} {oL : Obj} {pre post : List (Addr × Obj)} (D : Sd h₀ C V' (pre ++ (L, oL) :: post) h) (L0 : h₀.get? L = none) (ndV : (V.map (·.1)).Nodup)
    (back : ∀ h'' : Heap, h''.get? L = some oL → ∃ m, h''.Ns L m ∧ ∀ p ∈ V, m p.1 = p.2) :
    ∃ oC, (∀ h'' : Heap, h''.get? C = some oC → ∃ m, h''.Ns C m) ∧ Sd h₀ L V (pre ++ (C, oC) :: post) h := by
  obtain ⟨m, ⟨oC, es, ep, ho, hd, hk, hf⟩, hv⟩ := D.ns
  refine ⟨oC, fun h'' e => ⟨m, ⟨oC, es, ep, e, hd, hk, hf⟩⟩, ?_⟩
  have D' := D.leave L0 ndV back
  have hCm : C ∉ (pre ++ post).map (·.1) := fun hm => by
    obtain ⟨p, hp, e⟩ := List.mem_map.mp hm
    refine (D.off p ?_).1 e
    rcases List.mem_append.mp hp with h | h <;> simp [h]
  refine ⟨D'.ns, ndV, L0, D'.keep, fun p hp => ?_, fun p hp => ?_, ?_⟩
  · rcases List.mem_append.mp hp with h | h
    · exact D'.obj p (List.mem_append_left _ h)
    · rcases List.mem_cons.mp h with rfl | h
      · exact ho
      · exact D'.obj p (List.mem_append_right _ h)
  · rcases List.mem_append.mp hp with h | h
    · exact D'.off p (List.mem_append_left _ h)
    · rcases List.mem_cons.mp h with rfl | h
      · exact ⟨Ne.symm (D.neL (a := L) (o := oL) (by simp)), D.L0⟩
      · exact D'.off p (List.mem_append_right _ h)
  · have nd := D'.nd
    rw [List.map_append] at nd hCm
    rw [List.map_append, List.map_cons]
    exact (List.perm_middle.nodup_iff).mpr (List.nodup_cons.mpr ⟨hCm, nd⟩)

/-- the entry's object changed at will, the entry forgotten -/
theorem Sd.drop {h₀ h h' : Heap} {L a : Addr} {V : List (Str × Option Value)} {o : Obj} {pre post : List (Addr × Obj)} (D : Sd h₀ L V (pre ++ (a, o) :: post) h) (hx : Heap.ExtBut a h h') : Sd h₀ L V (pre ++ post) h' := by
  have D' := D.weak (O' := pre ++ post) (List.Sublist.append_left (List.sublist_cons_self _ _) _)
  have hm : (a, o) ∈ pre ++ (a, o) :: post := by simp
  have nd := D.nd
  rw [List.map_append, List.map_cons] at nd
  have nd2 := (List.perm_middle.nodup_iff).mp nd
  rw [List.nodup_cons, ← List.map_append] at nd2
  exact ⟨let ⟨m, hn, hv⟩ := D.ns; ⟨m, hn.extBut hx (Ne.symm (D.neL hm)), hv⟩, D.ndV, D.L0,
    fun b ob e => hx _ _ (by rintro rfl; rw [D.new0 hm] at e; cases e) (D.keep b ob e),
    fun p hp => hx _ _ (fun e => nd2.1 (List.mem_map.mpr ⟨p, hp, e⟩)) (D'.obj p hp), D'.off, D'.nd⟩

section
variable {prog : Program} {w : World} {A : Around} {E : Value → Shared → Prop} {s : Shared} {env : Env} {h₀ : Heap} {L : Addr} {V V' : List (Str × Option Value)} {O O' : List (Addr × Obj)}

/-- the end of an element -/
noncomputable def ElE (h₀ : Heap) (C : Addr) (V : List (Str × Option Value)) (hd : List (Addr × Obj)) (J : List (Addr × Obj) → Prop) (s s' : Shared) : Prop :=
  ∃ O' h' tk, s' = { s with heap := h', toks := tk } ∧ Sd h₀ C V (hd ++ O') h' ∧ J O'

/-- a comprehension, from its iterator on; Q takes the new list's address -/
noncomputable def CompAt (prog : Program) (w : World) (A : Around) (h₀ : Heap) (L : Addr) (V : List (Str × Option Value)) (Vf : Addr → List (Str × Option Value)) (x : Str) (elt : Expr) (ifs : List Expr) (cenv : Addr → Env) (Q : Addr → Shared → Prop) (it : Value) (s : Shared) : Prop :=
  ∃ I oI need n P St O, ∃ J : Nat → List Value → List (Addr × Obj) → Prop, it = .ref I ∧ Drv prog w A h₀ I need n P St ∧ n ≤ sizeLine ∧ Sd h₀ L V ((I, oI) :: O) s.heap ∧ St 0 s.heap ∧ J 0 [] O ∧ (∀ i ys O, J i ys O → ∀ p ∈ need, p ∈ O) ∧
    (∀ C i v ys O₁ B oL oI k h tk E', i < n → P i v → ys.length ≤ i → J i ys O₁ → Sd h₀ C [(x, some v)] ((I, oI) :: (B, lstO ys k) :: (L, oL) :: O₁) h →
      wpAny (model prog w) A (cTests ifs (cenv C)) (fun ok s₃ =>
        if ok = true then wpAny (model prog w) A (eval elt (cenv C)) (fun y s₄ => ElE h₀ C [(x, some v)] [(I, oI), (B, lstO ys k), (L, oL)] (J (i + 1) (ys ++ [y])) { s with heap := h, toks := tk } s₄) E' s₃
        else ElE h₀ C [(x, some v)] [(I, oI), (B, lstO ys k), (L, oL)] (J (i + 1) ys) { s with heap := h, toks := tk } s₃) E' { s with heap := h, toks := tk }) ∧
    ∀ B ys k O₁ h' tk, ys.length ≤ n → J n ys O₁ → Sd h₀ L (Vf B) ((B, lstO ys k) :: O₁) h' → Q B { s with heap := h', toks := tk }

theorem compBlock {elt iter : Expr} {x : Str} {px : Pos} {ifs : List Expr} {scope : Scope} {cl : List (Str × Addr)} {pos : Pos} {it : Value} {Vf : Addr → List (Str × Option Value)} {Q : Addr → Shared → Prop} {R : Value → Addr → Result → Shared → Prop}
    (hcell : ∀ y ∈ scope.names, y.2 ≠ .cell) (hkind : scope.kind = .function) (hx : scope.names.lookup x = some .local)
    (h : CompAt prog w A h₀ L V Vf x elt ifs (fun C => compEnvC scope cl C env) Q it s)
    (hR : ∀ B C oC X O₁ h' tk, Sd h₀ L V ((B, X) :: (C, oC) :: O₁) h' → (∀ h'' : Heap, h''.get? C = some oC → ∃ m, h''.Ns C m) →
      (∀ h'' tk'', Sd h₀ L (Vf B) ((B, X) :: O₁) h'' → Q B { s with heap := h'', toks := tk'' }) → R (.ref B) C (.ok .next) { s with heap := h', toks := tk }) :
    wpAny (model prog w) A (newList []) (fun acc s₃ => wpAny (model prog w) A (newFunctionEnv scope env.globals cl [] env.qual none .none (some env)) (fun cenv s₄ =>
      codeAny (model prog w) A (.compStart (.ListComp elt [⟨.Name x px, iter, ifs, 0⟩] scope pos) 0 it acc { cenv with scope := relabel scope env }) (R acc cenv.locals) s₄) E s₃) E s := by
  obtain ⟨I, oI, need, n, P, St, O, J, rfl, Dv, hsz, D, hst, h0, hneed, turn, fin⟩ := h
  refine wpAny_newObj_type (wpAny_newFunctionEnv hcell (by intro y hy; simp at hy) (fun h₁ hns₁ hsb₁ => ?_) hkind)
  dsimp only at hns₁ hsb₁ ⊢
  have D1 : Sd h₀ L V ((s.heap.objs.size, lstO [] 0) :: (I, oI) :: O) (s.heap.push { cls := .type "list", dict := none, data := .seq ([] : List Value).toArray }) := D.push _
  generalize hH2 : s.heap.push { cls := .type "list", dict := none, data := .seq ([] : List Value).toArray } = H2 at hns₁ hsb₁ D1 ⊢
  have hC : H2.get? H2.objs.size = none := by
    cases e : H2.get? H2.objs.size with
    | none => rfl
    | some o => exact absurd (Heap.lt_size e) (Nat.lt_irrefl _)
  have k1 : ∀ b o, H2.get? b = some o → h₁.get? b = some o := fun b o e => hsb₁.extBut b o (Nat.ne_of_lt (Heap.lt_size e)) (Heap.get?_push_of_some _ e)
  obtain ⟨oL, back, D2⟩ := D1.enter (V' := [(x, none)]) hC k1 hns₁ (by intro p hp; simp at hp; subst hp; rfl) (by simp)
  have D3 : Sd h₀ H2.objs.size [(x, none)] ((I, oI) :: (s.heap.objs.size, lstO [] 0) :: (L, oL) :: O) h₁ := by
    refine D2.perm ?_
    refine (List.Perm.cons _ (List.Perm.swap _ _ _)).trans ?_
    refine (List.Perm.swap _ _ _).trans ?_
    exact List.Perm.cons _ (List.Perm.swap _ _ _)
  have hst₁ : St 0 h₁ := by
    obtain ⟨fp, wr, W, hwr, hfp, hlive⟩ := Dv
    refine W.frame _ _ _ hst fun b hb o e => k1 b o ?_
    rw [← hH2]; exact Heap.get?_push_of_some _ e
  refine compLoop (L := L) (oL := oL) Dv hsz (fun i ys V₁ O₁ => (J i ys O₁ ∧ ys.length ≤ i) ∧ ∃ u, V₁ = [(x, u)]) D3 hst₁ ⟨⟨h0, Nat.le_refl _⟩, _, rfl⟩ (fun i ys V O j => hneed _ _ _ j.1.1) ?_ ?_
  · rintro i v ys V₁ O₁ oI k h tk E' hi hP ⟨⟨hJ, hyl⟩, u, rfl⟩ D4
    refine wpAny_assign_Name (stL D4 (by show (relabel scope env).kind = _; exact hkind) rfl (lookup_relabel_local hx) (.head _) fun h5 D5 => ?_)
    refine wpAny_mono (turn H2.objs.size i v ys O₁ s.heap.objs.size oL oI k h5 (tk + 1) E' hi hP hyl hJ D5) (fun ok s₃ h₃ => ?_) fun _ _ e => e
    cases ok with
    | false =>
      simp only [Bool.false_eq_true, if_false] at h₃ ⊢
      obtain ⟨O₂, h', tk', rfl, D6, hJ'⟩ := h₃
      exact ⟨_, O₂, h', tk', rfl, D6, ⟨hJ', by omega⟩, _, rfl⟩
    | true =>
      simp only [if_true] at h₃ ⊢
      refine wpAny_mono h₃ (fun y s₄ h₄ => ?_) fun _ _ e => e
      obtain ⟨O₂, h', tk', rfl, D6, hJ'⟩ := h₄
      exact ⟨_, O₂, h', tk', rfl, D6, ⟨hJ', by simp; omega⟩, _, rfl⟩
  · rintro ys k V₁ O₁ h' tk hyl ⟨⟨hJ, _⟩, u, rfl⟩ D4
    obtain ⟨oC, bC, D5⟩ := Sd.swap (pre := [(s.heap.objs.size, lstO ys k)]) D4 D.L0 D.ndV back
    exact hR _ _ oC _ O₁ h' tk D5 bC fun h'' tk'' D6 => fin _ ys k O₁ h'' tk'' hyl hJ D6

theorem comp_ {elt iter : Expr} {x : Str} {px : Pos} {ifs : List Expr} {scope : Scope} {cl : List (Str × Addr)} {pos : Pos} {Q : Value → Shared → Prop}
    (hclos : closureFor scope env = pure cl) (hcell : ∀ y ∈ scope.names, y.2 ≠ .cell) (hkind : scope.kind = .function)
    (hnames : ∀ y ∈ scope.names, y.2 = .local → scope.names.lookup y.1 = some .local) (hx : scope.names.lookup x = some .local)
    (h : wpAny (model prog w) A (eval iter env) (fun xv s₁ => wpAny (model prog w) A (pyIter xv) (fun it s₂ => ∃ V, CompAt prog w A h₀ L V (fun _ => V) x elt ifs (fun C => compEnvC scope cl C env) (fun B s' => Q (.ref B) s') it s₂) E s₁) E s)
    (hs : ∀ x, foldedSetIterable iter env x = pure x := by intro _; rfl) :
    wpAny (model prog w) A (eval (.ListComp elt [⟨.Name x px, iter, ifs, 0⟩] scope pos) env) Q E s := by
  rw [eval_ListComp]
  refine wpAny_comprehension_free (use := none) rfl hs hclos hkind hnames (wpAny_mono h (fun xv s₁ h₁ => wpAny_mono h₁ (fun it s₂ h₂ => ?_) fun _ _ e => e) fun _ _ e => e)
  obtain ⟨V, h₂⟩ := h₂
  refine compBlock (R := fun acc C => compPost (model prog w) A E none Q acc C) hcell hkind hx h₂ ?_
  intro B C oC X O₁ h' tk D bC fin
  obtain ⟨m, hm⟩ := bC _ (D.get (by simp))
  exact ⟨m, hm, fun h'' hs'' => fin h'' tk (Sd.drop (pre := [(B, X)]) D hs''.extBut)⟩

theorem asgComp_ {elt iter : Expr} {x y : Str} {px py : Pos} {ifs : List Expr} {scope : Scope} {cl : List (Str × Addr)} {pos spos : Pos} {u : Option Value} {Vf : Addr → List (Str × Option Value)} {Q : Flow → Shared → Prop}
    (hsw : swapsWith (.ListComp elt [⟨.Name x px, iter, ifs, 0⟩] scope pos) (some (.Name y py)) spos.line env = pure true)
    (hclos : closureFor scope env = pure cl) (hcell : ∀ y ∈ scope.names, y.2 ≠ .cell) (hkind : scope.kind = .function)
    (hnames : ∀ y ∈ scope.names, y.2 = .local → scope.names.lookup y.1 = some .local) (hx : scope.names.lookup x = some .local)
    (hk : env.scope.kind = .function) (hL : env.locals = L) (hy : env.kindOf y = some .local)
    (h : wpAny (model prog w) A (eval iter env) (fun xv s₁ => wpAny (model prog w) A (pyIter xv) (fun it s₂ => ∃ V, (∀ B, Upd1 y u (some (.ref B)) V (Vf B)) ∧ CompAt prog w A h₀ L V Vf x elt ifs (fun C => compEnvC scope cl C env) (fun B s' => Q .next s') it s₂) E s₁) E s)
    (hs : ∀ x, foldedSetIterable iter env x = pure x := by intro _; rfl) :
    wpAny (model prog w) A (exec (.Assign [.Name y py] (.ListComp elt [⟨.Name x px, iter, ifs, 0⟩] scope pos) spos) env) Q E s := by
  rw [exec_Assign_Name_used _ _ _ _ hsw]
  refine wpAny_bind (wpAny_standAt (wpAny_bind ?_))
  show wpAny _ A (do let _ ← comprehension (.ListComp elt [⟨.Name x px, iter, ifs, 0⟩] scope pos) scope env _ (newList []) false (eval iter env) (some (assign (.Name y py) env))) _ _ s
  refine wpAny_bind (wpAny_mono (wpAny_comprehension_free (use := some (assign (.Name y py) env)) (Q := fun _ s' => Q .next s') rfl hs hclos hkind hnames
    (wpAny_mono h (fun xv s₁ h₁ => wpAny_mono h₁ (fun it s₂ h₂ => ?_) fun _ _ e => e) fun _ _ e => e)) (fun _ s' hq => wpAny_pure (wpAny_pure hq)) fun _ _ e => e)
  obtain ⟨V, up, h₂⟩ := h₂
  refine compBlock (R := fun acc C => compPost (model prog w) A E (some (assign (.Name y py) env)) (fun _ s' => Q .next s') acc C) hcell hkind hx h₂ ?_
  intro B C oC X O₁ h' tk D bC fin
  show wpAny _ A (assign (.Name y py) env (.ref B)) _ _ _
  refine wpAny_assign_Name (stL D hk hL hy (up B) fun h1 D1 => ?_)
  obtain ⟨m, hm⟩ := bC _ (D1.get (by simp))
  exact ⟨m, hm, fun h'' hs'' => fin h'' _ (Sd.drop (pre := [(B, X)]) D1 hs''.extBut)⟩
end
end Mine
end
/-! text B4 -/
section
open PySem PySem.W PyProof.Rows PySem.Calls
set_option Elab.async false
set_option linter.unusedVariables false
namespace Mine

structure EnvIs (env : Env) (sc : Scope) (L : Addr) (cells : List (Str × Addr)) : Prop where
  scope : env.scope = sc
  locals : env.locals = L
  globals : env.globals = mainGlobals
  builtins : env.builtins = builtinsNs
  cells : env.cells = cells

noncomputable def relS (scope outer : Scope) : Scope := { scope with names := scope.names.map fun (n, k) => if (k == .free && outer.kind == .function && outer.names.lookup n == some .cell) then (n, .cell) else (n, k) }
theorem relS_is (scope : Scope) (env : Env) : relabel scope env = relS scope env.scope := rfl

theorem EnvIs.comp {env : Env} {sc : Scope} {L : Addr} {cells cl : List (Str × Addr)} (e : EnvIs env sc L cells) (scope : Scope) (C : Addr) : EnvIs (compEnvC scope cl C env) (relS scope sc) C cl :=
  ⟨by show relabel scope env = _; rw [relS_is, e.scope], rfl, e.globals, e.builtins, rfl⟩

/-- the world behind the top: globals, builtins, no limit set -/
structure Wd (h₀ : Heap) (mg mb : Str → Option Value) : Prop where
  nolimit : h₀.NoLimit
  g : h₀.Ns mainGlobals mg
  b : h₀.Ns builtinsNs mb

section
variable {prog : Program} {w : World} {A : Around} {E : Value → Shared → Prop} {s : Shared} {env : Env} {h₀ : Heap} {L : Addr} {V V' : List (Str × Option Value)} {O O' : List (Addr × Obj)} {sc : Scope} {cells : List (Str × Addr)} {mg mb : Str → Option Value}

theorem vL {x : Str} {pos : Pos} {v : Value} {Q : Value → Shared → Prop} (D : Sd h₀ L V O s.heap) (e : EnvIs env sc L cells) (hv : (x, some v) ∈ V) (hl : sc.names.lookup x = some .local) (h : Q v s)
    (hk : sc.kind = .function := by rfl) (hd : (x == ("__debug__" : Str)) = false := by rfl) : wpAny (model prog w) A (eval (.Name x pos) env) Q E s :=
  nmL D (by rw [e.scope]; exact hk) e.locals (by unfold Env.kindOf; rw [e.scope]; exact hl) hv h hd
theorem vC {x : Str} {pos : Pos} {v : Value} {c : Addr} {oc : Obj} {Q : Value → Shared → Prop} (D : Sd h₀ L V O s.heap) (e : EnvIs env sc L cells) (hl : sc.names.lookup x = some .cell) (hc : cells.lookup x = some c)
    (hm : (c, cellL oc (some v)) ∈ O) (h : Q v s) (hk : sc.kind = .function := by rfl) (hd : (x == ("__debug__" : Str)) = false := by rfl) : wpAny (model prog w) A (eval (.Name x pos) env) Q E s :=
  nmC D (by rw [e.scope]; exact hk) (by unfold Env.kindOf; rw [e.scope]; exact hl) (by rw [e.cells]; exact hc) hm h hd
theorem vG {x : Str} {pos : Pos} {v : Value} {Q : Value → Shared → Prop} (D : Sd h₀ L V O s.heap) (e : EnvIs env sc L cells) (W : Wd h₀ mg mb) (hl : sc.names.lookup x = some .globalImplicit) (hv : mg x = some v) (h : Q v s)
    (hk : sc.kind = .function := by rfl) (hd : (x == ("__debug__" : Str)) = false := by rfl) : wpAny (model prog w) A (eval (.Name x pos) env) Q E s :=
  Name_function_global (by rw [e.scope]; exact hk) (by unfold Env.kindOf; rw [e.scope]; exact hl) (loadGlobal_global (env := env) (by rw [e.globals]; exact W.g.keeps D.keep) hv h) hd
theorem vB {x : Str} {pos : Pos} {v : Value} {Q : Value → Shared → Prop} (D : Sd h₀ L V O s.heap) (e : EnvIs env sc L cells) (W : Wd h₀ mg mb) (hl : sc.names.lookup x = some .globalImplicit) (hb : mg x = none ∧ mb x = some v) (h : Q v s)
    (hk : sc.kind = .function := by rfl) (hd : (x == ("__debug__" : Str)) = false := by rfl) : wpAny (model prog w) A (eval (.Name x pos) env) Q E s :=
  Name_function_global (by rw [e.scope]; exact hk) (by unfold Env.kindOf; rw [e.scope]; exact hl)
    (loadGlobal_builtin (env := env) (by rw [e.globals]; exact W.g.keeps D.keep) hb.1 (by rw [e.builtins]; exact W.b.keeps D.keep) hb.2 h) hd
theorem sL {x : Str} {v : Value} {u : Option Value} {Q : Unit → Shared → Prop} (D : Sd h₀ L V O s.heap) (e : EnvIs env sc L cells) (up : Upd1 x u (some v) V V') (hl : sc.names.lookup x = some .local)
    (h : ∀ h', Sd h₀ L V' O h' → Q () { s with heap := h', toks := s.toks + 1 }) (hk : sc.kind = .function := by rfl) : wpAny (model prog w) A (storeName env x v) Q E s :=
  stL D (by rw [e.scope]; exact hk) e.locals (by unfold Env.kindOf; rw [e.scope]; exact hl) up h
theorem sC {x : Str} {v : Value} {u : Option Value} {c : Addr} {oc : Obj} {Q : Unit → Shared → Prop} (D : Sd h₀ L V O s.heap) (e : EnvIs env sc L cells) (hl : sc.names.lookup x = some .cell) (hc : cells.lookup x = some c)
    (up : Upd1 c (cellL oc u) (cellL oc (some v)) O O') (h : ∀ h', Sd h₀ L V O' h' → Q () { s with heap := h' }) (hk : sc.kind = .function := by rfl) : wpAny (model prog w) A (storeName env x v) Q E s :=
  stC D (by rw [e.scope]; exact hk) (by unfold Env.kindOf; rw [e.scope]; exact hl) (by rw [e.cells]; exact hc) up h
end

/-! calls of the text's own defs -/
noncomputable def bodyOf (p : Program) (n : Nat) : List Stmt := match p.main.body[n]? with | some (.FunctionDef _ _ b _ _ _ _ _ _ _) => b | _ => []
noncomputable def scopeOf (p : Program) (n : Nat) : Scope := match p.main.body[n]? with | some (.FunctionDef _ _ _ _ _ _ s _ _ _) => s | _ => default
noncomputable def paramsOf (p : Program) (n : Nat) : Arguments := match p.main.body[n]? with | some (.FunctionDef _ a _ _ _ _ _ _ _ _) => a | _ => default

structure FnIs (p : Program) (h₀ : Heap) (f : Addr) (n : Nat) (fd : FuncData) : Prop where
  at_ : ∃ o, h₀.get? f = some o ∧ o.data = .func fd
  code : h₀.CodeRec fd.code fd.qualname
  body : fd.body = .stmts (bodyOf p n)
  scope : fd.scope = scopeOf p n
  params : fd.params = paramsOf p n
  globals : fd.globals = mainGlobals
  builtins : fd.builtins = builtinsNs
  closure : fd.closure = []

noncomputable def cellsAt (oc : Addr → Obj) (cm : Str → Option Value) (cs : List (Str × Addr)) : List (Addr × Obj) := cs.map fun p => (p.2, cellL (oc p.2) (cm p.1))

noncomputable def FnPost (h₀ : Heap) (Lf L : Addr) (oL : Obj) (Post : Value → List (Addr × Obj) → Prop) (s : Shared) (fl : Flow) (s' : Shared) : Prop :=
  ∃ v pre O' V' h' tk, fl = .ret v ∧ s' = { s with heap := h', toks := tk } ∧ Sd h₀ Lf V' (pre ++ (L, oL) :: O') h' ∧ Post v (pre ++ O')

theorem lookup_of_nodup {α : Type} : ∀ {l : List (Str × α)} {n : Str} {c : α}, (l.map (·.1)).Nodup → (n, c) ∈ l → l.lookup n = some c
  | (k, v) :: r, n, c, nd, h => by
    rw [List.map_cons, List.nodup_cons] at nd
    rw [List.lookup_cons]
    rcases List.mem_cons.mp h with e | h
    · cases e; simp
    · have : (n == k) = false := by
        cases hb : n == k with
        | false => rfl
        | true => exact absurd (List.mem_map.mpr ⟨(n, c), h, beq_iff_eq.mp hb⟩) nd.1
      rw [this]; exact lookup_of_nodup nd.2 h

section
variable {prog : Program} {w : World} {A : Around} {s : Shared} {h₀ : Heap} {L : Addr} {V : List (Str × Option Value)} {O : List (Addr × Obj)} {mg mb : Str → Option Value}
theorem callFn {p : Program} {R : Result → Shared → Prop} {f : Addr} {n : Nat} {fd : FuncData} {vals : List Value} {binds : List (Str × Value)} {Vf : List (Str × Option Value)} {j : Nat} {Post : Value → List (Addr × Obj) → Prop}
    (hA : Ok (j + 1) A) (F : FnIs p h₀ f n fd) (W : Wd h₀ mg mb) (D : Sd h₀ L V O s.heap)
    (hbind : bindArgs fd ⟨vals, []⟩ = pure binds)
    (hkind : ∀ b, ∀ x ∈ binds, (scopeOf p n).names.lookup x.1 = some .local ∨ ((scopeOf p n).names.lookup x.1 = some .cell ∧ ((cellsFrom b (scopeOf p n).names []).lookup x.1).isSome = true))
    (hV : ∀ q ∈ Vf, bindL (fun x => (scopeOf p n).names.lookup x) binds (fun _ => none) q.1 = q.2) (ndV : (Vf.map (·.1)).Nodup) (ndC : ∀ b, ((cellsFrom b (scopeOf p n).names []).map (·.1)).Nodup)
    (body : ∀ Lf oL oc h tk env A' E', Ok j A' → EnvIs env (scopeOf p n) Lf (cellsFrom (Lf + 1) (scopeOf p n).names []) →
      Sd h₀ Lf Vf (cellsAt oc (bindC (fun x => (scopeOf p n).names.lookup x) binds fun _ => none) (cellsFrom (Lf + 1) (scopeOf p n).names []) ++ (L, oL) :: O) h →
      wpAny (model prog w) A' (execs (bodyOf p n) env) (FnPost h₀ Lf L oL Post { s with heap := h, toks := tk }) E' { s with heap := h, toks := tk })
    (ret : ∀ v O' h' tk, Post v O' → Sd h₀ L V O' h' → R (.ok (.ret v)) { s with heap := h', toks := tk })
    (hco : (scopeOf p n).isCoroutine = false := by rfl) (hgen : (scopeOf p n).isGenerator = false := by rfl) (hk : (scopeOf p n).kind = .function := by rfl) :
    codeAny (model prog w) A (.call (.ref f) ⟨vals, []⟩) R s := by
  obtain ⟨o, ho, hdata⟩ := F.at_
  have hsc := F.scope
  refine codeAny_call_cells (by have := hA.room; omega) (D.keep _ _ ho) hdata (W.nolimit.keeps D.keep) (F.code.keeps D.keep) F.body hbind F.closure (by rw [hsc]; exact hkind _) (fun s₁ x => ?_) (by rw [hsc]; exact hco) (by rw [hsc]; exact hgen) (by rw [hsc]; exact hk)
  have hEnv : EnvIs (callEnvC fd s.heap.objs.size f) (scopeOf p n) s.heap.objs.size (cellsFrom (s.heap.objs.size + 1) (scopeOf p n).names []) :=
    ⟨hsc, rfl, F.globals, F.builtins, by show cellsFrom _ fd.scope.names [] = _; rw [hsc]⟩
  have hkd : (callEnvC fd s.heap.objs.size f).kindOf = fun x => (scopeOf p n).names.lookup x := by funext y; unfold Env.kindOf; rw [hEnv.scope]
  have hcl := hEnv.cells
  rw [hkd, hcl] at x
  obtain ⟨⟨⟨h1, tk1, rfl⟩, hns, hkp, hfr⟩, hcell, hap, hab⟩ := x
  have hC : s.heap.get? s.heap.objs.size = none := by
    cases e : s.heap.get? s.heap.objs.size with
    | none => rfl
    | some o => exact absurd (Heap.lt_size e) (Nat.lt_irrefl _)
  obtain ⟨oL, back, D2⟩ := D.enter (V' := Vf) hC hkp hns hV ndV
  have D3 : Sd h₀ s.heap.objs.size Vf (cellsAt (fun a => (h1.get? a).getD default) (bindC (fun x => (scopeOf p n).names.lookup x) binds fun _ => none) (cellsFrom (s.heap.objs.size + 1) (scopeOf p n).names []) ++ (L, oL) :: O) h1 := by
    have hcm : ∀ q ∈ cellsFrom (s.heap.objs.size + 1) (scopeOf p n).names [], h1.get? q.2 = some (cellL ((h1.get? q.2).getD default) (bindC (fun x => (scopeOf p n).names.lookup x) binds (fun _ => none) q.1)) := by
      intro q hq
      obtain ⟨oc, hoc, hd⟩ := hcell q.1 q.2 (lookup_of_nodup (ndC _) hq)
      have hoc' : h1.get? q.2 = some oc := hoc
      rw [hoc']
      show some oc = some { oc with data := _ }
      rw [← hd]
    have hfrs : ∀ q ∈ cellsFrom (s.heap.objs.size + 1) (scopeOf p n).names [], s.heap.get? q.2 = none := by
      intro q hq
      cases e : s.heap.get? q.2 with
      | none => rfl
      | some o => exact absurd (Heap.lt_size e) (Nat.lt_asymm (hab q.1 q.2 hq))
    have hO : ∀ q ∈ (L, oL) :: O, q.1 < s.heap.objs.size := by
      intro q hq
      rcases List.mem_cons.mp hq with rfl | hq
      · exact D.Llt
      · exact Heap.lt_size (D.obj q hq)
    refine ⟨D2.ns, ndV, D2.L0, D2.keep, fun q hq => ?_, fun q hq => ?_, ?_⟩
    · rcases List.mem_append.mp hq with hq | hq
      · obtain ⟨r, hr, rfl⟩ := List.mem_map.mp hq; exact hcm r hr
      · exact D2.obj q hq
    · rcases List.mem_append.mp hq with hq | hq
      · obtain ⟨r, hr, rfl⟩ := List.mem_map.mp hq
        refine ⟨Nat.ne_of_gt (hab r.1 r.2 hr), ?_⟩
        cases e : h₀.get? r.2 with
        | none => rfl
        | some o => have := D.keep _ _ e; rw [hfrs r hr] at this; cases this
      · exact D2.off q hq
    · rw [List.map_append, List.nodup_append]
      refine ⟨?_, D2.nd, fun a ha b hb e => ?_⟩
      · unfold cellsAt
        rw [List.map_map]
        show (List.map (fun q : Str × Addr => q.2) _).Nodup
        exact List.pairwise_map.mpr hap
      · obtain ⟨q, hq, rfl⟩ := List.mem_map.mp ha
        obtain ⟨r, hr, rfl⟩ := List.mem_map.mp hq
        obtain ⟨q', hq', rfl⟩ := List.mem_map.mp hb
        have h2 : s.heap.objs.size < r.2 := hab r.1 r.2 hr
        have h3 : r.2 = q'.1 := e
        exact Nat.lt_asymm h2 (h3 ▸ hO q' hq')
  refine wpAny_mono (body s.heap.objs.size oL _ h1 tk1 _ _ _ (hA.deeper _) hEnv D3) (fun fl s' hp => ?_) fun _ _ e => e
  obtain ⟨v, pre, O', V', h', tk, rfl, rfl, D4, hP⟩ := hp
  exact ret v (pre ++ O') h' tk hP (D4.leave D.L0 D.ndV back)
end
end Mine
end
/-! text B5 -/
section
open PySem PySem.W PyProof.Rows PySem.Calls
set_option Elab.async false
set_option linter.unusedVariables false
namespace Mine

theorem Drv.imp {prog : Program} {w : World} {A : Around} {h₀ : Heap} {I : Addr} {need : List (Addr × Obj)} {n : Nat} {P P' : Nat → Value → Prop} {St : Nat → Heap → Prop} (d : Drv prog w A h₀ I need n P St) (h : ∀ i v, P i v → P' i v) : Drv prog w A h₀ I need n P' St := by
  obtain ⟨fp, wr, W, a, b, c⟩ := d
  exact ⟨fp, wr, ⟨W.sub, W.frame, fun i s Q E hi st hQ => W.item i s Q E hi st fun v h' tk hP => hQ v h' tk (h _ _ hP), W.done, W.self⟩, a, b, c⟩

section
variable {prog : Program} {w : World} {A : Around} {E : Value → Shared → Prop} {s : Shared} {env : Env} {h₀ : Heap} {L : Addr} {V V' : List (Str × Option Value)} {O O' : List (Addr × Obj)}

theorem rSize {a b : Int} (h : a ≤ b) : Builtin.Range.rangeSize a b 1 = ((b - a).toNat : Int) := by
  rw [rangeSize_one]; split <;> omega

theorem iterRange {r : Addr} {a b c : Int} {t u v : Tok} {n : Nat} {Q : Value → Shared → Prop} (hh : A.handled = none) (D : Sd h₀ L V O s.heap) (hr : IsRange s.heap r a b c t u v) (hsmall : Builtin.Range.small a b c = true) (hn : Builtin.Range.rangeSize a b c = (n : Int))
    (k : ∀ I oI St h', Sd h₀ L V ((I, oI) :: O) h' → Drv prog w A h₀ I [] n (fun i v => ∃ t, v = .int (a + i * c) t) St → St 0 h' → Q (.ref I) { s with heap := h' }) : wpAny (model prog w) A (pyIter (.ref r)) Q E s := by
  refine wpAny_pyIter_range hr hsmall (k _ _ _ _ (D.push _) (Drv.range hh _ a c n) ?_)
  rw [hn]
  have := Heap.get?_push_size s.heap (o := { cls := .type "range_iterator", data := .fields #[rawInt a, rawInt (n : Int), rawInt c] }) rfl
  simpa using this

theorem rng1 {n : Int} {t : Tok} {Q : Value → Shared → Prop} (hh : A.handled = none) (D : Sd h₀ L V O s.heap) (h0 : 0 ≤ n) (hb : n < 2 ^ 62)
    (k : ∀ I oI St h' tk, Sd h₀ L V ((I, oI) :: O) h' → Drv prog w A h₀ I [] n.toNat (fun i v => ∃ t, v = .int (i : Nat) t) St → St 0 h' → Q (.ref I) { s with heap := h', toks := tk }) :
    wpAny (model prog w) A (call (.type "range") [.int n t]) (fun xv s₁ => wpAny (model prog w) A (pyIter xv) Q E s₁) E s := by
  refine call_range_1 (iterRange hh (D.pushG _) (IsRange.new ..) (small_one (by omega) (by omega) (by omega) hb) (n := n.toNat) (by rw [rSize h0]; simp) fun I oI St h' D' dv st => k I oI St h' _ D' (dv.imp ?_) st)
  rintro i v ⟨t, rfl⟩
  exact ⟨t, by simp⟩

theorem rng2 {a b : Int} {t u : Tok} {Q : Value → Shared → Prop} (hh : A.handled = none) (D : Sd h₀ L V O s.heap) (h0 : a ≤ b) (ha : -(2 ^ 62) ≤ a) (hb : b < 2 ^ 62)
    (k : ∀ I oI St h' tk, Sd h₀ L V ((I, oI) :: O) h' → Drv prog w A h₀ I [] (b - a).toNat (fun i v => ∃ t, v = .int (a + (i : Nat)) t) St → St 0 h' → Q (.ref I) { s with heap := h', toks := tk }) :
    wpAny (model prog w) A (call (.type "range") [.int a t, .int b u]) (fun xv s₁ => wpAny (model prog w) A (pyIter xv) Q E s₁) E s := by
  refine call_range_2 (iterRange hh (D.pushG _) (IsRange.new ..) (small_one ha (by omega) (by omega) hb) (rSize h0) fun I oI St h' D' dv st => k I oI St h' _ D' (dv.imp ?_) st)
  rintro i v ⟨t, rfl⟩
  exact ⟨t, by simp⟩

theorem rSizeDown {a b : Int} (h : b ≤ a) : Builtin.Range.rangeSize a b (-1) = ((a - b).toNat : Int) := by
  unfold Builtin.Range.rangeSize
  simp only [show ¬ ((-1 : Int) > 0) by decide, if_false, Int.neg_neg, Int.ediv_one]
  split <;> omega
theorem small_down {a b : Int} (ha : -(2 ^ 62) ≤ a) (ha' : a < 2 ^ 62) (hb : -(2 ^ 62) ≤ b) (hb' : b < 2 ^ 62) (h : b ≤ a) : Builtin.Range.small a b (-1) = true := by
  unfold Builtin.Range.small
  rw [rSizeDown h]
  simp only [Builtin.Range.rangeFitsLong, Bool.and_eq_true, Bool.or_eq_true, decide_eq_true_eq, beq_iff_eq, show ¬ ((-1 : Int) > 0) by decide, if_false]
  omega
theorem rng3 {a b : Int} {t u v : Tok} {Q : Value → Shared → Prop} (hh : A.handled = none) (D : Sd h₀ L V O s.heap) (h0 : b ≤ a) (hb : -(2 ^ 62) ≤ b) (ha : a < 2 ^ 62)
    (k : ∀ I oI St h' tk, Sd h₀ L V ((I, oI) :: O) h' → Drv prog w A h₀ I [] (a - b).toNat (fun i v => ∃ t, v = .int (a - (i : Nat)) t) St → St 0 h' → Q (.ref I) { s with heap := h', toks := tk }) :
    wpAny (model prog w) A (call (.type "range") [.int a t, .int b u, .int (-1) v]) (fun xv s₁ => wpAny (model prog w) A (pyIter xv) Q E s₁) E s := by
  refine call_range_3 (by decide) ?_
  refine iterRange hh (D.pushG _) (Heap.get?_push_size _ rfl) (small_down (by omega) ha hb (by omega) h0) (rSizeDown h0) fun I oI St h' D' dv st => k I oI St h' _ D' (dv.imp ?_) st
  rintro i v ⟨t, rfl⟩
  exact ⟨t, by simp; omega⟩

theorem iterList {l : Addr} {vs : List Value} {k₀ : Nat} {Q : Value → Shared → Prop} (hh : A.handled = none) (D : Sd h₀ L V O s.heap) (hm : (l, lstO vs k₀) ∈ O)
    (k : ∀ I oI St h', Sd h₀ L V ((I, oI) :: O) h' → Drv prog w A h₀ I [(l, lstO vs k₀)] vs.length (fun i v => vs[i]? = some v) St → St 0 h' → Q (.ref I) { s with heap := h' }) : wpAny (model prog w) A (pyIter (.ref l)) Q E s := by
  have hl : s.heap.IsList l vs.toArray := ⟨_, D.get hm, rfl, _, rfl⟩
  refine wpAny_pyIter_list hl (k _ _ _ _ (D.push _) (Drv.list hh (Nat.ne_of_lt (D.lt hm)) vs k₀) ⟨⟨_, Heap.get?_push_size _ rfl, rfl, rfl⟩, hl.push _⟩)

theorem newList_ {vs : List Value} {Q : Value → Shared → Prop} (D : Sd h₀ L V O s.heap) (h : ∀ a h', Sd h₀ L V ((a, lstO vs 0) :: O) h' → Q (.ref a) { s with heap := h' }) (hsz : vs.length ≤ sizeLine := by decide) :
    wpAny (model prog w) A (newList vs) Q E s := wpAny_newObj_type (h _ _ (D.push _)) (by show vs.toArray.size ≤ sizeLine; simpa using hsz)

theorem len_ {l : Addr} {vs : List Value} {k : Nat} {Q : Value → Shared → Prop} (D : Sd h₀ L V O s.heap) (hm : (l, lstO vs k) ∈ O) (hsz : vs.length ≤ sizeLine) (h : ∀ t tk, Q (.int vs.length t) { s with toks := tk }) :
    wpAny (model prog w) A (call (.builtin "len") [.ref l]) Q E s := by
  refine call_len_list (⟨_, D.get hm, rfl, _, rfl⟩ : s.heap.IsList l vs.toArray) (by rw [sizeLine_eq] at hsz; simp; omega) ?_
  have := h (s.toks + 1) (s.toks + 1 + 1)
  simpa using this

theorem item_ {value slice : Expr} {l : Addr} {vs : List Value} {k₀ : Nat} {k : Int} {u : Tok} {x : Value} {Q : Value → Shared → Prop} (D : Sd h₀ L V O s.heap) (hm : (l, lstO vs k₀) ∈ O) (h0 : 0 ≤ k) (hx : vs[k.toNat]? = some x) (hsz : vs.length ≤ sizeLine) (h : Q x s)
    (hs : subscripted slice false (.ref l) (.int k u) = operate [.ref l, .int k u] (getItem (.ref l) (.int k u)) := by with_unfolding_all rfl) (hg : ∀ r, letTemporaryGo value (.ref l) r = pure () := by intro _; with_unfolding_all rfl) :
    wpAny (model prog w) A (subscriptTail value slice (.ref l) (.int k u)) Q E s := by
  have hlt : k.toNat < vs.length := (List.getElem?_eq_some_iff.mp hx).1
  exact item_listL ⟨_, D.get hm, rfl, _, rfl⟩ h0 (by rw [sizeLine_eq] at hsz; omega) hx h hs hg

theorem itemI_ {value slice : Expr} {l : Addr} {vs : List Value} {ns : List Int} {k₀ : Nat} {k : Int} {u : Tok} {Q : Value → Shared → Prop} (D : Sd h₀ L V O s.heap) (hm : (l, lstO vs k₀) ∈ O) (hi : IntsAre vs ns) (h0 : 0 ≤ k) (h1 : k < ns.length) (hsz : ns.length ≤ sizeLine) (h : ∀ t, Q (.int (ns.getD k.toNat 0) t) s)
    (hs : subscripted slice false (.ref l) (.int k u) = operate [.ref l, .int k u] (getItem (.ref l) (.int k u)) := by with_unfolding_all rfl) (hg : ∀ r, letTemporaryGo value (.ref l) r = pure () := by intro _; with_unfolding_all rfl) :
    wpAny (model prog w) A (subscriptTail value slice (.ref l) (.int k u)) Q E s :=
  item_list_ints ⟨_, D.get hm, rfl, _, rfl⟩ hi h0 h1 (by rw [sizeLine_eq] at hsz; omega) h hs hg

theorem expr_ {e : Expr} {pos : Pos} {sc : Scope} {cells : List (Str × Addr)} {Q : Flow → Shared → Prop} (eI : EnvIs env sc L cells) (hk : sc.kind = .function) (hs : swapsWith e none pos.line env = pure false) (h : wpAny (model prog w) A (eval e env) (fun v s' => match v with | .ref _ => False | _ => Q .next s') E s) :
    wpAny (model prog w) A (exec (.Expr e pos) env) Q E s := wpAny_Expr h (by unfold interactive; rw [eI.scope, hk]; rfl) hs

theorem mAppend {l : Addr} {vs : List Value} {k : Nat} {pl : Sem Bool} {Q : Value × List Value → Shared → Prop} (D : Sd h₀ L V O s.heap) (hm : (l, lstO vs k) ∈ O) (h : Q (.builtin "list.append", [.ref l]) s) :
    wpAny (model prog w) A (getMethod (.ref l) "append" pl) Q E s := getMethod_list_append (D.get hm) rfl rfl h

theorem while_ {test : Expr} {body : List Stmt} {pos : Pos} {Q : Flow → Shared → Prop} (J : Nat → List (Str × Option Value) → List (Addr × Obj) → Prop) (n : Nat) (D : Sd h₀ L V O s.heap) (h0 : J n V O)
    (turn : ∀ n V₁ O₁ h tk E', J n V₁ O₁ → Sd h₀ L V₁ O₁ h → wpAny (model prog w) A (isTrue test env (eval test env)) (fun b s₂ =>
      if b = true then wpAny (model prog w) A (execs body env) (fun f s₃ => f = .next ∧ ∃ m V₂ O₂ h₂ tk₂, m < n ∧ s₃ = { s with heap := h₂, toks := tk₂ } ∧ J m V₂ O₂ ∧ Sd h₀ L V₂ O₂ h₂) E' s₂ else Q .next s₂) E' { s with heap := h, toks := tk }) :
    wpAny (model prog w) A (exec (.While test body [] pos) env) Q E s := by
  refine wpAny_While (codeAny_whileLoop (fun n s' => ∃ V₁ O₁ h tk, s' = { s with heap := h, toks := tk } ∧ J n V₁ O₁ ∧ Sd h₀ L V₁ O₁ h) ?_ n ⟨V, O, s.heap, s.toks, rfl, h0, D⟩)
  rintro n s' ⟨V₁, O₁, h, tk, rfl, hJ, D₁⟩
  refine wpAny_mono (turn n V₁ O₁ h tk _ hJ D₁) (fun b s₂ h₂ => ?_) fun _ _ e => e
  cases b with
  | false => exact wpAny_execs_nil h₂
  | true =>
    simp only [if_true] at h₂ ⊢
    refine wpAny_mono h₂ (fun f s₃ h₃ => ?_) fun _ _ e => e
    obtain ⟨rfl, m, V₂, O₂, h₂', tk₂, hm, rfl, hJ₂, D₂⟩ := h₃
    exact ⟨m, hm, V₂, O₂, h₂', tk₂, rfl, hJ₂, D₂⟩
end
end Mine
end
/-! text B6 -/
section
open PySem PySem.W PyProof.Rows PySem.Calls
set_option Elab.async false
set_option linter.unusedVariables false
namespace Mine
noncomputable abbrev Vs := List (Str × Option Value)
noncomputable abbrev Os := List (Addr × Obj)
section
variable {prog : Program} {w : World} {A : Around} {E : Value → Shared → Prop} {s : Shared} {env : Env} {h₀ : Heap} {L : Addr} {V V' : List (Str × Option Value)} {O O' : List (Addr × Obj)}

/-! statements in a row -/
theorem x_asg {x : Str} {p q : Pos} {value : Expr} {rest : List Stmt} {Q : Flow → Shared → Prop}
    (h : wpAny (model prog w) A (eval value env) (fun v s₁ => wpAny (model prog w) A (storeName env x v) (fun _ s₂ => wpAny (model prog w) A (execs rest env) Q E s₂) E s₁) E s)
    (hs : swapsWith value (some (.Name x q)) p.line env = pure false := by rfl) : wpAny (model prog w) A (execs (.Assign [.Name x q] value p :: rest) env) Q E s :=
  wpAny_execs_cons (wpAny_Assign_Name h hs)
theorem x_expr {e : Expr} {pos : Pos} {rest : List Stmt} {Q : Flow → Shared → Prop} (hk : env.scope.kind = .function)
    (h : wpAny (model prog w) A (eval e env) (fun v s' => match v with | .ref _ => False | _ => wpAny (model prog w) A (execs rest env) Q E s') E s) (hs : swapsWith e none pos.line env = pure false := by rfl) :
    wpAny (model prog w) A (execs (.Expr e pos :: rest) env) Q E s :=
  wpAny_execs_cons (wpAny_Expr (wpAny_mono h (fun v s' h' => by cases v <;> exact h') fun _ _ e => e) (by unfold interactive; rw [hk]; rfl) hs)
theorem x_ret {e : Expr} {pos : Pos} {rest : List Stmt} {Q : Flow → Shared → Prop} (h : wpAny (model prog w) A (eval e env) (fun v s' => Q (.ret v) s') E s) : wpAny (model prog w) A (execs (.Return (some e) pos :: rest) env) Q E s :=
  wpAny_execs_cons (wpAny_Return_some h)
theorem x_stmt {st : Stmt} {rest : List Stmt} {Q : Flow → Shared → Prop} (h : wpAny (model prog w) A (exec st env) (fun f s' => f = .next ∧ wpAny (model prog w) A (execs rest env) Q E s') E s) : wpAny (model prog w) A (execs (st :: rest) env) Q E s :=
  wpAny_execs_cons (wpAny_mono h (fun f s' h' => by obtain ⟨rfl, h'⟩ := h'; exact h') fun _ _ e => e)
/-- an if without else, both ways going on -/
theorem x_if {test : Expr} {body : List Stmt} {pos : Pos} {rest : List Stmt} {Q : Flow → Shared → Prop}
    (h : wpAny (model prog w) A (isTrue test env (eval test env)) (fun b s₁ => if b = true then wpAny (model prog w) A (execs body env) (fun f s' => match f with | .next => wpAny (model prog w) A (execs rest env) Q E s' | f => Q f s') E s₁ else wpAny (model prog w) A (execs rest env) Q E s₁) E s) :
    wpAny (model prog w) A (execs (.If test body [] pos :: rest) env) Q E s := by
  refine wpAny_execs_cons (wpAny_If (wpAny_mono h (fun b s₁ h₁ => ?_) fun _ _ e => e))
  cases b with
  | false => exact wpAny_execs_nil h₁
  | true => exact h₁
theorem x_while {test : Expr} {body : List Stmt} {pos : Pos} {rest : List Stmt} {Q : Flow → Shared → Prop} (J : Nat → List (Str × Option Value) → List (Addr × Obj) → Prop) (K : List (Str × Option Value) → List (Addr × Obj) → Prop) (n : Nat) (D : Sd h₀ L V O s.heap) (h0 : J n V O)
    (turn : ∀ n V₁ O₁ h tk E', J n V₁ O₁ → Sd h₀ L V₁ O₁ h → wpAny (model prog w) A (isTrue test env (eval test env)) (fun b s₂ =>
      if b = true then wpAny (model prog w) A (execs body env) (fun f s₃ => f = .next ∧ ∃ m V₂ O₂ h₂ tk₂, m < n ∧ s₃ = { s with heap := h₂, toks := tk₂ } ∧ J m V₂ O₂ ∧ Sd h₀ L V₂ O₂ h₂) E' s₂ else ∃ V₂ O₂ h₂ tk₂, s₂ = { s with heap := h₂, toks := tk₂ } ∧ Sd h₀ L V₂ O₂ h₂ ∧ K V₂ O₂) E' { s with heap := h, toks := tk })
    (fin : ∀ V₁ O₁ h tk, K V₁ O₁ → Sd h₀ L V₁ O₁ h → wpAny (model prog w) A (execs rest env) Q E { s with heap := h, toks := tk }) :
    wpAny (model prog w) A (execs (.While test body [] pos :: rest) env) Q E s := by
  refine x_stmt (while_ J n D h0 fun n V₁ O₁ h tk E' hJ D₁ => wpAny_mono (turn n V₁ O₁ h tk E' hJ D₁) (fun b s₂ h₂ => ?_) fun _ _ e => e)
  cases b with
  | true => exact h₂
  | false =>
    obtain ⟨V₂, O₂, h₂', tk₂, rfl, D₂, hJ₂⟩ := h₂
    exact ⟨rfl, fin _ _ _ _ hJ₂ D₂⟩
theorem x_for {x : Str} {px pos : Pos} {iter : Expr} {body rest : List Stmt} {Q : Flow → Shared → Prop} (h₀ : Heap) (L : Addr)
    (h : wpAny (model prog w) A (eval iter env) (fun xv s₁ => wpAny (model prog w) A (pyIter xv) (fun it s₂ => ForAt prog w A h₀ L (.Name x px) body env (fun f s' => f = .next ∧ wpAny (model prog w) A (execs rest env) Q E s') it s₂) E s₁) E s)
    (hs : ∀ x, foldedSetIterable iter env x = pure x := by intro _; rfl) :
    wpAny (model prog w) A (execs (.For (.Name x px) iter body [] pos :: rest) env) Q E s := x_stmt (for_ h hs)

theorem ForAt.intro {I : Addr} {oI : Obj} {need : List (Addr × Obj)} {n : Nat} {P : Nat → Value → Prop} {St : Nat → Heap → Prop} {x : Str} {px : Pos} {body : List Stmt} {Q : Flow → Shared → Prop} (J : Nat → List (Str × Option Value) → List (Addr × Obj) → Prop)
    (D : Sd h₀ L V ((I, oI) :: O) s.heap) (Dv : Drv prog w A h₀ I need n P St) (hst : St 0 s.heap) (h0 : J 0 V O) (hneed : ∀ i V O, J i V O → ∀ p ∈ need, p ∈ O)
    (turn : ∀ i v V₁ O₁ oI h tk E', i < n → P i v → J i V₁ O₁ → Sd h₀ L V₁ ((I, oI) :: O₁) h →
      wpAny (model prog w) A (storeName env x v) (fun _ s₂ => wpAny (model prog w) A (execs body env) (TurnE h₀ L I oI (J (i + 1)) { s with heap := h, toks := tk }) E' s₂) E' { s with heap := h, toks := tk })
    (fin : ∀ V₁ O₁ h' tk, J n V₁ O₁ → Sd h₀ L V₁ O₁ h' → Q .next { s with heap := h', toks := tk }) : ForAt prog w A h₀ L (.Name x px) body env Q (.ref I) s :=
  ⟨I, oI, need, n, P, St, V, O, J, rfl, Dv, D, hst, h0, hneed, fun i v V₁ O₁ oI h tk E' a b c d => wpAny_assign_Name (turn i v V₁ O₁ oI h tk E' a b c d), fin⟩

theorem CompAt.intro {I : Addr} {oI : Obj} {need : List (Addr × Obj)} {n : Nat} {P : Nat → Value → Prop} {St : Nat → Heap → Prop} {Vf : Addr → List (Str × Option Value)} {x : Str} {elt : Expr} {ifs : List Expr} {cenv : Addr → Env} {Q : Addr → Shared → Prop} (J : Nat → List Value → List (Addr × Obj) → Prop)
    (D : Sd h₀ L V ((I, oI) :: O) s.heap) (Dv : Drv prog w A h₀ I need n P St) (hst : St 0 s.heap) (hsz : n ≤ sizeLine) (h0 : J 0 [] O) (hneed : ∀ i ys O, J i ys O → ∀ p ∈ need, p ∈ O)
    (turn : ∀ C i v ys O₁ B oL oI k h tk E', i < n → P i v → ys.length ≤ i → J i ys O₁ → Sd h₀ C [(x, some v)] ((I, oI) :: (B, lstO ys k) :: (L, oL) :: O₁) h →
      wpAny (model prog w) A (cTests ifs (cenv C)) (fun ok s₃ =>
        if ok = true then wpAny (model prog w) A (eval elt (cenv C)) (fun y s₄ => ElE h₀ C [(x, some v)] [(I, oI), (B, lstO ys k), (L, oL)] (J (i + 1) (ys ++ [y])) { s with heap := h, toks := tk } s₄) E' s₃
        else ElE h₀ C [(x, some v)] [(I, oI), (B, lstO ys k), (L, oL)] (J (i + 1) ys) { s with heap := h, toks := tk } s₃) E' { s with heap := h, toks := tk })
    (fin : ∀ B ys k O₁ h' tk, ys.length ≤ n → J n ys O₁ → Sd h₀ L (Vf B) ((B, lstO ys k) :: O₁) h' → Q B { s with heap := h', toks := tk }) : CompAt prog w A h₀ L V Vf x elt ifs cenv Q (.ref I) s :=
  ⟨I, oI, need, n, P, St, O, J, rfl, Dv, hsz, D, hst, h0, hneed, turn, fin⟩
theorem ElE.intro {C : Addr} {hd : List (Addr × Obj)} {J : List (Addr × Obj) → Prop} {h' : Heap} {tk : Nat} (D : Sd h₀ C V (hd ++ O') h') (j : J O') : ElE h₀ C V hd J s { s with heap := h', toks := tk } := ⟨O', h', tk, rfl, D, j⟩
theorem FnPost.intro {Lf : Addr} {oL : Obj} {Post : Value → List (Addr × Obj) → Prop} {v : Value} {h' : Heap} {tk : Nat} (pre : List (Addr × Obj)) (D : Sd h₀ Lf V' (pre ++ (L, oL) :: O') h') (j : Post v (pre ++ O')) : FnPost h₀ Lf L oL Post s (.ret v) { s with heap := h', toks := tk } :=
  ⟨v, pre, O', V', h', tk, rfl, rfl, D, j⟩

theorem tests0 {cenv : Env} {Q : Bool → Shared → Prop} (h : Q true s) : wpAny (model prog w) A (cTests [] cenv) Q E s := wpAny_tests_nil h
theorem tests1 {cenv : Env} {c : Expr} {Q : Bool → Shared → Prop} (h : wpAny (model prog w) A (isTrue c cenv (eval c cenv)) Q E s) : wpAny (model prog w) A (cTests [c] cenv) Q E s := wpAny_tests_one h

/-! calls -/
theorem c_call {func : Expr} {args : List Expr} {pos : Pos} {Q : Value → Shared → Prop}
    (h : wpAny (model prog w) A (eval func env) (fun f s₁ => wpAny (model prog w) A (callWith pos f [] (backTo pos (starEach args env)) []) Q E s₁) E s)
    (he : eval (.Call func args [] pos) env = (do callWith pos (← eval func env) [] (backTo pos (starEach args env)) (backToKw pos (keywordEach [] env))) := by rfl) :
    wpAny (model prog w) A (eval (.Call func args [] pos) env) Q E s := PyProof.Rows.Call_ h he
theorem c_T {pos : Pos} {T : String} {e : Expr} {rest : List Expr} {Q : Value → Shared → Prop}
    (h : wpAny (model prog w) A (spliced (backTo pos (starEach (e :: rest) env))) (fun vs s₁ => wpAny (model prog w) A (call (.type T) vs) Q E s₁) E s)
    (he : starEach (e :: rest) env = (false, eval e env) :: starEach rest env := by rfl) (hplain : (backTo pos (starEach rest env)).any (·.1) = false := by rfl) :
    wpAny (model prog w) A (callWith pos (.type T) [] (backTo pos (starEach (e :: rest) env)) []) Q E s := PyProof.Rows.callWith_type1 h he hplain
theorem c_B {pos : Pos} {id : String} {e : Expr} {rest : List Expr} {Q : Value → Shared → Prop}
    (h : wpAny (model prog w) A (spliced (backTo pos (starEach (e :: rest) env))) (fun vs s₁ => wpAny (model prog w) A (call (.builtin id) vs) Q E s₁) E s)
    (he : starEach (e :: rest) env = (false, eval e env) :: starEach rest env := by rfl) (hplain : (backTo pos (starEach rest env)).any (·.1) = false := by rfl) :
    wpAny (model prog w) A (callWith pos (.builtin id) [] (backTo pos (starEach (e :: rest) env)) []) Q E s := PyProof.Rows.callWith_builtin1 h he hplain
theorem c_F {pos : Pos} {f : Addr} {o : Obj} {fd : FuncData} {e : Expr} {rest : List Expr} {Q : Value → Shared → Prop} (ho : h₀.get? f = some o) (hd : o.data = .func fd)
    (h : wpAny (model prog w) A (spliced (backTo pos (starEach (e :: rest) env))) (fun vs s₁ => (∃ L V O, Sd h₀ L V O s₁.heap) ∧ wpAny (model prog w) A (call (.ref f) vs) Q E s₁) E s)
    (he : starEach (e :: rest) env = (false, eval e env) :: starEach rest env := by rfl) : wpAny (model prog w) A (callWith pos (.ref f) [] (backTo pos (starEach (e :: rest) env)) []) Q E s :=
  callWith_def hd (wpAny_mono h (fun vs s₁ h₁ => by obtain ⟨⟨_, _, _, D⟩, h₁⟩ := h₁; exact ⟨D.keep _ _ ho, h₁⟩) fun _ _ e => e) he
theorem c_M {o : Expr} {name : Str} {apos pos : Pos} {args : List Expr} {pl : Sem Bool} {Q : Value → Shared → Prop}
    (h : wpAny (model prog w) A (eval o env) (fun ov s₁ => wpAny (model prog w) A (getMethod ov name pl) (fun fx s₂ => wpAny (model prog w) A (callWith pos fx.1 fx.2 (backTo pos (starEach args env)) []) Q E s₂) E s₁) E s)
    (he : eval (.Call (.Attribute o name apos) args [] pos) env = (do
      let ov ← eval o env
      standAt apos.atName
      let (f, first) ← holding [ov] (getMethod ov name pl)
      callWith pos f first (backTo pos (starEach args env)) []) := by rfl) :
    wpAny (model prog w) A (eval (.Call (.Attribute o name apos) args [] pos) env) Q E s := PyProof.Rows.MethodCall_ h he
theorem c_M0 {pos : Pos} {id : String} {first : List Value} {Q : Value → Shared → Prop} (h : wpAny (model prog w) A (call (.builtin id) first) Q E s) :
    wpAny (model prog w) A (callWith pos (.builtin id) first (backTo pos (starEach [] env)) []) Q E s := PyProof.Rows.callWith_method0 h
theorem c_M1 {pos : Pos} {id : String} {first : List Value} {e : Expr} {rest : List Expr} {Q : Value → Shared → Prop}
    (h : wpAny (model prog w) A (spliced (backTo pos (starEach (e :: rest) env))) (fun vs s₁ => wpAny (model prog w) A (call (.builtin id) (first ++ vs)) Q E s₁) E s)
    (he : starEach (e :: rest) env = (false, eval e env) :: starEach rest env := by rfl) (hplain : (backTo pos (starEach rest env)).any (·.1) = false := by rfl) :
    wpAny (model prog w) A (callWith pos (.builtin id) first (backTo pos (starEach (e :: rest) env)) []) Q E s := PyProof.Rows.callWith_method1 h he hplain
theorem a_nil {pos : Pos} {Q : List Value → Shared → Prop} (h : Q [] s) : wpAny (model prog w) A (spliced (backTo pos (starEach [] env))) Q E s := PyProof.Rows.args_nil h
theorem a_cons {e : Expr} {rest : List Expr} {pos : Pos} {Q : List Value → Shared → Prop}
    (h : wpAny (model prog w) A (eval e env) (fun v s₁ => wpAny (model prog w) A (spliced (backTo pos (starEach rest env))) (fun vs s₂ => Q (v :: vs) s₂) E s₁) E s)
    (he : starEach (e :: rest) env = (false, eval e env) :: starEach rest env := by rfl) : wpAny (model prog w) A (spliced (backTo pos (starEach (e :: rest) env))) Q E s := PyProof.Rows.args_cons h he
theorem b_bin {l r : Expr} {op : Operator} {pos : Pos} {Q : Value → Shared → Prop} (h : wpAny (model prog w) A (eval l env) (fun a s₁ => wpAny (model prog w) A (eval r env) (fun b s₂ => wpAny (model prog w) A (binaryOp op a b) Q E s₂) E s₁) E s) :
    wpAny (model prog w) A (eval (.BinOp l op r pos) env) Q E s := wpAny_BinOp h
theorem b_add {a b : Int} {t u : Tok} {Q : Value → Shared → Prop} (h : ∀ t tk, Q (.int (a + b) t) { s with toks := tk }) : wpAny (model prog w) A (binaryOp .Add (.int a t) (.int b u)) Q E s := PyProof.Rows.add_int (h _ _)
theorem b_sub {a b : Int} {t u : Tok} {Q : Value → Shared → Prop} (h : ∀ t tk, Q (.int (a - b) t) { s with toks := tk }) : wpAny (model prog w) A (binaryOp .Sub (.int a t) (.int b u)) Q E s := PyProof.Rows.sub_int (h _ _)
theorem e_int {i : Int} {k : Nat} {pos : Pos} {Q : Value → Shared → Prop} (h : ∀ t tk, Q (.int i t) { s with toks := tk }) : wpAny (model prog w) A (eval (.Constant (.int i) k pos) env) Q E s := wpAny_Constant_int (h _ _)
theorem e_str {x : Str} {k : Nat} {pos : Pos} {Q : Value → Shared → Prop} (h : ∀ t tk, Q (.str x t) { s with toks := tk }) : wpAny (model prog w) A (eval (.Constant (.str x) k pos) env) Q E s := wpAny_Constant_str (h _ _)
theorem t_cmp {l r : Expr} {op : CmpOp} {pos : Pos} {whole : Sem Value} {Q : Bool → Shared → Prop}
    (h : wpAny (model prog w) A (eval l env) (fun a s₁ => wpAny (model prog w) A (eval r env) (fun b s₂ => wpAny (model prog w) A (compareOp op a b) (fun v s₃ => wpAny (model prog w) A (truthy v) Q E s₃) E s₂) E s₁) E s)
    (hm : behindInMarks op r = false := by rfl) : wpAny (model prog w) A (isTrue (.Compare l [op] [r] pos) env whole) Q E s := wpAny_isTrue_Compare1 h hm
theorem c_lt {a b : Int} {t u : Tok} {Q : Bool → Shared → Prop} (h : Q (decide (a < b)) s) : wpAny (model prog w) A (compareOp .Lt (.int a t) (.int b u)) (fun v s₃ => wpAny (model prog w) A (truthy v) Q E s₃) E s := PyProof.Rows.lt_int (wpAny_truthy_bool h)
theorem c_gt {a b : Int} {t u : Tok} {Q : Bool → Shared → Prop} (h : Q (decide (b < a)) s) : wpAny (model prog w) A (compareOp .Gt (.int a t) (.int b u)) (fun v s₃ => wpAny (model prog w) A (truthy v) Q E s₃) E s := PyProof.Rows.gt_int (wpAny_truthy_bool h)
theorem c_eq {a b : Int} {t u : Tok} {Q : Bool → Shared → Prop} (h : Q (a == b) s) : wpAny (model prog w) A (compareOp .Eq (.int a t) (.int b u)) (fun v s₃ => wpAny (model prog w) A (truthy v) Q E s₃) E s := PyProof.Rows.eq_int (wpAny_truthy_bool h)
theorem c_ne {a b : Int} {t u : Tok} {Q : Bool → Shared → Prop} (h : Q (a != b) s) : wpAny (model prog w) A (compareOp .NotEq (.int a t) (.int b u)) (fun v s₃ => wpAny (model prog w) A (truthy v) Q E s₃) E s := PyProof.Rows.ne_int (wpAny_truthy_bool h)
theorem t_and {x y : Expr} {pos : Pos} {whole : Sem Value} {Q : Bool → Shared → Prop}
    (h : wpAny (model prog w) A (isTrue x env (eval x env)) (fun b s₁ => if b = true then wpAny (model prog w) A (isTrue y env (eval y env)) Q E s₁ else Q false s₁) E s) :
    wpAny (model prog w) A (isTrue (.BoolOp .And [x, y] pos) env whole) Q E s := by
  refine wpAny_isTrue_BoolOp (wpAny_allTrue_And_cons (wpAny_mono h (fun b s₁ h₁ => ?_) fun _ _ e => e))
  cases b with
  | false => exact h₁
  | true => exact wpAny_allTrue_And_cons (wpAny_mono h₁ (fun b s₂ h₂ => by cases b with | false => exact h₂ | true => exact wpAny_allTrue_And_nil h₂) fun _ _ e => e)
theorem t_or {x y : Expr} {pos : Pos} {whole : Sem Value} {Q : Bool → Shared → Prop}
    (h : wpAny (model prog w) A (isTrue x env (eval x env)) (fun b s₁ => if b = true then Q true s₁ else wpAny (model prog w) A (isTrue y env (eval y env)) Q E s₁) E s) :
    wpAny (model prog w) A (isTrue (.BoolOp .Or [x, y] pos) env whole) Q E s := by
  refine wpAny_isTrue_BoolOp (wpAny_allTrue_Or_cons (wpAny_mono h (fun b s₁ h₁ => ?_) fun _ _ e => e))
  cases b with
  | true => exact h₁
  | false => exact wpAny_allTrue_Or_cons (wpAny_mono h₁ (fun b s₂ h₂ => by cases b with | true => exact h₂ | false => exact wpAny_allTrue_Or_nil h₂) fun _ _ e => e)
theorem t_not {x : Expr} {pos : Pos} {whole : Sem Value} {Q : Bool → Shared → Prop} (h : wpAny (model prog w) A (isTrue x env (eval x env)) (fun b s₁ => Q (!b) s₁) E s) : wpAny (model prog w) A (isTrue (.UnaryOp .Not x pos) env whole) Q E s := wpAny_isTrue_Not h
theorem s_sub {value slice : Expr} {pos : Pos} {Q : Value → Shared → Prop} (h : wpAny (model prog w) A (eval value env) (fun o s₁ => wpAny (model prog w) A (eval slice env) (fun i s₂ => wpAny (model prog w) A (subscriptTail value slice o i) Q E s₂) E s₁) E s) :
    wpAny (model prog w) A (eval (.Subscript value slice pos) env) Q E s := PyProof.Rows.Subscript_ h
theorem d_list {elts : List Expr} {pos : Pos} {Q : Value → Shared → Prop} (h : wpAny (model prog w) A (spliced (backTo pos (starEach elts env))) (fun vs s₁ => wpAny (model prog w) A (newList vs) Q E s₁) E s) : wpAny (model prog w) A (eval (.List elts pos) env) Q E s := PyProof.Rows.List_ h
end
noncomputable def closS (cells : List (Str × Addr)) : List (Str × NameKind) → List (Str × Addr) → Option (List (Str × Addr))
  | [], acc => some acc
  | (n, k) :: r, acc => if k == .free then (match cells.lookup n with | some c => closS cells r ((n, c) :: acc) | none => none) else closS cells r acc
theorem closS_go {env : Env} {cells : List (Str × Addr)} (hc : env.cells = cells) : ∀ (names : List (Str × NameKind)) (acc cl : List (Str × Addr)), closS cells names acc = some cl →
    (forIn names acc fun x (r : List (Str × Addr)) => if (x.2 == NameKind.free) = true then (do let a ← cellOf env x.1; pure (ForInStep.yield ((x.1, a) :: r))) else pure (ForInStep.yield r) : Sem (List (Str × Addr))) = pure cl := by
  intro names
  induction names with
  | nil => intro acc cl h; cases h; rfl
  | cons x r ih =>
    intro acc cl h
    obtain ⟨n, k⟩ := x
    rw [List.forIn_cons]
    unfold closS at h
    by_cases hk : (k == NameKind.free) = true
    · rw [if_pos hk] at h ⊢
      cases hl : cells.lookup n with
      | none => rw [hl] at h; cases h
      | some c =>
        rw [hl] at h
        have : cellOf env n = pure c := by unfold cellOf; rw [hc, hl]
        rw [this]
        exact ih _ _ h
    · rw [if_neg hk] at h ⊢
      exact ih _ _ h
theorem closS_is {env : Env} {sc : Scope} {L : Addr} {cells cl : List (Str × Addr)} {scope : Scope} (e : EnvIs env sc L cells) (h : closS cells scope.names [] = some cl) : closureFor scope env = pure cl := by
  have := closS_go e.cells scope.names [] cl h
  unfold closureFor
  first
    | exact this
    | (show (forIn scope.names [] _ >>= fun r => pure r) = _
       rw [bind_pure]
       exact this)
noncomputable def scopeOk (scope : Scope) (x : Str) : Bool := scope.kind == .function && scope.names.all (fun y => y.2 != .cell && (y.2 != .local || scope.names.lookup y.1 == some .local)) && scope.names.lookup x == some .local
section
variable {prog : Program} {w : World} {A : Around} {E : Value → Shared → Prop} {s : Shared} {env : Env} {h₀ : Heap} {L : Addr} {V V' : List (Str × Option Value)} {O O' : List (Addr × Obj)}
theorem scopeOk.kind {scope : Scope} {x : Str} (h : scopeOk scope x = true) : scope.kind = .function := by
  simp only [scopeOk, Bool.and_eq_true, beq_iff_eq] at h; exact h.1.1
theorem scopeOk.cell {scope : Scope} {x : Str} (h : scopeOk scope x = true) : ∀ y ∈ scope.names, y.2 ≠ .cell := by
  simp only [scopeOk, Bool.and_eq_true, List.all_eq_true, bne_iff_ne] at h; exact fun y hy => (h.1.2 y hy).1
theorem scopeOk.names {scope : Scope} {x : Str} (h : scopeOk scope x = true) : ∀ y ∈ scope.names, y.2 = .local → scope.names.lookup y.1 = some .local := by
  simp only [scopeOk, Bool.and_eq_true, List.all_eq_true, Bool.or_eq_true, bne_iff_ne, beq_iff_eq] at h; exact fun y hy e => (h.1.2 y hy).2.resolve_left (fun q => q e)
theorem scopeOk.x {scope : Scope} {x : Str} (h : scopeOk scope x = true) : scope.names.lookup x = some .local := by
  simp only [scopeOk, Bool.and_eq_true, beq_iff_eq] at h; exact h.2

theorem e_comp {elt iter : Expr} {x : Str} {px : Pos} {ifs : List Expr} {scope sc : Scope} {cells cl : List (Str × Addr)} {pos : Pos} {Q : Value → Shared → Prop} (h₀ : Heap) (e : EnvIs env sc L cells) (hcl : closS cells scope.names [] = some cl) (hok : scopeOk scope x = true)
    (h : wpAny (model prog w) A (eval iter env) (fun xv s₁ => wpAny (model prog w) A (pyIter xv) (fun it s₂ => ∃ V, CompAt prog w A h₀ L V (fun _ => V) x elt ifs (fun C => compEnvC scope cl C env) (fun B s' => Q (.ref B) s') it s₂) E s₁) E s)
    (hs : ∀ x, foldedSetIterable iter env x = pure x := by intro _; rfl) :
    wpAny (model prog w) A (eval (.ListComp elt [⟨.Name x px, iter, ifs, 0⟩] scope pos) env) Q E s :=
  comp_ (closS_is e hcl) (scopeOk.cell hok) (scopeOk.kind hok) (scopeOk.names hok) (scopeOk.x hok) h hs
theorem x_comp {elt iter : Expr} {x y : Str} {px py : Pos} {ifs : List Expr} {scope sc : Scope} {cells cl : List (Str × Addr)} {pos spos : Pos} {u : Option Value} {Vf : Addr → List (Str × Option Value)} {rest : List Stmt} {Q : Flow → Shared → Prop} (h₀ : Heap) (e : EnvIs env sc L cells)
    (hsw : swapsWith (.ListComp elt [⟨.Name x px, iter, ifs, 0⟩] scope pos) (some (.Name y py)) spos.line env = pure true) (hcl : closS cells scope.names [] = some cl) (hok : scopeOk scope x = true) (hk : sc.kind = .function) (hy : sc.names.lookup y = some .local)
    (h : wpAny (model prog w) A (eval iter env) (fun xv s₁ => wpAny (model prog w) A (pyIter xv) (fun it s₂ => ∃ V, (∀ B, Upd1 y u (some (.ref B)) V (Vf B)) ∧ CompAt prog w A h₀ L V Vf x elt ifs (fun C => compEnvC scope cl C env) (fun B s' => wpAny (model prog w) A (execs rest env) Q E s') it s₂) E s₁) E s)
    (hs : ∀ x, foldedSetIterable iter env x = pure x := by intro _; rfl) :
    wpAny (model prog w) A (execs (.Assign [.Name y py] (.ListComp elt [⟨.Name x px, iter, ifs, 0⟩] scope pos) spos :: rest) env) Q E s := by
  refine x_stmt (asgComp_ (h₀ := h₀) (Vf := Vf) (u := u) hsw (closS_is e hcl) (scopeOk.cell hok) (scopeOk.kind hok) (scopeOk.names hok) (scopeOk.x hok) (by rw [e.scope]; exact hk) e.locals (by unfold Env.kindOf; rw [e.scope]; exact hy) (wpAny_mono h (fun xv s₁ h₁ => wpAny_mono h₁ (fun it s₂ h₂ => ?_) fun _ _ e => e) fun _ _ e => e) hs)
  obtain ⟨V, up, I, oI, need, n, P, St, O, J, a, b, c, d, f, g, i, j, k⟩ := h₂
  exact ⟨V, up, I, oI, need, n, P, St, O, J, a, b, c, d, f, g, i, j, fun B ys k' O₁ h' tk x y z => ⟨rfl, k B ys k' O₁ h' tk x y z⟩⟩
end
theorem iteT {b : Bool} {P Q : Prop} (hb : b = true) (h : P) : if b = true then P else Q := by rw [if_pos hb]; exact h
theorem iteF {b : Bool} {P Q : Prop} (hb : b = false) (h : Q) : if b = true then P else Q := by rw [hb]; exact h
theorem IntsAre.snoc {n : Int} {t : Tok} : ∀ {vs : List Value} {ns : List Int}, IntsAre vs ns → IntsAre (vs ++ [.int n t]) (ns ++ [n])
  | _, _, .nil => .cons n t .nil
  | _, _, .cons m u h => .cons m u (IntsAre.snoc h)
end Mine
end
/-! text B7 -/
section
open PySem PySem.W PyProof.Rows PySem.Calls
set_option Elab.async false
set_option linter.unusedVariables false
namespace Mine

/-- the state by its base, heap and tokens -/
noncomputable def St (b : Shared) (h : Heap) (tk : Nat) : Shared := { b with heap := h, toks := tk }
theorem St.self (s : Shared) : St s s.heap s.toks = s := rfl

section
variable {prog : Program} {w : World} {A : Around} {E : Value → Shared → Prop} {b : Shared} {h : Heap} {tk : Nat} {env : Env} {h₀ : Heap} {L : Addr} {V V' : Vs} {O O' : Os} {sc : Scope} {cells : List (Str × Addr)}

theorem k_int {i : Int} {k : Nat} {pos : Pos} {Q : Value → Shared → Prop} (hQ : ∀ t tk', Q (.int i t) (St b h tk')) : wpAny (model prog w) A (eval (.Constant (.int i) k pos) env) Q E (St b h tk) := wpAny_Constant_int (hQ _ _)
theorem k_str {x : Str} {k : Nat} {pos : Pos} {Q : Value → Shared → Prop} (hQ : ∀ t tk', Q (.str x t) (St b h tk')) : wpAny (model prog w) A (eval (.Constant (.str x) k pos) env) Q E (St b h tk) := wpAny_Constant_str (hQ _ _)
theorem k_add {x y : Int} {t u : Tok} {Q : Value → Shared → Prop} (hQ : ∀ t tk', Q (.int (x + y) t) (St b h tk')) : wpAny (model prog w) A (binaryOp .Add (.int x t) (.int y u)) Q E (St b h tk) := PyProof.Rows.add_int (hQ _ _)
theorem k_sub {x y : Int} {t u : Tok} {Q : Value → Shared → Prop} (hQ : ∀ t tk', Q (.int (x - y) t) (St b h tk')) : wpAny (model prog w) A (binaryOp .Sub (.int x t) (.int y u)) Q E (St b h tk) := PyProof.Rows.sub_int (hQ _ _)

theorem k_sL {x : Str} {v : Value} {u : Option Value} {Q : Unit → Shared → Prop} (D : Sd h₀ L V O h) (e : EnvIs env sc L cells) (up : Upd1 x u (some v) V V') (hl : sc.names.lookup x = some .local)
    (hQ : ∀ h' tk', Sd h₀ L V' O h' → Q () (St b h' tk')) (hk : sc.kind = .function := by rfl) : wpAny (model prog w) A (storeName env x v) Q E (St b h tk) := sL (s := St b h tk) D e up hl (fun h' D' => hQ h' _ D') hk
theorem k_sC {x : Str} {v : Value} {u : Option Value} {c : Addr} {oc : Obj} {Q : Unit → Shared → Prop} (D : Sd h₀ L V O h) (e : EnvIs env sc L cells) (hl : sc.names.lookup x = some .cell) (hc : cells.lookup x = some c)
    (up : Upd1 c (cellL oc u) (cellL oc (some v)) O O') (hQ : ∀ h' tk', Sd h₀ L V O' h' → Q () (St b h' tk')) (hk : sc.kind = .function := by rfl) : wpAny (model prog w) A (storeName env x v) Q E (St b h tk) := sC (s := St b h tk) D e hl hc up (fun h' D' => hQ h' _ D') hk
theorem k_newList {vs : List Value} {Q : Value → Shared → Prop} (D : Sd h₀ L V O h) (hQ : ∀ a h' tk', Sd h₀ L V ((a, lstO vs 0) :: O) h' → Q (.ref a) (St b h' tk')) (hsz : vs.length ≤ sizeLine := by first | decide | (rw [sizeLine_eq]; simp)) :
    wpAny (model prog w) A (newList vs) Q E (St b h tk) := newList_ (s := St b h tk) D (fun a h' D' => hQ a h' _ D') hsz
theorem k_len {l : Addr} {vs : List Value} {k : Nat} {Q : Value → Shared → Prop} (D : Sd h₀ L V O h) (hm : (l, lstO vs k) ∈ O) (hsz : vs.length ≤ sizeLine) (hQ : ∀ t tk', Q (.int vs.length t) (St b h tk')) :
    wpAny (model prog w) A (call (.builtin "len") [.ref l]) Q E (St b h tk) := len_ (s := St b h tk) D hm hsz (fun t tk' => hQ t tk')
theorem k_rng1 {n : Int} {t : Tok} {Q : Value → Shared → Prop} (hh : A.handled = none) (D : Sd h₀ L V O h) (h0 : 0 ≤ n) (hb : n < 2 ^ 62)
    (k : ∀ I oI S h' tk', Sd h₀ L V ((I, oI) :: O) h' → Drv prog w A h₀ I [] n.toNat (fun i v => ∃ t, v = .int (i : Nat) t) S → S 0 h' → Q (.ref I) (St b h' tk')) :
    wpAny (model prog w) A (call (.type "range") [.int n t]) (fun xv s₁ => wpAny (model prog w) A (pyIter xv) Q E s₁) E (St b h tk) := rng1 (s := St b h tk) hh D h0 hb fun I oI S h' tk' => k I oI S h' tk'
theorem k_rng2 {x y : Int} {t u : Tok} {Q : Value → Shared → Prop} (hh : A.handled = none) (D : Sd h₀ L V O h) (h0 : x ≤ y) (ha : -(2 ^ 62) ≤ x) (hb : y < 2 ^ 62)
    (k : ∀ I oI S h' tk', Sd h₀ L V ((I, oI) :: O) h' → Drv prog w A h₀ I [] (y - x).toNat (fun i v => ∃ t, v = .int (x + (i : Nat)) t) S → S 0 h' → Q (.ref I) (St b h' tk')) :
    wpAny (model prog w) A (call (.type "range") [.int x t, .int y u]) (fun xv s₁ => wpAny (model prog w) A (pyIter xv) Q E s₁) E (St b h tk) := rng2 (s := St b h tk) hh D h0 ha hb fun I oI S h' tk' => k I oI S h' tk'
theorem k_rng3 {x y : Int} {t u v : Tok} {Q : Value → Shared → Prop} (hh : A.handled = none) (D : Sd h₀ L V O h) (h0 : y ≤ x) (hb : -(2 ^ 62) ≤ y) (ha : x < 2 ^ 62)
    (k : ∀ I oI S h' tk', Sd h₀ L V ((I, oI) :: O) h' → Drv prog w A h₀ I [] (x - y).toNat (fun i v => ∃ t, v = .int (x - (i : Nat)) t) S → S 0 h' → Q (.ref I) (St b h' tk')) :
    wpAny (model prog w) A (call (.type "range") [.int x t, .int y u, .int (-1) v]) (fun xv s₁ => wpAny (model prog w) A (pyIter xv) Q E s₁) E (St b h tk) := rng3 (s := St b h tk) hh D h0 hb ha fun I oI S h' tk' => k I oI S h' tk'
theorem k_iterList {l : Addr} {vs : List Value} {k₀ : Nat} {Q : Value → Shared → Prop} (hh : A.handled = none) (D : Sd h₀ L V O h) (hm : (l, lstO vs k₀) ∈ O)
    (k : ∀ I oI S h' tk', Sd h₀ L V ((I, oI) :: O) h' → Drv prog w A h₀ I [(l, lstO vs k₀)] vs.length (fun i v => vs[i]? = some v) S → S 0 h' → Q (.ref I) (St b h' tk')) : wpAny (model prog w) A (pyIter (.ref l)) Q E (St b h tk) :=
  iterList (s := St b h tk) hh D hm fun I oI S h' D' => k I oI S h' _ D'
theorem k_append {l : Addr} {vs : List Value} {n : Nat} {x : Value} {Q : Value → Shared → Prop} (D : Sd h₀ L V O h) (u : Upd1 l (lstO vs n) (lstO (vs ++ [x]) (n + 1)) O O')
    (hQ : ∀ h' tk', Sd h₀ L V O' h' → Q .none (St b h' tk')) (hsz : vs.length ≤ sizeLine) : wpAny (model prog w) A (call (.builtin "list.append") [.ref l, x]) Q E (St b h tk) := append_ (s := St b h tk) D u (fun h' D' => hQ h' _ D') hsz

noncomputable def TurnS (b : Shared) (h₀ : Heap) (L I : Addr) (oI : Obj) (J : Vs → Os → Prop) (f : Flow) (s' : Shared) : Prop := f = .next ∧ ∃ V' O' h' tk, s' = St b h' tk ∧ Sd h₀ L V' ((I, oI) :: O') h' ∧ J V' O'
theorem TurnS.intro {I : Addr} {oI : Obj} {J : Vs → Os → Prop} (D : Sd h₀ L V' ((I, oI) :: O') h) (j : J V' O') : TurnS b h₀ L I oI J .next (St b h tk) := ⟨rfl, V', O', h, tk, rfl, D, j⟩
noncomputable def ElS (b : Shared) (h₀ : Heap) (C : Addr) (V : Vs) (hd : Os) (J : Os → Prop) (s' : Shared) : Prop := ∃ O' h' tk, s' = St b h' tk ∧ Sd h₀ C V (hd ++ O') h' ∧ J O'
theorem ElS.intro {C : Addr} {hd : Os} {J : Os → Prop} (D : Sd h₀ C V (hd ++ O') h) (j : J O') : ElS b h₀ C V hd J (St b h tk) := ⟨O', h, tk, rfl, D, j⟩
noncomputable def FnS (b : Shared) (h₀ : Heap) (Lf L : Addr) (oL : Obj) (Post : Value → Os → Prop) (fl : Flow) (s' : Shared) : Prop :=
  ∃ v pre O' V' h' tk, fl = .ret v ∧ s' = St b h' tk ∧ Sd h₀ Lf V' (pre ++ (L, oL) :: O') h' ∧ Post v (pre ++ O')
theorem FnS.intro {Lf : Addr} {oL : Obj} {Post : Value → Os → Prop} {v : Value} (pre : Os) (D : Sd h₀ Lf V' (pre ++ (L, oL) :: O') h) (j : Post v (pre ++ O')) : FnS b h₀ Lf L oL Post (.ret v) (St b h tk) := ⟨v, pre, O', V', h, tk, rfl, rfl, D, j⟩
noncomputable def WhS (b : Shared) (h₀ : Heap) (L : Addr) (J : Vs → Os → Prop) (s' : Shared) : Prop := ∃ V' O' h' tk, s' = St b h' tk ∧ Sd h₀ L V' O' h' ∧ J V' O'
theorem WhS.intro {J : Vs → Os → Prop} (D : Sd h₀ L V O h) (j : J V O) : WhS b h₀ L J (St b h tk) := ⟨V, O, h, tk, rfl, D, j⟩

theorem k_for {I : Addr} {oI : Obj} {need : Os} {n : Nat} {P : Nat → Value → Prop} {S : Nat → Heap → Prop} {x : Str} {px : Pos} {body : List Stmt} {Q : Flow → Shared → Prop} (J : Nat → Vs → Os → Prop)
    (D : Sd h₀ L V ((I, oI) :: O) h) (Dv : Drv prog w A h₀ I need n P S) (hst : S 0 h) (h0 : J 0 V O) (hneed : ∀ i V O, J i V O → ∀ p ∈ need, p ∈ O)
    (turn : ∀ i v V₁ O₁ oI h tk E', i < n → P i v → J i V₁ O₁ → Sd h₀ L V₁ ((I, oI) :: O₁) h →
      wpAny (model prog w) A (storeName env x v) (fun _ s₂ => wpAny (model prog w) A (execs body env) (TurnS b h₀ L I oI (J (i + 1))) E' s₂) E' (St b h tk))
    (fin : ∀ V₁ O₁ h' tk, J n V₁ O₁ → Sd h₀ L V₁ O₁ h' → Q .next (St b h' tk)) : ForAt prog w A h₀ L (.Name x px) body env Q (.ref I) (St b h tk) :=
  ForAt.intro (s := St b h tk) J D Dv hst h0 hneed (fun i v V₁ O₁ oI h tk E' h1 h2 h3 h4 => turn i v V₁ O₁ oI h tk E' h1 h2 h3 h4) fin

theorem k_comp {I : Addr} {oI : Obj} {need : Os} {n : Nat} {P : Nat → Value → Prop} {S : Nat → Heap → Prop} {Vf : Addr → Vs} {x : Str} {elt : Expr} {ifs : List Expr} {cenv : Addr → Env} {Q : Addr → Shared → Prop} (J : Nat → List Value → Os → Prop)
    (D : Sd h₀ L V ((I, oI) :: O) h) (Dv : Drv prog w A h₀ I need n P S) (hst : S 0 h) (hsz : n ≤ sizeLine) (h0 : J 0 [] O) (hneed : ∀ i ys O, J i ys O → ∀ p ∈ need, p ∈ O)
    (turn : ∀ C i v ys O₁ B oL oI k h tk E', i < n → P i v → ys.length ≤ i → J i ys O₁ → Sd h₀ C [(x, some v)] ((I, oI) :: (B, lstO ys k) :: (L, oL) :: O₁) h →
      wpAny (model prog w) A (cTests ifs (cenv C)) (fun ok s₃ =>
        if ok = true then wpAny (model prog w) A (eval elt (cenv C)) (fun y s₄ => ElS b h₀ C [(x, some v)] [(I, oI), (B, lstO ys k), (L, oL)] (J (i + 1) (ys ++ [y])) s₄) E' s₃
        else ElS b h₀ C [(x, some v)] [(I, oI), (B, lstO ys k), (L, oL)] (J (i + 1) ys) s₃) E' (St b h tk))
    (fin : ∀ B ys k O₁ h' tk, ys.length ≤ n → J n ys O₁ → Sd h₀ L (Vf B) ((B, lstO ys k) :: O₁) h' → Q B (St b h' tk)) : CompAt prog w A h₀ L V Vf x elt ifs cenv Q (.ref I) (St b h tk) :=
  CompAt.intro (s := St b h tk) J D Dv hst hsz h0 hneed (fun C i v ys O₁ B oL oI k h tk E' h1 h2 h3 h4 h5 => turn C i v ys O₁ B oL oI k h tk E' h1 h2 h3 h4 h5) fin

theorem k_while {test : Expr} {body : List Stmt} {pos : Pos} {rest : List Stmt} {Q : Flow → Shared → Prop} (J : Nat → Vs → Os → Prop) (K : Vs → Os → Prop) (n : Nat) (D : Sd h₀ L V O h) (h0 : J n V O)
    (turn : ∀ n V₁ O₁ h tk E', J n V₁ O₁ → Sd h₀ L V₁ O₁ h → wpAny (model prog w) A (isTrue test env (eval test env)) (fun b' s₂ =>
      if b' = true then wpAny (model prog w) A (execs body env) (fun f s₃ => f = .next ∧ WhS b h₀ L (fun V₂ O₂ => ∃ m, m < n ∧ J m V₂ O₂) s₃) E' s₂ else WhS b h₀ L K s₂) E' (St b h tk))
    (fin : ∀ V₁ O₁ h tk, K V₁ O₁ → Sd h₀ L V₁ O₁ h → wpAny (model prog w) A (execs rest env) Q E (St b h tk)) :
    wpAny (model prog w) A (execs (.While test body [] pos :: rest) env) Q E (St b h tk) :=
  x_while (s := St b h tk) J K n D h0 (fun n V₁ O₁ h tk E' h1 h2 => wpAny_mono (turn n V₁ O₁ h tk E' h1 h2) (fun b' s₂ h₂ => by
    cases b' with
    | true => exact wpAny_mono h₂ (fun f s₃ h₃ => by obtain ⟨rfl, V₂, O₂, h', tk', rfl, D₂, m, hm, hJ⟩ := h₃; exact ⟨rfl, m, V₂, O₂, h', tk', hm, rfl, hJ, D₂⟩) fun _ _ e => e
    | false => obtain ⟨V₂, O₂, h', tk', rfl, D₂, hK⟩ := h₂; exact ⟨V₂, O₂, h', tk', rfl, D₂, hK⟩) fun _ _ e => e) fin

theorem k_call {mg mb : Str → Option Value} {p : Program} {R : Result → Shared → Prop} {f : Addr} {n : Nat} {fd : FuncData} {vals : List Value} {binds : List (Str × Value)} {Vf : Vs} {j : Nat} {Post : Value → Os → Prop}
    (hA : Ok (j + 1) A) (F : FnIs p h₀ f n fd) (W : Wd h₀ mg mb) (D : Sd h₀ L V O h)
    (hbind : bindArgs fd ⟨vals, []⟩ = pure binds)
    (hkind : ∀ b, ∀ x ∈ binds, (scopeOf p n).names.lookup x.1 = some .local ∨ ((scopeOf p n).names.lookup x.1 = some .cell ∧ ((cellsFrom b (scopeOf p n).names []).lookup x.1).isSome = true))
    (hV : ∀ q ∈ Vf, bindL (fun x => (scopeOf p n).names.lookup x) binds (fun _ => none) q.1 = q.2) (ndV : (Vf.map (·.1)).Nodup) (ndC : ∀ b, ((cellsFrom b (scopeOf p n).names []).map (·.1)).Nodup)
    (body : ∀ Lf oL oc h tk env A' E', Ok j A' → EnvIs env (scopeOf p n) Lf (cellsFrom (Lf + 1) (scopeOf p n).names []) →
      Sd h₀ Lf Vf (cellsAt oc (bindC (fun x => (scopeOf p n).names.lookup x) binds fun _ => none) (cellsFrom (Lf + 1) (scopeOf p n).names []) ++ (L, oL) :: O) h →
      wpAny (model prog w) A' (execs (bodyOf p n) env) (FnS b h₀ Lf L oL Post) E' (St b h tk))
    (ret : ∀ v O' h' tk, Post v O' → Sd h₀ L V O' h' → R (.ok (.ret v)) (St b h' tk))
    (hco : (scopeOf p n).isCoroutine = false := by rfl) (hgen : (scopeOf p n).isGenerator = false := by rfl) (hk : (scopeOf p n).kind = .function := by rfl) :
    codeAny (model prog w) A (.call (.ref f) ⟨vals, []⟩) R (St b h tk) :=
  callFn (s := St b h tk) hA F W D hbind hkind hV ndV ndC (fun Lf oL oc h tk env A' E' h1 h2 h3 => body Lf oL oc h tk env A' E' h1 h2 h3) ret hco hgen hk
end
end Mine
end
/-! text B8 -/
section
open PySem PySem.W PyProof.Rows PySem.Calls
set_option Elab.async false
set_option linter.unusedVariables false
namespace Mine
section
variable {prog : Program} {w : World} {A : Around} {E : Value → Shared → Prop} {s b : Shared} {h : Heap} {tk : Nat} {env : Env} {h₀ : Heap} {L : Addr} {V V' : Vs} {O O' : Os} {sc : Scope} {cells : List (Str × Addr)}

theorem newEnvCell {scope : Scope} {globals : Addr} {closure : List (Str × Addr)} {qual : Str} {x : Str} {Q : Env → Shared → Prop}
    (h1 : ∀ n acc, cellsFrom n scope.names acc = (x, n) :: acc) (h2 : ∀ hp : Heap, pushCells hp scope.names = hp.push { cls := .type "cell", data := .cell none })
    (hQ : Q { scope, locals := s.heap.objs.size, globals, cells := (x, s.heap.objs.size + 1) :: closure, qual, func := none, code := env.code, frame := env.frame, builtins := env.builtins }
      { s with heap := (s.heap.push { cls := .type "dict", data := .dict #[] }).push { cls := .type "cell", data := .cell none } }) :
    wpAny (model prog w) A (newFunctionEnv scope globals closure [] qual none .none (some env)) Q E s := by
  simp only [newFunctionEnv, Option.isSome_some, if_true]
  refine wpAny_bind (wpAny_alloc ?_)
  refine wpAny_bind (wpAny_layCells _ (fun name kind cells => by cases hkc : kind == NameKind.cell <;> simp) _ _ _ _ ?_)
  dsimp only
  rw [h1, h2, Heap.size_push]
  exact wpAny_bind (wpAny_pure (wpAny_pure hQ))

/-- a comprehension whose own name is a cell -/
noncomputable def CompAtC (prog : Program) (w : World) (A : Around) (h₀ : Heap) (L : Addr) (V : Vs) (x : Str) (elt : Expr) (cenv : Addr → Addr → Env) (Q : Addr → Shared → Prop) (it : Value) (s : Shared) : Prop :=
  ∃ I oI need n P S O, ∃ J : Nat → List Value → Os → Prop, it = .ref I ∧ Drv prog w A h₀ I need n P S ∧ n ≤ sizeLine ∧ Sd h₀ L V ((I, oI) :: O) s.heap ∧ S 0 s.heap ∧ J 0 [] O ∧ (∀ i ys O, J i ys O → ∀ p ∈ need, p ∈ O) ∧
    (∀ C cx oc i v ys O₁ B oL oI k h tk E', i < n → P i v → ys.length ≤ i → J i ys O₁ → Sd h₀ C [] ((I, oI) :: (B, lstO ys k) :: (L, oL) :: (cx, cellL oc (some v)) :: O₁) h →
      wpAny (model prog w) A (eval elt (cenv C cx)) (fun y s₄ => ElS s h₀ C [] [(I, oI), (B, lstO ys k), (L, oL), (cx, cellL oc (some v))] (J (i + 1) (ys ++ [y])) s₄) E' (St s h tk)) ∧
    ∀ B ys k O₁ h' tk, ys.length ≤ n → J n ys O₁ → Sd h₀ L V ((B, lstO ys k) :: O₁) h' → Q B (St s h' tk)

theorem e_compC {elt iter : Expr} {x : Str} {px : Pos} {scope : Scope} {cl : List (Str × Addr)} {pos : Pos} {Q : Value → Shared → Prop} (h₀ : Heap) (e : EnvIs env sc L cells) (hcl : closS cells scope.names [] = some cl)
    (h1 : ∀ n acc, cellsFrom n scope.names acc = (x, n) :: acc) (h2 : ∀ hp : Heap, pushCells hp scope.names = hp.push { cls := .type "cell", data := .cell none })
    (hkind : scope.kind = .function) (hnames : ∀ y ∈ scope.names, y.2 = .local → scope.names.lookup y.1 = some .local) (hx : scope.names.lookup x = some .cell)
    (h : wpAny (model prog w) A (eval iter env) (fun xv s₁ => wpAny (model prog w) A (pyIter xv) (fun it s₂ => ∃ V, CompAtC prog w A h₀ L V x elt (fun C cx => compEnvC scope ((x, cx) :: cl) C env) (fun B s' => Q (.ref B) s') it s₂) E s₁) E s)
    (hs : ∀ x, foldedSetIterable iter env x = pure x := by intro _; rfl) :
    wpAny (model prog w) A (eval (.ListComp elt [⟨.Name x px, iter, [], 0⟩] scope pos) env) Q E s := by
  rw [eval_ListComp]
  refine wpAny_comprehension_free (use := none) rfl hs (closS_is e hcl) hkind hnames (wpAny_mono h (fun xv s₁ h₁ => wpAny_mono h₁ (fun it s₂ h₂ => ?_) fun _ _ e => e) fun _ _ e => e)
  obtain ⟨V, I, oI, need, n, P, S, O, J, rfl, Dv, hsz, D, hst, h0, hneed, turn, fin⟩ := h₂
  refine wpAny_newObj_type (newEnvCell h1 h2 ?_)
  dsimp only
  have D1 : Sd h₀ L V ((s₂.heap.objs.size, lstO [] 0) :: (I, oI) :: O) (s₂.heap.push { cls := .type "list", dict := none, data := .seq ([] : List Value).toArray }) := D.push _
  generalize hH2 : s₂.heap.push { cls := .type "list", dict := none, data := .seq ([] : List Value).toArray } = H2 at D1 ⊢
  have hC : H2.get? H2.objs.size = none := by
    cases e : H2.get? H2.objs.size with
    | none => rfl
    | some o => exact absurd (Heap.lt_size e) (Nat.lt_irrefl _)
  obtain ⟨oL, back, D2⟩ := D1.enter (V' := []) hC (fun _ _ e => Heap.get?_push_of_some _ e) (Heap.Ns.new H2 (.type "dict")) (by simp) (by simp)
  have D2' := D2.push { cls := .type "cell", data := .cell none }
  have hsz2 : (H2.push { cls := .type "dict", data := .dict #[] }).objs.size = H2.objs.size + 1 := Heap.size_push _ _
  rw [hsz2] at D2'
  have D3 : Sd h₀ H2.objs.size [] ((I, oI) :: (s₂.heap.objs.size, lstO [] 0) :: (L, oL) :: (H2.objs.size + 1, cellL { cls := .type "cell" } none) :: O) ((H2.push { cls := .type "dict", data := .dict #[] }).push { cls := .type "cell", data := .cell none }) := by
    exact D2'.perm (List.Perm.append_right O (List.reverse_perm [(H2.objs.size + 1, cellL { cls := .type "cell" } none), (L, oL), (s₂.heap.objs.size, lstO [] 0), (I, oI)]))
  have hst₁ : S 0 ((H2.push { cls := .type "dict", data := .dict #[] }).push { cls := .type "cell", data := .cell none }) := by
    obtain ⟨fp, wr, W, hwr, hfp, hlive⟩ := Dv
    refine W.frame _ _ _ hst fun b hb o e => Heap.get?_push_of_some _ (Heap.get?_push_of_some _ ?_)
    rw [← hH2]; exact Heap.get?_push_of_some _ e
  refine compLoop (L := L) (oL := oL) Dv hsz (fun i ys V₁ O₁ => V₁ = [] ∧ ys.length ≤ i ∧ ∃ oc u O₂, O₁ = (H2.objs.size + 1, cellL oc u) :: O₂ ∧ J i ys O₂) D3 hst₁ ⟨rfl, Nat.le_refl _, _, _, _, rfl, h0⟩ ?_ ?_ ?_
  · rintro i ys V O ⟨_, _, oc, u, O₂, rfl, hJ⟩ p hp
    exact .tail _ (hneed _ _ _ hJ p hp)
  · rintro i v ys V₁ O₁ oI k h tk E' hi hP ⟨rfl, hyl, oc, u, O₂, rfl, hJ⟩ D4
    refine wpAny_assign_Name (stC D4 (by show (relabel scope env).kind = _; exact hkind) ?_ (by show List.lookup x ((x, H2.objs.size + 1) :: cl) = _; simp) (.tail _ (.tail _ (.tail _ (.head _)))) fun h5 D5 => ?_)
    · show (relabel scope env).names.lookup x = some .cell
      unfold relabel
      dsimp only
      have : ∀ (names : List (Str × NameKind)), names.lookup x = some .cell → (names.map fun (n, k) => if (k == NameKind.free && env.scope.kind == .function && env.kindOf n == some .cell) = true then (n, NameKind.cell) else (n, k)).lookup x = some .cell := by
        intro names
        induction names with
        | nil => intro h; simp at h
        | cons y r ih =>
          intro h
          obtain ⟨n, k⟩ := y
          rw [List.map_cons]
          rw [List.lookup_cons] at h
          by_cases hxn : (x == n) = true
          · rw [hxn] at h
            have hk : k = .cell := by simpa using h
            subst hk
            simp [List.lookup_cons, hxn]
          · have hxn' : (x == n) = false := by simpa using hxn
            rw [hxn'] at h
            dsimp only
            by_cases hc : (k == NameKind.free && env.scope.kind == .function && env.kindOf n == some .cell) = true
            · rw [if_pos hc, List.lookup_cons, hxn']; exact ih h
            · rw [if_neg hc, List.lookup_cons, hxn']; exact ih h
      exact this _ hx
    · refine tests0 (iteT rfl ?_)
      refine wpAny_mono (turn H2.objs.size (H2.objs.size + 1) oc i v ys O₂ s₂.heap.objs.size oL oI k h5 tk E' hi hP hyl hJ D5) (fun y s₄ h₄ => ?_) fun _ _ e => e
      obtain ⟨O₃, h', tk', rfl, D6, hJ'⟩ := h₄
      exact ⟨_, _, h', tk', rfl, D6, rfl, by simp; omega, _, _, _, rfl, hJ'⟩
  · rintro ys k V₁ O₁ h' tk hyl ⟨rfl, _, oc, u, O₂, rfl, hJ⟩ D4
    obtain ⟨oC, bC, D5⟩ := Sd.swap (pre := [(s₂.heap.objs.size, lstO ys k)]) D4 D.L0 D.ndV back
    obtain ⟨m, hm⟩ := bC _ (D5.get (by simp))
    refine ⟨m, hm, fun h'' hs'' => ?_⟩
    have D6 := Sd.drop (pre := [(s₂.heap.objs.size, lstO ys k)]) D5 hs''.extBut
    exact fin _ ys k O₂ h'' tk hyl hJ (D6.weak (List.Sublist.cons_cons _ (List.sublist_cons_self _ _)))

theorem k_compC {I : Addr} {oI : Obj} {need : Os} {n : Nat} {P : Nat → Value → Prop} {S : Nat → Heap → Prop} {x : Str} {elt : Expr} {cenv : Addr → Addr → Env} {Q : Addr → Shared → Prop} (J : Nat → List Value → Os → Prop)
    (D : Sd h₀ L V ((I, oI) :: O) h) (Dv : Drv prog w A h₀ I need n P S) (hst : S 0 h) (hsz : n ≤ sizeLine) (h0 : J 0 [] O) (hneed : ∀ i ys O, J i ys O → ∀ p ∈ need, p ∈ O)
    (turn : ∀ C cx oc i v ys O₁ B oL oI k h tk E', i < n → P i v → ys.length ≤ i → J i ys O₁ → Sd h₀ C [] ((I, oI) :: (B, lstO ys k) :: (L, oL) :: (cx, cellL oc (some v)) :: O₁) h →
      wpAny (model prog w) A (eval elt (cenv C cx)) (fun y s₄ => ElS b h₀ C [] [(I, oI), (B, lstO ys k), (L, oL), (cx, cellL oc (some v))] (J (i + 1) (ys ++ [y])) s₄) E' (St b h tk))
    (fin : ∀ B ys k O₁ h' tk, ys.length ≤ n → J n ys O₁ → Sd h₀ L V ((B, lstO ys k) :: O₁) h' → Q B (St b h' tk)) : CompAtC prog w A h₀ L V x elt cenv Q (.ref I) (St b h tk) :=
  ⟨I, oI, need, n, P, S, O, J, rfl, Dv, hsz, D, hst, h0, hneed, turn, fin⟩
end
end Mine
end
/-! text B9 -/
section
open PySem PySem.W PyProof.Rows PySem.Calls
set_option Elab.async false
set_option linter.unusedVariables false
namespace Mine
/-- a list of lists of ints: its items and their objects -/
inductive RowsAre : List Value → List (List Int) → Os → Prop
  | nil : RowsAre [] [] []
  | snoc {vs xss R ws xs k} (a : Addr) : RowsAre vs xss R → IntsAre ws xs → RowsAre (vs ++ [.ref a]) (xss ++ [xs]) ((a, lstO ws k) :: R)
theorem RowsAre.length {vs : List Value} {xss : List (List Int)} {R : Os} (h : RowsAre vs xss R) : vs.length = xss.length := by
  induction h with
  | nil => rfl
  | snoc a h hi ih => simp [ih]
theorem RowsAre.get {vs : List Value} {xss : List (List Int)} {R : Os} (h : RowsAre vs xss R) : ∀ i, i < xss.length → ∃ a ws k, vs[i]? = some (.ref a) ∧ (a, lstO ws k) ∈ R ∧ IntsAre ws (xss.getD i []) := by
  induction h with
  | nil => intro i hi; simp at hi
  | snoc a h hi ih =>
    rename_i vs xss R ws xs k
    intro i hlt
    have hl := h.length
    by_cases hi' : i < xss.length
    · obtain ⟨a', ws', k', h1, h2, h3⟩ := ih i hi'
      refine ⟨a', ws', k', ?_, .tail _ h2, ?_⟩
      · rw [List.getElem?_append_left (by omega)]; exact h1
      · rw [List.getD_eq_getElem?_getD, List.getElem?_append_left hi', ← List.getD_eq_getElem?_getD]; exact h3
    · have : i = xss.length := by simp at hlt; omega
      subst this
      refine ⟨a, ws, k, ?_, .head _, ?_⟩
      · rw [← hl]; simp
      · simp [List.getD_eq_getElem?_getD]; exact hi
end Mine
end
/-! text B10 -/
section
open PySem PySem.W PyProof.Rows PySem.Calls
set_option Elab.async false
set_option linter.unusedVariables false
namespace Mine
theorem bindArgs_of {fd : FuncData} {P : Arguments} {vals : List Value} {binds : List (Str × Value)} (hp : fd.params = P) (hd : fd.defaults = .none)
    (h : ∀ q : Str, bindArgs { name := "", qualname := q, params := P, body := .stmts [], scope := default, globals := 0, closure := [], defaults := .none, kwdefaults := fd.kwdefaults } ⟨vals, []⟩ = pure binds) : bindArgs fd ⟨vals, []⟩ = pure binds := by
  have := h fd.qualname
  rw [← this]
  unfold bindArgs
  dsimp only
  rw [hp, hd]
theorem FnS.imp {b : Shared} {h₀ : Heap} {Lf L : Addr} {oL : Obj} {P P' : Value → Os → Prop} {f : Flow} {s : Shared} (x : FnS b h₀ Lf L oL P f s) (hP : ∀ v O, P v O → P' v O) : FnS b h₀ Lf L oL P' f s := by
  obtain ⟨v, pre, O', V', h', tk, a, b, c, d⟩ := x
  exact ⟨v, pre, O', V', h', tk, a, b, c, hP _ _ d⟩
end Mine
end
/-! text B11 -/
section
open PySem PySem.W PyProof.Rows PySem.Calls
set_option Elab.async false
set_option linter.unusedVariables false
namespace Mine
section
variable {prog : Program} {w : World} {A : Around} {E : Value → Shared → Prop} {s b : Shared} {h : Heap} {tk : Nat} {env : Env} {h₀ : Heap} {L : Addr} {V V' : Vs} {O O' : Os} {sc : Scope} {cells : List (Str × Addr)}

theorem mapSeq_set (vs : List Value) (n j : Nat) (x : Value) : Obj.mapSeq (fun a => a.setIfInBounds j x) (lstO vs n) = lstO (vs.set j x) n := by
  simp [Obj.mapSeq, lstO]

theorem k_setItem {l : Addr} {vs : List Value} {n : Nat} {k : Int} {t : Tok} {v : Value} {Q : Unit → Shared → Prop} (D : Sd h₀ L V O h) (u : Upd1 l (lstO vs n) (lstO (vs.set k.toNat v) n) O O')
    (h0 : 0 ≤ k) (hn : k < vs.length) (hsz : vs.length ≤ sizeLine) (hQ : ∀ h' tk', Sd h₀ L V O' h' → Q () (St b h' tk')) : wpAny (model prog w) A (setItem (.ref l) (.int k t) v) Q E (St b h tk) := by
  have ho : (St b h tk).heap.get? l = some (lstO vs n) := D.get u.mem
  refine ki_setAt (items := vs.toArray) (n := n) ho h0 (by rw [sizeLine_eq] at hsz; omega) (by simpa using hn) (hQ _ tk ?_)
  refine D.upd u (Heap.SameBut.update ..).extBut ?_
  have := Heap.get?_update_self (Obj.mapSeq (·.setIfInBounds k.toNat v)) ho (by rw [mapSeq_set]; rfl)
  rw [mapSeq_set] at this
  exact this

noncomputable abbrev sliceO (l u st : Value) : Obj := { cls := .type "slice", data := .fields #[l, u, st] }
theorem k_Slice {lower upper step : Option Expr} {p : Pos} {Q : Value → Shared → Prop}
    (h : wpAny (model prog w) A (evalPart lower env) (fun l s₁ => wpAny (model prog w) A (evalPart upper env) (fun u s₂ => wpAny (model prog w) A (evalPart step env) (fun st s₃ => wpAny (model prog w) A (newFields "slice" [l, u, st]) Q E s₃) E s₂) E s₁) E s) :
    wpAny (model prog w) A (eval (.Slice lower upper step p) env) Q E s := by
  rw [arm_eval_Slice]
  refine wpAny_bind (wpAny_mono h (fun l s₁ h₁ => wpAny_bind (wpAny_holding (wpAny_mono h₁ (fun u s₂ h₂ => wpAny_bind (wpAny_holding (wpAny_mono h₂ (fun st s₃ h₃ => ?_) fun _ _ x => x))) fun _ _ x => x))) fun _ _ x => x)
  exact h₃
theorem k_noPart {Q : Value → Shared → Prop} (h : Q .none s) : wpAny (model prog w) A (evalPart none env) Q E s := wpAny_evalPart_none h
theorem k_part {e : Expr} {Q : Value → Shared → Prop} (h : wpAny (model prog w) A (eval e env) Q E s) : wpAny (model prog w) A (evalPart (some e) env) Q E s := wpAny_evalPart_some h
theorem k_newSlice {x y z : Value} {Q : Value → Shared → Prop} (D : Sd h₀ L V O h) (hQ : ∀ a h' tk', Sd h₀ L V ((a, sliceO x y z) :: O) h' → Q (.ref a) (St b h' tk')) : wpAny (model prog w) A (newFields "slice" [x, y, z]) Q E (St b h tk) :=
  wpAny_newObj_type (hQ _ _ _ (D.push _))
theorem k_tailSlice {value slice : Expr} {l sl : Addr} {vs : List Value} {n : Nat} {vl vu vst : Value} {lo hi st : Option Int} {Q : Value → Shared → Prop} {ops : List Value} (D : Sd h₀ L V O h) (hm : (l, lstO vs n) ∈ O) (hs : (sl, sliceO vl vu vst) ∈ O)
    (pl : IsPart vl lo) (pu : IsPart vu hi) (ps : IsPart vst st) (h0 : st ≠ some 0) (hsz : vs.length ≤ sizeLine)
    (hQ : ∀ a h' tk', Sd h₀ L V ((a, lstO (slicePick vs.toArray lo hi st).toList 0) :: O) h' → Q (.ref a) (St b h' tk'))
    (hss : subscripted slice false (.ref l) (.ref sl) = operate ops (getItem (.ref l) (.ref sl)) := by rfl) :
    wpAny (model prog w) A (subscriptTail value slice (.ref l) (.ref sl)) Q E (St b h tk) := by
  have hl : (St b h tk).heap.IsList l vs.toArray := ⟨_, D.get hm, rfl, _, rfl⟩
  have hT := hl.typeIs
  unfold subscriptTail
  refine wpAny_bind ?_
  rw [getitemInPython_of_ne hT.not_modules]
  refine wpAny_bind (wpAny_specialOf hT list_getitem_lookup ?_)
  have fin : wpAny (model prog w) A (subscripted slice false (.ref l) (.ref sl)) (fun r s₃ => wpAny (model prog w) A (letTemporaryGo value (.ref l) r >>= fun _ => pure r) Q E s₃) E (St b h tk) := by
    rw [hss]
    refine wpAny_operating (wpAny_getItem_list_slice hl ⟨_, D.get hs, rfl, rfl⟩ pl pu ps h0 (wpAny_bind (wpAny_letTemporaryGo (wpAny_pure (hQ _ _ _ ?_)))) (by simpa using hsz))
    have := D.push { cls := .type "list", data := .seq (slicePick vs.toArray lo hi st) }
    simpa [lstO, St] using this
  first
    | exact wpAny_pure (wpAny_bind fin)
    | exact wpAny_bind (wpAny_pure (wpAny_bind fin))
    | exact wpAny_bind fin
theorem pick_rev (vs : List Value) : (slicePick vs.toArray none none (some (-1))).toList = vs.reverse := by rw [krv_pick]

theorem k_itemNeg {value slice : Expr} {l : Addr} {vs : List Value} {k₀ : Nat} {k : Int} {u : Tok} {x : Value} {Q : Value → Shared → Prop} (D : Sd h₀ L V O s.heap) (hm : (l, lstO vs k₀) ∈ O) (h0 : k < 0) (h1 : -(vs.length : Int) ≤ k) (hx : vs[(k + vs.length).toNat]? = some x) (hsz : vs.length ≤ sizeLine) (h : Q x s)
    (hs : subscripted slice false (.ref l) (.int k u) = operate [.ref l, .int k u] (getItem (.ref l) (.int k u)) := by with_unfolding_all rfl) (hg : ∀ r, letTemporaryGo value (.ref l) r = pure () := by intro _; with_unfolding_all rfl) :
    wpAny (model prog w) A (subscriptTail value slice (.ref l) (.int k u)) Q E s := by
  have hl : s.heap.IsList l vs.toArray := ⟨_, D.get hm, rfl, _, rfl⟩
  exact subscriptTail_builtin hl.typeIs slot_list_getitem.lookup (wpAny_getItem_list_neg hl h0 (by simpa using h1) (by rw [sizeLine_eq] at hsz; omega) (by simpa using hx) h) hs hg

theorem k_addL {l m : Addr} {xs ys : List Value} {n k : Nat} {Q : Value → Shared → Prop} (D : Sd h₀ L V O h) (h1 : (l, lstO xs n) ∈ O) (h2 : (m, lstO ys k) ∈ O) (hsz : xs.length + ys.length ≤ sizeLine)
    (hQ : ∀ a h' tk', Sd h₀ L V ((a, lstO (xs ++ ys) 0) :: O) h' → Q (.ref a) (St b h' tk')) : wpAny (model prog w) A (binaryOp .Add (.ref l) (.ref m)) Q E (St b h tk) := by
  refine P.add_list (items := xs.toArray) (items2 := ys.toArray) (n := n) (n2 := k) (D.get h1) (D.get h2) (hQ _ _ _ ?_) (by simpa using hsz)
  have := D.push { cls := .type "list", data := .seq (xs.toArray ++ ys.toArray) }
  simpa [lstO, St] using this

/-! sorted, max, sum -/
noncomputable def ins (x : Int) : List Int → List Int
  | [] => [x]
  | y :: r => if x ≤ y then x :: y :: r else y :: ins x r
noncomputable def isort : List Int → List Int
  | [] => []
  | x :: r => ins x (isort r)
theorem ins_perm (x : Int) : ∀ l, (ins x l).Perm (x :: l)
  | [] => .refl _
  | y :: r => by
    unfold ins
    split
    · exact .refl _
    · exact (List.Perm.cons y (ins_perm x r)).trans (List.Perm.swap x y r)
theorem isort_perm : ∀ l, (isort l).Perm l
  | [] => .refl _
  | x :: r => (ins_perm x _).trans (List.Perm.cons x (isort_perm r))
theorem ins_sorted (x : Int) : ∀ l, l.Pairwise (· ≤ ·) → (ins x l).Pairwise (· ≤ ·)
  | [], _ => by simp [ins]
  | y :: r, h => by
    unfold ins
    rw [List.pairwise_cons] at h
    split
    · rename_i hxy
      refine List.pairwise_cons.mpr ⟨fun z hz => ?_, List.pairwise_cons.mpr h⟩
      rcases List.mem_cons.mp hz with rfl | hz
      · exact hxy
      · exact Int.le_trans hxy (h.1 z hz)
    · rename_i hxy
      refine List.pairwise_cons.mpr ⟨fun z hz => ?_, ins_sorted x r h.2⟩
      rcases List.mem_cons.mp ((ins_perm x r).mem_iff.mp hz) with rfl | hz
      · omega
      · exact h.1 z hz
theorem isort_sorted : ∀ l, (isort l).Pairwise (· ≤ ·)
  | [] => .nil
  | x :: r => ins_sorted x _ (isort_sorted r)
theorem isort_unique {l m : List Int} (hp : m.Perm l) (hs : m.Pairwise (· ≤ ·)) : m = isort l :=
  (hp.trans (isort_perm l).symm).eq_of_pairwise (fun x y _ _ h1 h2 => Int.le_antisymm h1 h2) hs (isort_sorted l)
theorem k_sorted {l : Addr} {vs : List Value} {ns : List Int} {k : Nat} {Q : Value → Shared → Prop} (D : Sd h₀ L V O h) (hm : (l, lstO vs k) ∈ O) (hi : IntsAre vs ns) (h64 : ns.length < 64)
    (hQ : ∀ a vs' k' h' tk', IntsAre vs' (isort ns) → Sd h₀ L V ((a, lstO vs' k') :: O) h' → Q (.ref a) (St b h' tk')) : wpAny (model prog w) A (call (.builtin "sorted") [.ref l]) Q E (St b h tk) := by
  refine sorted_ints (s := St b h tk) (⟨_, D.get hm, rfl, _, rfl⟩ : (St b h tk).heap.IsList l vs.toArray) hi (by rw [hi.length]; exact h64) fun out ns' a1 a2 a3 => ?_
  obtain ⟨e, he⟩ := sortedAll_at (St b h tk).heap vs out
  have D' : Sd h₀ L V O (sortedAll (St b h tk).heap vs out) := D.keeps fun _ _ => sortedAll_old
  have e1 : ns' = isort ns := isort_unique a2 a3
  subst e1
  refine hQ _ out.toList e _ tk a1 ⟨D'.ns, D'.ndV, D'.L0, D'.keep, fun p hp => ?_, fun p hp => ?_, ?_⟩
  · rcases List.mem_cons.mp hp with rfl | hp
    · exact he
    · exact D'.obj p hp
  · rcases List.mem_cons.mp hp with rfl | hp
    · refine ⟨Nat.ne_of_gt (Nat.lt_succ_of_lt D.Llt), ?_⟩
      cases q : h₀.get? ((St b h tk).heap.objs.size + 1) with
      | none => rfl
      | some o => exact absurd (Heap.lt_size (D.keep _ _ q)) (Nat.not_lt.mpr (Nat.le_succ _))
    · exact D'.off p hp
  · rw [List.map_cons, List.nodup_cons]
    refine ⟨fun hm => ?_, D.nd⟩
    obtain ⟨p, hp, q⟩ := List.mem_map.mp hm
    have := D.lt (o := p.2) (a := p.1) hp
    have q' : p.1 = h.objs.size + 1 := q
    exact absurd this (by rw [q']; exact Nat.not_lt.mpr (Nat.le_succ _))
noncomputable def maxL : List Int → Int
  | [] => 0
  | a :: r => r.foldl max a
theorem foldl_max (r : List Int) : ∀ a : Int, (r.foldl max a = a ∨ r.foldl max a ∈ r) ∧ a ≤ r.foldl max a ∧ ∀ x ∈ r, x ≤ r.foldl max a := by
  induction r with
  | nil => intro a; exact ⟨.inl rfl, Int.le_refl _, fun _ h => nomatch h⟩
  | cons y r ih =>
    intro a
    rw [List.foldl_cons]
    obtain ⟨h1, h2, h3⟩ := ih (max a y)
    refine ⟨?_, by omega, fun x hx => ?_⟩
    · rcases h1 with h1 | h1
      · rw [h1]
        by_cases c : a ≤ y
        · exact .inr (by rw [show max a y = y by omega]; exact .head _)
        · exact .inl (by omega)
      · exact .inr (.tail _ h1)
    · rcases List.mem_cons.mp hx with rfl | hx
      · omega
      · exact h3 x hx
theorem maxL_unique {l : List Int} {M : Int} (h1 : M ∈ l) (h2 : ∀ a ∈ l, a ≤ M) : M = maxL l := by
  cases l with
  | nil => cases h1
  | cons a r =>
    obtain ⟨g1, g2, g3⟩ := foldl_max r a
    show M = r.foldl max a
    have u1 : r.foldl max a ≤ M := by
      rcases g1 with g1 | g1
      · rw [g1]; exact h2 a (.head _)
      · exact h2 _ (.tail _ g1)
    have u2 : M ≤ r.foldl max a := by
      rcases List.mem_cons.mp h1 with rfl | h1
      · exact g2
      · exact g3 M h1
    omega
theorem k_max {l : Addr} {vs : List Value} {ns : List Int} {k : Nat} {Q : Value → Shared → Prop} (hh : A.handled = none) (D : Sd h₀ L V O h) (hm : (l, lstO vs k) ∈ O) (hi : IntsAre vs ns) (hne : 0 < ns.length)
    (hQ : ∀ t h' tk', Sd h₀ L V O h' → Q (.int (maxL ns) t) (St b h' tk')) : wpAny (model prog w) A (call (.builtin "max") [.ref l]) Q E (St b h tk) := by
  obtain ⟨xs, hxs⟩ := hi.allInts.items
  have hn : xs.toList.map (·.1) = ns := by
    have := hi.numsOf
    rw [← nums_intItems, ← hxs]; exact this
  have hl : (St b h tk).heap.IsList l (intItems xs) := hxs ▸ ⟨_, D.get hm, rfl, _, rfl⟩
  have hsz : 0 < xs.size := by rw [← hn] at hne; simpa using hne
  refine max_intList hh hl hsz fun v h' tk hv hk => ?_
  obtain ⟨t, rfl⟩ := intItems_at hv
  obtain ⟨h1, h2⟩ := argBest_gt (numAt xs) (xs.size - 1)
  have : numAt xs (argBest (fun i j => decide (numAt xs i > numAt xs j)) (xs.size - 1)) = maxL ns := by
    refine maxL_unique ?_ fun a ha => ?_
    · rw [numAt_eq, ← hn]; exact getD_mem (by rw [List.length_map, Array.length_toList]; omega)
    · rw [← hn] at ha
      obtain ⟨j, hj, rfl⟩ := mem_getD ha
      rw [List.length_map, Array.length_toList] at hj
      rw [← numAt_eq]; exact h2 j (by omega)
  rw [this]
  exact hQ t h' tk (D.keeps hk)
theorem k_max2 {x y : Int} {t u : Tok} {Q : Value → Shared → Prop} (hh : A.handled = none) (D : Sd h₀ L V O h) (hQ : ∀ t h' tk', Sd h₀ L V O h' → Q (.int (max x y) t) (St b h' tk')) :
    wpAny (model prog w) A (call (.builtin "max") [.int x t, .int y u]) Q E (St b h tk) := by
  refine max_two_ints hh fun h' tk' hk => ?_
  by_cases c : y > x
  · rw [if_pos c]; have := hQ u h' tk' (D.keeps hk); rwa [show max x y = y by omega] at this
  · rw [if_neg c]; have := hQ t h' tk' (D.keeps hk); rwa [show max x y = x by omega] at this
theorem k_sum {l : Addr} {vs : List Value} {ns : List Int} {k : Nat} {Q : Value → Shared → Prop} (hh : A.handled = none) (D : Sd h₀ L V O h) (hm : (l, lstO vs k) ∈ O) (hi : IntsAre vs ns) (hfit : PySem.SumFits ns)
    (hQ : ∀ t h' tk', Sd h₀ L V O h' → Q (.int ns.sum t) (St b h' tk')) : wpAny (model prog w) A (call (.builtin "sum") [.ref l]) Q E (St b h tk) := by
  obtain ⟨xs, hxs⟩ := hi.allInts.items
  have hn : xs.toList.map (·.1) = ns := by
    have := hi.numsOf
    rw [← nums_intItems, ← hxs]; exact this
  have hl : (St b h tk).heap.IsList l (intItems xs) := hxs ▸ ⟨_, D.get hm, rfl, _, rfl⟩
  refine sum_intList hh hl (fun j hj => ?_) fun h' tk t' hk => ?_
  · rw [numAt_eq, preSum_eq, hn]; exact hfit j (by rw [← hn]; simpa using hj)
  · rw [preSum_eq, hn, List.take_of_length_le (by rw [← hn]; simp)]
    exact hQ t' h' tk (D.keeps hk)
end
end Mine
end
/-! text B12 -/
section
open PySem PySem.W PyProof.Rows PySem.Calls
set_option Elab.async false
set_option linter.unusedVariables false
namespace Mine
/-- a list of lists of ints, its objects in the same order -/
inductive Rows3 : List Value → List (List Int) → Os → Prop
  | nil : Rows3 [] [] []
  | cons {vs xss R ws xs} (a : Addr) (k : Nat) : IntsAre ws xs → Rows3 vs xss R → Rows3 (.ref a :: vs) (xs :: xss) ((a, lstO ws k) :: R)
theorem Rows3.snoc {vs xss R ws xs} (a : Addr) (k : Nat) (hi : IntsAre ws xs) (h : Rows3 vs xss R) : Rows3 (vs ++ [.ref a]) (xss ++ [xs]) (R ++ [(a, lstO ws k)]) := by
  induction h with
  | nil => exact .cons a k hi .nil
  | cons a' k' hi' h ih => exact .cons a' k' hi' ih
theorem Rows3.of {vs xss R} (h : RowsAre vs xss R) : Rows3 vs xss R.reverse := by
  induction h with
  | nil => exact .nil
  | snoc a h hi ih => rw [List.reverse_cons]; exact ih.snoc a _ hi
theorem Rows3.length {vs xss R} (h : Rows3 vs xss R) : vs.length = xss.length := by
  induction h with
  | nil => rfl
  | cons a k hi h ih => simp [ih]
theorem Rows3.get {vs xss R} (h : Rows3 vs xss R) : ∀ i, i < xss.length → ∃ a ws k, vs[i]? = some (.ref a) ∧ (a, lstO ws k) ∈ R ∧ IntsAre ws (xss.getD i []) := by
  induction h with
  | nil => intro i hi; simp at hi
  | cons a k hi h ih =>
    intro i hlt
    cases i with
    | zero => exact ⟨a, _, k, rfl, .head _, hi⟩
    | succ i =>
      obtain ⟨a', ws', k', h1, h2, h3⟩ := ih i (by simpa using hlt)
      exact ⟨a', ws', k', by simpa using h1, .tail _ h2, by simpa using h3⟩
theorem Rows3.push {vs xss R} (h : Rows3 vs xss R) : ∀ i, i < xss.length → ∃ a ws k, vs[i]? = some (.ref a) ∧ (a, lstO ws k) ∈ R ∧ IntsAre ws (xss.getD i []) ∧
    ∀ x t, ∃ R', Upd1 a (lstO ws k) (lstO (ws ++ [.int x t]) (k + 1)) R R' ∧ Rows3 vs (xss.set i (xss.getD i [] ++ [x])) R' := by
  induction h with
  | nil => intro i hi; simp at hi
  | cons a k hi h ih =>
    intro i hlt
    cases i with
    | zero => exact ⟨a, _, k, rfl, .head _, hi, fun x t => ⟨_, .head _, .cons a _ (Mine.IntsAre.snoc hi) h⟩⟩
    | succ i =>
      obtain ⟨a', ws', k', h1, h2, h3, h4⟩ := ih i (by simpa using hlt)
      refine ⟨a', ws', k', by simpa using h1, .tail _ h2, by simpa using h3, fun x t => ?_⟩
      obtain ⟨R', u, h5⟩ := h4 x t
      exact ⟨_, .tail _ u, by simpa using Rows3.cons a k hi h5⟩
theorem Rows3.slot {vs xss R} (h : Rows3 vs xss R) : ∀ i, i < xss.length → ∃ R1 r R2, R = R1 ++ r :: R2 ∧ ∀ a ws k xs, IntsAre ws xs → Rows3 (vs.set i (.ref a)) (xss.set i xs) (R1 ++ (a, lstO ws k) :: R2) := by
  induction h with
  | nil => intro i hi; simp at hi
  | cons a k hi h ih =>
    intro i hlt
    cases i with
    | zero => exact ⟨[], _, _, rfl, fun a ws k xs hx => .cons a k hx h⟩
    | succ i =>
      obtain ⟨R1, r, R2, rfl, h4⟩ := ih i (by simpa using hlt)
      exact ⟨_ :: R1, r, R2, rfl, fun a' ws k' xs hx => by simpa using Rows3.cons a k hi (h4 a' ws k' xs hx)⟩
theorem Upd1.append {α β : Type} {a : α} {o o' : β} {l l' : List (α × β)} (u : Upd1 a o o' l l') (r : List (α × β)) : Upd1 a o o' (l ++ r) (l' ++ r) := by
  induction u with
  | head r' => exact .head _
  | tail p _ ih => exact .tail _ ih
theorem IntsAre.rev {vs : List Value} {ns : List Int} (h : IntsAre vs ns) : IntsAre vs.reverse ns.reverse := by
  induction h with
  | nil => exact .nil
  | cons n t h ih => rw [List.reverse_cons, List.reverse_cons]; exact Mine.IntsAre.snoc ih
theorem IntsAre.app {vs ws : List Value} {ns ms : List Int} (h : IntsAre vs ns) (g : IntsAre ws ms) : IntsAre (vs ++ ws) (ns ++ ms) := by
  induction h with
  | nil => exact g
  | cons n t h ih => exact .cons n t ih

noncomputable def swB (sc scope : Scope) (y : Str) (l1 l2 : Nat) : Bool := sc.kind == .function && sc.names.lookup y == some .local && l1 == l2 && !(scope.names.any fun x => x.1 == y && (x.2 == .local || x.2 == .cell))
theorem swB_is {env : Env} {sc : Scope} {L : Addr} {cells : List (Str × Addr)} {elt : Expr} {gens : List Comprehension} {scope : Scope} {pos py : Pos} {y : Str} {n : Nat} (e : EnvIs env sc L cells) (hk : sc.kind = .function) :
    swapsWith (.ListComp elt gens scope pos) (some (.Name y py)) n env = pure (swB sc scope y py.line pos.line) := by
  show (pure (env.blockKind == .function && env.kindOf y == some .local && py.line == pos.line && !(scope.names.any fun (n, k) => n == y && (k == .local || k == .cell))) : Sem Bool) = _
  have h1 : env.blockKind = sc.kind := by unfold Env.blockKind; rw [e.scope, hk]; rfl
  have h2 : env.kindOf y = sc.names.lookup y := by unfold Env.kindOf; rw [e.scope]
  rw [h1, h2]
  rfl
section
variable {prog : Program} {w : World} {A : Around} {E : Value → Shared → Prop} {s : Shared} {env : Env} {h₀ : Heap} {L : Addr} {V V' : Vs} {O O' : Os}
theorem y_comp {elt iter : Expr} {x y : Str} {px py : Pos} {ifs : List Expr} {scope sc : Scope} {cells cl : List (Str × Addr)} {pos spos : Pos} {u : Option Value} (Vf : Addr → Vs) {rest : List Stmt} {Q : Flow → Shared → Prop} (h₀ : Heap) (e : EnvIs env sc L cells)
    (hcl : closS cells scope.names [] = some cl) (hok : scopeOk scope x = true) (hsw : swB sc scope y py.line pos.line = true)
    (h : wpAny (model prog w) A (eval iter env) (fun xv s₁ => wpAny (model prog w) A (pyIter xv) (fun it s₂ => ∃ V, (∀ B, Upd1 y u (some (.ref B)) V (Vf B)) ∧ CompAt prog w A h₀ L V Vf x elt ifs (fun C => compEnvC scope cl C env) (fun B s' => wpAny (model prog w) A (execs rest env) Q E s') it s₂) E s₁) E s)
    (hs : ∀ x, foldedSetIterable iter env x = pure x := by intro _; rfl) :
    wpAny (model prog w) A (execs (.Assign [.Name y py] (.ListComp elt [⟨.Name x px, iter, ifs, 0⟩] scope pos) spos :: rest) env) Q E s := by
  have hk : sc.kind = .function ∧ sc.names.lookup y = some .local := by
    unfold swB at hsw; simp only [Bool.and_eq_true, beq_iff_eq] at hsw; exact ⟨hsw.1.1.1, hsw.1.1.2⟩
  exact x_comp (Vf := Vf) (u := u) h₀ e (by rw [swB_is e hk.1, hsw]) hcl hok hk.1 hk.2 h hs
theorem k_negc {b : Shared} {h : Heap} {tk : Nat} {i : Int} {k : Nat} {p pos : Pos} {Q : Value → Shared → Prop} (hQ : ∀ t tk', Q (.int (-i) t) (St b h tk')) : wpAny (model prog w) A (eval (.UnaryOp .USub (.Constant (.int i) k p) pos) env) Q E (St b h tk) :=
  wpAny_UnaryOp (k_int fun t tk => neg_int (hQ _ _))
/-- an assignment of a comprehension to a name that is no local -/
theorem y_asg {elt : Expr} {gens : List Comprehension} {scope sc : Scope} {pos py p : Pos} {y : Str} {cells : List (Str × Addr)} {rest : List Stmt} {Q : Flow → Shared → Prop} (e : EnvIs env sc L cells) (hk : sc.kind = .function) (hsw : swB sc scope y py.line pos.line = false)
    (h : wpAny (model prog w) A (eval (.ListComp elt gens scope pos) env) (fun v s₁ => wpAny (model prog w) A (storeName env y v) (fun _ s₂ => wpAny (model prog w) A (execs rest env) Q E s₂) E s₁) E s) :
    wpAny (model prog w) A (execs (.Assign [.Name y py] (.ListComp elt gens scope pos) p :: rest) env) Q E s := x_asg h (by rw [swB_is e hk, hsw])
theorem x_set {o i value : Expr} {p' pos : Pos} {rest : List Stmt} {Q : Flow → Shared → Prop}
    (h : wpAny (model prog w) A (eval value env) (fun v s₁ => wpAny (model prog w) A (eval o env) (fun ov s₂ => wpAny (model prog w) A (eval i env) (fun iv s₃ => wpAny (model prog w) A (setItem ov iv v) (fun _ s₄ => wpAny (model prog w) A (execs rest env) Q E s₄) E s₃) E s₂) E s₁) E s)
    (hs : swapsWith value (some (.Subscript o i p')) pos.line env = pure false := by rfl) : wpAny (model prog w) A (execs (.Assign [.Subscript o i p'] value pos :: rest) env) Q E s :=
  wpAny_execs_cons (wpAny_Assign_Subscript h hs)
end
theorem Sd.place {h₀ h : Heap} {L : Addr} {V : Vs} {x r : Addr × Obj} {P R1 R2 base : Os} (D : Sd h₀ L V (x :: (P ++ ((R1 ++ r :: R2) ++ base))) h) : Sd h₀ L V (P ++ ((R1 ++ x :: R2) ++ base)) h := by
  have D1 := D.weak (O' := x :: (P ++ ((R1 ++ R2) ++ base))) (List.Sublist.cons_cons _ (List.Sublist.append_left (List.Sublist.append_right (List.Sublist.append_left (List.sublist_cons_self _ _) _) _) _))
  refine D1.perm ?_
  have := List.perm_middle (a := x) (l₁ := P ++ R1) (l₂ := R2 ++ base)
  simpa [List.append_assoc] using this
end Mine
namespace Mine
theorem IntsAre.at_ {vs : List Value} {ns : List Int} (h : IntsAre vs ns) : ∀ {i : Nat} {v : Value} {n : Int}, vs[i]? = some v → ns[i]? = some n → ∃ t, v = .int n t := by
  induction h with
  | nil => intro i v n h1 _; simp at h1
  | cons m t h ih =>
    intro i v n h1 h2
    cases i with
    | zero => simp at h1 h2; subst h1; subst h2; exact ⟨t, rfl⟩
    | succ i => exact ih (by simpa using h1) (by simpa using h2)
end Mine
namespace Mine
theorem Upd1.pre {α β : Type} {a : α} {o o' : β} {l l' : List (α × β)} (r : List (α × β)) (u : Upd1 a o o' l l') : Upd1 a o o' (r ++ l) (r ++ l') := by
  induction r with
  | nil => exact u
  | cons p r ih => exact .tail _ ih
end Mine
namespace Mine
theorem k_itemLast {prog : Program} {w : World} {A : Around} {E : Value → Shared → Prop} {s : Shared} {h₀ : Heap} {L : Addr} {V : Vs} {O : Os} {value slice : Expr} {l : Addr} {vs : List Value} {k₀ : Nat} {u : Tok} {x : Value} {Q : Value → Shared → Prop} (D : Sd h₀ L V O s.heap) (hm : (l, lstO (vs ++ [x]) k₀) ∈ O) (hsz : vs.length + 1 ≤ sizeLine) (h : Q x s)
    (hs : subscripted slice false (.ref l) (.int (-1) u) = operate [.ref l, .int (-1) u] (getItem (.ref l) (.int (-1) u)) := by with_unfolding_all rfl) (hg : ∀ r, letTemporaryGo value (.ref l) r = pure () := by intro _; with_unfolding_all rfl) :
    wpAny (model prog w) A (subscriptTail value slice (.ref l) (.int (-1) u)) Q E s := by
  refine k_itemNeg D hm (by omega) (by rw [List.length_append]; simp only [List.length_cons, List.length_nil]; omega) ?_ (by rw [List.length_append]; exact hsz) h hs hg
  have : ((-1 : Int) + ((vs ++ [x]).length : Int)).toNat = vs.length := by rw [List.length_append]; simp only [List.length_cons, List.length_nil]; omega
  rw [this]; simp
end Mine
end
/-! text B13 -/
section
open PySem PySem.W PyProof.Rows PySem.Calls
set_option Elab.async false
set_option linter.unusedVariables false
namespace Mine
noncomputable abbrev iK (prog : Program) (w : World) : KeyKind prog w Int := PySem.intKind prog w
noncomputable abbrev dct0 : Obj := { cls := .type "dict", data := .dict #[] }
section
variable {prog : Program} {w : World} {A : Around} {E : Value → Shared → Prop} {s b : Shared} {h : Heap} {tk : Nat} {env : Env} {h₀ : Heap} {L : Addr} {V V' : Vs} {O O' : Os} {sc : Scope} {cells : List (Str × Addr)}

theorem k_dict1 {ke ve : Expr} {pos : Pos} {Q : Value → Shared → Prop} (hbig : h₀.NoLimit) (D : Sd h₀ L V O h)
    (hQ : ∀ d h' tk', (d == sysModules) = false → Sd h₀ L V ((d, dct0) :: O) h' → wpAny (model prog w) A (eval ke env) (fun kv s₁ => wpAny (model prog w) A (eval ve env) (fun vv s₂ =>
      ∃ O' h2 tk2 i t, s₂ = St b h2 tk2 ∧ kv = .int i t ∧ Sd h₀ L V ((d, dct0) :: O') h2 ∧ ∀ o' h3 tk3, Obj.IsDictOf (iK prog w) o' [(i, vv)] → Sd h₀ L V ((d, o') :: O') h3 → Q (.ref d) (St b h3 tk3)) E s₁) E (St b h' tk')) :
    wpAny (model prog w) A (eval (.Dict [some ke] [ve] pos) env) Q E (St b h tk) := by
  have hlow : (h.objs.size == sysModules) = false := beq_eq_false_iff_ne.mpr (Nat.ne_of_gt (modules_low (hbig.keeps D.keep)))
  refine wpAny_Dict_walk (knd := iK prog w) (by rfl) (by rfl) (by simp) (by simp) ?_
  refine pairTrees_cons_walk ?_
  refine wpAny_mono (hQ h.objs.size _ tk hlow (D.push dct0)) (fun kv s₁ h₁ => wpAny_mono h₁ (fun vv s₂ h₂ => pairTrees_nil_walk ?_) fun _ _ e => e) fun _ _ e => e
  obtain ⟨O', h2, tk2, i, t, rfl, rfl, D2, k2⟩ := h₂
  obtain ⟨o, ho, hd⟩ := Heap.dictOf_iff.mp (Heap.DictOf.new (knd := iK prog w) h)
  have ho' : o = dct0 := by rw [Heap.get?_push_size _ rfl] at ho; exact (Option.some.inj ho).symm
  subst ho'
  refine display_done_int (by rfl) (by simp [intKeyPairs]) (Heap.dictOf_iff.mpr ⟨dct0, D2.get (.head _), hd⟩) fun h' hmm hs => ?_
  obtain ⟨o', ho', hd'⟩ := Heap.dictOf_iff.mp hmm
  exact k2 o' h' _ hd' (D2.upd (.head _) hs.extBut ho')

theorem k_setD {d : Addr} {od : Obj} {kvs : List (Int × Value)} {k : Int} {t : Tok} {v : Value} {Q : Unit → Shared → Prop} (O' : Obj → Os) (D : Sd h₀ L V O h) (hd : od.IsDictOf (iK prog w) kvs) (u : ∀ o', Upd1 d od o' O (O' o')) (hsz : kvs.length ≤ sizeLine)
    (hQ : ∀ o' h' tk', Obj.IsDictOf (iK prog w) o' (stored kvs k v) → Sd h₀ L V (O' o') h' → Q () (St b h' tk')) : wpAny (model prog w) A (setItem (.ref d) (.int k t) v) Q E (St b h tk) := by
  refine wpAny_setItem_pairs (knd := iK prog w) (k := k) (kvs := kvs) (by simp [iK, intKind, Value.isInt]) (Heap.dictOf_iff.mpr ⟨od, D.get (u od).mem, hd⟩) (fun h' hm hs => ?_) hsz
  obtain ⟨o', ho', hd'⟩ := Heap.dictOf_iff.mp hm
  exact hQ o' h' _ hd' (D.upd (u o') hs.extBut ho')
theorem k_inD {d : Addr} {od : Obj} {kvs : List (Int × Value)} {k : Int} {t : Tok} {Q : Value → Shared → Prop} (D : Sd h₀ L V O h) (hm : (d, od) ∈ O) (hlo : (d == sysModules) = false) (hd : od.IsDictOf (iK prog w) kvs)
    (hQ : ∀ tk', Q (.bool (valueAt kvs k).isSome) (St b h tk')) : wpAny (model prog w) A (compareOp .In (.int k t) (.ref d)) Q E (St b h tk) := by
  have hdo : (St b h tk).heap.DictOf (iK prog w) d kvs := Heap.dictOf_iff.mpr ⟨od, D.get hm, hd⟩
  exact wpAny_in_of (knd := iK prog w) (k := k) (by simp [iK, intKind, Value.isInt]) hlo hdo.mapOf (hQ _)
theorem k_itemD {value slice : Expr} {d : Addr} {od : Obj} {kvs : List (Int × Value)} {k : Int} {t : Tok} {v : Value} {Q : Value → Shared → Prop} (D : Sd h₀ L V O h) (hm : (d, od) ∈ O) (hd : od.IsDictOf (iK prog w) kvs) (hv : valueAt kvs k = some v)
    (hQ : ∀ tk', Q v (St b h tk')) (hs : subscripted slice false (.ref d) (.int k t) = operate [.ref d, .int k t] (getItem (.ref d) (.int k t)) := by with_unfolding_all rfl) (hg : ∀ r, letTemporaryGo value (.ref d) r = pure () := by intro _; with_unfolding_all rfl) :
    wpAny (model prog w) A (subscriptTail value slice (.ref d) (.int k t)) Q E (St b h tk) := by
  have hdo : (St b h tk).heap.DictOf (iK prog w) d kvs := Heap.dictOf_iff.mpr ⟨od, D.get hm, hd⟩
  exact subscriptTail_builtin hdo.typeIs slot_dict_getitem.lookup (wpAny_getItem_of (knd := iK prog w) (k := k) (by simp [iK, intKind, Value.isInt]) hdo.mapOf hv (hQ _)) hs hg

theorem readsInts {h : Heap} {vs : List Value} {ns : List Int} (hi : IntsAre vs ns) : ReadsAll h vs (ns.map .int) [] := by
  induction hi with
  | nil => exact .nil
  | cons n t _ ih => exact ReadsAll.cons (.int n t) ih
theorem shaped_ints (ns : List Int) : PySem.SeqAt.shaped (.list (ns.map .int)) = true := by
  unfold PySem.SeqAt.shaped
  rw [Bool.and_eq_true, decide_eq_true_eq]
  constructor
  · simp only [PyData.canLay0]
    induction ns with
    | nil => rfl
    | cons n r ih => simp_all [PyData.canLay0, PyData.canLayAll0]
  · simp only [PyData.depth]
    have : PyData.depthAll (ns.map PyData.int) ≤ 1 := by
      induction ns with
      | nil => simp [PyData.depthAll]
      | cons n r ih => simp [PyData.depthAll, PyData.depth]; omega
    omega
/-- unequal lists of ints -/
theorem k_neInts {l m : Addr} {xs ys : List Value} {ns ms : List Int} {n k : Nat} {Q : Value → Shared → Prop} (hu : A.units + 64 < cLine) (D : Sd h₀ L V O s.heap) (h1 : (l, lstO xs n) ∈ O) (h2 : (m, lstO ys k) ∈ O) (i1 : IntsAre xs ns) (i2 : IntsAre ys ms)
    (hQ : Q (.bool (!PyData.eqv (.list (ns.map .int)) (.list (ms.map .int)))) s) : wpAny (model prog w) A (compareOp .NotEq (.ref l) (.ref m)) Q E s :=
  ne_dataH (Reads.list (D.get h1) rfl rfl (readsInts i1)) (Reads.list (D.get h2) rfl rfl (readsInts i2)) (shaped_ints _) (shaped_ints _) hu hQ

theorem k_pow {a n : Int} {t u : Tok} {Q : Value → Shared → Prop} (h0 : 0 ≤ n) (h1 : n ≤ 1000000) (ha : a.natAbs < 2 ^ 64) (hQ : ∀ t tk', Q (.int (a ^ n.toNat) t) (St b h tk')) : wpAny (model prog w) A (binaryOp .Pow (.int a t) (.int n u)) Q E (St b h tk) :=
  pow_int_small h0 h1 ha (hQ _ _)
theorem k_shr {a n : Int} {t u : Tok} {Q : Value → Shared → Prop} (h0 : 0 ≤ n) (hQ : ∀ t tk', Q (.int (a.fdiv (2 ^ n.toNat)) t) (St b h tk')) : wpAny (model prog w) A (binaryOp .RShift (.int a t) (.int n u)) Q E (St b h tk) := rshift_int h0 (hQ _ _)
theorem k_band {x y : Int} {t u : Tok} {Q : Value → Shared → Prop} (hQ : ∀ t tk', Q (.int (Builtin.bitAnd x y) t) (St b h tk')) : wpAny (model prog w) A (binaryOp .BitAnd (.int x t) (.int y u)) Q E (St b h tk) := and_int (hQ _ _)
theorem t_bin {l r : Expr} {op : Operator} {pos : Pos} {whole : Sem Value} {Q : Bool → Shared → Prop} (h : wpAny (model prog w) A whole (fun v s₁ => wpAny (model prog w) A (truthy v) Q E s₁) E s) :
    wpAny (model prog w) A (isTrue (.BinOp l op r pos) env whole) Q E s := wpAny_isTrue_value h
theorem tr_int {i : Int} {t : Tok} {Q : Bool → Shared → Prop} (h : Q (i != 0) s) : wpAny (model prog w) A (truthy (.int i t)) Q E s := P.truthy_int h
theorem tr_bool {x : Bool} {Q : Bool → Shared → Prop} (h : Q x s) : wpAny (model prog w) A (truthy (.bool x)) Q E s := wpAny_truthy_bool h
end
end Mine
namespace Mine
theorem Sd.placeEnd {h₀ h : Heap} {L : Addr} {V : Vs} {x : Addr × Obj} {P R base : Os} (D : Sd h₀ L V (x :: (P ++ (R ++ base))) h) : Sd h₀ L V (P ++ ((R ++ [x]) ++ base)) h := by
  refine D.perm ?_
  have := List.perm_middle (a := x) (l₁ := P ++ R) (l₂ := base)
  simpa [List.append_assoc] using this
theorem IntsAre.set {vs : List Value} {ns : List Int} {n : Int} {t : Tok} (h : IntsAre vs ns) : ∀ i, IntsAre (vs.set i (.int n t)) (ns.set i n) := by
  induction h with
  | nil => intro i; exact .nil
  | cons m u h ih =>
    intro i
    cases i with
    | zero => exact .cons n t h
    | succ i => exact .cons m u (ih i)
noncomputable def rowOf (fd : List (Int × List Int)) (k : Int) : Option (List Int) := (fd.find? fun p => p.1 = k).map (·.2)
/-- a dict from ints to lists of ints -/
inductive Fnd : List (Int × Value) → List (Int × List Int) → Os → Prop
  | nil : Fnd [] [] []
  | cons {kvs fd R ws xs} (k : Int) (a : Addr) (n : Nat) : IntsAre ws xs → Fnd kvs fd R → Fnd ((k, .ref a) :: kvs) ((k, xs) :: fd) ((a, lstO ws n) :: R)
theorem Fnd.snoc {kvs fd R ws xs} (k : Int) (a : Addr) (n : Nat) (hi : IntsAre ws xs) (h : Fnd kvs fd R) : Fnd (kvs ++ [(k, .ref a)]) (fd ++ [(k, xs)]) (R ++ [(a, lstO ws n)]) := by
  induction h with
  | nil => exact .cons k a n hi .nil
  | cons k' a' n' hi' h ih => exact .cons k' a' n' hi' ih
theorem Fnd.length {kvs fd R} (h : Fnd kvs fd R) : kvs.length = fd.length := by
  induction h with
  | nil => rfl
  | cons k a n hi h ih => simp [ih]
theorem Fnd.none {kvs fd R} (h : Fnd kvs fd R) {k : Int} (hr : rowOf fd k = Option.none) : valueAt kvs k = Option.none := by
  induction h with
  | nil => rfl
  | cons k' a n hi h ih =>
    unfold rowOf at hr ih
    unfold valueAt at ih ⊢
    rw [List.find?_cons] at hr ⊢
    by_cases e : k' = k
    · simp [e] at hr
    · simp only [e, decide_false] at hr ⊢
      exact ih hr
theorem Fnd.some {kvs fd R} (h : Fnd kvs fd R) {k : Int} {xs : List Int} (hr : rowOf fd k = Option.some xs) : ∃ a ws n, valueAt kvs k = Option.some (.ref a) ∧ (a, lstO ws n) ∈ R ∧ IntsAre ws xs := by
  induction h with
  | nil => simp [rowOf] at hr
  | cons k' a n hi h ih =>
    unfold rowOf at hr ih
    unfold valueAt at ih ⊢
    rw [List.find?_cons] at hr ⊢
    by_cases e : k' = k
    · simp only [e, decide_true, Option.map_some, Option.some.injEq] at hr ⊢
      subst hr
      exact ⟨a, _, n, rfl, .head _, hi⟩
    · simp only [e, decide_false] at hr ⊢
      obtain ⟨a', ws, n', h1, h2, h3⟩ := ih hr
      exact ⟨a', ws, n', h1, .tail _ h2, h3⟩
theorem Fnd.keys {kvs fd R} (h : Fnd kvs fd R) : kvs.map (·.1) = fd.map (·.1) := by
  induction h with
  | nil => rfl
  | cons k a n hi h ih => simp [ih]
theorem stored_new {kvs : List (Int × Value)} {k : Int} {v : Value} (h : ∀ p ∈ kvs, p.1 ≠ k) : stored kvs k v = kvs ++ [(k, v)] := by
  unfold stored
  rw [if_neg]
  intro hc
  obtain ⟨p, hp, e⟩ := List.any_eq_true.mp hc
  exact h p hp (of_decide_eq_true e)
end Mine
end
/-! text R1 -/
section
open PySem PySem.Sre
set_option Elab.async false
set_option linter.unusedVariables false
namespace Mine
theorem runFor_done {m : M} (h : m.outcome.isSome = true) : ∀ n, m.runFor n = m
  | 0 => rfl
  | n + 1 => by unfold M.runFor; rw [if_pos h]
theorem runFor_succ {m : M} (h : m.outcome.isSome = false) (n : Nat) : m.runFor (n + 1) = m.step.runFor n := by
  show (if m.outcome.isSome = true then m else M.runFor n m.step) = _
  rw [h]; rfl
theorem runFor_add : ∀ (a b : Nat) (m : M), m.runFor (a + b) = (m.runFor a).runFor b
  | 0, b, m => by rw [Nat.zero_add]; rfl
  | a + 1, b, m => by
    rw [Nat.add_right_comm]
    cases h : m.outcome.isSome with
    | true => rw [runFor_done h, runFor_done h, runFor_done h]
    | false => rw [runFor_succ h, runFor_succ h, runFor_add a b m.step]
theorem runFor_one {m : M} (h : m.outcome = none) : m.runFor 1 = m.step := by
  unfold M.runFor; rw [h]; rfl

noncomputable def mk (cd text : Array Nat) (lim : Nat) (must : Bool) (seen : Seen) (start pc pos handed : Nat) (om : Bool) (frames : List Sre.Frame) (weight : Nat) (answer : Option Bool) (outcome : Option Sre.Outcome) : M :=
  { code := cd, text, lim, start, lastStart := lim, mustAdvance := must, pc, pos, handed, outermost := om, marks := #[], frames, weight, answer, seen, outcome }
noncomputable def fN (pc s : Nat) (first : Bool) : Sre.Frame := { wait := .nextStart, pc, pos := s, outermost := first }
noncomputable def cI : Array Nat := #[14, 4, 0, 0, 0, 6, 1, 5, 5, 0, 6, 6, 1, 1]
noncomputable def fL (s : Nat) (om : Bool) : Sre.Frame := { wait := .lookNot, pc := 7, pos := s, outermost := om }

theorem sI1 (t : Array Nat) (lim : Nat) (must : Bool) (sn : Seen) (s : Nat) (first : Bool) :
    (mk cI t lim must sn s 5 s s first [fN 5 s first] 1 none none).step =
      if (s == 0 || t.getD (s - 1) 0 == 10) = true then mk cI t lim must ((sn.add 6).add 44) s 7 s s first [fN 5 s first] 1 none none
      else mk cI t lim must ((sn.add 6).add 44) s 5 s s first [fN 5 s first] 1 (some false) none := rfl
theorem sI2 (t : Array Nat) (lim : Nat) (must : Bool) (sn : Seen) (s : Nat) (first : Bool) :
    (mk cI t lim must sn s 7 s s first [fN 5 s first] 1 none none).step = mk cI t lim must (sn.add 5) s 10 s s false [fL s first, fN 5 s first] 2 none none := rfl
theorem sI3 (t : Array Nat) (lim : Nat) (must : Bool) (sn : Seen) (s : Nat) (first : Bool) :
    (mk cI t lim must sn s 10 s s false [fL s first, fN 5 s first] 2 none none).step =
      if (s == lim || t.getD s 0 == 10) = true then mk cI t lim must ((sn.add 6).add 49) s 12 s s false [fL s first, fN 5 s first] 2 none none
      else mk cI t lim must ((sn.add 6).add 49) s 10 s s false [fL s first, fN 5 s first] 2 (some false) none := rfl
theorem sI4 (t : Array Nat) (lim : Nat) (must : Bool) (sn : Seen) (s : Nat) (first : Bool) :
    (mk cI t lim must sn s 12 s s false [fL s first, fN 5 s first] 2 none none).step = mk cI t lim must (sn.add 1) s 12 s s false [fL s first, fN 5 s first] 2 (some true) none := rfl
theorem sI5 (t : Array Nat) (lim : Nat) (must : Bool) (sn : Seen) (s : Nat) (first : Bool) :
    (mk cI t lim must sn s 12 s s false [fL s first, fN 5 s first] 2 (some true) none).step = mk cI t lim must sn s 7 s s first [fN 5 s first] 1 (some false) none := rfl
theorem sI6 (t : Array Nat) (lim : Nat) (must : Bool) (sn : Seen) (s : Nat) (first : Bool) :
    (mk cI t lim must sn s 10 s s false [fL s first, fN 5 s first] 2 (some false) none).step = mk cI t lim must sn s 13 s s first [fN 5 s first] 1 none none := rfl
theorem sI7 (t : Array Nat) (lim : Nat) (must : Bool) (sn : Seen) (s : Nat) (first : Bool) :
    (mk cI t lim must sn s 13 s s first [fN 5 s first] 1 none none).step =
      if (first && ((false && s != lim) || (must && s == s))) = true then mk cI t lim must (sn.add 1) s 13 s s first [fN 5 s first] 1 (some false) none
      else mk cI t lim must (sn.add 1) s 13 s s first [fN 5 s first] 1 (some true) none := rfl
theorem sIN (t : Array Nat) (lim : Nat) (must : Bool) (sn : Seen) (s pcx : Nat) (first : Bool) :
    (mk cI t lim must sn s pcx s s first [fN 5 s first] 1 (some false) none).step =
      if s < lim then mk cI t lim false sn (s + 1) 5 (s + 1) (s + 1) false [fN 5 (s + 1) false] 1 none none
      else mk cI t lim must sn s 5 s s first [] 0 (some false) none := rfl
theorem sIY (t : Array Nat) (lim : Nat) (must : Bool) (sn : Seen) (s pcx : Nat) (first : Bool) :
    (mk cI t lim must sn s pcx s s first [fN 5 s first] 1 (some true) none).step = mk cI t lim must sn s 5 s s first [] 0 (some true) none := rfl
theorem sEnd (cd t : Array Nat) (lim : Nat) (must : Bool) (sn : Seen) (st pc s hd : Nat) (om : Bool) (yes : Bool) :
    (mk cd t lim must sn st pc s hd om [] 0 (some yes) none).step = mk cd t lim must sn st pc s hd om [] 0 (some yes) (some (if yes then .matched else .failed)) := rfl

noncomputable def outIs (m : M) (r : Option (Nat × Nat)) : Prop :=
  match r with
  | some (a, e) => m.outcome = some .matched ∧ m.start = a ∧ m.handed = e
  | none => m.outcome = some .failed
theorem outIs.some' {m : M} {r : Option (Nat × Nat)} (h : outIs m r) : m.outcome.isSome = true := by
  cases r with
  | none => rw [show m.outcome = _ from h]; rfl
  | some p => rw [h.1]; rfl
/-- m comes to an answer within n steps -/
noncomputable def Ends (m : M) (n : Nat) (r : Option (Nat × Nat)) : Prop := ∃ k, k ≤ n ∧ outIs (m.runFor k) r
theorem Ends.step {m m' : M} {n : Nat} {r : Option (Nat × Nat)} (h0 : m.outcome.isSome = false) (h : m.step = m') (e : Ends m' n r) : Ends m (n + 1) r := by
  obtain ⟨k, hk, ho⟩ := e
  exact ⟨k + 1, by omega, by rw [runFor_succ h0, h]; exact ho⟩
theorem Ends.mono {m : M} {n n' : Nat} {r : Option (Nat × Nat)} (e : Ends m n r) (h : n ≤ n') : Ends m n' r := let ⟨k, hk, ho⟩ := e; ⟨k, by omega, ho⟩
theorem Ends.done {m : M} {r : Option (Nat × Nat)} (h : outIs m r) : Ends m 0 r := ⟨0, Nat.le_refl _, h⟩
noncomputable def nextGo (g : Nat → Option Nat) : Nat → Nat → Option (Nat × Nat)
  | 0, _ => none
  | n + 1, s => match g s with
    | some e => some (s, e)
    | none => nextGo g n (s + 1)

noncomputable def gI (t : Array Nat) (lim s : Nat) : Option Nat := if ((s == 0 || t.getD (s - 1) 0 == 10) && !(s == lim || t.getD s 0 == 10)) = true then some s else none
theorem turnI (t : Array Nat) (lim : Nat) (must : Bool) (sn : Seen) (s : Nat) (first : Bool) (n : Nat) (r : Option (Nat × Nat))
    (hyes : ∀ e, (if (first && must) = true then none else gI t lim s) = some e → r = some (s, e))
    (hno : (if (first && must) = true then none else gI t lim s) = none → (s < lim → ∀ sn, Ends (mk cI t lim false sn (s + 1) 5 (s + 1) (s + 1) false [fN 5 (s + 1) false] 1 none none) n r) ∧ (¬ s < lim → r = none)) :
    Ends (mk cI t lim must sn s 5 s s first [fN 5 s first] 1 none none) (n + 8) r := by
  have fin : ∀ sn pcx, (if (first && must) = true then none else gI t lim s) = none → Ends (mk cI t lim must sn s pcx s s first [fN 5 s first] 1 (some false) none) (n + 2) r := by
    intro sn pcx hg
    obtain ⟨h1, h2⟩ := hno hg
    by_cases hs : s < lim
    · exact (Ends.step rfl (by rw [sIN, if_pos hs]) (h1 hs sn)).mono (by omega)
    · refine (Ends.step rfl (by rw [sIN, if_neg hs]) (Ends.step rfl (sEnd ..) (Ends.mono (n' := n) (Ends.done (r := r) ?_) (Nat.zero_le _)))).mono (by omega)
      rw [h2 hs]; rfl
  by_cases c1 : (s == 0 || t.getD (s - 1) 0 == 10) = true
  · refine (Ends.step (n := n + 6) rfl (by rw [sI1, if_pos c1]) (Ends.step rfl (sI2 ..) ?_)).mono (by omega)
    by_cases c2 : (s == lim || t.getD s 0 == 10) = true
    · refine (Ends.step (n := n + 4) rfl (by rw [sI3, if_pos c2]) (Ends.step rfl (sI4 ..) (Ends.step rfl (sI5 ..) (fin _ _ ?_)))).mono (by omega)
      unfold gI; rw [c1, c2]; split <;> rfl
    · refine (Ends.step (n := n + 4) rfl (by rw [sI3, if_neg c2]) (Ends.step rfl (sI6 ..) ?_)).mono (by omega)
      have c2' : (s == lim || t.getD s 0 == 10) = false := by simpa using c2
      by_cases c3 : (first && must) = true
      · refine (Ends.step (n := n + 2) rfl (by rw [sI7, if_pos (by simpa using c3)]) (fin _ _ ?_)).mono (by omega)
        rw [if_pos c3]
      · refine (Ends.step (n := n + 2) rfl (by rw [sI7, if_neg (by simpa using c3)]) (Ends.step rfl (sIY ..) (Ends.step rfl (sEnd ..) (Ends.mono (n' := n) (Ends.done (r := r) ?_) (Nat.zero_le _))))).mono (by omega)
        rw [hyes s (by rw [if_neg c3]; unfold gI; rw [c1, c2']; rfl)]
        exact ⟨rfl, rfl, rfl⟩
  · refine (Ends.step (n := n + 2) rfl (by rw [sI1, if_neg c1]) (fin _ _ ?_)).mono (by omega)
    unfold gI; rw [show (s == 0 || t.getD (s - 1) 0 == 10) = false by simpa using c1]; split <;> rfl
theorem runI (t : Array Nat) (lim : Nat) : ∀ (d s : Nat) (must : Bool) (sn : Seen), s ≤ lim → lim + 1 - s = d → Ends (mk cI t lim must sn s 5 s s false [fN 5 s false] 1 none none) (8 * d) (nextGo (gI t lim) d s)
  | 0, s, must, sn, h1, h2 => by omega
  | d + 1, s, must, sn, h1, h2 => by
    refine (turnI t lim must sn s false (8 * d) _ (fun e he => ?_) (fun he => ⟨fun hs sn => ?_, fun hs => ?_⟩)).mono (by omega)
    · have he' : gI t lim s = some e := he
      unfold nextGo; rw [he']
    · have he' : gI t lim s = none := he
      unfold nextGo; rw [he']
      exact runI t lim d (s + 1) false sn (by omega) (by omega)
    · have he' : gI t lim s = none := he
      unfold nextGo; rw [he', show d = 0 by omega]; rfl
noncomputable def fromI (t : Array Nat) (lim s : Nat) (must : Bool) : Option (Nat × Nat) := if must = true then nextGo (gI t lim) (lim - s) (s + 1) else nextGo (gI t lim) (lim + 1 - s) s
theorem searchI (t : Array Nat) (lim s : Nat) (must : Bool) (h : s ≤ lim) : Ends (forSearch cI t 0 s lim must) (8 * (lim + 1 - s)) (fromI t lim s must) := by
  have q0 : forSearch cI t 0 s lim must = mk cI t lim must (({} : Seen).add 14) s 5 s s true [fN 5 s true] 1 none none := by
    have : forSearch cI t 0 s lim must = if (decide (s > lim) || decide (lim - s < 0)) = true then _ else mk cI t lim must (({} : Seen).add 14) s 5 s s true [fN 5 s true] 1 none none := rfl
    rw [this, if_neg]; simp; omega
  rw [q0]
  obtain ⟨d, hd⟩ : ∃ d, lim + 1 - s = d + 1 := ⟨lim - s, by omega⟩
  rw [hd]
  refine (turnI t lim must _ s true (8 * d) _ (fun e he => ?_) (fun he => ⟨fun hs sn => ?_, fun hs => ?_⟩)).mono (by omega)
  · unfold fromI
    cases must with
    | true => cases he
    | false =>
      have he' : gI t lim s = some e := he
      rw [if_neg (by simp), hd]; unfold nextGo; rw [he']
  · have := runI t lim d (s + 1) false sn (by omega) (by omega)
    unfold fromI
    cases must with
    | true => rw [if_pos rfl, show lim - s = d by omega]; exact this
    | false =>
      have he' : gI t lim s = none := he
      rw [if_neg (by simp), hd]; unfold nextGo; rw [he']; exact this
  · unfold fromI
    cases must with
    | true => rw [if_pos rfl, show lim - s = 0 by omega]; rfl
    | false =>
      have he' : gI t lim s = none := he
      rw [if_neg (by simp), hd, show d = 0 by omega]; unfold nextGo; rw [he']; rfl
end Mine
end
/-! text R2 -/
section
open PySem PySem.Sre
set_option Elab.async false
set_option linter.unusedVariables false
namespace Mine
noncomputable def cQ : Array Nat := #[14, 4, 0, 1, 1, 6, 1, 16, 46, 1]
section
variable (t : Array Nat) (lim : Nat) (must : Bool) (sn : Seen) (s : Nat) (first : Bool)
theorem sQ1 : (mk cQ t lim must sn s 5 s s first [fN 5 s first] 1 none none).step =
      if (s == 0 || t.getD (s - 1) 0 == 10) = true then mk cQ t lim must ((sn.add 6).add 44) s 7 s s first [fN 5 s first] 1 none none
      else mk cQ t lim must ((sn.add 6).add 44) s 5 s s first [fN 5 s first] 1 (some false) none := rfl
theorem sQ2 : (mk cQ t lim must sn s 7 s s first [fN 5 s first] 1 none none).step =
      if s ≥ lim then mk cQ t lim must (sn.add 16) s 7 s s first [fN 5 s first] 1 (some false) none
      else match (t.getD s 0 == 46) with
        | false => mk cQ t lim must (sn.add 16) s 7 s s first [fN 5 s first] 1 (some false) none
        | true => mk cQ t lim must (sn.add 16) s 9 (s + 1) s first [fN 5 s first] 1 none none := by
  have h : (mk cQ t lim must sn s 7 s s first [fN 5 s first] 1 none none).step =
      if s ≥ lim then mk cQ t lim must (sn.add 16) s 7 s s first [fN 5 s first] 1 (some false) none
      else match accepts cQ 7 (t.getD s 0) (sn.add 16) with
        | .error why => (mk cQ t lim must (sn.add 16) s 7 s s first [fN 5 s first] 1 none none).stick why
        | .ok (false, seen) => mk cQ t lim must seen s 7 s s first [fN 5 s first] 1 (some false) none
        | .ok (true, seen) => mk cQ t lim must seen s 9 (s + 1) s first [fN 5 s first] 1 none none := rfl
  have ha : accepts cQ 7 (t.getD s 0) (sn.add 16) = .ok (t.getD s 0 == 46, sn.add 16) := rfl
  rw [h, ha]
  cases (t.getD s 0 == 46) <;> rfl
theorem sQ3 : (mk cQ t lim false sn s 9 (s + 1) s first [fN 5 s first] 1 none none).step =
      if (first && false) = true then mk cQ t lim false (sn.add 1) s 9 (s + 1) s first [fN 5 s first] 1 (some false) none
      else mk cQ t lim false (sn.add 1) s 9 (s + 1) (s + 1) first [fN 5 s first] 1 (some true) none := by cases first <;> rfl
theorem sQN (pcx : Nat) : (mk cQ t lim must sn s pcx s s first [fN 5 s first] 1 (some false) none).step =
      if s < lim then mk cQ t lim false sn (s + 1) 5 (s + 1) (s + 1) false [fN 5 (s + 1) false] 1 none none
      else mk cQ t lim must sn s 5 s s first [] 0 (some false) none := rfl
theorem sQY (pcx pos hd : Nat) : (mk cQ t lim must sn s pcx pos hd first [fN 5 s first] 1 (some true) none).step = mk cQ t lim must sn s 5 s hd first [] 0 (some true) none := rfl
end
noncomputable def gQ (t : Array Nat) (lim s : Nat) : Option Nat := if ((s == 0 || t.getD (s - 1) 0 == 10) && (decide (s < lim) && t.getD s 0 == 46)) = true then some (s + 1) else none
theorem turnQ (t : Array Nat) (lim : Nat) (sn : Seen) (s : Nat) (first : Bool) (n : Nat) (r : Option (Nat × Nat))
    (hyes : ∀ e, gQ t lim s = some e → r = some (s, e))
    (hno : gQ t lim s = none → (s < lim → ∀ sn, Ends (mk cQ t lim false sn (s + 1) 5 (s + 1) (s + 1) false [fN 5 (s + 1) false] 1 none none) n r) ∧ (¬ s < lim → r = none)) :
    Ends (mk cQ t lim false sn s 5 s s first [fN 5 s first] 1 none none) (n + 8) r := by
  have fin : ∀ sn pcx, gQ t lim s = none → Ends (mk cQ t lim false sn s pcx s s first [fN 5 s first] 1 (some false) none) (n + 2) r := by
    intro sn pcx hg
    obtain ⟨h1, h2⟩ := hno hg
    by_cases hs : s < lim
    · exact (Ends.step rfl (by rw [sQN, if_pos hs]) (h1 hs sn)).mono (by omega)
    · refine (Ends.step rfl (by rw [sQN, if_neg hs]) (Ends.step rfl (sEnd ..) (Ends.mono (n' := n) (Ends.done (r := r) ?_) (Nat.zero_le _)))).mono (by omega)
      rw [h2 hs]; rfl
  by_cases c1 : (s == 0 || t.getD (s - 1) 0 == 10) = true
  · refine (Ends.step (n := n + 7) rfl (by rw [sQ1, if_pos c1]) ?_).mono (by omega)
    by_cases c2 : s ≥ lim
    · refine (Ends.step (n := n + 2) rfl (by rw [sQ2, if_pos c2]) (fin _ _ ?_)).mono (by omega)
      unfold gQ; rw [c1, show decide (s < lim) = false by simpa using c2]; rfl
    · cases c3 : (t.getD s 0 == 46) with
      | false =>
        refine (Ends.step (n := n + 2) rfl (by rw [sQ2, if_neg c2, c3]) (fin _ _ ?_)).mono (by omega)
        unfold gQ; rw [c1, c3]; simp
      | true =>
        refine (Ends.step (n := n + 3) rfl (by rw [sQ2, if_neg c2, c3]) (Ends.step rfl (by rw [sQ3, if_neg (by simp)]) (Ends.step rfl (sQY ..) (Ends.step rfl (sEnd ..) (Ends.mono (n' := n) (Ends.done (r := r) ?_) (Nat.zero_le _)))))).mono (by omega)
        rw [hyes (s + 1) (by unfold gQ; rw [c1, c3, show decide (s < lim) = true by simpa using c2]; rfl)]
        exact ⟨rfl, rfl, rfl⟩
  · refine (Ends.step (n := n + 2) rfl (by rw [sQ1, if_neg c1]) (fin _ _ ?_)).mono (by omega)
    unfold gQ; rw [show (s == 0 || t.getD (s - 1) 0 == 10) = false by simpa using c1]; rfl
theorem runQ (t : Array Nat) (lim : Nat) : ∀ (d s : Nat) (first : Bool) (sn : Seen), s ≤ lim → lim + 1 - s = d → Ends (mk cQ t lim false sn s 5 s s first [fN 5 s first] 1 none none) (8 * d) (nextGo (gQ t lim) d s)
  | 0, s, first, sn, h1, h2 => by omega
  | d + 1, s, first, sn, h1, h2 => by
    refine (turnQ t lim sn s first (8 * d) _ (fun e he => ?_) (fun he => ⟨fun hs sn => ?_, fun hs => ?_⟩)).mono (by omega)
    · unfold nextGo; rw [he]
    · unfold nextGo; rw [he]
      exact runQ t lim d (s + 1) false sn (by omega) (by omega)
    · unfold nextGo; rw [he, show d = 0 by omega]; rfl
theorem searchQ (t : Array Nat) (lim s : Nat) (h : s ≤ lim) : Ends (forSearch cQ t 0 s lim false) (8 * (lim + 1 - s) + 1) (nextGo (gQ t lim) (lim + 1 - s) s) := by
  have q0 : forSearch cQ t 0 s lim false = if (decide (s > lim) || decide (lim - s < 1)) = true then
      { code := cQ, text := t, lim, start := s, pc := 5, pos := s, handed := s, marks := #[], seen := (({} : Seen).add 14), answer := some false } else mk cQ t lim false (({} : Seen).add 14) s 5 s s true [fN 5 s true] 1 none none := rfl
  rw [q0]
  by_cases c : (decide (s > lim) || decide (lim - s < 1)) = true
  · rw [if_pos c]
    have hs : s = lim := by simp at c; omega
    refine (Ends.step (n := 0) rfl rfl (Ends.done ?_)).mono (by omega)
    rw [show lim + 1 - s = 1 by omega]
    unfold nextGo
    have : gQ t lim s = none := by unfold gQ; rw [show decide (s < lim) = false by simp; omega]; simp
    rw [this]; rfl
  · rw [if_neg c]
    exact (runQ t lim _ s true _ h rfl).mono (by omega)

noncomputable def cV : Array Nat := #[14, 8, 1, 2, 4294967295, 1, 1, 46, 0, 16, 46, 24, 9, 1, 4294967295, 13, 4, 8, 0, 0, 1, 6, 5, 1]
noncomputable def dig (t : Array Nat) : Nat → Nat → Nat
  | 0, _ => 0
  | n + 1, p => if isDigit (t.getD p 0) = true then dig t n (p + 1) + 1 else 0
theorem dig_le (t : Array Nat) : ∀ n p, dig t n p ≤ n
  | 0, p => Nat.le_refl _
  | n + 1, p => by unfold dig; split <;> have := dig_le t n (p + 1) <;> omega
theorem dig_is (t : Array Nat) : ∀ n p c, c < dig t n p → isDigit (t.getD (p + c) 0) = true
  | 0, p, c, h => by simp [dig] at h
  | n + 1, p, c, h => by
    unfold dig at h
    split at h
    · rename_i hd
      cases c with
      | zero => exact hd
      | succ c => have := dig_is t n (p + 1) c (by omega); rwa [show p + (c + 1) = p + 1 + c by omega]
    · omega
theorem accV (c : Nat) (sn : Seen) : ∃ sn', accepts cV 15 c sn = .ok (isDigit c, sn') := by
  have h : accepts cV 15 c sn = (do if ← category 0 c then pure (true, (sn.add 8).add 55) else inSet cV c 23 19 true ((sn.add 8).add 55)) := rfl
  have h2 : category 0 c = .ok (isDigit c != false) := rfl
  rw [h, h2]
  cases hd : isDigit c with
  | true => exact ⟨_, rfl⟩
  | false => exact ⟨_, rfl⟩
theorem runV (t : Array Nat) : ∀ n p found sn, ∃ sn', Sre.run cV t 15 n p found sn = .ok (found + dig t n p, sn')
  | 0, p, found, sn => ⟨sn, rfl⟩
  | n + 1, p, found, sn => by
    obtain ⟨sn1, h⟩ := accV (t.getD p 0) sn
    unfold Sre.run dig
    rw [h]
    cases hd : isDigit (t.getD p 0) with
    | false => exact ⟨sn1, rfl⟩
    | true =>
      obtain ⟨sn2, h2⟩ := runV t n (p + 1) (found + 1) sn1
      refine ⟨sn2, ?_⟩
      show Sre.run cV t 15 n (p + 1) (found + 1) sn1 = _
      rw [h2, if_pos rfl]; congr 2; omega

noncomputable def fG (p : Nat) (first : Bool) (c : Int) : Sre.Frame := { wait := .giveBack, pc := 11, pos := p, outermost := first, count := c }
section
variable (t : Array Nat) (lim : Nat) (sn : Seen) (s : Nat) (first : Bool)
theorem sV1 : (mk cV t lim false sn s 9 s s first [fN 9 s first] 1 none none).step =
      if s ≥ lim then mk cV t lim false (sn.add 16) s 9 s s first [fN 9 s first] 1 (some false) none
      else match (t.getD s 0 == 46) with
        | false => mk cV t lim false (sn.add 16) s 9 s s first [fN 9 s first] 1 (some false) none
        | true => mk cV t lim false (sn.add 16) s 11 (s + 1) s first [fN 9 s first] 1 none none := by
  have h : (mk cV t lim false sn s 9 s s first [fN 9 s first] 1 none none).step =
      if s ≥ lim then mk cV t lim false (sn.add 16) s 9 s s first [fN 9 s first] 1 (some false) none
      else match accepts cV 9 (t.getD s 0) (sn.add 16) with
        | .error why => (mk cV t lim false (sn.add 16) s 9 s s first [fN 9 s first] 1 none none).stick why
        | .ok (false, seen) => mk cV t lim false seen s 9 s s first [fN 9 s first] 1 (some false) none
        | .ok (true, seen) => mk cV t lim false seen s 11 (s + 1) s first [fN 9 s first] 1 none none := rfl
  have ha : accepts cV 9 (t.getD s 0) (sn.add 16) = .ok (t.getD s 0 == 46, sn.add 16) := rfl
  rw [h, ha]
  cases (t.getD s 0 == 46) <;> rfl
theorem sV2 (hs : s < lim) (hl : lim ≤ 1000000) : ∃ sn', (mk cV t lim false sn s 11 (s + 1) s first [fN 9 s first] 1 none none).step =
      if dig t (lim - (s + 1)) (s + 1) < 1 then mk cV t lim false sn' s 11 (s + 1) s first [fN 9 s first] 1 (some false) none
      else mk cV t lim false sn' s 21 (s + 1 + dig t (lim - (s + 1)) (s + 1)) (s + 1 + dig t (lim - (s + 1)) (s + 1)) first [fG (s + 1 + dig t (lim - (s + 1)) (s + 1)) first (dig t (lim - (s + 1)) (s + 1)), fN 9 s first] 2 none none := by
  have h : (mk cV t lim false sn s 11 (s + 1) s first [fN 9 s first] 1 none none).step =
      if (1 : Int) > (lim : Int) - ((s + 1 : Nat) : Int) then mk cV t lim false (sn.add 24) s 11 (s + 1) s first [fN 9 s first] 1 (some false) none
      else match Sre.run cV t 15 (min 4294967295 ((lim : Int) - ((s + 1 : Nat) : Int)).toNat) (s + 1) 0 ((sn.add 24).add 13) with
        | .error why => (mk cV t lim false (sn.add 24) s 11 (s + 1) s first [fN 9 s first] 1 none none).stick why
        | .ok (n, seen) => if n < 1 then mk cV t lim false seen s 11 (s + 1) s first [fN 9 s first] 1 (some false) none
          else mk cV t lim false seen s 21 (s + 1 + n) (s + 1 + n) first [fG (s + 1 + n) first n, fN 9 s first] 2 none none := rfl
  rw [h]
  by_cases c : (1 : Int) > (lim : Int) - ((s + 1 : Nat) : Int)
  · refine ⟨sn.add 24, ?_⟩
    rw [if_pos c, show lim - (s + 1) = 0 by omega]
    rfl
  · rw [if_neg c, show min 4294967295 ((lim : Int) - ((s + 1 : Nat) : Int)).toNat = lim - (s + 1) by omega]
    obtain ⟨sn', h2⟩ := runV t (lim - (s + 1)) (s + 1) 0 ((sn.add 24).add 13)
    rw [h2, Nat.zero_add]
    exact ⟨sn', rfl⟩
theorem sV3 (p : Nat) (c : Int) : (mk cV t lim false sn s 21 p p first [fG p first c, fN 9 s first] 2 none none).step =
      if (p == lim || (p + 1 == lim && t.getD p 0 == 10)) = true then mk cV t lim false ((sn.add 6).add 48) s 23 p p first [fG p first c, fN 9 s first] 2 none none
      else mk cV t lim false ((sn.add 6).add 48) s 21 p p first [fG p first c, fN 9 s first] 2 (some false) none := rfl
theorem sV4 (p : Nat) (c : Int) : (mk cV t lim false sn s 23 p p first [fG p first c, fN 9 s first] 2 none none).step = mk cV t lim false (sn.add 1) s 23 p p first [fG p first c, fN 9 s first] 2 (some true) none := by cases first <;> rfl
theorem sV5 (p : Nat) (c : Int) : (mk cV t lim false sn s 23 p p first [fG p first c, fN 9 s first] 2 (some true) none).step = mk cV t lim false sn s 11 p p first [fN 9 s first] 1 (some true) none := rfl
theorem sV6 (p : Nat) (c : Int) : (mk cV t lim false sn s 21 p p first [fG p first c, fN 9 s first] 2 (some false) none).step =
      if c - 1 < 1 then mk cV t lim false sn s 11 p p first [fN 9 s first] 1 (some false) none
      else mk cV t lim false sn s 21 (p - 1) (p - 1) first [fG (p - 1) first (c - 1), fN 9 s first] 2 none none := rfl
theorem sVN (pcx pos hd : Nat) : (mk cV t lim false sn s pcx pos hd first [fN 9 s first] 1 (some false) none).step =
      if s < lim then mk cV t lim false sn (s + 1) 9 (s + 1) (s + 1) false [fN 9 (s + 1) false] 1 none none
      else mk cV t lim false sn s 9 s hd first [] 0 (some false) none := rfl
theorem sVY (pcx pos hd : Nat) : (mk cV t lim false sn s pcx pos hd first [fN 9 s first] 1 (some true) none).step = mk cV t lim false sn s 9 s hd first [] 0 (some true) none := rfl
end
noncomputable def atEnd (t : Array Nat) (lim p : Nat) : Bool := p == lim || (p + 1 == lim && t.getD p 0 == 10)
noncomputable def gV (t : Array Nat) (lim s : Nat) : Option Nat :=
  if (decide (s < lim) && t.getD s 0 == 46 && decide (1 ≤ dig t (lim - (s + 1)) (s + 1)) && atEnd t lim (s + 1 + dig t (lim - (s + 1)) (s + 1))) = true then some (s + 1 + dig t (lim - (s + 1)) (s + 1)) else none
theorem turnV (t : Array Nat) (lim : Nat) (hl : lim ≤ 1000000) (sn : Seen) (s : Nat) (first : Bool) (n : Nat) (r : Option (Nat × Nat))
    (hyes : ∀ e, gV t lim s = some e → r = some (s, e))
    (hno : gV t lim s = none → (s < lim → ∀ sn, Ends (mk cV t lim false sn (s + 1) 9 (s + 1) (s + 1) false [fN 9 (s + 1) false] 1 none none) n r) ∧ (¬ s < lim → r = none)) :
    Ends (mk cV t lim false sn s 9 s s first [fN 9 s first] 1 none none) (n + 10 + 2 * lim) r := by
  have fin : ∀ sn pcx pos hd, gV t lim s = none → Ends (mk cV t lim false sn s pcx pos hd first [fN 9 s first] 1 (some false) none) (n + 2) r := by
    intro sn pcx pos hd hg
    obtain ⟨h1, h2⟩ := hno hg
    by_cases hs : s < lim
    · exact (Ends.step rfl (by rw [sVN, if_pos hs]) (h1 hs sn)).mono (by omega)
    · refine (Ends.step rfl (by rw [sVN, if_neg hs]) (Ends.step rfl (sEnd ..) (Ends.mono (n' := n) (Ends.done (r := r) ?_) (Nat.zero_le _)))).mono (by omega)
      rw [h2 hs]; rfl
  by_cases c2 : s ≥ lim
  · refine (Ends.step (n := n + 2) rfl (by rw [sV1, if_pos c2]) (fin _ _ _ _ ?_)).mono (by omega)
    unfold gV; rw [show decide (s < lim) = false by simpa using c2]; rfl
  · have hs : s < lim := by omega
    cases c3 : (t.getD s 0 == 46) with
    | false =>
      refine (Ends.step (n := n + 2) rfl (by rw [sV1, if_neg c2, c3]) (fin _ _ _ _ ?_)).mono (by omega)
      unfold gV; rw [c3]; simp
    | true =>
      obtain ⟨sn', h2⟩ := sV2 t lim (sn.add 16) s first hs hl
      have hdl := dig_le t (lim - (s + 1)) (s + 1)
      have hdi := dig_is t (lim - (s + 1)) (s + 1)
      generalize hD : dig t (lim - (s + 1)) (s + 1) = D at h2 hdl hdi
      by_cases c4 : D < 1
      · refine (Ends.step (n := n + 3) rfl (by rw [sV1, if_neg c2, c3]) (Ends.step rfl (by rw [h2, if_pos c4]) (fin _ _ _ _ ?_))).mono (by omega)
        unfold gV; rw [hD, show decide (1 ≤ D) = false by simp; omega]; simp
      · by_cases c5 : atEnd t lim (s + 1 + D) = true
        · refine (Ends.step (n := n + 6) rfl (by rw [sV1, if_neg c2, c3]) (Ends.step rfl (by rw [h2, if_neg c4]) (Ends.step rfl (by rw [sV3]; exact if_pos c5) (Ends.step rfl (sV4 ..) (Ends.step rfl (sV5 ..) (Ends.step rfl (sVY ..) (Ends.step rfl (sEnd ..) (Ends.mono (n' := n) (Ends.done (r := r) ?_) (Nat.zero_le _))))))))).mono (by omega)
          rw [hyes (s + 1 + D) (by unfold gV; rw [hD, c3, c5, show decide (s < lim) = true by simpa using hs, show decide (1 ≤ D) = true by simp; omega]; rfl)]
          exact ⟨rfl, rfl, rfl⟩
        · have hg : gV t lim s = none := by
            unfold gV; rw [hD, show atEnd t lim (s + 1 + D) = false by simpa using c5]; simp
          have back : ∀ (c : Nat) (sn : Seen), 1 ≤ c → c ≤ D → Ends (mk cV t lim false sn s 21 (s + 1 + c) (s + 1 + c) first [fG (s + 1 + c) first c, fN 9 s first] 2 none none) (n + 2 + 2 * c) r := by
            intro c
            induction c with
            | zero => intro sn h; omega
            | succ c ih =>
              intro sn h1 h2
              have hne : ¬ (s + 1 + (c + 1) == lim || (s + 1 + (c + 1) + 1 == lim && t.getD (s + 1 + (c + 1)) 0 == 10)) = true := by
                intro hc
                by_cases hcD : c + 1 = D
                · rw [hcD] at hc; exact c5 hc
                · have hd := hdi (c + 1) (by omega)
                  rw [Bool.or_eq_true, Bool.and_eq_true, beq_iff_eq, beq_iff_eq, beq_iff_eq] at hc
                  rcases hc with hc | hc
                  · omega
                  · rw [hc.2] at hd; exact absurd hd (by decide)
              by_cases hc0 : c = 0
              · subst hc0
                exact (Ends.step (n := n + 3) rfl (by rw [sV3, if_neg hne]) (Ends.step rfl (by rw [sV6, if_pos (by omega)]) (fin _ _ _ _ hg))).mono (by omega)
              · have := ih ((sn.add 6).add 48) (by omega) (by omega)
                refine (Ends.step (n := n + 2 + 2 * c + 1) rfl (by rw [sV3, if_neg hne]) (Ends.step rfl (by rw [sV6, if_neg (by omega)]) ?_)).mono (by omega)
                rw [show s + 1 + (c + 1) - 1 = s + 1 + c by omega, show ((c + 1 : Nat) : Int) - 1 = (c : Int) by omega]
                exact this
          exact (Ends.step (n := n + 2 + 2 * D + 1) rfl (by rw [sV1, if_neg c2, c3]) (Ends.step rfl (by rw [h2, if_neg c4]) (back D sn' (by omega) (Nat.le_refl _)))).mono (by omega)
theorem runVV (t : Array Nat) (lim : Nat) (hl : lim ≤ 1000000) : ∀ (d s : Nat) (first : Bool) (sn : Seen), s ≤ lim → lim + 1 - s = d → Ends (mk cV t lim false sn s 9 s s first [fN 9 s first] 1 none none) ((10 + 2 * lim) * d) (nextGo (gV t lim) d s)
  | 0, s, first, sn, h1, h2 => by omega
  | d + 1, s, first, sn, h1, h2 => by
    refine (turnV t lim hl sn s first ((10 + 2 * lim) * d) _ (fun e he => ?_) (fun he => ⟨fun hs sn => ?_, fun hs => ?_⟩)).mono (by rw [Nat.mul_succ]; omega)
    · unfold nextGo; rw [he]
    · unfold nextGo; rw [he]
      exact runVV t lim hl d (s + 1) false sn (by omega) (by omega)
    · unfold nextGo; rw [he, show d = 0 by omega]; rfl
theorem searchV (t : Array Nat) (lim : Nat) (hl : lim ≤ 1000000) : Ends (forSearch cV t 0 0 lim false) ((10 + 2 * lim) * (lim + 1) + 1) (nextGo (gV t lim) (lim + 1) 0) := by
  have q0 : forSearch cV t 0 0 lim false = if (decide (0 > lim) || decide (lim - 0 < 2)) = true then
      { code := cV, text := t, lim, start := 0, pc := 9, pos := 0, handed := 0, marks := #[], seen := (({} : Seen).add 14), answer := some false } else mk cV t lim false (({} : Seen).add 14) 0 9 0 0 true [fN 9 0 true] 1 none none := rfl
  rw [q0]
  by_cases c : (decide (0 > lim) || decide (lim - 0 < 2)) = true
  · rw [if_pos c]
    have hs : lim < 2 := by simp at c; omega
    refine (Ends.step (n := 0) rfl rfl (Ends.done ?_)).mono (by omega)
    have hg : ∀ s, gV t lim s = none := by
      intro s
      unfold gV
      rw [if_neg]
      intro h
      simp only [Bool.and_eq_true, decide_eq_true_eq] at h
      have := dig_le t (lim - (s + 1)) (s + 1)
      omega
    have : ∀ d s, nextGo (gV t lim) d s = none := by
      intro d
      induction d with
      | zero => intro s; rfl
      | succ d ih => intro s; unfold nextGo; rw [hg s]; exact ih _
    rw [this]; rfl
  · rw [if_neg c]
    exact (runVV t lim hl _ 0 true _ (Nat.zero_le _) rfl).mono (Nat.le_succ _)
end Mine
end
/-! text R3 -/
section
open PySem PySem.Sre
set_option Elab.async false
set_option linter.unusedVariables false
namespace Mine
noncomputable def indentL (rp : List Nat) : Bool → List Nat → List Nat
  | _, [] => []
  | bol, c :: r => (if (bol && !(c == 10)) = true then rp else []) ++ c :: indentL rp (c == 10) r
noncomputable def quoteL : Bool → List Nat → List Nat
  | _, [] => []
  | bol, c :: r => if (bol && c == 46) = true then 46 :: 46 :: quoteL false r else c :: quoteL (c == 10) r
theorem indentL_cons (rp : List Nat) (bol : Bool) (c : Nat) (r : List Nat) : indentL rp bol (c :: r) = (if (bol && !(c == 10)) = true then rp else []) ++ c :: indentL rp (c == 10) r := rfl
theorem quoteL_cons (bol : Bool) (c : Nat) (r : List Nat) : quoteL bol (c :: r) = if (bol && c == 46) = true then 46 :: 46 :: quoteL false r else c :: quoteL (c == 10) r := rfl
noncomputable def bolAt (t : Array Nat) (s : Nat) : Bool := s == 0 || t.getD (s - 1) 0 == 10
theorem bol_succ (t : Array Nat) (s : Nat) : bolAt t (s + 1) = (t.getD s 0 == 10) := by simp [bolAt]
theorem drop_cons (t : Array Nat) {s : Nat} (h : s < t.size) : t.toList.drop s = t.getD s 0 :: t.toList.drop (s + 1) := by
  rw [List.drop_eq_getElem_cons (by simpa using h)]
  simp [Array.getD, h]
theorem ext_cons (t : Array Nat) {s a : Nat} (h : s < a) (ha : a ≤ t.size) : (t.extract s a).toList = t.getD s 0 :: (t.extract (s + 1) a).toList := by
  rw [Array.toList_extract, Array.toList_extract]
  simp only [List.extract_eq_take_drop]
  rw [drop_cons t (by omega)]
  obtain ⟨d, hd⟩ : ∃ d, a - s = d + 1 := ⟨a - s - 1, by omega⟩
  rw [hd, List.take_succ_cons, show a - (s + 1) = d by omega]
theorem ext_nil (t : Array Nat) (s : Nat) : (t.extract s s).toList = [] := by simp
theorem scanI (t : Array Nat) (rp : List Nat) : ∀ d s, s ≤ t.size → t.size + 1 - s = d →
    match nextGo (gI t t.size) d s with
    | none => indentL rp (bolAt t s) (t.toList.drop s) = t.toList.drop s
    | some (a, e) => e = a ∧ s ≤ a ∧ a < t.size ∧ indentL rp (bolAt t s) (t.toList.drop s) = (t.extract s a).toList ++ (rp ++ t.getD a 0 :: indentL rp (bolAt t (a + 1)) (t.toList.drop (a + 1)))
  | 0, s, h1, h2 => by omega
  | d + 1, s, h1, h2 => by
    unfold nextGo
    cases hg : gI t t.size s with
    | some e =>
      unfold gI at hg
      split at hg
      · rename_i c
        obtain rfl := Option.some.inj hg
        have c' := c
        rw [Bool.and_eq_true, Bool.not_eq_true'] at c'
        obtain ⟨c1, c2⟩ := c'
        rw [Bool.or_eq_false_iff] at c2
        have hs : s < t.size := by have := c2.1; rw [beq_eq_false_iff_ne] at this; omega
        refine ⟨rfl, Nat.le_refl _, hs, ?_⟩
        rw [ext_nil, drop_cons t hs, bol_succ]
        rw [indentL_cons, if_pos (by rw [show bolAt t s = true from c1, c2.2]; rfl), List.nil_append]
      · cases hg
    | none =>
      by_cases hs : s < t.size
      · have ih := scanI t rp d (s + 1) hs (by omega)
        have hstep : indentL rp (bolAt t s) (t.toList.drop s) = t.getD s 0 :: indentL rp (bolAt t (s + 1)) (t.toList.drop (s + 1)) := by
          rw [drop_cons t hs, bol_succ]
          show (if (bolAt t s && !(t.getD s 0 == 10)) = true then rp else []) ++ _ = _
          rw [if_neg]
          · rfl
          · intro hc
            unfold gI at hg
            rw [if_pos] at hg
            · cases hg
            · rw [show (s == t.size) = false by rw [beq_eq_false_iff_ne]; omega, Bool.false_or]; exact hc
        dsimp only
        split
        · rename_i hn
          rw [hn] at ih
          rw [hstep, ih, ← drop_cons t hs]
        · rename_i a e hn
          rw [hn] at ih
          obtain ⟨i1, i2, i3, i4⟩ := ih
          refine ⟨i1, by omega, i3, ?_⟩
          rw [hstep, i4, ext_cons t (show s < a by omega) (by omega)]
          rfl
      · have : d = 0 := by omega
        subst this
        show indentL rp (bolAt t s) (t.toList.drop s) = _
        rw [List.drop_of_length_le (by simp; omega)]
        rfl
theorem scanQ (t : Array Nat) : ∀ d s, s ≤ t.size → t.size + 1 - s = d →
    match nextGo (gQ t t.size) d s with
    | none => quoteL (bolAt t s) (t.toList.drop s) = t.toList.drop s
    | some (a, e) => e = a + 1 ∧ s ≤ a ∧ a < t.size ∧ quoteL (bolAt t s) (t.toList.drop s) = (t.extract s a).toList ++ (46 :: 46 :: quoteL (bolAt t (a + 1)) (t.toList.drop (a + 1)))
  | 0, s, h1, h2 => by omega
  | d + 1, s, h1, h2 => by
    unfold nextGo
    cases hg : gQ t t.size s with
    | some e =>
      unfold gQ at hg
      split at hg
      · rename_i c
        obtain rfl := Option.some.inj hg
        have c' := c
        rw [Bool.and_eq_true, Bool.and_eq_true, decide_eq_true_eq] at c'
        obtain ⟨c1, hs, c2⟩ := c'
        refine ⟨rfl, Nat.le_refl _, hs, ?_⟩
        rw [ext_nil, drop_cons t hs, bol_succ]
        have c3 : t.getD s 0 = 46 := by simpa using c2
        rw [quoteL_cons, if_pos (by rw [show bolAt t s = true from c1, c2]; rfl), c3, List.nil_append]
        rfl
      · cases hg
    | none =>
      by_cases hs : s < t.size
      · have ih := scanQ t d (s + 1) hs (by omega)
        have hstep : quoteL (bolAt t s) (t.toList.drop s) = t.getD s 0 :: quoteL (bolAt t (s + 1)) (t.toList.drop (s + 1)) := by
          rw [drop_cons t hs, bol_succ]
          show (if (bolAt t s && t.getD s 0 == 46) = true then _ else _) = _
          rw [if_neg]
          intro hc
          unfold gQ at hg
          rw [if_pos] at hg
          · cases hg
          · rw [show decide (s < t.size) = true by simpa using hs, Bool.true_and]; exact hc
        dsimp only
        split
        · rename_i hn
          rw [hn] at ih
          rw [hstep, ih, ← drop_cons t hs]
        · rename_i a e hn
          rw [hn] at ih
          obtain ⟨i1, i2, i3, i4⟩ := ih
          refine ⟨i1, by omega, i3, ?_⟩
          rw [hstep, i4, ext_cons t (show s < a by omega) (by omega)]
          rfl
      · have : d = 0 := by omega
        subst this
        show quoteL (bolAt t s) (t.toList.drop s) = _
        rw [List.drop_of_length_le (by simp; omega)]
        rfl
end Mine
end
/-! text R4 -/
section
open PySem PySem.W PyProof.Rows PySem.Calls
set_option Elab.async false
set_option linter.unusedVariables false
namespace Mine
theorem pa_rP : PlainAttrs "re.Pattern" :=
  ⟨⟨"object.__getattribute__", by rw [typeLookup_type, builtinLookup_eq_fast]; kernel_rfl, by decide +kernel⟩, by rw [typeLookup_type, builtinLookup_eq_fast]; kernel_rfl⟩
theorem pa_rM : PlainAttrs "re.Match" :=
  ⟨⟨"object.__getattribute__", by rw [typeLookup_type, builtinLookup_eq_fast]; kernel_rfl, by decide +kernel⟩, by rw [typeLookup_type, builtinLookup_eq_fast]; kernel_rfl⟩
theorem slot_search : Slot "re.Pattern" "search" "re.Pattern.search" :=
  .of (owner := "re.Pattern") (n := "search") (by rw [typeLookup_type, builtinLookup_eq_fast]; kernel_rfl) (by decide +kernel) (by decide +kernel) (by decide +kernel)
    (by first | exact .inl (by decide +kernel) | exact .inr (by decide +kernel)) (by rw [isSubtype_type]; kernel_rfl)
theorem slot_sub : Slot "re.Pattern" "sub" "re.Pattern.sub" :=
  .of (owner := "re.Pattern") (n := "sub") (by rw [typeLookup_type, builtinLookup_eq_fast]; kernel_rfl) (by decide +kernel) (by decide +kernel) (by decide +kernel)
    (by first | exact .inl (by decide +kernel) | exact .inr (by decide +kernel)) (by rw [isSubtype_type]; kernel_rfl)
theorem slot_span : Slot "re.Match" "span" "re.Match.span" :=
  .of (owner := "re.Match") (n := "span") (by rw [typeLookup_type, builtinLookup_eq_fast]; kernel_rfl) (by decide +kernel) (by decide +kernel) (by decide +kernel)
    (by first | exact .inl (by decide +kernel) | exact .inr (by decide +kernel)) (by rw [isSubtype_type]; kernel_rfl)
theorem slot_bjoin : Slot "bytes" "join" "bytes.join" :=
  .of (owner := "bytes") (n := "join") (by rw [typeLookup_type, builtinLookup_eq_fast]; kernel_rfl) (by decide +kernel) (by decide +kernel) (by decide +kernel)
    (by first | exact .inl (by decide +kernel) | exact .inr (by decide +kernel)) (by rw [isSubtype_type]; kernel_rfl)
theorem type_search : typeOf (.builtin "re.Pattern.search") = pure (.type "method_descriptor") := by show builtinType _ = _; rw [builtinType_eq_fast]; kernel_rfl
theorem type_sub : typeOf (.builtin "re.Pattern.sub") = pure (.type "method_descriptor") := by show builtinType _ = _; rw [builtinType_eq_fast]; kernel_rfl
theorem type_span : typeOf (.builtin "re.Match.span") = pure (.type "method_descriptor") := by show builtinType _ = _; rw [builtinType_eq_fast]; kernel_rfl
theorem type_bjoin : typeOf (.builtin "bytes.join") = pure (.type "method_descriptor") := by show builtinType _ = _; rw [builtinType_eq_fast]; kernel_rfl
theorem entry_search : entryFor table "re.Pattern.search" = some Builtin.«re.Pattern.search» := entryFor_of_tree (by kernel_rfl)
theorem entry_sub : entryFor table "re.Pattern.sub" = some Builtin.«re.Pattern.sub» := entryFor_of_tree (by kernel_rfl)
theorem entry_subloop : entryFor table "re.Pattern.sub.loop" = some Builtin.«re.Pattern.sub.loop» := entryFor_of_tree (by kernel_rfl)
theorem entry_span : entryFor table "re.Match.span" = some Builtin.«re.Match.span» := entryFor_of_tree (by kernel_rfl)
theorem entry_string : entryFor table "re.Match.string" = some Builtin.«re.Match.string» := entryFor_of_tree (by kernel_rfl)
theorem entry_bjoin : entryFor table "bytes.join" = some Builtin.«bytes.join» := entryFor_of_tree (by kernel_rfl)
theorem owner_rP : Manifest.owners.lookup (String.ofList ['n', 'r', 'e', 't', 't', 'a', 'P', '.', 'e', 'r'].reverse) = some Manifest.sig_re_Pattern := by kernel_rfl
theorem lookup_string : typeLookup (.type "re.Match") "string" = pure (some (.builtin "re.Match.string")) := by rw [typeLookup_type, builtinLookup_eq_fast]; kernel_rfl
theorem type_string : typeOf (.builtin "re.Match.string") = pure (.type "member_descriptor") := by show builtinType _ = _; rw [builtinType_eq_fast]; kernel_rfl
theorem args_search (a b : Value) : argsOk "re.Pattern.search" ⟨[a, b], []⟩ := by unfold argsOk; rfl
theorem args_sub (a b c : Value) : argsOk "re.Pattern.sub" ⟨[a, b, c], []⟩ := by unfold argsOk; rfl
theorem args_span (a b : Value) : argsOk "re.Match.span" ⟨[a, b], []⟩ := by unfold argsOk; rfl
theorem args_bjoin (a b : Value) : argsOk "bytes.join" ⟨[a, b], []⟩ := by unfold argsOk; rfl
end Mine
end
/-! text R5 -/
section
open PySem PySem.W PyProof.Rows PySem.Calls
set_option Elab.async false
set_option linter.unusedVariables false
namespace Mine
open PySem.Builtin.Re
section
variable {prog : Program} {w : World} {A : Around} {E : Value → Shared → Prop} {s b : Shared} {h : Heap} {tk : Nat} {env : Env} {h₀ : Heap} {L : Addr} {V V' : Vs} {O O' : Os}
theorem wp_reDrive {M' : Model} {r : Option (Nat × Nat)} : ∀ (T : Nat) (m : Sre.M) (n : Nat), Ends m n r → n + 4 ≤ 4 * T → ∀ {Q : Sre.M → Shared → Prop}, (∀ m', outIs m' r → Q m' s) → wpAny M' A (reDrive T m) Q E s
  | 0, m, n, e, hn, Q, hQ => by omega
  | T + 1, m, n, e, hn, Q, hQ => by
    obtain ⟨k, hk, ho⟩ := e
    show wpAny M' A (if (m.runFor 4).outcome.isSome = true then pure (m.runFor 4) else (do rule "sre.turn"; reDrive T (m.runFor 4))) Q E s
    by_cases c : (m.runFor 4).outcome.isSome = true
    · rw [if_pos c]
      refine wpAny_pure (hQ _ ?_)
      by_cases hk4 : k ≤ 4
      · have := runFor_add k (4 - k) m
        rw [show k + (4 - k) = 4 by omega, runFor_done ho.some'] at this
        rw [this]; exact ho
      · have := runFor_add 4 (k - 4) m
        rw [show 4 + (k - 4) = k by omega, runFor_done c] at this
        rw [← this]; exact ho
    · rw [if_neg c]
      have hk4 : 4 < k := by
        apply Nat.lt_of_not_le
        intro hk4
        have := runFor_add k (4 - k) m
        rw [show k + (4 - k) = 4 by omega, runFor_done ho.some'] at this
        rw [this] at c
        exact c ho.some'
      have e' : Ends (m.runFor 4) (n - 4) r := ⟨k - 4, by omega, by rw [← runFor_add, show 4 + (k - 4) = k by omega]; exact ho⟩
      exact wpAny_bind (wpAny_rule (wp_reDrive T _ (n - 4) e' (by omega) hQ))
theorem wp_reRun {m : Sre.M} {n : Nat} {r : Option (Nat × Nat)} {Q : Option Sre.M → Shared → Prop} (e : Ends m n r) (hn : n ≤ 2 ^ 64)
    (hQ : match r with | some (a, e) => ∀ m', m'.start = a → m'.handed = e → Q (some m') s | none => Q none s) : wpAny (model prog w) A (reRunToEnd m) Q E s := by
  unfold reRunToEnd
  refine wpAny_bind (wp_reDrive _ _ n e (by omega) fun m' ho => ?_)
  refine wpAny_bind (wpAny_forIn_list _ (fun _ _ s' => s' = s) _ (fun x rest b s' hs => ?_) (fun b s' hs => ?_) _ _ rfl)
  · subst hs
    by_cases c : m'.seen.has x = true
    · rw [if_pos c]; exact wpAny_bind (wpAny_rule (wpAny_pure rfl))
    · rw [if_neg c]; exact wpAny_pure rfl
  · subst hs
    cases r with
    | none => rw [show m'.outcome = _ from ho]; exact wpAny_pure hQ
    | some p => obtain ⟨a, e⟩ := p; rw [ho.1]; exact wpAny_pure (hQ m' ho.2.1 ho.2.2)

/-- a compiled pattern at p -/
structure PatIs (h₀ : Heap) (p : Addr) (code : Array Nat) (want : Nat) : Prop where
  ex : ∃ o vs c oc items n, h₀.get? p = some o ∧ o.cls = .type "re.Pattern" ∧ o.dict = none ∧ o.data = .fields vs ∧ reRawNat (vs.getD 2 .none) = 0 ∧ vs.getD 5 .none = .ref c ∧ reRawNat (vs.getD 6 .none) = want ∧
    h₀.get? c = some oc ∧ oc.data = .seq items n ∧ (items.map reRawOf).map (·.toNat) = code
theorem PatIs.typeIs {p : Addr} {code : Array Nat} {want : Nat} (P : PatIs h₀ p code want) (D : Sd h₀ L V O s.heap) : s.TypeIs (.ref p) "re.Pattern" := by
  obtain ⟨o, vs, c, oc, items, n, h1, h2, _⟩ := P.ex
  exact ⟨o, D.keep _ _ h1, h2⟩
theorem wp_rawItems {a : Addr} {o : Obj} {items : Array Value} {n : Nat} {Q : Array Int → Shared → Prop} (ho : s.heap.get? a = some o) (hd : o.data = .seq items n) (hQ : Q (items.map reRawOf) s) : wpAny (model prog w) A (reRawItems (.ref a)) Q E s := by
  unfold reRawItems
  exact wpAny_bind (wpAny_seqItems ho hd (wpAny_pure hQ))
theorem named1 (x : Value) : reNamed "re.Pattern.search" "search" ["string", "pos", "endpos"] 1 [x] [] = pure [some x, none, none] := rfl
theorem named2 (x y : Value) : reNamed "re.Pattern.sub" "sub" ["repl", "string", "count"] 2 [x, y] [] = pure [some x, some y, none] := rfl
noncomputable abbrev matchO (x : Value) (p n : Int) (li : Int) (pt : Addr) (T : Addr) : Obj := { cls := .type "re.Match", data := .fields #[x, .ref pt, rawInt p, rawInt n, rawInt li, .ref T] }
theorem wp_target {p : Addr} {code : Array Nat} {x : Str} {t : Tok} {Q : ReTarget → Shared → Prop} (D : Sd h₀ L V O s.heap) (P : PatIs h₀ p code 0) (hsz : x.cps.size < 2 ^ 63 - 1)
    (hQ : Q { pattern := .ref p, string := .str x t, code, text := x.cps, kind := 0, groups := 0, pos := 0, lim := x.cps.size } s) : wpAny (model prog w) A (reTarget "re.Pattern.search" "search" ⟨[.ref p, .str x t], []⟩) Q E s := by
  obtain ⟨o, vs, c, oc, items, n, h1, h2, h3, h4, h5, h6, h7, h8, h9, h10⟩ := P.ex
  unfold reTarget
  refine wpAny_bind (wpAny_of_eq (named1 _) ?_)
  refine wpAny_bind (wpAny_pure (wpAny_bind (wpAny_pure ?_)))
  refine wpAny_bind (wpAny_fieldsOf (D.keep _ _ h1) h4 ?_)
  refine wpAny_bind (wpAny_pure ?_)
  dsimp only
  rw [h7, if_neg (by decide), if_neg (by decide)]
  refine wpAny_bind ?_
  show wpAny _ _ (pure ()) _ _ _
  refine wpAny_pure ?_
  rw [h6]
  refine wpAny_bind (wp_rawItems (D.keep _ _ h8) h9 (wpAny_pure ?_))
  rw [h10, h5]
  have e1 : min (2 ^ 63 - 1 : Int).toNat x.cps.size = x.cps.size := by
    have : (2 ^ 63 - 1 : Int).toNat = 2 ^ 63 - 1 := by decide
    rw [this]; omega
  rw [e1, show min (Int.toNat 0) x.cps.size = 0 by rw [show Int.toNat 0 = 0 from rfl]; omega]
  exact hQ
theorem k_search {p : Addr} {x : Str} {t : Tok} {Q : Value → Shared → Prop} (D : Sd h₀ L V O h) (P : PatIs h₀ p cV 0) (hsz : x.cps.size ≤ 1000000)
    (hnone : nextGo (gV x.cps x.cps.size) (x.cps.size + 1) 0 = none → ∀ h' tk', Sd h₀ L V O h' → Q .none (St b h' tk'))
    (hsome : ∀ a e, nextGo (gV x.cps x.cps.size) (x.cps.size + 1) 0 = some (a, e) → ∀ m T p li n h' tk', Sd h₀ L V ((m, matchO (.str x t) 0 n li p T) :: (T, tupO [.int a 0, .int e 0]) :: O) h' → Q (.ref m) (St b h' tk')) :
    wpAny (model prog w) A (call (.builtin "re.Pattern.search") [.ref p, .str x t]) Q E (St b h tk) := by
  refine wpAny_call_entry slot_search (P.typeIs (s := St b h tk) D) entry_search ?_ (args_search _ _)
  unfold Builtin.«re.Pattern.search»
  refine wpAny_bind (wp_target D P (by omega) ?_)
  unfold reAnswer
  dsimp only
  refine wpAny_bind (wp_reRun (searchV x.cps x.cps.size hsz) ?_ ?_)
  · have h1 : (10 + 2 * x.cps.size) * (x.cps.size + 1) ≤ (10 + 2 * 1000000) * (1000000 + 1) := Nat.mul_le_mul (by omega) (by omega)
    omega
  · cases hr : nextGo (gV x.cps x.cps.size) (x.cps.size + 1) 0 with
    | none => exact wpAny_pure ⟨.none, rfl, hnone hr _ _ D⟩
    | some q =>
      obtain ⟨a, e⟩ := q
      intro m' e1 e2
      dsimp only
      unfold reNewMatch
      refine wpAny_bind ?_
      show wpAny _ _ (do
        let T ← newTuple [rawInt m'.start, rawInt m'.handed]
        newFields "re.Match" [Value.str x t, Value.ref p, rawInt 0, rawInt x.cps.size, rawInt m'.lastindex, T]) _ _ _
      refine wpAny_bind (wpAny_newTuple ?_ (by rw [sizeLine_eq]; simp))
      refine wpAny_newObj_type (wpAny_pure ⟨_, rfl, ?_⟩)
      have D1 := (D.push { cls := .type "tuple", data := .seq [rawInt m'.start, rawInt m'.handed].toArray })
      have D2 := D1.push { cls := .type "re.Match", data := .fields [Value.str x t, Value.ref p, rawInt 0, rawInt x.cps.size, rawInt m'.lastindex, .ref h.objs.size].toArray }
      rw [e1, e2] at D2
      rw [e1, e2]
      exact hsome a e hr _ _ _ _ _ _ _ D2
theorem k_span {m T pt : Addr} {x : Value} {n li : Int} {a e : Nat} {t : Tok} {Q : Value → Shared → Prop} (D : Sd h₀ L V O h) (hm : (m, matchO x 0 n li pt T) ∈ O) (hT : (T, tupO [.int a 0, .int e 0]) ∈ O)
    (hQ : ∀ r t1 t2 h' tk', Sd h₀ L V ((r, tupO [.int a t1, .int e t2]) :: O) h' → Q (.ref r) (St b h' tk')) : wpAny (model prog w) A (call (.builtin "re.Match.span") [.ref m, .int 0 t]) Q E (St b h tk) := by
  refine wpAny_call_entry slot_span (⟨_, D.get hm, rfl⟩ : (St b h tk).TypeIs (.ref m) "re.Match") entry_span ?_ (args_span _ _)
  unfold Builtin.«re.Match.span» reOneGroup
  have e1 : selfAndSome "Match.span" "span" 0 1 ⟨[Value.ref m, Value.int 0 t], []⟩ = pure (Value.ref m, [Value.int 0 t]) := rfl
  refine wpAny_bind (wpAny_bind (wpAny_of_eq e1 ?_))
  dsimp only
  have hF : wpAny (model prog w) A.in1 (reFound (.ref m)) (fun x s' => x.spans = #[(a : Int), (e : Int)] ∧ s' = St b h tk) E (St b h tk) := by
    unfold reFound
    refine wpAny_bind (wpAny_fieldsOf (D.get hm) rfl (wpAny_bind (wp_rawItems (D.get hT) rfl (wpAny_pure ⟨?_, rfl⟩))))
    simp [reRawOf]
  refine wpAny_bind (wpAny_mono hF (fun x s' hx => ?_) fun _ _ e => e)
  obtain ⟨hsp, rfl⟩ := hx
  have hG : wpAny (model prog w) A.in1 (reGroupNumber x (.int 0 t)) (fun r s' => r = 0 ∧ s' = St b h tk) E (St b h tk) := by
    unfold reGroupNumber
    refine wpAny_bind (wpAny_pure ?_)
    dsimp only
    rw [if_pos (show (some (0 : Int)).isSome = true from rfl)]
    refine wpAny_bind ?_
    unfold asIndex
    refine wpAny_bind (wpAny_pure (wpAny_pure ?_))
    rw [hsp]
    exact wpAny_pure ⟨rfl, rfl⟩
  refine wpAny_bind (wpAny_mono hG (fun r s' hr => ?_) fun _ _ e => e)
  obtain ⟨rfl, rfl⟩ := hr
  refine wpAny_pure ?_
  dsimp only
  rw [hsp]
  refine wpAny_bind (wpAny_mkInt ?_)
  refine wpAny_bind (wpAny_mkInt ?_)
  refine wpAny_bind (wpAny_newTuple (wpAny_pure ⟨_, rfl, ?_⟩) (by rw [sizeLine_eq]; simp))
  exact hQ _ _ _ _ _ (D.push { cls := .type "tuple", data := .seq #[Value.int a tk, Value.int e (tk + 1)] })
theorem slot_md_get : Slot "member_descriptor" "__get__" "member_descriptor.__get__" :=
  .of (owner := "member_descriptor") (n := "__get__") (by rw [typeLookup_type, builtinLookup_eq_fast]; kernel_rfl) (by decide +kernel) (by decide +kernel) (by decide +kernel)
    (by first | exact .inl (by decide +kernel) | exact .inr (by decide +kernel)) (by rw [isSubtype_type]; kernel_rfl)
theorem slot_md_set : Slot "member_descriptor" "__set__" "member_descriptor.__set__" :=
  .of (owner := "member_descriptor") (n := "__set__") (by rw [typeLookup_type, builtinLookup_eq_fast]; kernel_rfl) (by decide +kernel) (by decide +kernel) (by decide +kernel)
    (by first | exact .inl (by decide +kernel) | exact .inr (by decide +kernel)) (by rw [isSubtype_type]; kernel_rfl)
theorem slot_rM_ga : Slot "re.Match" "__getattribute__" "object.__getattribute__" :=
  .of (owner := "object") (n := "__getattribute__") (by rw [typeLookup_type, builtinLookup_eq_fast]; kernel_rfl) (by decide +kernel) (by decide +kernel) (by decide +kernel)
    (by first | exact .inl (by decide +kernel) | exact .inr (by decide +kernel)) (by rw [isSubtype_type]; kernel_rfl)
theorem entry_md_get : entryFor table "member_descriptor.__get__" = some Builtin.«member_descriptor.__get__» := entryFor_of_tree (by kernel_rfl)
theorem entry_oga : entryFor table "object.__getattribute__" = some Builtin.«object.__getattribute__» := entryFor_of_tree (by kernel_rfl)
theorem args_md_get (a b c : Value) : argsOk "member_descriptor.__get__" ⟨[a, b, c], []⟩ := by unfold argsOk; kernel_rfl
theorem args_oga (a b : Value) : argsOk "object.__getattribute__" ⟨[a, b], []⟩ := by unfold argsOk; kernel_rfl
theorem owner_string : (".".intercalate ("re.Match.string".cutAt '.').dropLast) = "re.Match" := by
  have e0 : "re.Match.string".cutAt '.' = ["re", "Match", "string"] := by first | rfl | decide +kernel
  rw [e0]; decide +kernel
section
variable {h : Heap} {g : Array GenState} {d : Drawn} {t : Nat} {os : OsState} {a : Addr} {o : Obj} {vs : Array Value} {a0 : Value}
theorem ms_get {R : Result → Shared → Prop} (hx : h.get? a = some o) (hc : o.cls = .type "re.Match") (hd : o.data = .fields vs) (h0 : vs[0]? = some a0) (hq : R (.ok (.ret a0)) ⟨h, g, d, t, os⟩) :
    codeAny (model prog w) A (.call (.builtin "member_descriptor.__get__") ⟨[.builtin "re.Match.string", .ref a, .type "re.Match"], []⟩) R ⟨h, g, d, t, os⟩ := by
  have hT : (⟨h, g, d, t, os⟩ : Shared).TypeIs (.ref a) "re.Match" := ⟨_, hx, hc⟩
  have hT5 : (⟨h, g, d, t, os⟩ : Shared).TypeIs (.builtin "re.Match.string") "member_descriptor" := type_string
  have f8 : isSubtype (.type "re.Match") (.type (".".intercalate ("re.Match.string".cutAt '.').dropLast)) = pure true := by rw [owner_string, isSubtype_type]; kernel_rfl
  refine codeAny_call_builtin slot_md_get.plain entry_md_get (slot_md_get.check _ _ _ _ _ _ _ _ hT5 (args_md_get _ _ _) ?_)
  repeat (any_goals (first | assumption | wp_step))
  refine ⟨Code.quiet_builtin _ (by decide +kernel), codeAny_builtin entry_string ?_⟩
  unfold Builtin.«re.Match.string»
  exact wpAny_bind (wpAny_field hx hd h0 (wpAny_pure hq))
theorem ms_entry {tk : Tok} {Q : Fin → Shared → Prop} (hx : h.get? a = some o) (hc : o.cls = .type "re.Match") (hd : o.data = .fields vs) (h0 : vs[0]? = some a0) (hq : Q (.done (.ret a0)) ⟨h, g, d, t, os⟩) :
    wpAny (model prog w) A (Builtin.«object.__getattribute__» ⟨[.ref a, .str "string" tk], []⟩) Q E ⟨h, g, d, t, os⟩ := by
  have hT : (⟨h, g, d, t, os⟩ : Shared).TypeIs (.ref a) "re.Match" := ⟨_, hx, hc⟩
  have hT5 : (⟨h, g, d, t, os⟩ : Shared).TypeIs (.builtin "re.Match.string") "member_descriptor" := type_string
  have f4 := lookup_string
  have f5 := type_string
  have f6 := slot_md_get.lookup
  have f7 := slot_md_set.lookup
  repeat (any_goals (first | assumption | wp_step))
  refine ms_get hx hc hd h0 ?_
  repeat (any_goals (first | assumption | wp_step))
theorem ms_call {tk : Tok} {R : Result → Shared → Prop} (hx : h.get? a = some o) (hc : o.cls = .type "re.Match") (hd : o.data = .fields vs) (h0 : vs[0]? = some a0) (hq : R (.ok (.ret a0)) ⟨h, g, d, t, os⟩) :
    codeAny (model prog w) A (.call (.builtin "object.__getattribute__") ⟨[.ref a, .str "string" tk], []⟩) R ⟨h, g, d, t, os⟩ :=
  codeAny_call_builtin slot_rM_ga.plain entry_oga (slot_rM_ga.check _ _ _ _ _ _ _ _ (show (⟨h, g, d, t, os⟩ : Shared).TypeIs (.ref a) "re.Match" from ⟨_, hx, hc⟩) (args_oga _ _) (ms_entry hx hc hd h0 hq))
theorem ms_by {tk : Tok} {fill expr : Bool} {y : Str} {ty : Tok} {Q : Value → Shared → Prop} (hx : h.get? a = some o) (hc : o.cls = .type "re.Match") (hd : o.data = .fields vs) (h0 : vs[0]? = some (.str y ty))
    (hq : Q (.str y ty) ⟨h, g, d, t, os⟩) : wpAny (model prog w) A (getAttrBy (.ref a) (.str "string" tk) fill expr) Q E ⟨h, g, d, t, os⟩ := by
  have hT : (⟨h, g, d, t, os⟩ : Shared).TypeIs (.ref a) "re.Match" := ⟨_, hx, hc⟩
  have f2 := slot_rM_ga.lookup
  have f3 := slot_rM_ga.bind (.ref a)
  have hx0 : (expr && onTheHeap (Value.builtin "object.__getattribute__")) = false := by cases expr <;> rfl
  repeat (any_goals (first | assumption | wp_step))
  refine ms_call hx hc hd h0 ?_
  repeat (any_goals (first | assumption | wp_step))
end
theorem k_string {m T pt : Addr} {y : Str} {ty : Tok} {n li : Int} {Q : Value → Shared → Prop} (D : Sd h₀ L V O h) (hm : (m, matchO (.str y ty) 0 n li pt T) ∈ O)
    (hQ : ∀ tk', Q (.str y ty) (St b h tk')) : wpAny (model prog w) A (getAttr (.ref m) "string" true) Q E (St b h tk) := by
  have hx := D.get hm
  have hq := hQ (tk + 1)
  obtain ⟨bh, g, d, bt, os⟩ := b
  show wpAny _ _ (getAttr (.ref m) "string" true) Q E ⟨h, g, d, tk, os⟩
  unfold getAttr
  repeat (any_goals (first | assumption | with_reducible apply ms_by hx rfl rfl rfl | wp_step))
end
end Mine
end
/-! text R6 -/
section
open PySem PySem.W PyProof.Rows PySem.Calls
set_option Elab.async false
set_option linter.unusedVariables false
set_option maxRecDepth 100000
namespace Mine
open PySem.Builtin PySem.Builtin.Re
section
variable {prog : Program} {w : World} {A : Around} {E : Value → Shared → Prop} {s b : Shared} {h : Heap} {tk : Nat} {env : Env} {h₀ : Heap} {L : Addr} {V V' : Vs} {O O' : Os}
noncomputable def bV (l : List (Array UInt8 × Tok)) : List Value := l.map fun p => .bytes p.1 p.2
theorem buf_eq {x : Array UInt8} {t : Tok} {id : String} {full : Bool} : Bytes.buffer? id (.bytes x t) full = pure (some x) := by
  unfold Bytes.buffer?
  rw [KBy.special_eq KBy.look_buffer, KBy.own_buffer, KBy.own_release]
  kernel_rfl
theorem take_eq {x : Array UInt8} {t : Tok} {id : String} {fl : Int} : Bytes.takeBuffer? id (.bytes x t) fl = pure (some (x, none)) := by
  unfold Bytes.takeBuffer?
  rw [KBy.special_eq KBy.look_buffer, KBy.own_buffer, buf_eq]
  rfl
theorem takeQ_eq {x : Array UInt8} {t : Tok} {id : String} {fl : Int} : Bytes.takeBufferQuiet? id (.bytes x t) fl = pure (some (x, none)) := by
  unfold Bytes.takeBufferQuiet?
  rw [take_eq]
  rfl
theorem jm_other {items : Array Value} {F : Value → Sem PySem.Fin} {G : Array Value → Sem PySem.Fin} (h : items.size ≠ 1) : Bytes.joinM.match_1 (fun _ => Sem PySem.Fin) items F G = G items := by
  unfold Bytes.joinM.match_1
  rw [dif_neg h]
theorem jm_one {x : Value} {F : Value → Sem PySem.Fin} {G : Array Value → Sem PySem.Fin} : Bytes.joinM.match_1 (fun _ => Sem PySem.Fin) #[x] F G = F x := rfl
theorem joinItems_list {l : Addr} {items : Array Value} {Q : Value → Shared → Prop} (hl : s.heap.IsList l items) (hQ : Q (.ref l) s) : wpAny (model prog w) A (Bytes.joinItems (.ref l)) Q E s := by
  unfold Bytes.joinItems
  refine wpAny_bind (wpAny_typeOf hl.typeIs ?_)
  exact wpAny_pure hQ
theorem letGo_taken {taken : List (Value × Option Value)} {keep : List Value} {Q : Unit → Shared → Prop} (hn : ∀ p ∈ taken, p.2 = none) (hQ : Q () s) : wpAny (model prog w) A (Bytes.joinLetGo taken keep) Q E s := by
  induction taken with
  | nil => exact wpAny_pure hQ
  | cons p r ih =>
    obtain ⟨x, o⟩ := p
    have : o = none := hn _ (.head _)
    subst this
    unfold Bytes.joinLetGo
    refine wpAny_bind (wpAny_letGo (ih fun p hp => hn p (.tail _ hp)))
theorem k_bjoin {l : Addr} {bs : List (Array UInt8 × Tok)} {n : Nat} {t : Tok} {Q : Value → Shared → Prop} (D : Sd h₀ L V O h) (hm : (l, lstO (bV bs) n) ∈ O) (hsz : ((bs.map (·.1.toList)).flatten).length ≤ 16777216)
    (hQ : ∀ t tk', Q (.bytes ((bs.map (·.1.toList)).flatten).toArray t) (St b h tk')) : wpAny (model prog w) A (call (.builtin "bytes.join") [.bytes #[] t, .ref l]) Q E (St b h tk) := by
  have hl : (St b h tk).heap.IsList l (bV bs).toArray := ⟨_, D.get hm, rfl, _, rfl⟩
  refine wpAny_call_entry slot_bjoin (typeIs_bytes (St b h tk) #[] t) entry_bjoin ?_ (args_bjoin _ _)
  unfold Builtin.«bytes.join» Bytes.joinM
  refine wpAny_bind (wpAny_of_eq (a := (Value.bytes #[] t, Value.ref l)) rfl ?_)
  dsimp only
  rw [if_pos (show (Bytes.Kind.bytes == Bytes.Kind.bytes) = true from rfl)]
  refine wpAny_bind (joinItems_list hl ?_)
  refine wpAny_bind (wpAny_seqItems (D.get hm) rfl ?_)
  dsimp only
  rw [if_pos (show (Bytes.Kind.bytes == Bytes.Kind.bytes) = true from rfl)]
  generalize hit : (bV bs).toArray = items
  have hisz : items.size = bs.length := by rw [← hit]; simp [bV]
  have hgetD : ∀ i (p : Array UInt8 × Tok), bs[i]? = some p → items.getD i Value.none = .bytes p.1 p.2 := by
    intro i p hp
    rw [← hit]
    have : (bV bs)[i]? = some (.bytes p.1 p.2) := by rw [bV, List.getElem?_map, hp]; rfl
    rw [Array.getD_eq_getD_getElem?, List.getElem?_toArray, this]; rfl
  by_cases h1 : bs.length = 1
  · obtain ⟨p, rfl⟩ := List.length_eq_one_iff.mp h1
    have hit' : items = #[.bytes p.1 p.2] := hit.symm
    subst hit'
    rw [jm_one]
    refine wpAny_bind (wpAny_typeOf (typeIs_bytes (St b h tk) p.1 p.2) ?_)
    refine wpAny_ite (iteT (by rfl) ?_)
    refine wpAny_bind (wpAny_rule (wpAny_pure ⟨_, rfl, ?_⟩))
    have := hQ p.2 tk
    simpa using this
  · rw [jm_other (by rw [hisz]; exact h1)]
    refine wpAny_bind ?_
    rw [Std.Legacy.Range.forIn_eq_forIn_range']
    refine wpAny_forIn_list _ (fun rest st s' => s' = St b h tk ∧ ∃ k, k ≤ bs.length ∧ rest = List.range' k (bs.length - k) ∧ st = (((bs.take k).map (·.1)).toArray, (bs.take k).map fun p => ((Value.bytes p.1 p.2 : Value), (none : Option Value)))) _ (fun i rest st s' hs => ?_) (fun st s' hs => ?_) _ _ ⟨rfl, 0, Nat.zero_le _, ?_, ?_⟩
    · obtain ⟨rfl, k, hk, hr, rfl⟩ := hs
      have hkl : k < bs.length := by
        apply Nat.lt_of_not_le; intro hc
        rw [show bs.length - k = 0 by omega] at hr; cases hr
      obtain ⟨d, hd⟩ : ∃ d, bs.length - k = d + 1 := ⟨bs.length - k - 1, by omega⟩
      rw [hd, List.range'_succ] at hr
      injection hr with hr1 hr2
      subst hr1; subst hr2
      obtain ⟨p, hp⟩ : ∃ p, bs[i]? = some p := ⟨_, List.getElem?_eq_getElem hkl⟩
      refine wpAny_bind (wpAny_seqItems (D.get hm) rfl ?_)
      dsimp only
      rw [hit]
      have hany : ((List.map (fun p => ((Value.bytes p.1 p.2 : Value), (none : Option Value))) (List.take i bs)).any fun x => x.1.onHeap) = false := by
        rw [List.any_eq_false]
        intro x hx
        obtain ⟨q, _, rfl⟩ := List.mem_map.mp hx
        simp [Value.onHeap]
      refine wpAny_ite (iteF (by rw [hany]; rfl) ?_)
      rw [hgetD i p hp, takeQ_eq]
      refine wpAny_bind (wpAny_holding (wpAny_pure ?_))
      dsimp only
      refine wpAny_bind (wpAny_seqItems (D.get hm) rfl ?_)
      dsimp only
      refine wpAny_ite (iteF (by show (((bV bs).toArray).size != items.size) = false; rw [hit]; simp) ?_)
      refine wpAny_pure ⟨rfl, i + 1, by omega, by rw [show bs.length - (i + 1) = d by omega], ?_⟩
      rw [List.take_add_one, hp]
      simp
    · obtain ⟨rfl, k, hk, hr, rfl⟩ := hs
      have hkl : k = bs.length := by
        have := congrArg List.length hr
        rw [List.length_range', List.length_nil] at this
        omega
      subst hkl
      rw [List.take_length]
      dsimp only
      refine wpAny_bind (wpAny_of_eq (a := (#[] : Array UInt8)) rfl ?_)
      have hfold : ∀ (l : List (Array UInt8 × Tok)) (a : Nat), (l.map (·.1)).foldl (fun x y => x + y.size) a = a + ((l.map (·.1.toList)).flatten).length := by
        intro l
        induction l with
        | nil => intro a; simp
        | cons p r ih => intro a; rw [List.map_cons, List.foldl_cons, ih]; simp; omega
      refine wpAny_ite (iteF ?_ ?_)
      · have : Array.foldl (fun x1 x2 => x1 + x2.size) ((#[] : Array UInt8).size * (((bs.map (·.1)).toArray).size - 1)) (bs.map (·.1)).toArray = ((bs.map (·.1.toList)).flatten).length := by
          rw [List.foldl_toArray, hfold]; simp
        rw [this]
        exact KBy.tooLong_not hsz
      have hjoin : Bytes.joined #[] (bs.map (·.1)).toArray.toList = ((bs.map (·.1.toList)).flatten).toArray := by
        unfold Bytes.joined
        have : ∀ (l : List (Array UInt8 × Tok)) (k : Nat) (out : Array UInt8), ((l.map (·.1)).zipIdx k).foldl (fun out (x : Array UInt8 × Nat) => (if x.2 > 0 then out ++ #[] else out) ++ x.1) out = out ++ ((l.map (·.1.toList)).flatten).toArray := by
          intro l
          induction l with
          | nil => intro k out; simp
          | cons p r ih =>
            intro k out
            rw [List.map_cons, List.zipIdx_cons, List.foldl_cons, ih]
            apply Array.ext'
            simp
        rw [List.toList_toArray]
        have h2 := this bs 0 #[]
        simpa using h2
      rw [hjoin]
      refine wpAny_bind (wpAny_mkBytes ?_ (by rw [sizeLine_eq, List.size_toArray]; exact hsz))
      refine wpAny_bind (wpAny_holding (wpAny_point ?_))
      refine wpAny_bind (letGo_taken (fun p hp => ?_) (wpAny_pure ⟨_, rfl, hQ _ _⟩))
      obtain ⟨q, _, rfl⟩ := List.mem_map.mp hp
      rfl
    · show List.range' 0 ((items.size - 0 + 1 - 1) / 1) 1 = _
      rw [hisz]; simp
    · rfl
end
end Mine
end
/-! text R7 -/
section
open PySem PySem.W PyProof.Rows PySem.Calls
set_option Elab.async false
set_option linter.unusedVariables false
set_option maxRecDepth 100000
namespace Mine
open PySem.Builtin PySem.Builtin.Re
section
variable {prog : Program} {w : World} {A : Around} {E : Value → Shared → Prop} {s b : Shared} {h : Heap} {tk : Nat} {env : Env} {h₀ : Heap} {L : Addr} {V V' : Vs} {O O' : Os}
noncomputable def flatS (l : List (Str × Tok)) : List Nat := (l.map (·.1.cps.toList)).flatten
theorem glued_empty (l : List (Str × Tok)) : Str.glued ⟨#[]⟩ (l.map (·.1)) = ⟨(flatS l).toArray⟩ := by
  have : ∀ (r : List (Str × Tok)) (acc : Array Nat), (r.map (·.1)).foldl (fun acc p => acc ++ (⟨#[]⟩ : Str).cps ++ p.cps) acc = acc ++ (flatS r).toArray := by
    intro r
    induction r with
    | nil => intro acc; simp [flatS]
    | cons p r ih => intro acc; rw [List.map_cons, List.foldl_cons, ih]; apply Array.ext'; simp [flatS]
  unfold Str.glued
  cases l with
  | nil => rfl
  | cons p r =>
    rw [List.map_cons, List.drop_one, List.tail_cons, this, List.headD_cons]
    congr 1
    apply Array.ext'
    simp [flatS]
theorem k_sjoin {l : Addr} {ps : List (Str × Tok)} {n : Nat} {t : Tok} {Q : Value → Shared → Prop} (D : Sd h₀ L V O h) (hm : (l, lstO (strValues ps) n) ∈ O) (hsz : (flatS ps).length ≤ 16777216)
    (hQ : ∀ t tk', Q (.str ⟨(flatS ps).toArray⟩ t) (St b h tk')) : wpAny (model prog w) A (call (.builtin "str.join") [.str ⟨#[]⟩ t, .ref l]) Q E (St b h tk) := by
  have hl : (St b h tk).heap.IsList l (strValues ps).toArray := ⟨_, D.get hm, rfl, _, rfl⟩
  have hlong : Str.tooLong ((ps.map (·.1)).toArray.foldl (· + ·.length + (⟨#[]⟩ : Str).length) 0) = false := by
    have : ∀ (r : List (Str × Tok)) (a : Nat), (r.map (·.1)).foldl (fun x y => x + y.length + (⟨#[]⟩ : Str).length) a = a + (flatS r).length := by
      intro r
      induction r with
      | nil => intro a; simp [flatS]
      | cons p r ih =>
        intro a
        rw [List.map_cons, List.foldl_cons, ih]
        have : (⟨#[]⟩ : Str).length = 0 := rfl
        have h2 : p.1.length = p.1.cps.size := rfl
        simp [flatS, this, h2]; omega
    rw [List.foldl_toArray, this]
    unfold Str.tooLong
    rw [sizeLine_eq]
    exact decide_eq_false (by omega)
  refine call_meets F.slot_str_join (typeIs_str _ _ _) F.entry_str_join (F.args_str_join_2 _ _) (meets_str_join_list ⟨#[]⟩ t l ps hlong) ⟨hl, ?_⟩
  match ps, hsz, hQ with
  | [], hsz, hQ => exact ⟨by rw [sizeLine_eq]; exact Nat.zero_le _, hQ _ _⟩
  | [p], hsz, hQ => have := hQ p.2 tk; simp [flatS] at this; exact this
  | p :: q :: r, hsz, hQ =>
    show (Str.glued ⟨#[]⟩ ((p :: q :: r).map (·.1))).length ≤ sizeLine ∧ wants _ _ (.ok (.ret (.str (Str.glued ⟨#[]⟩ ((p :: q :: r).map (·.1))) _))) _
    rw [glued_empty]
    refine ⟨?_, hQ _ _⟩
    rw [sizeLine_eq]
    show (flatS (p :: q :: r)).toArray.size ≤ _
    rw [List.size_toArray]; exact hsz
theorem wp_whole {p : Addr} {code : Array Nat} {x : Str} {t : Tok} {Q : ReTarget → Shared → Prop} (D : Sd h₀ L V O s.heap) (P : PatIs h₀ p code 0)
    (hQ : Q { pattern := .ref p, string := .str x t, code, text := x.cps, kind := 0, groups := 0, pos := 0, lim := x.cps.size } s) : wpAny (model prog w) A (reWholeTarget (.ref p) (.str x t)) Q E s := by
  obtain ⟨o, vs, c, oc, items, n, h1, h2, h3, h4, h5, h6, h7, h8, h9, h10⟩ := P.ex
  unfold reWholeTarget
  refine wpAny_bind (wpAny_fieldsOf (D.keep _ _ h1) h4 ?_)
  refine wpAny_bind (wpAny_pure ?_)
  dsimp only
  rw [h7, if_neg (by decide), if_neg (by decide)]
  refine wpAny_bind ?_
  show wpAny _ _ (pure ()) _ _ _
  refine wpAny_pure ?_
  rw [h6]
  refine wpAny_bind (wp_rawItems (D.keep _ _ h8) h9 (wpAny_pure ?_))
  rw [h10, h5]
  exact hQ
theorem k_push {l : Addr} {vs : List Value} {n : Nat} {v : Value} {Q : Unit → Shared → Prop} (D : Sd h₀ L V O h) (u : Upd1 l (lstO vs n) (lstO (vs ++ [v]) (n + 1)) O O') (hsz : vs.length ≤ sizeLine)
    (hQ : ∀ h', Sd h₀ L V O' h' → Q () (St b h' tk)) : wpAny (model prog w) A (updateSeq l fun x => x.push v) Q E (St b h tk) := by
  have ho : (St b h tk).heap.get? l = some (lstO vs n) := D.get u.mem
  refine wpAny_updateSeq ho rfl (hQ _ ?_) (by simpa using hsz) (by simp; exact hsz)
  refine D.upd u (Heap.SameBut.update ..).extBut ?_
  have := Heap.get?_update_self (Obj.mapSeq fun a => a.push v) ho (by rw [mapSeq_push]; rfl)
  rw [mapSeq_push] at this
  exact this
noncomputable def restI (rp : List Nat) (t : Array Nat) (done : Nat) (must : Bool) : List Nat :=
  if must = true then t.getD done 0 :: indentL rp (bolAt t (done + 1)) (t.toList.drop (done + 1)) else indentL rp (bolAt t done) (t.toList.drop done)
theorem sub_loopI {p pl : Addr} {x rp : Str} {t tr : Tok} {R : Result → Shared → Prop} (P : PatIs h₀ p cI 0) (hsz : x.cps.size ≤ 1000000) :
    ∀ (N done : Nat) (must : Bool) (n : Nat) (l : List (Str × Tok)) (k : Nat) (h : Heap) (tk : Nat), x.cps.size - done + (if must = true then 0 else 1) ≤ N → (must = true → done < x.cps.size) → done ≤ x.cps.size →
      l.length + 2 * N ≤ 2 * x.cps.size + 2 →
      Sd h₀ L V ((pl, lstO (strValues l) k) :: O) h → (flatS l ++ restI rp.cps.toList x.cps done must).length ≤ 16777216 →
      (∀ t' h' tk', Sd h₀ L V O h' → R (.ok (.ret (.str ⟨(flatS l ++ restI rp.cps.toList x.cps done must).toArray⟩ t'))) (St b h' tk')) →
      codeAny (model prog w) A (.builtin "re.Pattern.sub.loop" ⟨[.ref p, .str x t, .str rp tr, rawInt 0, rawInt 0, rawInt n, rawInt done, rawInt done, .bool must, .ref pl, .bool false], []⟩) R (St b h tk) := by
  intro N
  induction N with
  | zero =>
    intro done must n l k h tk hN hmust hdone
    cases must with
    | true => have := hmust rfl; simp at hN; omega
    | false => simp at hN
  | succ N ih =>
    intro done must n l k h tk hN hmust hdone hl D hlen hR
    refine codeAny_builtin entry_subloop ?_
    unfold Builtin.«re.Pattern.sub.loop»
    dsimp only [rawInt]
    refine wpAny_bind (wp_whole D P ?_)
    refine wpAny_ite (iteT rfl ?_)
    refine wpAny_bind (wpAny_of_eq (a := ()) rfl ?_)
    refine wpAny_bind (wpAny_ite (iteF rfl ?_))
    have hns : (if must = true then nextGo (gI x.cps x.cps.size) (x.cps.size - done) (done + 1) else nextGo (gI x.cps x.cps.size) (x.cps.size + 1 - done) done) = fromI x.cps x.cps.size done must := rfl
    have hE := searchI x.cps x.cps.size done must hdone
    refine wp_reRun (r := fromI x.cps x.cps.size done must) hE (by omega) ?_
    have hrest : match fromI x.cps x.cps.size done must with
      | none => restI rp.cps.toList x.cps done must = x.cps.toList.drop done
      | some (a, e) => e = a ∧ done ≤ a ∧ (must = true → done < a) ∧ a < x.cps.size ∧ restI rp.cps.toList x.cps done must = (x.cps.extract done a).toList ++ (rp.cps.toList ++ restI rp.cps.toList x.cps a true) := by
      cases must with
      | false =>
        have h1 := scanI x.cps rp.cps.toList (x.cps.size + 1 - done) done hdone rfl
        unfold fromI
        rw [if_neg (by simp)]
        cases hr : nextGo (gI x.cps x.cps.size) (x.cps.size + 1 - done) done with
        | none => rw [hr] at h1; exact h1
        | some q =>
          obtain ⟨a, e⟩ := q
          rw [hr] at h1
          exact ⟨h1.1, h1.2.1, (fun hf => by cases hf), h1.2.2.1, h1.2.2.2⟩
      | true =>
        have hd := hmust rfl
        have h1 := scanI x.cps rp.cps.toList (x.cps.size - done) (done + 1) hd (by omega)
        unfold fromI
        rw [if_pos rfl]
        cases hr : nextGo (gI x.cps x.cps.size) (x.cps.size - done) (done + 1) with
        | none =>
          rw [hr] at h1
          show x.cps.getD done 0 :: indentL rp.cps.toList (bolAt x.cps (done + 1)) (x.cps.toList.drop (done + 1)) = _
          rw [h1, ← drop_cons x.cps hd]
        | some q =>
          obtain ⟨a, e⟩ := q
          rw [hr] at h1
          refine ⟨h1.1, by omega, fun _ => by omega, h1.2.2.1, ?_⟩
          show x.cps.getD done 0 :: indentL rp.cps.toList (bolAt x.cps (done + 1)) (x.cps.toList.drop (done + 1)) = _
          rw [h1.2.2.2, ext_cons x.cps (show done < a by omega) (by omega)]
          rfl
    cases hr : fromI x.cps x.cps.size done must with
    | none =>
      rw [hr] at hrest
      rw [hrest] at hR hlen
      dsimp only
      have hlast : (x.cps.extract done x.cps.size).toList = x.cps.toList.drop done := by
        rw [Array.toList_extract, List.extract_eq_take_drop, List.take_of_length_le (by simp)]
      have fin : ∀ (l' : List (Str × Tok)) (k : Nat) (h : Heap) (tk : Nat), l'.length ≤ l.length + 1 → flatS l' = flatS l ++ x.cps.toList.drop done → Sd h₀ L V ((pl, lstO (strValues l') k) :: O) h →
          wpAny (model prog w) (A.under (Code.builtin "re.Pattern.sub.loop" ⟨[.ref p, .str x t, .str rp tr, .int 0 0, .int 0 0, .int n 0, .int done 0, .int done 0, .bool must, .ref pl, .bool false], []⟩)) (do
            let joiner ← reSlice x.cps 0 0 0
            let items ← seqItems? (Value.ref pl)
            if (items.getD #[]).isEmpty = true then do
                let text ← pure joiner
                ret text
              else do
                let text ← call (Value.builtin "str.join") [joiner, Value.ref pl]
                ret text)
            (fun fin s' => match fin with | .done f => R (.ok f) s' | .again c' => c'.quiet = true ∧ codeAny (model prog w) A c' R s') (fun e s' => R (.error e) s') (St b h tk) := by
        intro l' k h tk hl' hf D
        rw [← hf] at hR hlen
        refine wpAny_bind (show wpAny _ _ (mkStr ⟨x.cps.extract 0 0⟩) _ _ _ from wpAny_mkStr ?_ (by rw [sizeLine_eq]; show (x.cps.extract 0 0).size ≤ _; rw [Array.size_extract]; omega))
        have e0 : x.cps.extract 0 0 = #[] := by simp
        rw [e0]
        refine wpAny_bind (wpAny_seqItems (D.get (.head _)) rfl ?_)
        by_cases hemp : l' = []
        · subst hemp
          refine wpAny_ite (iteT (by rfl) ?_)
          exact wpAny_bind (wpAny_pure (wpAny_pure (hR _ _ _ (D.weak (List.sublist_cons_self _ _)))))
        · refine wpAny_ite (iteF ?_ ?_)
          · cases l' with
            | nil => exact absurd rfl hemp
            | cons q r => rfl
          · refine wpAny_bind (k_sjoin (b := b) D (.head _) hlen fun t' tk' => wpAny_pure (hR _ _ _ (D.weak (List.sublist_cons_self _ _))))
      by_cases c : done < x.cps.size
      · refine wpAny_ite (if_pos (show (done : Int).toNat < x.cps.size by omega) ▸ ?_)
        refine wpAny_bind (show wpAny _ _ (mkStr ⟨x.cps.extract (done : Int).toNat x.cps.size⟩) _ _ _ from wpAny_mkStr ?_ (by rw [sizeLine_eq]; show (x.cps.extract _ _).size ≤ _; rw [Array.size_extract]; omega))
        rw [Int.toNat_natCast]
        refine wpAny_bind (k_push D (.head _) (by rw [sizeLine_eq, show (strValues l).length = l.length by simp [strValues]]; omega) fun h D => ?_)
        have e3 : strValues l ++ [Value.str ⟨x.cps.extract done x.cps.size⟩ tk] = strValues (l ++ [(⟨x.cps.extract done x.cps.size⟩, tk)]) := by simp [strValues]
        have D : Sd h₀ L V ((pl, lstO (strValues l ++ [Value.str ⟨x.cps.extract done x.cps.size⟩ tk]) (k + 1)) :: O) h := D
        rw [e3] at D
        exact fin _ _ _ _ (by rw [List.length_append, List.length_singleton]; exact Nat.le_refl _) (by rw [← hlast]; simp [flatS]) D
      · refine wpAny_ite (if_neg (show ¬ (done : Int).toNat < x.cps.size by omega) ▸ ?_)
        exact fin l k h tk (by omega) (by rw [List.drop_of_length_le (by simp; omega), List.append_nil]) D
    | some q =>
      obtain ⟨a, e⟩ := q
      rw [hr] at hrest
      obtain ⟨rfl, g1, g2, g3, g4⟩ := hrest
      rw [g4] at hR hlen
      intro m e1 e2
      dsimp only
      rw [e1, e2]
      have fin : ∀ (l' : List (Str × Tok)) (k : Nat) (h : Heap) (tk : Nat), l'.length ≤ l.length + 1 → flatS l' = flatS l ++ (x.cps.extract done e).toList → Sd h₀ L V ((pl, lstO (strValues l') k) :: O) h →
          wpAny (model prog w) (A.under (Code.builtin "re.Pattern.sub.loop" ⟨[.ref p, .str x t, .str rp tr, .int 0 0, .int 0 0, .int n 0, .int done 0, .int done 0, .bool must, .ref pl, .bool false], []⟩)) (do
            updateSeq pl fun y => y.push (Value.str rp tr)
            again (.builtin "re.Pattern.sub.loop" ⟨[.ref p, .str x t, .str rp tr, .int 0 0, .int 0 0, .int (n + 1) 0, .int e 0, .int e 0, .bool (e == e), .ref pl, .bool false], []⟩))
            (fun fin s' => match fin with | .done f => R (.ok f) s' | .again c' => c'.quiet = true ∧ codeAny (model prog w) A c' R s') (fun e s' => R (.error e) s') (St b h tk) := by
        intro l' k h tk hl' hf D
        have hsl : (strValues l').length = l'.length := by simp [strValues]
        refine wpAny_bind (k_push D (.head _) (by rw [sizeLine_eq, hsl]; omega) fun h D => wpAny_pure ⟨Code.quiet_builtin _ (by decide +kernel), ?_⟩)
        have e3 : strValues l' ++ [Value.str rp tr] = strValues (l' ++ [(rp, tr)]) := by simp [strValues]
        rw [e3] at D
        have e4 : flatS (l' ++ [(rp, tr)]) ++ restI rp.cps.toList x.cps e true = flatS l ++ ((x.cps.extract done e).toList ++ (rp.cps.toList ++ restI rp.cps.toList x.cps e true)) := by
          have : flatS (l' ++ [(rp, tr)]) = flatS l' ++ rp.cps.toList := by simp [flatS]
          rw [this, hf]; simp
        have := ih e true (n + 1) (l' ++ [(rp, tr)]) (k + 1) h tk (by
            cases must with
            | true => have := g2 rfl; simp at hN ⊢; omega
            | false => simp at hN ⊢; omega) (fun _ => g3) (by omega) (by rw [List.length_append, List.length_singleton]; omega) D (by rw [e4]; exact hlen) (by rw [e4]; exact hR)
        rw [beq_self_eq_true]
        exact this
      by_cases c : done < e
      · refine wpAny_ite (if_pos (show (done : Int).toNat < e by omega) ▸ ?_)
        refine wpAny_bind (show wpAny _ _ (mkStr ⟨x.cps.extract (done : Int).toNat e⟩) _ _ _ from wpAny_mkStr ?_ (by rw [sizeLine_eq]; show (x.cps.extract _ _).size ≤ _; rw [Array.size_extract]; omega))
        rw [Int.toNat_natCast]
        refine wpAny_bind (k_push D (.head _) (by rw [sizeLine_eq, show (strValues l).length = l.length by simp [strValues]]; omega) fun h D => ?_)
        have e3 : strValues l ++ [Value.str ⟨x.cps.extract done e⟩ tk] = strValues (l ++ [(⟨x.cps.extract done e⟩, tk)]) := by simp [strValues]
        have D : Sd h₀ L V ((pl, lstO (strValues l ++ [Value.str ⟨x.cps.extract done e⟩ tk]) (k + 1)) :: O) h := D
        rw [e3] at D
        refine wpAny_ite (iteT rfl ?_)
        exact wpAny_bind (wpAny_pure (wpAny_ite (iteT rfl (fin _ _ _ _ (by rw [List.length_append, List.length_singleton]; exact Nat.le_refl _) (by simp [flatS]) D))))
      · have hde : done = e := by omega
        subst hde
        refine wpAny_ite (if_neg (show ¬ (done : Int).toNat < done by omega) ▸ ?_)
        refine wpAny_ite (iteT rfl ?_)
        exact wpAny_bind (wpAny_pure (wpAny_ite (iteT rfl (fin l k h tk (by omega) (by simp) D))))
end
end Mine
end
/-! text R8 -/
section
open PySem PySem.W PyProof.Rows PySem.Calls
set_option Elab.async false
set_option linter.unusedVariables false
set_option maxRecDepth 100000
namespace Mine
open PySem.Builtin PySem.Builtin.Re
section
variable {prog : Program} {w : World} {A : Around} {E : Value → Shared → Prop} {s b : Shared} {h : Heap} {tk : Nat} {env : Env} {h₀ : Heap} {L : Addr} {V V' : Vs} {O O' : Os}
theorem special_str {x : Str} {t : Tok} {Q : Option Value → Shared → Prop} (hQ : Q none s) : wpAny (model prog w) A (specialOf (.str x t) "__call__") Q E s :=
  wpAny_specialOf (typeIs_str s x t) (by rw [typeLookup_type, builtinLookup_eq_fast]; kernel_rfl) hQ
theorem special_bytes {x : Array UInt8} {t : Tok} {Q : Option Value → Shared → Prop} (hQ : Q none s) : wpAny (model prog w) A (specialOf (.bytes x t) "__call__") Q E s :=
  wpAny_specialOf (typeIs_bytes s x t) (by rw [typeLookup_type, builtinLookup_eq_fast]; kernel_rfl) hQ
theorem k_subI {p : Addr} {x rp : Str} {t tr : Tok} {Q : Value → Shared → Prop} (D : Sd h₀ L V O h) (P : PatIs h₀ p cI 0) (hsz : x.cps.size ≤ 1000000) (hrp : rp.cps.contains 92 = false)
    (hlen : (indentL rp.cps.toList true x.cps.toList).length ≤ 16777216)
    (hQ : ∀ t' h' tk', Sd h₀ L V O h' → Q (.str ⟨(indentL rp.cps.toList true x.cps.toList).toArray⟩ t') (St b h' tk')) :
    wpAny (model prog w) A (call (.builtin "re.Pattern.sub") [.ref p, .str rp tr, .str x t]) Q E (St b h tk) := by
  refine wpAny_call (codeAny_call_builtin slot_sub.plain entry_sub (slot_sub.check _ _ _ _ _ _ _ _ (P.typeIs (s := St b h tk) D) (args_sub _ _ _) ?_))
  unfold Builtin.«re.Pattern.sub» reSubstitute
  refine wpAny_bind (wpAny_of_eq (named2 _ _) ?_)
  refine wpAny_bind (wpAny_pure ?_)
  refine wpAny_bind (special_str ?_)
  dsimp only
  refine wpAny_ite (iteF rfl ?_)
  refine wpAny_bind (wpAny_pure ?_)
  refine wpAny_bind (wpAny_pure ?_)
  refine wpAny_ite (iteF rfl ?_)
  refine wpAny_ite (iteT (by rw [hrp]; rfl) ?_)
  refine wpAny_bind (wpAny_pure ?_)
  refine wpAny_bind (wpAny_holding (wp_whole (s := St b h tk) D P ?_))
  refine wpAny_ite (iteF rfl ?_)
  refine wpAny_bind (k_newList (b := b) D fun pl h tk D => ?_)
  refine wpAny_pure ⟨Code.quiet_builtin _ (by decide +kernel), ?_⟩
  exact sub_loopI (V := V) (O := O) P hsz (x.cps.size + 1) 0 false 0 [] 0 h tk (by simp) (by simp) (Nat.zero_le _) (by simp; omega) D hlen (fun t' h' tk' D => hQ t' h' tk' D)

/-! the bytes -/
noncomputable def natsB (x : Array UInt8) : Array Nat := x.map (·.toNat)
theorem natsB_toList (x : Array UInt8) : (natsB x).toList = x.toList.map (·.toNat) := by simp [natsB]
theorem back8 (l : List UInt8) : (l.map (·.toNat)).map (·.toUInt8) = l := by
  rw [List.map_map]
  conv => rhs; rw [← List.map_id l]
  apply List.map_congr_left
  intro a _
  simp [Nat.toUInt8]
theorem cut8 (x : Array UInt8) (a e : Nat) : (((natsB x).extract a e).map (·.toUInt8)).toList.map (·.toNat) = ((natsB x).extract a e).toList := by
  have : ((natsB x).extract a e).map (·.toUInt8) = x.extract a e := by
    apply Array.ext'
    rw [Array.toList_map, Array.toList_extract, natsB_toList, Array.toList_extract]
    simp only [List.extract_eq_take_drop]
    rw [← List.map_drop, ← List.map_take, back8]
  rw [this]
  rw [Array.toList_extract, Array.toList_extract, natsB_toList]
  simp only [List.extract_eq_take_drop]
  rw [List.map_take, List.map_drop]
noncomputable def flatB (l : List (Array UInt8 × Tok)) : List Nat := (l.map fun p => p.1.toList.map (·.toNat)).flatten
theorem flatB_map (l : List (Array UInt8 × Tok)) : ((l.map (·.1.toList)).flatten).map (·.toNat) = flatB l := by
  unfold flatB; rw [List.map_flatten, List.map_map]; rfl
theorem wp_wholeB {p : Addr} {code : Array Nat} {y : Array UInt8} {t : Tok} {Q : ReTarget → Shared → Prop} (D : Sd h₀ L V O s.heap) (P : PatIs h₀ p code 1)
    (hQ : Q { pattern := .ref p, string := .bytes y t, code, text := natsB y, kind := 1, groups := 0, pos := 0, lim := (natsB y).size } s) : wpAny (model prog w) A (reWholeTarget (.ref p) (.bytes y t)) Q E s := by
  obtain ⟨o, vs, c, oc, items, n, h1, h2, h3, h4, h5, h6, h7, h8, h9, h10⟩ := P.ex
  unfold reWholeTarget
  refine wpAny_bind (wpAny_fieldsOf (D.keep _ _ h1) h4 ?_)
  have hT : reTextOf (.bytes y t) = pure (natsB y, 1) := by
    unfold reTextOf
    rw [show asStr? (.bytes y t) = pure none from rfl, pure_bind]
    dsimp only
    rw [KBy.quiet_eq]
    rfl
  rw [hT]
  refine wpAny_bind (wpAny_pure ?_)
  dsimp only
  rw [h7, if_neg (by decide), if_neg (by decide)]
  have hN : reNoCollectionInside (.bytes y t) 1 = pure () := by
    unfold reNoCollectionInside
    rw [KBy.isInstance_eq]
    rfl
  rw [hN]
  refine wpAny_bind (wpAny_pure ?_)
  rw [h6]
  refine wpAny_bind (wp_rawItems (D.keep _ _ h8) h9 (wpAny_pure ?_))
  rw [h10, h5]
  exact hQ
theorem sub_loopQ {p pl : Addr} {y rp : Array UInt8} {t tr : Tok} {R : Result → Shared → Prop} (P : PatIs h₀ p cQ 1) (hsz : (natsB y).size ≤ 1000000) (hrp : rp.toList.map (·.toNat) = [46, 46]) :
    ∀ (N done : Nat) (n : Nat) (l : List (Array UInt8 × Tok)) (k : Nat) (h : Heap) (tk : Nat), (natsB y).size + 1 - done ≤ N → done ≤ (natsB y).size →
      l.length + 2 * N ≤ 2 * (natsB y).size + 2 →
      Sd h₀ L V ((pl, lstO (bV l) k) :: O) h → (flatB l ++ quoteL (bolAt (natsB y) done) ((natsB y).toList.drop done)).length ≤ 16777216 →
      (∀ z t' h' tk', z.toList.map (·.toNat) = flatB l ++ quoteL (bolAt (natsB y) done) ((natsB y).toList.drop done) → Sd h₀ L V O h' → R (.ok (.ret (.bytes z t'))) (St b h' tk')) →
      codeAny (model prog w) A (.builtin "re.Pattern.sub.loop" ⟨[.ref p, .bytes y t, .bytes rp tr, rawInt 0, rawInt 0, rawInt n, rawInt done, rawInt done, .bool false, .ref pl, .bool false], []⟩) R (St b h tk) := by
  intro N
  induction N with
  | zero => intro done n l k h tk hN hdone; omega
  | succ N ih =>
    intro done n l k h tk hN hdone hl D hlen hR
    refine codeAny_builtin entry_subloop ?_
    unfold Builtin.«re.Pattern.sub.loop»
    dsimp only [rawInt]
    refine wpAny_bind (wp_wholeB D P ?_)
    refine wpAny_ite (iteT rfl ?_)
    have hlit : reLiteralCannotBeTurned (.bytes rp tr) = pure () := by
      unfold reLiteralCannotBeTurned
      rw [show asStr? (.bytes rp tr) = pure none from rfl, KBy.isInstance_eq]
      rfl
    refine wpAny_bind (wpAny_of_eq hlit ?_)
    refine wpAny_bind (wpAny_ite (iteF rfl ?_))
    have hE := searchQ (natsB y) (natsB y).size done hdone
    refine wp_reRun (r := nextGo (gQ (natsB y) (natsB y).size) ((natsB y).size + 1 - done) done) hE (by omega) ?_
    have hrest := scanQ (natsB y) ((natsB y).size + 1 - done) done hdone rfl
    generalize hx : natsB y = x at hsz hN hdone hl hlen hR hE hrest ih
    cases hr : nextGo (gQ x x.size) (x.size + 1 - done) done with
    | none =>
      rw [hr] at hrest
      rw [hrest] at hR hlen
      dsimp only
      have hlast : (x.extract done x.size).toList = x.toList.drop done := by
        rw [Array.toList_extract, List.extract_eq_take_drop, List.take_of_length_le (by simp)]
      have fin : ∀ (l' : List (Array UInt8 × Tok)) (k : Nat) (h : Heap) (tk : Nat), l'.length ≤ l.length + 1 → flatB l' = flatB l ++ x.toList.drop done → Sd h₀ L V ((pl, lstO (bV l') k) :: O) h →
          wpAny (model prog w) (A.under (Code.builtin "re.Pattern.sub.loop" ⟨[.ref p, .bytes y t, .bytes rp tr, .int 0 0, .int 0 0, .int n 0, .int done 0, .int done 0, .bool false, .ref pl, .bool false], []⟩)) (do
            let joiner ← reSlice x 1 0 0
            let items ← seqItems? (Value.ref pl)
            if (items.getD #[]).isEmpty = true then do
                let text ← pure joiner
                ret text
              else do
                let text ← call (Value.builtin "bytes.join") [joiner, Value.ref pl]
                ret text)
            (fun fin s' => match fin with | .done f => R (.ok f) s' | .again c' => c'.quiet = true ∧ codeAny (model prog w) A c' R s') (fun e s' => R (.error e) s') (St b h tk) := by
        intro l' k h tk hl' hf D
        rw [← hf] at hR hlen
        refine wpAny_bind (show wpAny _ _ (mkBytes ((x.extract 0 0).map (·.toUInt8))) _ _ _ from wpAny_mkBytes ?_ (by rw [sizeLine_eq, Array.size_map, Array.size_extract]; omega))
        have e0 : (x.extract 0 0).map (·.toUInt8) = #[] := by simp
        rw [e0]
        refine wpAny_bind (wpAny_seqItems (D.get (.head _)) rfl ?_)
        by_cases hemp : l' = []
        · subst hemp
          refine wpAny_ite (iteT (by rfl) ?_)
          exact wpAny_bind (wpAny_pure (wpAny_pure (hR _ _ _ _ rfl (D.weak (List.sublist_cons_self _ _)))))
        · refine wpAny_ite (iteF ?_ ?_)
          · cases l' with
            | nil => exact absurd rfl hemp
            | cons q r => rfl
          · refine wpAny_bind (k_bjoin (b := b) D (.head _) (by have := congrArg List.length (flatB_map l'); rw [List.length_map] at this; rw [this]; exact hlen) fun t' tk' => wpAny_pure (hR _ _ _ _ ?_ (D.weak (List.sublist_cons_self _ _))))
            rw [List.toList_toArray, flatB_map]
      by_cases c : done < x.size
      · refine wpAny_ite (if_pos (show (done : Int).toNat < x.size by omega) ▸ ?_)
        refine wpAny_bind (show wpAny _ _ (mkBytes ((x.extract (done : Int).toNat x.size).map (·.toUInt8))) _ _ _ from wpAny_mkBytes ?_ (by rw [sizeLine_eq, Array.size_map, Array.size_extract]; omega))
        rw [Int.toNat_natCast]
        refine wpAny_bind (k_push D (.head _) (by rw [sizeLine_eq, show (bV l).length = l.length by simp [bV]]; omega) fun h D => ?_)
        have e3 : bV l ++ [Value.bytes ((x.extract done x.size).map (·.toUInt8)) tk] = bV (l ++ [((x.extract done x.size).map (·.toUInt8), tk)]) := by simp [bV]
        have D : Sd h₀ L V ((pl, lstO (bV l ++ [Value.bytes ((x.extract done x.size).map (·.toUInt8)) tk]) (k + 1)) :: O) h := D
        rw [e3] at D
        refine fin _ _ _ _ (by rw [List.length_append, List.length_singleton]; exact Nat.le_refl _) ?_ D
        rw [← hlast, ← hx, ← cut8]
        unfold flatB; rw [List.map_append, List.flatten_append, List.map_singleton, List.flatten_singleton]
      · refine wpAny_ite (if_neg (show ¬ (done : Int).toNat < x.size by omega) ▸ ?_)
        exact fin l k h tk (by omega) (by rw [List.drop_of_length_le (by simp; omega), List.append_nil]) D
    | some q =>
      obtain ⟨a, e⟩ := q
      rw [hr] at hrest
      obtain ⟨rfl, g1, g3, g4⟩ := hrest
      rw [g4] at hR hlen
      intro m e1 e2
      dsimp only
      rw [e1, e2]
      have fin : ∀ (l' : List (Array UInt8 × Tok)) (k : Nat) (h : Heap) (tk : Nat), l'.length ≤ l.length + 1 → flatB l' = flatB l ++ (x.extract done a).toList → Sd h₀ L V ((pl, lstO (bV l') k) :: O) h →
          wpAny (model prog w) (A.under (Code.builtin "re.Pattern.sub.loop" ⟨[.ref p, .bytes y t, .bytes rp tr, .int 0 0, .int 0 0, .int n 0, .int done 0, .int done 0, .bool false, .ref pl, .bool false], []⟩)) (do
            updateSeq pl fun y => y.push (Value.bytes rp tr)
            again (.builtin "re.Pattern.sub.loop" ⟨[.ref p, .bytes y t, .bytes rp tr, .int 0 0, .int 0 0, .int (n + 1) 0, .int (a + 1 : Nat) 0, .int (a + 1 : Nat) 0, .bool (a + 1 == a), .ref pl, .bool false], []⟩))
            (fun fin s' => match fin with | .done f => R (.ok f) s' | .again c' => c'.quiet = true ∧ codeAny (model prog w) A c' R s') (fun e s' => R (.error e) s') (St b h tk) := by
        intro l' k h tk hl' hf D
        have hsl : (bV l').length = l'.length := by simp [bV]
        refine wpAny_bind (k_push D (.head _) (by rw [sizeLine_eq, hsl]; omega) fun h D => wpAny_pure ⟨Code.quiet_builtin _ (by decide +kernel), ?_⟩)
        have e3 : bV l' ++ [Value.bytes rp tr] = bV (l' ++ [(rp, tr)]) := by simp [bV]
        rw [e3] at D
        have e4 : flatB (l' ++ [(rp, tr)]) ++ quoteL (bolAt x (a + 1)) (x.toList.drop (a + 1)) = flatB l ++ ((x.extract done a).toList ++ (46 :: 46 :: quoteL (bolAt x (a + 1)) (x.toList.drop (a + 1)))) := by
          have : flatB (l' ++ [(rp, tr)]) = flatB l' ++ [46, 46] := by unfold flatB; rw [List.map_append, List.flatten_append, List.map_singleton, List.flatten_singleton, hrp]
          rw [this, hf]; simp
        have := ih (a + 1) (n + 1) (l' ++ [(rp, tr)]) (k + 1) h tk (by omega) (by omega) (by rw [List.length_append, List.length_singleton]; omega) D (by rw [e4]; exact hlen) (by rw [e4]; exact hR)
        rw [show (a + 1 == a) = false by simp]
        exact this
      by_cases c : done < a
      · refine wpAny_ite (if_pos (show (done : Int).toNat < a by omega) ▸ ?_)
        refine wpAny_bind (show wpAny _ _ (mkBytes ((x.extract (done : Int).toNat a).map (·.toUInt8))) _ _ _ from wpAny_mkBytes ?_ (by rw [sizeLine_eq, Array.size_map, Array.size_extract]; omega))
        rw [Int.toNat_natCast]
        refine wpAny_bind (k_push D (.head _) (by rw [sizeLine_eq, show (bV l).length = l.length by simp [bV]]; omega) fun h D => ?_)
        have e3 : bV l ++ [Value.bytes ((x.extract done a).map (·.toUInt8)) tk] = bV (l ++ [((x.extract done a).map (·.toUInt8), tk)]) := by simp [bV]
        have D : Sd h₀ L V ((pl, lstO (bV l ++ [Value.bytes ((x.extract done a).map (·.toUInt8)) tk]) (k + 1)) :: O) h := D
        rw [e3] at D
        refine wpAny_ite (iteT rfl ?_)
        refine wpAny_bind (wpAny_pure (wpAny_ite (iteT rfl (fin _ _ _ _ (by rw [List.length_append, List.length_singleton]; exact Nat.le_refl _) ?_ D))))
        rw [← hx, ← cut8]
        unfold flatB; rw [List.map_append, List.flatten_append, List.map_singleton, List.flatten_singleton]
      · have hde : done = a := by omega
        subst hde
        refine wpAny_ite (if_neg (show ¬ (done : Int).toNat < done by omega) ▸ ?_)
        refine wpAny_ite (iteT rfl ?_)
        exact wpAny_bind (wpAny_pure (wpAny_ite (iteT rfl (fin l k h tk (by omega) (by simp) D))))
theorem k_subQ {p : Addr} {y rp : Array UInt8} {t tr : Tok} {Q : Value → Shared → Prop} (D : Sd h₀ L V O h) (P : PatIs h₀ p cQ 1) (hsz : (natsB y).size ≤ 1000000) (hrp : rp.toList.map (·.toNat) = [46, 46]) (hrc : rp.contains 92 = false)
    (hlen : (quoteL true (y.toList.map (·.toNat))).length ≤ 16777216)
    (hQ : ∀ z t' h' tk', z.toList.map (·.toNat) = quoteL true (y.toList.map (·.toNat)) → Sd h₀ L V O h' → Q (.bytes z t') (St b h' tk')) :
    wpAny (model prog w) A (call (.builtin "re.Pattern.sub") [.ref p, .bytes rp tr, .bytes y t]) Q E (St b h tk) := by
  refine wpAny_call (codeAny_call_builtin slot_sub.plain entry_sub (slot_sub.check _ _ _ _ _ _ _ _ (P.typeIs (s := St b h tk) D) (args_sub _ _ _) ?_))
  unfold Builtin.«re.Pattern.sub» reSubstitute
  refine wpAny_bind (wpAny_of_eq (named2 _ _) ?_)
  refine wpAny_bind (wpAny_pure ?_)
  refine wpAny_bind (special_bytes ?_)
  dsimp only
  refine wpAny_ite (iteF rfl ?_)
  refine wpAny_bind (wpAny_of_eq (a := none) rfl ?_)
  dsimp only
  refine wpAny_bind (wpAny_of_eq KBy.quiet_eq ?_)
  dsimp only
  refine wpAny_bind (wpAny_pure ?_)
  refine wpAny_ite (iteF rfl ?_)
  refine wpAny_ite (iteT (by rw [hrc]; rfl) ?_)
  refine wpAny_bind (wpAny_pure ?_)
  refine wpAny_bind (wpAny_holding (wp_wholeB (s := St b h tk) D P ?_))
  refine wpAny_ite (iteF rfl ?_)
  refine wpAny_bind (k_newList (b := b) D fun pl h tk D => ?_)
  refine wpAny_pure ⟨Code.quiet_builtin _ (by decide +kernel), ?_⟩
  have e5 : (natsB y).toList.drop 0 = y.toList.map (·.toNat) := by rw [List.drop_zero, natsB_toList]
  exact sub_loopQ (V := V) (O := O) P hsz hrp ((natsB y).size + 1) 0 0 [] 0 h tk (by simp) (Nat.zero_le _) (by simp; omega) D (by rw [e5]; exact hlen) (by rw [e5]; exact fun z t' h' tk' hz D => hQ z t' h' tk' hz D)
end
end Mine
end
/-! text B14 -/
section
open PySem PySem.W PyProof.Rows PySem.Calls
set_option Elab.async false
set_option linter.unusedVariables false
namespace Mine
section
variable {prog : Program} {w : World} {A : Around} {s : Shared} {h₀ : Heap} {L : Addr} {V : List (Str × Option Value)} {O : List (Addr × Obj)} {mg mb : Str → Option Value}
theorem callFnD {p : Program} {R : Result → Shared → Prop} {f : Addr} {n : Nat} {fd : FuncData} {vals : List Value} {binds : List (Str × Value)} {Vf : List (Str × Option Value)} {j : Nat} {Post : Value → List (Addr × Obj) → Prop}
    (hA : Ok (j + 1) A) (F : FnIs p h₀ f n fd) (W : Wd h₀ mg mb) (D : Sd h₀ L V O s.heap)
    (hbind : BindsTo s fd ⟨vals, []⟩ binds)
    (hkind : ∀ b, ∀ x ∈ binds, (scopeOf p n).names.lookup x.1 = some .local ∨ ((scopeOf p n).names.lookup x.1 = some .cell ∧ ((cellsFrom b (scopeOf p n).names []).lookup x.1).isSome = true))
    (hV : ∀ q ∈ Vf, bindL (fun x => (scopeOf p n).names.lookup x) binds (fun _ => none) q.1 = q.2) (ndV : (Vf.map (·.1)).Nodup) (ndC : ∀ b, ((cellsFrom b (scopeOf p n).names []).map (·.1)).Nodup)
    (body : ∀ Lf oL oc h tk env A' E', Ok j A' → EnvIs env (scopeOf p n) Lf (cellsFrom (Lf + 1) (scopeOf p n).names []) →
      Sd h₀ Lf Vf (cellsAt oc (bindC (fun x => (scopeOf p n).names.lookup x) binds fun _ => none) (cellsFrom (Lf + 1) (scopeOf p n).names []) ++ (L, oL) :: O) h →
      wpAny (model prog w) A' (execs (bodyOf p n) env) (FnPost h₀ Lf L oL Post { s with heap := h, toks := tk }) E' { s with heap := h, toks := tk })
    (ret : ∀ v O' h' tk, Post v O' → Sd h₀ L V O' h' → R (.ok (.ret v)) { s with heap := h', toks := tk })
    (hco : (scopeOf p n).isCoroutine = false := by rfl) (hgen : (scopeOf p n).isGenerator = false := by rfl) (hk : (scopeOf p n).kind = .function := by rfl) :
    codeAny (model prog w) A (.call (.ref f) ⟨vals, []⟩) R s := by
  obtain ⟨o, ho, hdata⟩ := F.at_
  have hsc := F.scope
  -- a default may lie on the heap, so the binding is a walk of its own: the frame is made behind it
  refine codeAny_call_function (by have := hA.room; omega) (D.keep _ _ ho) hdata (by rw [hsc]; exact hco) (by rw [hsc]; exact hgen) F.body (F.code.keeps D.keep) ?_
  rw [F.closure]
  refine hbind _ _ _ _ (wpAny_newFunctionEnv_cells (by rw [hsc]; exact hk) (by rw [hsc]; exact hkind _) fun env he s₁ x => ?_)
  have hmade : env = callEnvC fd s.heap.objs.size f := he
  subst hmade
  refine ⟨(W.nolimit.keeps D.keep).keeps x.toInCall.keep, codeAny_func ?_⟩
  have hEnv : EnvIs (callEnvC fd s.heap.objs.size f) (scopeOf p n) s.heap.objs.size (cellsFrom (s.heap.objs.size + 1) (scopeOf p n).names []) :=
    ⟨hsc, rfl, F.globals, F.builtins, by show cellsFrom _ fd.scope.names [] = _; rw [hsc]⟩
  have hkd : (callEnvC fd s.heap.objs.size f).kindOf = fun x => (scopeOf p n).names.lookup x := by funext y; unfold Env.kindOf; rw [hEnv.scope]
  have hcl := hEnv.cells
  rw [hkd, hcl] at x
  obtain ⟨⟨⟨h1, tk1, rfl⟩, hns, hkp, hfr⟩, hcell, hap, hab⟩ := x
  have hC : s.heap.get? s.heap.objs.size = none := by
    cases e : s.heap.get? s.heap.objs.size with
    | none => rfl
    | some o => exact absurd (Heap.lt_size e) (Nat.lt_irrefl _)
  obtain ⟨oL, back, D2⟩ := D.enter (V' := Vf) hC hkp hns hV ndV
  have D3 : Sd h₀ s.heap.objs.size Vf (cellsAt (fun a => (h1.get? a).getD default) (bindC (fun x => (scopeOf p n).names.lookup x) binds fun _ => none) (cellsFrom (s.heap.objs.size + 1) (scopeOf p n).names []) ++ (L, oL) :: O) h1 := by
    have hcm : ∀ q ∈ cellsFrom (s.heap.objs.size + 1) (scopeOf p n).names [], h1.get? q.2 = some (cellL ((h1.get? q.2).getD default) (bindC (fun x => (scopeOf p n).names.lookup x) binds (fun _ => none) q.1)) := by
      intro q hq
      obtain ⟨oc, hoc, hd⟩ := hcell q.1 q.2 (lookup_of_nodup (ndC _) hq)
      have hoc' : h1.get? q.2 = some oc := hoc
      rw [hoc']
      show some oc = some { oc with data := _ }
      rw [← hd]
    have hfrs : ∀ q ∈ cellsFrom (s.heap.objs.size + 1) (scopeOf p n).names [], s.heap.get? q.2 = none := by
      intro q hq
      cases e : s.heap.get? q.2 with
      | none => rfl
      | some o => exact absurd (Heap.lt_size e) (Nat.lt_asymm (hab q.1 q.2 hq))
    have hO : ∀ q ∈ (L, oL) :: O, q.1 < s.heap.objs.size := by
      intro q hq
      rcases List.mem_cons.mp hq with rfl | hq
      · exact D.Llt
      · exact Heap.lt_size (D.obj q hq)
    refine ⟨D2.ns, ndV, D2.L0, D2.keep, fun q hq => ?_, fun q hq => ?_, ?_⟩
    · rcases List.mem_append.mp hq with hq | hq
      · obtain ⟨r, hr, rfl⟩ := List.mem_map.mp hq; exact hcm r hr
      · exact D2.obj q hq
    · rcases List.mem_append.mp hq with hq | hq
      · obtain ⟨r, hr, rfl⟩ := List.mem_map.mp hq
        refine ⟨Nat.ne_of_gt (hab r.1 r.2 hr), ?_⟩
        cases e : h₀.get? r.2 with
        | none => rfl
        | some o => have := D.keep _ _ e; rw [hfrs r hr] at this; cases this
      · exact D2.off q hq
    · rw [List.map_append, List.nodup_append]
      refine ⟨?_, D2.nd, fun a ha b hb e => ?_⟩
      · unfold cellsAt
        rw [List.map_map]
        show (List.map (fun q : Str × Addr => q.2) _).Nodup
        exact List.pairwise_map.mpr hap
      · obtain ⟨q, hq, rfl⟩ := List.mem_map.mp ha
        obtain ⟨r, hr, rfl⟩ := List.mem_map.mp hq
        obtain ⟨q', hq', rfl⟩ := List.mem_map.mp hb
        have h2 : s.heap.objs.size < r.2 := hab r.1 r.2 hr
        have h3 : r.2 = q'.1 := e
        exact Nat.lt_asymm h2 (h3 ▸ hO q' hq')
  refine wpAny_mono (body s.heap.objs.size oL _ h1 tk1 _ _ _ (hA.deeper _) hEnv D3) (fun fl s' hp => ?_) fun _ _ e => e
  obtain ⟨v, pre, O', V', h', tk, rfl, rfl, D4, hP⟩ := hp
  exact ret v (pre ++ O') h' tk hP (D4.leave D.L0 D.ndV back)
end
section
variable {prog : Program} {w : World} {A : Around} {E : Value → Shared → Prop} {b : Shared} {h : Heap} {tk : Nat} {env : Env} {h₀ : Heap} {L : Addr} {V V' : Vs} {O O' : Os} {sc : Scope} {cells : List (Str × Addr)}
theorem k_callD {mg mb : Str → Option Value} {p : Program} {R : Result → Shared → Prop} {f : Addr} {n : Nat} {fd : FuncData} {vals : List Value} {binds : List (Str × Value)} {Vf : Vs} {j : Nat} {Post : Value → Os → Prop}
    (hA : Ok (j + 1) A) (F : FnIs p h₀ f n fd) (W : Wd h₀ mg mb) (D : Sd h₀ L V O h)
    (hbind : BindsTo (St b h tk) fd ⟨vals, []⟩ binds)
    (hkind : ∀ b, ∀ x ∈ binds, (scopeOf p n).names.lookup x.1 = some .local ∨ ((scopeOf p n).names.lookup x.1 = some .cell ∧ ((cellsFrom b (scopeOf p n).names []).lookup x.1).isSome = true))
    (hV : ∀ q ∈ Vf, bindL (fun x => (scopeOf p n).names.lookup x) binds (fun _ => none) q.1 = q.2) (ndV : (Vf.map (·.1)).Nodup) (ndC : ∀ b, ((cellsFrom b (scopeOf p n).names []).map (·.1)).Nodup)
    (body : ∀ Lf oL oc h tk env A' E', Ok j A' → EnvIs env (scopeOf p n) Lf (cellsFrom (Lf + 1) (scopeOf p n).names []) →
      Sd h₀ Lf Vf (cellsAt oc (bindC (fun x => (scopeOf p n).names.lookup x) binds fun _ => none) (cellsFrom (Lf + 1) (scopeOf p n).names []) ++ (L, oL) :: O) h →
      wpAny (model prog w) A' (execs (bodyOf p n) env) (FnS b h₀ Lf L oL Post) E' (St b h tk))
    (ret : ∀ v O' h' tk, Post v O' → Sd h₀ L V O' h' → R (.ok (.ret v)) (St b h' tk))
    (hco : (scopeOf p n).isCoroutine = false := by rfl) (hgen : (scopeOf p n).isGenerator = false := by rfl) (hk : (scopeOf p n).kind = .function := by rfl) :
    codeAny (model prog w) A (.call (.ref f) ⟨vals, []⟩) R (St b h tk) :=
  callFnD (s := St b h tk) hA F W D hbind hkind hV ndV ndC (fun Lf oL oc h tk env A' E' h1 h2 h3 => body Lf oL oc h tk env A' E' h1 h2 h3) ret hco hgen hk
end
end Mine
end
/-! text B15 -/
section
open PySem PySem.W PyProof.Rows PySem.Calls
set_option Elab.async false
set_option linter.unusedVariables false
set_option maxRecDepth 100000
namespace Mine
theorem repeat_int_none : seqRepeat? (.type "int") = pure none := by
  have h1 : seqSlot? (.type "int") "__mul__" = pure none := by
    have e : typeLookup (.type "int") (PySem.Str.ofString "__mul__") = pure (some (.builtin "int.__mul__")) := F.slot_int_mul.lookup
    unfold seqSlot?
    rw [e, pure_bind, show isSeqSlot (some (.builtin "int.__mul__")) = false by decide +kernel]
    rfl
  have h2 : seqSlot? (.type "int") "__rmul__" = pure none := by
    have e : typeLookup (.type "int") (PySem.Str.ofString "__rmul__") = pure (some (.builtin "int.__rmul__")) := F.slot_int_rmul.lookup
    unfold seqSlot?
    rw [e, pure_bind, show isSeqSlot (some (.builtin "int.__rmul__")) = false by decide +kernel]
    rfl
  unfold seqRepeat?
  rw [h1, h2]
  rfl
section
variable {prog : Program} {w : World} {A : Around} {E : Value → Shared → Prop} {s b : Shared} {h : Heap} {tk : Nat} {env : Env} {h₀ : Heap} {L : Addr} {V V' : Vs} {O O' : Os}
theorem b1_left {M : Model} {a b : Value} {T U nm id : String} {Q : Option Value → Shared → Prop} (hTU : (Value.type T == Value.type U) = false) (ha : s.TypeIs a T) (hb : s.TypeIs b U)
    (hfT : fillsNumberSlot (.type T) nm = pure true) (hfU : fillsNumberSlot (.type U) nm = pure false) (h : Slot T (dunder nm) id)
    (hc : wpAny M A (call (.builtin id) [a, b]) (fun v s' => v = .notImplemented ∧ Q none s') E s) : wpAny M A (binaryOp1 nm a b) Q E s := by
  unfold binaryOp1
  refine wpAny_bind (wpAny_typeOf ha (wpAny_bind (wpAny_typeOf hb (wpAny_bind (wpAny_of_eq hfT ?_)))))
  refine wpAny_ite (iteF hTU (wpAny_bind (wpAny_of_eq hfU ?_)))
  refine wpAny_ite (iteF rfl ?_)
  refine wpAny_ite (iteF rfl ?_)
  refine wpAny_ite (iteF rfl (wpAny_bind (wpAny_pure ?_)))
  refine wpAny_ite (iteF rfl ?_)
  refine wpAny_ite (iteT rfl ?_)
  refine wpAny_bind (wpAny_tryMethod_declines ha h (wpAny_mono hc (fun v s' h' => ⟨h'.1, ?_⟩) fun _ _ e => e))
  refine wpAny_ite (iteF rfl ?_)
  refine wpAny_ite (iteF rfl ?_)
  exact wpAny_pure h'.2
theorem rep_right {M : Model} {a b : Value} {T U id idr : String} {ix : Value} {Q : Value → Shared → Prop} (hTU : (Value.type T == Value.type U) = false) (ha : ∀ s' : Shared, s'.TypeIs a T) (hb : ∀ s' : Shared, s'.TypeIs b U)
    (hfT : fillsNumberSlot (.type T) "mul" = pure true) (hfU : fillsNumberSlot (.type U) "mul" = pure false) (h : Slot T (dunder "mul") idr) (hr0 : seqRepeat? (.type T) = pure none) (hrep : seqRepeat? (.type U) = pure (some (.builtin id)))
    (hix : typeLookup (.type T) "__index__" = pure (some ix))
    (hc : wpAny M A (call (.builtin idr) [a, b]) (fun v s' => v = .notImplemented ∧ wpAny M A (call (.builtin id) [b, a]) Q E s') E s) : wpAny M A (binaryOp .Mult a b) Q E s := by
  unfold binaryOp
  refine wpAny_holding ?_
  refine wpAny_bind (b1_left (nm := "mul") hTU (ha s) (hb s) hfT hfU h (wpAny_mono hc (fun v s' h' => ⟨h'.1, ?_⟩) fun _ _ e => e))
  refine wpAny_bind (wpAny_typeOf (ha s') ?_)
  refine wpAny_bind (wpAny_of_eq hr0 ?_)
  refine wpAny_bind (wpAny_typeOf (hb s') ?_)
  refine wpAny_bind (wpAny_of_eq hrep ?_)
  unfold sequenceRepeat
  refine wpAny_bind (wpAny_specialOf (ha s') hix ?_)
  exact wpAny_bind (wpAny_rule h'.2)
theorem fold_rep (c : List Nat) : ∀ (n : Nat) (acc : Array Nat), ((List.replicate n c.toArray).foldl (· ++ ·) acc).toList = acc.toList ++ (List.replicate n c).flatten
  | 0, acc => by simp
  | n + 1, acc => by rw [List.replicate_succ, List.foldl_cons, fold_rep c n, List.replicate_succ]; simp
theorem k_mulIS {n : Int} {t u : Tok} {Q : Value → Shared → Prop} (h1 : 1 ≤ n) (h2 : n ≤ 1000)
    (hQ : ∀ t' tk', Q (.str ⟨(List.replicate n.toNat 32).toArray⟩ t') (St b h tk')) : wpAny (model prog w) A (binaryOp .Mult (.int n u) (.str " " t)) Q E (St b h tk) := by
  have hl : (PySem.Str.ofString " ").length = 1 := rfl
  have hcp : (PySem.Str.ofString " ").cps = [32].toArray := rfl
  have hres : (List.replicate n.toNat (PySem.Str.ofString " ").cps).foldl (· ++ ·) #[] = (List.replicate n.toNat 32).toArray := by
    rw [hcp]
    apply Array.ext'
    rw [fold_rep [32] n.toNat #[]]
    simp
  refine rep_right (T := "int") (U := "str") (by decide) (fun s' => typeIs_int s' n u) (fun s' => typeIs_str s' _ t) F.fills_int_mul noFill_str_mul F.slot_int_mul repeat_int_none repeat_str F.slot_int_index.lookup
    (call_gives F.slot_int_mul (typeIs_int _ n u) F.entry_int_mul (F.args_int_mul_2 _ _) (AutoIntG3.int___mul___int_str_0 n u _ t)
      ⟨rfl, call_gives F.slot_str_mul (typeIs_str _ _ t) F.entry_str_mul (F.args_str_mul_2 _ _) (gives_str_mul _ n t u ?_ (fun _ _ => ?_) fun _ _ => ?_) ?_⟩)
  · rw [decide_eq_false (by omega), decide_eq_false (by omega)]; rfl
  · rw [hl]
    have : (1 : Int) ≤ (2 ^ 63 - 1) / n := Int.le_ediv_of_mul_le (by omega) (by omega)
    omega
  · unfold Builtin.Str.tooLong
    rw [sizeLine_eq, hl]
    exact decide_eq_false (by omega)
  · rw [if_neg (by omega), hl]
    by_cases hn : n = 1
    · subst hn
      exact hQ t tk
    · rw [if_neg (by simp; omega), hres]
      refine ⟨?_, hQ _ _⟩
      rw [sizeLine_eq]
      show (List.replicate n.toNat 32).toArray.size ≤ _
      rw [List.size_toArray, List.length_replicate]; omega
end
end Mine
end
/-! text Pw -/
section
namespace Mine
noncomputable abbrev pw := PySem.Challenge.pw_xe0003_01
end Mine
end
/-! text B16 -/
section
open PySem PySem.W PyProof.Rows PySem.Calls
set_option Elab.async false
set_option linter.unusedVariables false
set_option maxRecDepth 100000
namespace Mine
/-! texts -/
inductive SV : List Value → List (List Nat) → Prop
  | nil : SV [] []
  | cons {vs xss} (x : Str) (t : Tok) (xs : List Nat) : x.cps.toList = xs → SV vs xss → SV (.str x t :: vs) (xs :: xss)
theorem SV.length {vs xss} (h : SV vs xss) : vs.length = xss.length := by
  induction h with
  | nil => rfl
  | cons x t xs e h ih => simp [ih]
theorem SV.snoc {vs xss} (h : SV vs xss) {x : Str} {t : Tok} {xs : List Nat} (e : x.cps.toList = xs) : SV (vs ++ [.str x t]) (xss ++ [xs]) := by
  induction h with
  | nil => exact .cons x t xs e .nil
  | cons x' t' xs' e' h ih => exact .cons x' t' xs' e' ih
theorem SV.app {vs xss ws yss} (h : SV vs xss) (g : SV ws yss) : SV (vs ++ ws) (xss ++ yss) := by
  induction h with
  | nil => exact g
  | cons x t xs e h ih => exact .cons x t xs e ih
theorem SV.get {vs xss} (h : SV vs xss) : ∀ i, i < xss.length → ∃ x t, vs[i]? = some (.str x t) ∧ x.cps.toList = xss.getD i [] := by
  induction h with
  | nil => intro i hi; simp at hi
  | cons x t xs e h ih =>
    intro i hi
    cases i with
    | zero => exact ⟨x, t, rfl, e⟩
    | succ i => exact ih i (by simpa using hi)
theorem SV.at_ {vs xss} (h : SV vs xss) {i : Nat} {v : Value} (hv : vs[i]? = some v) : ∃ x t, v = .str x t ∧ x.cps.toList = xss.getD i [] := by
  obtain ⟨x, t, h1, h2⟩ := h.get i (by rw [← h.length]; exact (List.getElem?_eq_some_iff.mp hv).1)
  rw [hv] at h1
  exact ⟨x, t, Option.some.inj h1, h2⟩
theorem SV.set {vs xss} (h : SV vs xss) {x : Str} {t : Tok} {xs : List Nat} (e : x.cps.toList = xs) : ∀ i, SV (vs.set i (.str x t)) (xss.set i xs) := by
  induction h with
  | nil => intro i; exact .nil
  | cons x' t' xs' e' h ih =>
    intro i
    cases i with
    | zero => exact .cons x t xs e h
    | succ i => exact .cons x' t' xs' e' (ih i)
theorem SV.texts {vs xss} (h : SV vs xss) : ∃ ps, vs = strValues ps ∧ flatS ps = xss.flatten := by
  induction h with
  | nil => exact ⟨[], rfl, rfl⟩
  | cons x t xs e h ih =>
    obtain ⟨ps, rfl, h2⟩ := ih
    exact ⟨(x, t) :: ps, rfl, by simp [flatS] at h2 ⊢; rw [e, ← h2]⟩
theorem SV.take {vs xss} (h : SV vs xss) : ∀ n, SV (vs.take n) (xss.take n) := by
  induction h with
  | nil => intro n; simp; exact .nil
  | cons x t xs e h ih =>
    intro n
    cases n with
    | zero => exact .nil
    | succ n => exact .cons x t xs e (ih n)
theorem SV.drop {vs xss} (h : SV vs xss) : ∀ n, SV (vs.drop n) (xss.drop n) := by
  induction h with
  | nil => intro n; simp; exact .nil
  | cons x t xs e h ih =>
    intro n
    cases n with
    | zero => exact .cons x t xs e h
    | succ n => exact ih n
theorem SV.ofStrs : ∀ (l : List (Str × Tok)) (xss : List (List Nat)), l.map (·.1.cps.toList) = xss → SV (strValues l) xss
  | [], _, rfl => .nil
  | p :: r, _, rfl => .cons p.1 p.2 _ rfl (SV.ofStrs r _ rfl)
inductive BV : List Value → List (List Nat) → Prop
  | nil : BV [] []
  | cons {vs xss} (x : Array UInt8) (t : Tok) (xs : List Nat) : x.toList.map (·.toNat) = xs → BV vs xss → BV (.bytes x t :: vs) (xs :: xss)
theorem BV.length {vs xss} (h : BV vs xss) : vs.length = xss.length := by
  induction h with
  | nil => rfl
  | cons x t xs e h ih => simp [ih]
theorem BV.snoc {vs xss} (h : BV vs xss) {x : Array UInt8} {t : Tok} {xs : List Nat} (e : x.toList.map (·.toNat) = xs) : BV (vs ++ [.bytes x t]) (xss ++ [xs]) := by
  induction h with
  | nil => exact .cons x t xs e .nil
  | cons x' t' xs' e' h ih => exact .cons x' t' xs' e' ih
theorem BV.get {vs xss} (h : BV vs xss) : ∀ i, i < xss.length → ∃ x t, vs[i]? = some (.bytes x t) ∧ x.toList.map (·.toNat) = xss.getD i [] := by
  induction h with
  | nil => intro i hi; simp at hi
  | cons x t xs e h ih =>
    intro i hi
    cases i with
    | zero => exact ⟨x, t, rfl, e⟩
    | succ i => exact ih i (by simpa using hi)
theorem BV.set {vs xss} (h : BV vs xss) {x : Array UInt8} {t : Tok} {xs : List Nat} (e : x.toList.map (·.toNat) = xs) : ∀ i, BV (vs.set i (.bytes x t)) (xss.set i xs) := by
  induction h with
  | nil => intro i; exact .nil
  | cons x' t' xs' e' h ih =>
    intro i
    cases i with
    | zero => exact .cons x t xs e h
    | succ i => exact .cons x' t' xs' e' (ih i)
theorem BV.texts {vs xss} (h : BV vs xss) : ∃ ps, vs = bV ps ∧ ((ps.map (·.1.toList)).flatten).map (·.toNat) = xss.flatten := by
  induction h with
  | nil => exact ⟨[], rfl, rfl⟩
  | cons x t xs e h ih =>
    obtain ⟨ps, rfl, h2⟩ := ih
    exact ⟨(x, t) :: ps, rfl, by rw [List.map_cons, List.flatten_cons, List.map_append, h2, e]; rfl⟩
section
variable {prog : Program} {w : World} {A : Around} {E : Value → Shared → Prop} {s b : Shared} {h : Heap} {tk : Nat} {env : Env} {h₀ : Heap} {L : Addr} {V V' : Vs} {O O' : Os}
theorem fold_repV (c : List Value) : ∀ (n : Nat) (acc : Array Value), ((List.replicate n c.toArray).foldl (· ++ ·) acc).toList = acc.toList ++ (List.replicate n c).flatten
  | 0, acc => by simp
  | n + 1, acc => by rw [List.replicate_succ, List.foldl_cons, fold_repV c n, List.replicate_succ]; simp
theorem k_mulL {l : Addr} {v : Value} {k : Nat} {x : Int} {u : Tok} {Q : Value → Shared → Prop} (D : Sd h₀ L V O h) (hm : (l, lstO [v] k) ∈ O) (hlo : 0 ≤ x) (hhi : x ≤ 100000)
    (hQ : ∀ a h' tk', Sd h₀ L V ((a, lstO (List.replicate x.toNat v) 0) :: O) h' → Q (.ref a) (St b h' tk')) : wpAny (model prog w) A (binaryOp .Mult (.ref l) (.int x u)) Q E (St b h tk) := by
  have hl : (St b h tk).heap.get? l = some { cls := .type "list", dict := none, data := .seq [v].toArray k, slots := #[] } := D.get hm
  refine wpAny_binaryOp_repeat_ref (T := "list") (U := "int") (by decide) ⟨_, hl, rfl⟩ (fun s' => typeIs_int s' x u) noFill_list_mul F.fills_int_mul F.slot_int_rmul repeat_list F.slot_int_index.lookup
    (call_meets F.slot_int_rmul (typeIs_int _ x u) F.entry_int_rmul (F.args_int_rmul_2 _ _) (int___rmul___int_list x u l _ k)
      ⟨hl, rfl, ⟨_, hl, rfl⟩, call_meets F.slot_list_mul ⟨_, hl, rfl⟩ F.entry_list_mul (F.args_list_mul_2 _ _)
        (AutoListH.list___mul___list_int_3 l _ k x u (by simp [Builtin.List.listFitsIndex]; omega) (by simp; omega) (by simp [Builtin.List.listTooLong, sizeLine]; omega))
        ⟨hl, hQ _ _ tk ?_⟩⟩)
  have := D.push { cls := .type "list", data := .seq (List.foldl (fun x1 x2 => x1 ++ x2) #[] (List.replicate (if ([v].toArray).isEmpty = true then 0 else x.toNat) [v].toArray)) }
  have e : (List.foldl (fun x1 x2 => x1 ++ x2) #[] (List.replicate (if ([v].toArray).isEmpty = true then 0 else x.toNat) [v].toArray)) = (List.replicate x.toNat v).toArray := by
    apply Array.ext'
    rw [show (if ([v].toArray).isEmpty = true then 0 else x.toNat) = x.toNat from rfl, fold_repV [v] x.toNat #[]]
    simp
  show Sd h₀ L V ((h.objs.size, lstO (List.replicate x.toNat v) 0) :: O) (h.push { cls := .type "list", data := .seq (List.foldl (fun x1 x2 => x1 ++ x2) #[] (List.replicate (if ([v].toArray).isEmpty = true then 0 else x.toNat) [v].toArray)) })
  rw [e] at this ⊢
  exact this
theorem k_modI {x y : Int} {t u : Tok} {Q : Value → Shared → Prop} (hy : y ≠ 0) (hQ : ∀ t tk', Q (.int (x.fmod y) t) (St b h tk')) : wpAny (model prog w) A (binaryOp .Mod (.int x t) (.int y u)) Q E (St b h tk) := mod_int' hy (hQ _ _)
theorem k_divI {x y : Int} {t u : Tok} {Q : Value → Shared → Prop} (hy : y ≠ 0) (h1 : x.natAbs < 2 ^ 30) (h2 : y.natAbs < 2 ^ 30) (hQ : ∀ t tk', Q (.int (x.fdiv y) t) (St b h tk')) : wpAny (model prog w) A (binaryOp .FloorDiv (.int x t) (.int y u)) Q E (St b h tk) :=
  floordiv_int hy (hQ _ _) (.inl (PyProof.noPylong_small (by omega)))
theorem k_mulI {x y : Int} {t u : Tok} {Q : Value → Shared → Prop} (hm : IntMulOk x y) (hQ : ∀ t tk', Q (.int (x * y) t) (St b h tk')) : wpAny (model prog w) A (binaryOp .Mult (.int x t) (.int y u)) Q E (St b h tk) := P.mul_int (hQ _ _) hm
theorem k_tup {vs : List Value} {Q : Value → Shared → Prop} (D : Sd h₀ L V O h) (hQ : ∀ a h' tk', Sd h₀ L V ((a, tupO vs) :: O) h' → Q (.ref a) (St b h' tk')) (hsz : vs.length ≤ sizeLine := by first | decide | (rw [sizeLine_eq]; simp)) : wpAny (model prog w) A (newTuple vs) Q E (St b h tk) :=
  wpAny_newTuple (hQ _ _ _ (D.push (tupO vs))) hsz
theorem k_popL {l : Addr} {vs : List Value} {y : Value} {k : Nat} {Q : Value → Shared → Prop} (D : Sd h₀ L V O h) (u : Upd1 l (lstO (vs ++ [y]) k) (lstO vs (k + 1)) O O') (hsz : vs.length + 1 ≤ sizeLine)
    (hQ : ∀ h' tk', Sd h₀ L V O' h' → Q y (St b h' tk')) : wpAny (model prog w) A (call (.builtin "list.pop") [.ref l]) Q E (St b h tk) := by
  have hl : (St b h tk).heap.get? l = some (lstO (vs ++ [y]) k) := D.get u.mem
  have e0 : (vs ++ [y]).toArray.size - 1 = vs.length := by simp
  refine call_meets F.slot_list_pop ⟨_, hl, rfl⟩ F.entry_list_pop (F.args_list_pop_1 _) (MeetsSeq.list_pop_last l _ k y (by rw [e0]; simp) (by simpa using hsz)) ⟨hl, hQ _ _ ?_⟩
  refine D.upd u (Heap.SameBut.update ..).extBut ?_
  have e1 : Obj.mapSeq (fun xs => xs.eraseIdxIfInBounds ((vs ++ [y]).toArray.size - 1)) (lstO (vs ++ [y]) k) = lstO vs (k + 1) := by
    rw [e0]
    have : (vs ++ [y]).toArray.eraseIdxIfInBounds vs.length = vs.toArray := by
      unfold Array.eraseIdxIfInBounds
      rw [dif_pos (by simp)]
      apply Array.ext'
      simp only [List.eraseIdx_toArray, List.toList_toArray]
      rw [List.eraseIdx_append_of_length_le (Nat.le_refl _)]
      simp
    simp [Obj.mapSeq, lstO, this]
  have := Heap.get?_update_self (Obj.mapSeq fun xs => xs.eraseIdxIfInBounds ((vs ++ [y]).toArray.size - 1)) hl (by rw [e1]; rfl)
  rw [e1] at this
  exact this
theorem k_strI {i : Int} {t : Tok} {Q : Value → Shared → Prop} (hi : i.natAbs < 2 ^ 64) (hQ : ∀ t tk', Q (.str (toString i) t) (St b h tk')) : wpAny (model prog w) A (call (.type "str") [.int i t]) Q E (St b h tk) :=
  P.str_of_int (by
    by_cases h0 : i.natAbs = 0
    · rw [h0]; decide
    · have := (Nat.log2_lt h0 (k := 64)).mpr hi
      omega) (hQ _ _)
theorem k_sumG {l : Addr} {vs : List Value} {ns : List Int} {k : Nat} {Q : Value → Shared → Prop} (hh : A.handled = none) (D : Sd h₀ L V O h) (hm : (l, lstO vs k) ∈ O) (hi : IntsAre vs ns)
    (hQ : ∀ t h' tk', Sd h₀ L V O h' → Q (.int ns.sum t) (St b h' tk')) : wpAny (model prog w) A (call (.builtin "sum") [.ref l]) Q E (St b h tk) := by
  obtain ⟨xs, hxs⟩ := hi.allInts.items
  have hn : xs.toList.map (·.1) = ns := by
    have := hi.numsOf
    rw [← nums_intItems, ← hxs]; exact this
  have hl : (St b h tk).heap.IsList l (intItems xs) := hxs ▸ ⟨_, D.get hm, rfl, _, rfl⟩
  refine sum_intListG hh hl fun h' tk t' hk => ?_
  rw [preSum_eq, hn, List.take_of_length_le (by rw [← hn]; simp)]
  exact hQ t' h' tk (D.keeps hk)
end
end Mine
end
/-! text B17 -/
section
open PySem PySem.W PyProof.Rows PySem.Calls
set_option Elab.async false
set_option linter.unusedVariables false
set_option maxRecDepth 100000
namespace Mine
open PySem.Builtin PySem.Builtin.Str
noncomputable def splitL (c : Nat) : List Nat → List (List Nat)
  | [] => [[]]
  | x :: r => if x == c then [] :: splitL c r else match splitL c r with
    | [] => [[x]]
    | p :: ps => (x :: p) :: ps
noncomputable def stripL (c : Nat) : List Nat → List Nat
  | [] => []
  | x :: r => if x == c then stripL c r else x :: r
theorem splitL_free (c : Nat) : ∀ (p : List Nat), c ∉ p → splitL c p = [p]
  | [], _ => rfl
  | x :: r, h => by
    have hx : (x == c) = false := by rw [beq_eq_false_iff_ne]; intro e; exact h (e ▸ List.mem_cons_self)
    unfold splitL
    rw [hx, if_neg (by simp), splitL_free c r (fun hm => h (List.mem_cons_of_mem _ hm))]
theorem splitL_app (c : Nat) (rest : List Nat) : ∀ (p : List Nat), c ∉ p → splitL c (p ++ c :: rest) = p :: splitL c rest
  | [], _ => by show (if c == c then [] :: splitL c rest else _) = _; rw [beq_self_eq_true, if_pos rfl]
  | x :: r, h => by
    have hx : (x == c) = false := by rw [beq_eq_false_iff_ne]; intro e; exact h (e ▸ List.mem_cons_self)
    show splitL c (x :: (r ++ c :: rest)) = _
    conv => lhs; unfold splitL
    rw [hx, if_neg (by simp), splitL_app c rest r (fun hm => h (List.mem_cons_of_mem _ hm))]
theorem join_toList (sep : Str) : ∀ (ps : List Str) (x : Str), (Str.join sep (x :: ps)).cps.toList = x.cps.toList ++ (ps.map fun p => sep.cps.toList ++ p.cps.toList).flatten
  | [], x => by show x.cps.toList = _; simp
  | y :: r, x => by
    show (x ++ sep ++ Str.join sep (y :: r)).cps.toList = _
    have e : (x ++ sep ++ Str.join sep (y :: r)).cps.toList = x.cps.toList ++ sep.cps.toList ++ (Str.join sep (y :: r)).cps.toList := by
      show ((x.cps ++ sep.cps) ++ (Str.join sep (y :: r)).cps).toList = _
      simp
    rw [e, join_toList sep r y]
    simp
theorem splitL_join (c : Nat) : ∀ (ps : List Str) (x : Str), c ∉ x.cps.toList → (∀ p ∈ ps, c ∉ p.cps.toList) → splitL c (Str.join ⟨#[c]⟩ (x :: ps)).cps.toList = (x :: ps).map (·.cps.toList)
  | [], x, hx, _ => by rw [join_toList]; simp; exact splitL_free c _ hx
  | y :: r, x, hx, h => by
    have ih := splitL_join c r y (h y List.mem_cons_self) fun p hp => h p (List.mem_cons_of_mem _ hp)
    have e : (Str.join ⟨#[c]⟩ (x :: y :: r)).cps.toList = x.cps.toList ++ c :: (Str.join ⟨#[c]⟩ (y :: r)).cps.toList := by
      rw [join_toList, join_toList]; simp
    rw [e, splitL_app c _ _ hx, ih]; rfl
theorem split_ne (x y : Str) : Txt.split x y ≠ [] := by
  unfold Txt.split
  split
  · simp
  · split
    · simp
    · intro hc
      have := congrArg List.length hc
      unfold partsBetween at this
      simp at this
theorem split_is (x : Str) (c : Nat) : (Txt.split x ⟨#[c]⟩).map (·.cps.toList) = splitL c x.cps.toList := by
  have h1 := StrLaws.join_split x ⟨#[c]⟩
  have h2 := StrLaws.split_free x c
  have h3 := split_ne x ⟨#[c]⟩
  cases hs : Txt.split x ⟨#[c]⟩ with
  | nil => exact absurd hs h3
  | cons p ps =>
    rw [hs] at h1 h2
    rw [← splitL_join c ps p (h2 p List.mem_cons_self) (fun q hq => h2 q (List.mem_cons_of_mem _ hq)), h1]
section
variable {prog : Program} {w : World} {A : Around} {E : Value → Shared → Prop} {s b : Shared} {h : Heap} {tk : Nat} {env : Env} {h₀ : Heap} {L : Addr} {V V' : Vs} {O O' : Os}
theorem k_split {x y : Str} {t u : Tok} {Q : Value → Shared → Prop} (D : Sd h₀ L V O h) (hy : (y.length == 0) = false) (hsz : x.length ≤ sizeLine) (hsz2 : (Txt.split x y).length ≤ sizeLine)
    (hQ : ∀ a l h' tk', l.map (·.1) = Txt.split x y → Sd h₀ L V ((a, lstO (strValues l) 0) :: O) h' → Q (.ref a) (St b h' tk')) :
    wpAny (model prog w) A (call (.builtin "str.split") [.str x t, .str y u]) Q E (St b h tk) := by
  have fin : ∀ (l : List (Str × Tok)) (k : Nat), l.map (·.1) = Txt.split x y → Q (.ref h.objs.size) (St b (h.push { cls := .type "list", data := .seq (strValues l).toArray }) k) := fun l k hl =>
    hQ _ l _ _ hl (D.push { cls := .type "list", data := .seq (strValues l).toArray })
  cases h1 : (decide (x.length < y.length) || decide (strKind x < strKind y))
  · cases hf : (occurrences x y 0 x.length (x.length + 1)).isEmpty
    · have e0 : Txt.split x y = partsBetween x (occurrences x y 0 x.length (x.length + 1)) y.length := by unfold Txt.split; rw [if_neg (by rw [h1]; simp), if_neg (by rw [hf]; simp)]
      refine call_meets F.slot_str_split (typeIs_str _ _ _) F.entry_str_split (F.args_str_split_2 _ _) (meets_str_split_sep x y t u h1 hy hf hsz (by rw [← e0]; exact hsz2)) ?_
      show wants Q E _ { St b h tk with toks := _, heap := h.push { cls := .type "list", data := .seq (strsFrom tk (partsBetween x (occurrences x y 0 x.length (x.length + 1)) y.length)).toArray } }
      rw [strsFrom_eq]
      exact fin _ _ ((numbered_texts _ _).trans e0.symm)
    · exact call_meets F.slot_str_split (typeIs_str _ _ _) F.entry_str_split (F.args_str_split_2 _ _) (meets_str_split_not_found x y t u h1 hy hf)
        (fin [(x, t)] tk ((if_neg (ne_true_of_eq_false h1)).trans (if_pos hf)).symm)
  · exact call_meets F.slot_str_split (typeIs_str _ _ _) F.entry_str_split (F.args_str_split_2 _ _) (meets_str_split_cannot_occur x y t u h1)
      (fin [(x, t)] tk (if_pos h1).symm)
theorem entryA {c : UInt8} {cs : List UInt8} {t t1 : Tok} : «bytes.decode» ⟨[.bytes (c :: cs).toArray t, .str (PySem.Str.ofString "ascii") t1], []⟩ = (mkStr (PySem.Str.ofString "utf-8") >>= fun _ => mkStr (PySem.Str.ofString "ascii") >>= fun e => mkStr (PySem.Str.ofString "bytes.decode") >>= fun d =>
    call (.builtin "_codecs.decode.text") [.bytes (c :: cs).toArray t, e, .none, d] >>= fun v => ret v) := by kernel_rfl
theorem argsA (a b : Value) : argsOk "bytes.decode" ⟨[a, b], []⟩ := by unfold argsOk; kernel_rfl
theorem roadA {id : String} {x : Array UInt8} : _codecs.decodeRoad id x (PySem.Str.ofString "ascii") none [] = (_codecs.runDecoder id _codecs.asciiDecoder none true x 0 [] >>= fun r => mkStr ⟨r.1⟩) := by kernel_rfl
theorem run_ascii {M : Model} {id : String} {x : Array UInt8} {Q : Array Nat × Nat → Shared → Prop} (hx : ∀ c ∈ x.toList, c.toNat < 128) (hsz : x.size ≤ 1000000) (hQ : Q ((x.toList.map (·.toNat)).toArray, x.size) s) :
    wpAny M A (_codecs.runDecoder id _codecs.asciiDecoder none true x 0 []) Q E s := by
  unfold _codecs.runDecoder
  dsimp only
  rw [Std.Legacy.Range.forIn_eq_forIn_range']
  refine wpAny_bind ?_
  refine wpAny_forIn_list _ (fun rest st s' => s' = s ∧ ∃ k, k ≤ x.size ∧ rest.length = x.size - k ∧ st = (k, ((x.toList.take k).map (·.toNat)).toArray, ({} : _codecs.Faults))) _ (fun i rest st s' hs => ?_) (fun st s' hs => ?_) _ _ ⟨rfl, 0, Nat.zero_le _, ?_, rfl⟩
  · obtain ⟨rfl, k, hk, hr, rfl⟩ := hs
    have hkl : k < x.size := by rw [List.length_cons] at hr; omega
    dsimp only
    refine wpAny_ite (if_neg (show ¬ (((x.toList.take k).map (·.toNat)).toArray).size > sizeLine by rw [sizeLine_eq]; simp; omega) ▸ ?_)
    refine wpAny_ite (if_neg (show ¬ k ≥ x.size by omega) ▸ ?_)
    have hc : (x.getD k 0).toNat < 128 := by
      have e : x.getD k 0 = x.toList[k]'(by simpa using hkl) := by simp [Array.getD, hkl]
      rw [e]; exact hx _ (List.getElem_mem _)
    have hf : _codecs.asciiDecoder.find true x k = .text [(x.getD k 0).toNat] (k + 1) := by
      show (if (x.getD k 0).toNat < 128 then _codecs.Found.char (x.getD k 0).toNat (k + 1) else _) = _
      rw [if_pos hc]; rfl
    rw [hf]
    refine wpAny_pure ⟨rfl, k + 1, hkl, by rw [List.length_cons] at hr; omega, ?_⟩
    rw [List.take_add_one, List.getElem?_eq_getElem (by simpa using hkl)]
    have e : x.getD k 0 = x.toList[k]'(by simpa using hkl) := by simp [Array.getD, hkl]
    rw [e]
    simp
  · obtain ⟨rfl, k, hk, hr, rfl⟩ := hs
    have hkl : k = x.size := by rw [List.length_nil] at hr; omega
    subst hkl
    refine wpAny_pure ?_
    rw [List.take_of_length_le (by simp)]
    exact hQ
  · rw [List.length_range']
    show (x.size - 0 + 1 - 1) / 1 = _
    simp
theorem meetsA {x : Array UInt8} {t t1 t2 : Tok} {d : PySem.Str} (hx : ∀ c ∈ x.toList, c.toNat < 128) (hsz : x.size ≤ 1000000) :
    Meets («_codecs.decode.text» ⟨[.bytes x t, .str (PySem.Str.ofString "ascii") t1, .none, .str d t2], []⟩) (fun _ R s => R (.ok (.ret (.str ⟨(x.toList.map (·.toNat)).toArray⟩ s.toks))) { s with toks := s.toks + 1 }) := by
  refine .of_wp fun prog w A R s h => ?_
  show wpAny _ _ (Bytes.bytesLike _ (.bytes x t) >>= fun r => _) _ _ s
  refine wpAny_bind (wpAny_of_eq KBd.like_eq ?_)
  refine wpAny_bind (wpAny_of_eq KBd.held_eq ?_)
  show wpAny _ _ (_codecs.decodeRoad _ x (PySem.Str.ofString "ascii") none [] >>= fun v => _) _ _ s
  rw [roadA]
  refine wpAny_bind (wpAny_bind (run_ascii hx hsz ?_))
  exact wpAny_mkStr (wpAny_pure ⟨_, rfl, h⟩) (by rw [sizeLine_eq]; show ((x.toList.map (·.toNat)).toArray).size ≤ _; simp; omega)
theorem k_decode {x : Array UInt8} {t u : Tok} {Q : Value → Shared → Prop} (hne : 0 < x.size) (hx : ∀ c ∈ x.toList, c.toNat < 128) (hsz : x.size ≤ 1000000) (hQ : ∀ t tk', Q (.str ⟨(x.toList.map (·.toNat)).toArray⟩ t) (St b h tk')) :
    wpAny (model prog w) A (call (.builtin "bytes.decode") [.bytes x t, .str (PySem.Str.ofString "ascii") u]) Q E (St b h tk) := by
  obtain ⟨c, cs, rfl⟩ : ∃ c cs, x = (c :: cs).toArray := by
    cases hl : x.toList with
    | nil => have := congrArg List.length hl; rw [Array.length_toList] at this; rw [this] at hne; exact absurd hne (by decide)
    | cons c cs => exact ⟨c, cs, by rw [← hl]⟩
  have hm : Meets («bytes.decode» ⟨[.bytes (c :: cs).toArray t, .str (PySem.Str.ofString "ascii") u], []⟩) (fun _ R s => ∀ t' k, R (.ok (.ret (.str ⟨((c :: cs).toArray.toList.map (·.toNat)).toArray⟩ t'))) { s with toks := k }) := by
    refine .of_wp fun prog w A R s h => ?_
    rw [entryA]
    refine wpAny_bind (wpAny_mkStr ?_ (by decide))
    refine wpAny_bind (wpAny_mkStr ?_ (by decide))
    refine wpAny_bind (wpAny_mkStr ?_ (by decide))
    exact wpAny_bind (call_function_meets KBd.kind_text KBd.plain_text KBd.entry_text (KBd.args_text _ _ _ _) (meetsA hx hsz) (wpAny_pure ⟨_, rfl, h _ _⟩))
  exact call_meets FB.slot_bytes_decode (typeIs_bytes _ _ _) FB.entry_bytes_decode (argsA _ _) hm (fun t' k => hQ t' k)
theorem stripBy_is (x : Str) (c : Nat) : (Txt.lstripChars x ⟨#[c]⟩).cps.toList = stripL c x.cps.toList := by
  show (Txt.stripBy (⟨#[c]⟩ : Str).cps.contains true false x).cps.toList = _
  have hg : ∀ y, (#[c] : Array Nat).contains y = (y == c) := by
    intro y
    rw [Bool.eq_iff_iff]
    simp
  rw [PyProof.Rows.stripBy_eq, StrLaws.strSub_toList]
  show (x.cps.toList.drop (x.cps.toList.takeWhile fun y => (#[c] : Array Nat).contains y).length).take (x.length - (x.cps.toList.takeWhile fun y => (#[c] : Array Nat).contains y).length) = _
  have hfun : (fun y => (#[c] : Array Nat).contains y) = fun y => y == c := funext hg
  rw [hfun, List.take_of_length_le (by rw [List.length_drop, Array.length_toList]; exact Nat.le_refl _)]
  have : ∀ l : List Nat, l.drop (l.takeWhile fun y => y == c).length = stripL c l := by
    intro l
    induction l with
    | nil => rfl
    | cons y r ih =>
      unfold stripL
      by_cases hy : (y == c) = true
      · rw [if_pos hy, List.takeWhile_cons, if_pos hy, List.length_cons, List.drop_succ_cons]; exact ih
      · rw [if_neg hy, List.takeWhile_cons, if_neg hy]; rfl
  exact this _
theorem k_lstrip {x y : Str} {t u : Tok} {Q : Value → Shared → Prop} (hsz : x.length ≤ sizeLine) (hQ : ∀ t tk', Q (.str (Txt.lstripChars x y) t) (St b h tk')) : wpAny (model prog w) A (call (.builtin "str.lstrip") [.str x t, .str y u]) Q E (St b h tk) := by
  refine call_gives F.slot_str_lstrip (typeIs_str _ _ _) F.entry_str_lstrip (F.args_str_lstrip_2 _ _) (gives_str_lstrip_chars x y t u) ?_
  have h1 : (Txt.lstripChars x y).length ≤ x.length := len_lstripChars x y
  exact post_val_or_str ⟨Nat.le_trans h1 hsz, fun t' k => hQ t' k⟩
end
end Mine
end
/-! text P3 -/
section
open PySem PySem.Sre PyProof.Rows
set_option Elab.async false
set_option linter.unusedVariables false
namespace Mine
theorem nextGo_first {g : Nat → Option Nat} {P e : Nat} (hP : g P = some e) : ∀ (n s : Nat), s ≤ P → P < s + n → (∀ s', s ≤ s' → s' < P → g s' = none) → nextGo g n s = some (P, e)
  | 0, s, h1, h2, _ => by omega
  | n + 1, s, h1, h2, h => by
    unfold nextGo
    by_cases hs : s = P
    · subst hs; rw [hP]
    · rw [h s (Nat.le_refl _) (by omega)]
      exact nextGo_first hP n (s + 1) (by omega) (by omega) fun s' a b => h s' (by omega) b
theorem dig_eq (t : Array Nat) : ∀ (n p d : Nat), d ≤ n → (∀ c, c < d → isDigit (t.getD (p + c) 0) = true) → (d = n ∨ isDigit (t.getD (p + d) 0) = false) → dig t n p = d
  | 0, p, d, h1, _, _ => by unfold dig; omega
  | n + 1, p, 0, h1, h2, h3 => by
    unfold dig
    rcases h3 with h3 | h3
    · omega
    · rw [Nat.add_zero] at h3; rw [h3]; rfl
  | n + 1, p, d + 1, h1, h2, h3 => by
    unfold dig
    have h0 := h2 0 (by omega)
    rw [Nat.add_zero] at h0
    rw [h0, if_pos rfl, dig_eq t n (p + 1) d (by omega) (fun c hc => by have := h2 (c + 1) (by omega); rwa [show p + (c + 1) = p + 1 + c by omega] at this)
      (by rcases h3 with h3 | h3
          · left; omega
          · right; rwa [show p + (d + 1) = p + 1 + d by omega] at h3)]
theorem gV_before {t : Array Nat} {lim P s : Nat} (h46 : t.getD P 0 = 46) (hP : P < lim) (hs : s < P) : gV t lim s = none := by
  unfold gV
  rw [if_neg]
  intro hc
  simp only [Bool.and_eq_true, decide_eq_true_eq, beq_iff_eq] at hc
  obtain ⟨⟨⟨c1, c2⟩, c3⟩, c4⟩ := hc
  have hi := dig_is t (lim - (s + 1)) (s + 1)
  have hl := dig_le t (lim - (s + 1)) (s + 1)
  generalize dig t (lim - (s + 1)) (s + 1) = d at c3 c4 hi hl
  unfold atEnd at c4
  rw [Bool.or_eq_true, Bool.and_eq_true, beq_iff_eq, beq_iff_eq, beq_iff_eq] at c4
  by_cases hPd : P < s + 1 + d
  · have := hi (P - (s + 1)) (by omega)
    rw [show s + 1 + (P - (s + 1)) = P by omega, h46] at this
    exact absurd this (by decide)
  · rcases c4 with c4 | c4
    · omega
    · have : P = s + 1 + d := by omega
      rw [← this, h46] at c4
      exact absurd c4.2 (by decide)
/-- a name of the addresses: a dot and digits at its end, maybe a line feed behind -/
theorem host_search (p ds tail : List Nat) (hd : ds ≠ []) (hall : ∀ c ∈ ds, isDigit c = true) (ht : tail = [] ∨ tail = [10]) (x : Array Nat) (hx : x.toList = p ++ 46 :: ds ++ tail) :
    nextGo (gV x x.size) (x.size + 1) 0 = some (p.length, p.length + 1 + ds.length) := by
  have hsz : x.size = p.length + 1 + ds.length + tail.length := by rw [← Array.length_toList, hx]; simp; omega
  have hget : ∀ i, x.getD i 0 = (p ++ 46 :: ds ++ tail).getD i 0 := by
    intro i
    rw [← hx, List.getD_eq_getElem?_getD, Array.getElem?_toList, Array.getD_eq_getD_getElem?]
  have h46 : x.getD p.length 0 = 46 := by rw [hget]; simp [List.getD_eq_getElem?_getD]
  have hdl : 0 < ds.length := List.length_pos_iff.mpr hd
  have hds : ∀ c, c < ds.length → isDigit (x.getD (p.length + 1 + c) 0) = true := by
    intro c hc
    have : x.getD (p.length + 1 + c) 0 = ds[c] := by
      rw [hget, List.getD_eq_getElem?_getD, List.append_assoc, List.getElem?_append_right (by omega), show p.length + 1 + c - p.length = c + 1 by omega]
      show ((ds ++ tail)[c]?).getD 0 = ds[c]
      rw [List.getElem?_append_left hc, List.getElem?_eq_getElem hc]; rfl
    rw [this]; exact hall _ (List.getElem_mem _)
  have htail : tail = [10] → x.getD (p.length + 1 + ds.length) 0 = 10 := by
    intro h; subst h
    rw [hget, List.getD_eq_getElem?_getD, List.getElem?_append_right (by simp; omega)]
    simp
    have : p.length + 1 + ds.length - (p.length + (ds.length + 1)) = 0 := by omega
    rw [this]; rfl
  have hdig : dig x (x.size - (p.length + 1)) (p.length + 1) = ds.length := by
    refine dig_eq x _ _ _ (by omega) hds ?_
    rcases ht with ht | ht
    · left; rw [ht] at hsz; simp at hsz; omega
    · right; rw [htail ht]; decide
  have hg : gV x x.size p.length = some (p.length + 1 + ds.length) := by
    unfold gV
    rw [hdig, if_pos]
    simp only [Bool.and_eq_true, decide_eq_true_eq, beq_iff_eq]
    refine ⟨⟨⟨by omega, h46⟩, hdl⟩, ?_⟩
    unfold atEnd
    rw [Bool.or_eq_true, Bool.and_eq_true, beq_iff_eq, beq_iff_eq, beq_iff_eq]
    rcases ht with ht | ht
    · left; rw [ht] at hsz; simp at hsz; omega
    · right; exact ⟨by rw [ht] at hsz; simp at hsz; omega, htail ht⟩
  exact nextGo_first hg _ 0 (Nat.zero_le _) (by omega) fun s' _ hs' => gV_before h46 (by omega) hs'
noncomputable def digs (n : Int) : List Nat := (Str.ofString (toString n)).cps.toList
theorem digs_nat (m : Nat) : digs (m : Int) = (Nat.toDigits 10 m).map Char.toNat := by
  unfold digs
  rw [signs_ofString]
  show (toString m).toList.map Char.toNat = _
  rw [Nat.toString_eq_repr, Nat.repr_eq_ofList_toDigits, String.toList_ofList]
theorem digs_ok (m : Nat) : digs (m : Int) ≠ [] ∧ ∀ c ∈ digs (m : Int), isDigit c = true := by
  rw [digs_nat]
  constructor
  · intro h
    exact Nat.toDigits_ne_nil (List.map_eq_nil_iff.mp h)
  · intro c hc
    obtain ⟨d, hd, rfl⟩ := List.mem_map.mp hc
    have h := Nat.isDigit_of_mem_toDigits (by decide) (by decide) hd
    unfold Char.isDigit at h
    unfold isDigit
    rw [Bool.and_eq_true, decide_eq_true_eq, decide_eq_true_eq] at h ⊢
    exact ⟨h.1, h.2⟩
theorem digs_len (m : Nat) (h : m < 10 ^ 10) : (digs (m : Int)).length ≤ 10 := by
  rw [digs_nat, List.length_map]
  exact (Nat.length_toDigits_le_iff (by decide) (by decide)).mpr h
end Mine
end
section
open PySem PySem.W PyProof.Rows PySem.Calls PySem.Challenge
set_option linter.unusedVariables false
set_option maxRecDepth 100000
namespace Mine
local macro_rules | `(tactic| walk_at "mem") => `(tactic| first | exact List.Mem.head _ | (apply List.Mem.tail; walk_at "mem") | assumption | (apply List.mem_append_left; walk_at "mem") | (apply List.mem_append_right; walk_at "mem"))
local macro_rules | `(tactic| walk_at "upd") => `(tactic| first | exact Upd1.head _ | (apply Upd1.tail; walk_at "upd") | exact Upd1.append (by assumption) _ | (apply Upd1.pre; walk_at "upd"))
local macro_rules | `(tactic| walk_at "sub") => `(tactic| first | exact List.Sublist.refl _ | (apply List.Sublist.cons_cons; walk_at "sub") | (apply List.Sublist.cons; walk_at "sub") | (refine List.Sublist.trans ?_ (List.sublist_append_right _ _); walk_at "sub"))
local macro_rules | `(tactic| walk_at "env") => `(tactic| first | assumption | exact EnvIs.comp (by walk_at "env") _ _)
local macro_rules | `(tactic| walk_at "nm") => `(tactic| ((with_reducible show wpAny _ _ (eval (Expr.Name _ _) _) _ _ _); first
  | refine vL (by assumption) (by walk_at "env") (by walk_at "mem") (by rfl) ?_
  | refine vC (by assumption) (by walk_at "env") (by rfl) (by rfl) (by walk_at "mem") ?_
  | refine vB (by assumption) (by walk_at "env") (by assumption) (by rfl) (by assumption) ?_
  | refine vG (by assumption) (by walk_at "env") (by assumption) (by rfl) (by assumption) ?_))
local macro_rules | `(tactic| walk_at "st") => `(tactic| first
  | walk_at "nm"
  | ((with_reducible show wpAny _ _ (eval (Expr.Constant (Const.int _) _ _) _) _ _ _); refine k_int ?_; intro _ _)
  | ((with_reducible show wpAny _ _ (eval (Expr.Constant (Const.str _) _ _) _) _ _ _); refine k_str ?_; intro _ _)
  | ((with_reducible show wpAny _ _ (eval (Expr.BinOp _ _ _ _) _) _ _ _); refine b_bin ?_)
  | ((with_reducible show wpAny _ _ (binaryOp Operator.Add (Value.int _ _) (Value.int _ _)) _ _ _); refine k_add ?_; intro _ _)
  | ((with_reducible show wpAny _ _ (binaryOp Operator.BitAnd (Value.int _ _) (Value.int _ _)) _ _ _); refine k_band ?_; intro _ _)
  | ((with_reducible show wpAny _ _ (isTrue (Expr.BinOp _ _ _ _) _ _) _ _ _); refine t_bin ?_)
  | ((with_reducible show wpAny _ _ (truthy (Value.int _ _)) _ _ _); refine tr_int ?_)
  | ((with_reducible show wpAny _ _ (truthy (Value.bool _)) _ _ _); refine tr_bool ?_)
  | ((with_reducible show wpAny _ _ (binaryOp Operator.Sub (Value.int _ _) (Value.int _ _)) _ _ _); refine k_sub ?_; intro _ _)
  | ((with_reducible show wpAny _ _ (eval (Expr.Subscript _ _ _) _) _ _ _); refine s_sub ?_)
  | ((with_reducible show wpAny _ _ (eval (Expr.Slice _ _ _ _) _) _ _ _); refine k_Slice ?_)
  | ((with_reducible show wpAny _ _ (evalPart none _) _ _ _); refine k_noPart ?_)
  | ((with_reducible show wpAny _ _ (evalPart (some _) _) _ _ _); refine k_part ?_)
  | ((with_reducible show wpAny _ _ (eval (Expr.UnaryOp UnaryOp.USub (Expr.Constant (Const.int _) _ _) _) _) _ _ _); refine k_negc ?_; intro _ _)
  | ((with_reducible show wpAny _ _ (eval (Expr.List _ _) _) _ _ _); refine d_list ?_)
  | ((with_reducible show wpAny _ _ (eval (Expr.Tuple _ _ _) _) _ _ _); refine Tuple_ ?_)
  | ((with_reducible show wpAny _ _ (isTrue (Expr.Compare _ _ _ _) _ _) _ _ _); refine t_cmp ?_)
  | ((with_reducible show wpAny _ _ (eval (Expr.Call (Expr.Name _ _) _ _ _) _) _ _ _); refine c_call ?_)
  | ((with_reducible show wpAny _ _ (callWith _ (Value.type _) _ _ _) _ _ _); refine c_T ?_)
  | ((with_reducible show wpAny _ _ (callWith _ (Value.builtin _) [] _ _) _ _ _); refine c_B ?_)
  | ((with_reducible show wpAny _ _ (spliced (backTo _ (starEach (_ :: _) _))) _ _ _); refine a_cons ?_)
  | ((with_reducible show wpAny _ _ (spliced (backTo _ (starEach [] _))) _ _ _); refine a_nil ?_))
/-! text F12 -/
section

noncomputable def childrenS (above : List Int) : List (List Int) := (List.range above.length).map fun (v : Nat) => ((List.range (above.length - 1)).filter fun (i : Nat) => above.getD (i + 1) 0 == (v : Int)).map fun i => ((i + 1 : Nat) : Int)

variable {w : World} {A : Around} {E : Value → Shared → Prop} {b : Shared} {h : Heap} {tk : Nat} {h₀ : Heap} {L : Addr} {V : Vs} {O : Os} {mg mb : Str → Option Value}

set_option maxHeartbeats 4000000 in
theorem children_body {env : Env} {Lf : Addr} {oL : Obj} {oc : Addr → Obj} {la : Addr} {vs : List Value} {above : List Int} {k : Nat}
    (hA : Ok 3 A) (e : EnvIs env (scopeOf pw 12) Lf [("above", Lf + 1)]) (W : Wd h₀ mg mb) (hlen : mg "len" = none ∧ mb "len" = some (.builtin "len")) (hrange : mg "range" = none ∧ mb "range" = some (.type "range"))
    (D : Sd h₀ Lf [] ((Lf + 1, cellL (oc (Lf + 1)) (some (.ref la))) :: (L, oL) :: O) h)
    (hm : (la, lstO vs k) ∈ O) (hi : IntsAre vs above) (h1 : 1 ≤ above.length) (hsz : above.length ≤ 1000) :
    wpAny (model pw w) A (execs (bodyOf pw 12) env) (FnS b h₀ Lf L oL (fun v O' => ∃ r ws k' R, v = .ref r ∧ RowsAre ws (childrenS above) R ∧ O' = (r, lstO ws k') :: (R ++ O))) E (St b h tk) := by
  have hh := hA.handled
  have hkE : env.scope.kind = .function := by rw [e.scope]; rfl
  have hvl : vs.length = above.length := hi.length
  have hvs : vs.length ≤ sizeLine := by rw [sizeLine_eq]; omega
  have hds : above.length ≤ sizeLine := by omega
  refine x_ret ?_
  refine e_compC h₀ e (by rfl) (by intros; rfl) (by intros; rfl) (by rfl) (by decide) (by rfl) ?_
  repeat' walk_at "st"
  refine k_len D (by walk_at "mem") hvs fun t tk => ?_
  repeat' walk_at "st"
  refine k_rng1 hh D (by omega) (by omega) fun I oI S h tk D Dv hst => ?_
  refine ⟨_, k_compC (fun i ys O' => ∃ R, RowsAre ys ((childrenS above).take i) R ∧ O' = (R ++ ((Lf + 1, cellL (oc (Lf + 1)) (some (.ref la))) :: (L, oL) :: O) : Os)) D Dv hst (by omega) ⟨[], .nil, rfl⟩ (by intros; simp_all) ?_ ?_⟩
  · rintro C cx oc' v _ ys O₁ B oL' oI k' h tk E' hlt ⟨tv, rfl⟩ hyl ⟨R, hys, rfl⟩ D
    simp only [hvl, Int.toNat_natCast] at hlt
    refine e_comp h₀ (e.comp _ _) (by rfl) (by rfl) ?_
    repeat' walk_at "st"
    refine k_len D (by walk_at "mem") hvs fun t tk => ?_
    repeat' walk_at "st"
    refine k_rng2 hh D (by omega) (by omega) (by omega) fun I' oI' S' h tk D Dv' hst' => ?_
    refine ⟨_, k_comp (fun i ys' O' => IntsAre ys' (((List.range i).filter fun i => above.getD (i + 1) 0 == (v : Int)).map fun i => ((i + 1 : Nat) : Int)) ∧
      O' = ((I, oI) :: (B, lstO ys k') :: (Lf, oL') :: (cx, cellL oc' (some (.int v tv))) :: (R ++ ((Lf + 1, cellL (oc (Lf + 1)) (some (.ref la))) :: (L, oL) :: O)) : Os)) D Dv' hst' (by omega) ⟨.nil, rfl⟩ (by intros; simp_all) ?_ ?_⟩
    · rintro C' i _ ys' O₁ B' oL'' oI'' k'' h tk E'' hlt' ⟨t', rfl⟩ hyl' ⟨hys', rfl⟩ D
      refine tests1 ?_
      repeat' walk_at "st"
      refine itemI_ D (by walk_at "mem") hi (by omega) (by omega) hds fun t => ?_
      repeat' walk_at "st"
      refine c_eq ?_
      have e1 : ((1 : Int) + i).toNat = i + 1 := by omega
      by_cases hk2 : (above.getD (i + 1) 0 == (v : Int)) = true
      · refine iteT (by rw [e1]; exact hk2) ?_
        repeat' walk_at "st"
        refine ElS.intro D ⟨?_, rfl⟩
        simp only [List.range_succ, List.filter_append, List.map_append, List.filter_cons, hk2, if_true, List.filter_nil, List.map_cons, List.map_nil]
        rw [show ((i + 1 : Nat) : Int) = 1 + i by omega]
        exact Mine.IntsAre.snoc hys'
      · refine iteF (by rw [e1]; simpa using hk2) ?_
        refine ElS.intro D ⟨?_, rfl⟩
        rw [Bool.not_eq_true] at hk2
        simp only [List.range_succ, List.filter_append, List.filter_cons, hk2, Bool.false_eq_true, if_false, List.filter_nil, List.append_nil]
        exact hys'
    · rintro B' ys' k₂ O₁ h' tk hyl' ⟨hys', rfl⟩ D
      refine ElS.intro (O' := (B', lstO ys' k₂) :: (R ++ ((Lf + 1, cellL (oc (Lf + 1)) (some (.ref la))) :: (L, oL) :: O))) (D.perm List.perm_middle) ⟨(B', lstO ys' k₂) :: R, ?_, rfl⟩
      rw [List.take_add_one, show (childrenS above)[v]? = some (((List.range (above.length - 1)).filter fun i => above.getD (i + 1) 0 == (v : Int)).map fun i => ((i + 1 : Nat) : Int)) by
        rw [childrenS, List.getElem?_map, List.getElem?_range hlt, Option.map_some]]
      refine .snoc B' hys ?_
      rw [hvl] at hys'
      rw [show ((above.length : Int) - 1).toNat = above.length - 1 by omega] at hys'
      exact hys'
  · rintro B ys k₂ O₁ h' tk hyl ⟨R, hys, rfl⟩ D
    refine FnS.intro ((B, lstO ys k₂) :: R) (D.weak (O' := ((B, lstO ys k₂) :: R) ++ ((L, oL) :: O)) ?_) ⟨B, ys, k₂, R, rfl, ?_, rfl⟩
    · exact List.Sublist.cons_cons _ (List.Sublist.append_left (List.sublist_cons_self _ _) _)
    · rwa [hvl, Int.toNat_natCast, show above.length = (childrenS above).length by simp [childrenS], List.take_length] at hys

theorem children_call {R : Result → Shared → Prop} {f : Addr} {fd : FuncData} {la : Addr} {vs : List Value} {above : List Int} {k : Nat}
    (hA : Ok 4 A) (F : FnIs pw h₀ f 12 fd) (hdf : fd.defaults = .none) (W : Wd h₀ mg mb) (hlen : mg "len" = none ∧ mb "len" = some (.builtin "len")) (hrange : mg "range" = none ∧ mb "range" = some (.type "range"))
    (D : Sd h₀ L V O h) (hm : (la, lstO vs k) ∈ O) (hi : IntsAre vs above) (h1 : 1 ≤ above.length) (hsz : above.length ≤ 1000)
    (ret : ∀ r ws k' Rs h' tk', RowsAre ws (childrenS above) Rs → Sd h₀ L V ((r, lstO ws k') :: (Rs ++ O)) h' → R (.ok (.ret (.ref r))) (St b h' tk')) :
    codeAny (model pw w) A (.call (.ref f) ⟨[.ref la], []⟩) R (St b h tk) := by
  refine k_call (Vf := []) (binds := [("above", .ref la)]) hA F W D (bindArgs_of F.params hdf fun q => by rfl) (by intro b x hx; rw [List.mem_singleton] at hx; subst hx; exact .inr ⟨by rfl, by rfl⟩) (by simp) (by simp) (by intro b; show (["above"] : List Str).Nodup; decide)
    (fun Lf oL oc h tk env A' E' hA' e D' => children_body (k := k) (b := b) (oc := oc) hA' e W hlen hrange D' hm hi h1 hsz) ?_
  rintro v O' h' tk' ⟨r, ws, k', Rs, rfl, hR, rfl⟩ D'
  exact ret r ws k' Rs h' tk' hR D'
end
/-! text F3 -/
section

--BODY
variable {w : World} {A : Around} {E : Value → Shared → Prop} {b : Shared} {h : Heap} {tk : Nat} {h₀ : Heap} {L : Addr} {V : Vs} {O : Os} {mg mb : Str → Option Value}
theorem getMethod_re {p : Addr} {code : Array Nat} {want : Nat} {name : Str} {id : String} {pl : Sem Bool} {s : Shared} {Q : Value × List Value → Shared → Prop} {M : Model} (P : PatIs h₀ p code want) (D : Sd h₀ L V O s.heap)
    (slot : Slot "re.Pattern" name id) (hty : typeOf (.builtin id) = pure (.type "method_descriptor")) (hQ : Q (.builtin id, [.ref p]) s) : wpAny M A (getMethod (.ref p) name pl) Q E s := by
  refine getMethod_builtin (P.typeIs D) pa_rP slot hty (fun a ha => ?_) hQ
  cases ha
  obtain ⟨o, vs, c, oc, items, n, h1, h2, h3, _⟩ := P.ex
  exact ⟨o, D.keep _ _ h1, h3⟩
theorem k_bytes {env : Env} {M : Model} {x : List UInt8} {k : Nat} {pos : Pos} {Q : Value → Shared → Prop} (hQ : ∀ t tk', Q (.bytes x.toArray t) (St b h tk')) : wpAny M A (eval (.Constant (.bytes x) k pos) env) Q E (St b h tk) := Constant_bytes (hQ _ _)
noncomputable def blanks (n : Nat) : List Nat := List.replicate n 32
theorem indent_body {env : Env} {Lf : Addr} {oL : Obj} {p : Addr} {x : Str} {tx tw : Tok} {wd : Nat}
    (hA : Ok 3 A) (e : EnvIs env (scopeOf pw 3) Lf []) (W : Wd h₀ mg mb) (hp : mg "twin_re_1_doctest" = some (.ref p)) (P : PatIs h₀ p cI 0)
    (D : Sd h₀ Lf [("s", some (.str x tx)), ("indent", some (.int wd tw))] ((L, oL) :: O) h)
    (hsz : x.cps.size ≤ 1000000) (h1 : 1 ≤ wd) (h2 : wd ≤ 1000) (hlen : (indentL (blanks wd) true x.cps.toList).length ≤ 16777216) :
    wpAny (model pw w) A (execs (bodyOf pw 3) env) (FnS b h₀ Lf L oL (fun v O' => ∃ t, v = .str ⟨(indentL (blanks wd) true x.cps.toList).toArray⟩ t ∧ O' = O)) E (St b h tk) := by
  refine x_ret ?_
  refine c_M ?_
  repeat' walk_at "st"
  refine getMethod_re P D slot_sub type_sub ?_
  refine c_M1 ?_
  repeat' walk_at "st"
  refine k_mulIS (by omega) (by omega) fun _ _ => ?_
  repeat' walk_at "st"
  rw [Int.toNat_natCast]
  have e1 : (⟨(List.replicate wd 32).toArray⟩ : Str).cps.toList = blanks wd := rfl
  refine k_subI (rp := ⟨(List.replicate wd 32).toArray⟩) D P hsz ?_ (by rw [e1]; exact hlen) fun t' h tk D => ?_
  · rw [List.contains_toArray]
    simp
  · rw [e1]
    exact FnS.intro [] D ⟨t', rfl, rfl⟩
theorem bindsD_of {p : List (Str × Value)} {s : Shared} {fd : FuncData} {P : Arguments} {T : Addr} {o : Obj} {items : Array Value} {n : Nat} {vals : List Value} {k : FuncData → Option (Array Value) → Sem (List (Str × Value))}
    (hp : fd.params = P) (hd : fd.defaults = .ref T) (ho : s.heap.get? T = some o) (hs : o.data = .seq items n)
    (h₁ : ∀ fd : FuncData, fd.params = P → bindArgs fd ⟨vals, []⟩ = seqItems? fd.defaults >>= k fd) (h₂ : k fd (some items) = pure p) : BindsTo s fd ⟨vals, []⟩ p :=
  BindsTo.of_defaults hd ho hs (h₁ fd hp) h₂
theorem quote_body {env : Env} {Lf : Addr} {oL : Obj} {p : Addr} {y : Array UInt8} {ty : Tok}
    (hA : Ok 3 A) (e : EnvIs env (scopeOf pw 10) Lf []) (W : Wd h₀ mg mb) (hp : mg "twin_re_1_smtplib" = some (.ref p)) (P : PatIs h₀ p cQ 1)
    (D : Sd h₀ Lf [("bindata", some (.bytes y ty))] ((L, oL) :: O) h)
    (hsz : (natsB y).size ≤ 1000000) (hlen : (quoteL true (y.toList.map (·.toNat))).length ≤ 16777216) :
    wpAny (model pw w) A (execs (bodyOf pw 10) env) (FnS b h₀ Lf L oL (fun v O' => ∃ z t, v = .bytes z t ∧ z.toList.map (·.toNat) = quoteL true (y.toList.map (·.toNat)) ∧ O' = O)) E (St b h tk) := by
  refine x_ret ?_
  refine c_M ?_
  repeat' walk_at "st"
  refine getMethod_re P D slot_sub type_sub ?_
  refine c_M1 ?_
  repeat' walk_at "st"
  refine k_bytes fun _ _ => ?_
  repeat' walk_at "st"
  exact k_subQ D P hsz (by decide) (by rw [List.contains_toArray]; decide) hlen fun z t' h tk hz D => FnS.intro [] D ⟨z, t', rfl, hz, rfl⟩
theorem quote_call {R : Result → Shared → Prop} {f p : Addr} {fd : FuncData} {y : Array UInt8} {ty : Tok}
    (hA : Ok 4 A) (F : FnIs pw h₀ f 10 fd) (hdf : fd.defaults = .none) (W : Wd h₀ mg mb) (hp : mg "twin_re_1_smtplib" = some (.ref p)) (P : PatIs h₀ p cQ 1)
    (D : Sd h₀ L V O h) (hsz : (natsB y).size ≤ 1000000) (hlen : (quoteL true (y.toList.map (·.toNat))).length ≤ 16777216)
    (ret : ∀ z t h' tk', z.toList.map (·.toNat) = quoteL true (y.toList.map (·.toNat)) → Sd h₀ L V O h' → R (.ok (.ret (.bytes z t))) (St b h' tk')) :
    codeAny (model pw w) A (.call (.ref f) ⟨[.bytes y ty], []⟩) R (St b h tk) := by
  refine k_call (Vf := [("bindata", some (.bytes y ty))]) (vals := [.bytes y ty]) (binds := [("bindata", .bytes y ty)]) hA F W D (bindArgs_of F.params hdf fun q => by rfl) (by intro b x hx; rw [List.mem_singleton] at hx; subst hx; exact .inl (by rfl))
    (by intro q hq; rw [List.mem_singleton] at hq; subst hq; rfl) (by show (["bindata"] : List Str).Nodup; decide) (by intro b; show ([] : List Str).Nodup; decide)
    (fun Lf oL oc h tk env A' E' hA' e D' => quote_body (b := b) hA' e W hp P D' hsz hlen) ?_
  rintro v O' h' tk' ⟨z, t, rfl, hz, rfl⟩ D'
  exact ret z t h' tk' hz D'
theorem indent_call {R : Result → Shared → Prop} {f p T : Addr} {fd : FuncData} {oT : Obj} {items : Array Value} {n : Nat} {x : Str} {tx tw : Tok} {wd : Nat}
    (hA : Ok 4 A) (F : FnIs pw h₀ f 3 fd) (hdf : fd.defaults = .ref T) (hoT : h₀.get? T = some oT) (hdT : oT.data = .seq items n) (hone : items.size = 1) (W : Wd h₀ mg mb) (hp : mg "twin_re_1_doctest" = some (.ref p)) (P : PatIs h₀ p cI 0)
    (D : Sd h₀ L V O h) (hsz : x.cps.size ≤ 1000000) (h1 : 1 ≤ wd) (h2 : wd ≤ 1000) (hlen : (indentL (blanks wd) true x.cps.toList).length ≤ 16777216)
    (ret : ∀ t h' tk', Sd h₀ L V O h' → R (.ok (.ret (.str ⟨(indentL (blanks wd) true x.cps.toList).toArray⟩ t))) (St b h' tk')) :
    codeAny (model pw w) A (.call (.ref f) ⟨[.str x tx, .int wd tw], []⟩) R (St b h tk) := by
  refine k_callD (Vf := [("s", some (.str x tx)), ("indent", some (.int wd tw))]) (vals := [.str x tx, .int wd tw]) (binds := [("s", .str x tx), ("indent", .int wd tw)]) hA F W D ?_ (by intro b y hy; simp only [List.mem_cons, List.not_mem_nil, or_false] at hy; rcases hy with rfl | rfl <;> exact .inl (by rfl))
    (by intro q hq; simp only [List.mem_cons, List.not_mem_nil, or_false] at hq; rcases hq with rfl | rfl <;> rfl) (by show (["s", "indent"] : List Str).Nodup; decide) (by intro b; show ([] : List Str).Nodup; decide)
    (fun Lf oL oc h tk env A' E' hA' e D' => indent_body (b := b) hA' e W hp P D' hsz h1 h2 hlen) ?_
  · have hpar := F.params
    obtain ⟨a1, a2, a3, a4, a5, a6, a7, a8, a9, a10⟩ := fd
    dsimp only at hpar hdf
    subst hpar; subst hdf
    obtain ⟨x0, rfl⟩ : ∃ x0, items = #[x0] := ⟨items[0], by apply Array.ext; · simp [hone]
                                                            · intro i h1 h2; simp [hone] at h1; subst h1; rfl⟩
    exact BindsTo.of_defaults rfl (D.keep _ _ hoT) hdT rfl rfl
  · rintro v O' h' tk' ⟨t, rfl, rfl⟩ D'
    exact ret t h' tk' D'
end
/-! text F14 -/
section

noncomputable def fewOne (row : List Int) : Int := maxL (1 :: (List.range row.length).map fun (k : Nat) => (isort row).reverse.getD k 0 + (k : Int))
noncomputable def fewStep (w : Nat) (st : List (List Int) × List Int) (d : Nat) : List (List Int) × List Int :=
  ((st.1.set (d + w) []).set d ((st.1.set (d + w) []).getD d [] ++ [fewOne (st.1.getD (d + w) [])]), st.2 ++ [fewOne (st.1.getD (d + w) [])])
noncomputable def fewN (blanks : List Nat) (w : Nat) : Nat := (maxL (blanks.map fun (n : Nat) => (n : Int)) + w + 1).toNat
noncomputable def fewFold (blanks : List Nat) (w : Nat) (l : List Nat) : List (List Int) × List Int := l.foldl (fewStep w) (List.replicate (fewN blanks w) [], [])
noncomputable def fewestS (blanks : List Nat) (w : Nat) : List Int := (fewFold blanks w blanks.reverse).2.reverse

theorem fewStep_len (w : Nat) (st : List (List Int) × List Int) (d : Nat) : (fewStep w st d).1.length = st.1.length := by simp [fewStep]
theorem mem_getD_or {l : List (List Int)} {i : Nat} : l.getD i [] ∈ l ∨ l.getD i [] = [] := by
  by_cases h : i < l.length
  · left; rw [List.getD_eq_getElem?_getD, List.getElem?_eq_getElem h]; exact List.getElem_mem h
  · right; rw [List.getD_eq_getElem?_getD, List.getElem?_eq_none (by omega)]; rfl
theorem fewStep_rows (w : Nat) (st : List (List Int) × List Int) (d i : Nat) (h : ∀ row ∈ st.1, row.length ≤ i) : ∀ row ∈ (fewStep w st d).1, row.length ≤ i + 1 := by
  intro row hr
  unfold fewStep at hr
  dsimp only at hr
  have h1 : ∀ row ∈ st.1.set (d + w) [], row.length ≤ i := fun row hr => by
    rcases List.mem_or_eq_of_mem_set hr with hr | rfl
    · exact h row hr
    · simp
  rcases List.mem_or_eq_of_mem_set hr with hr | rfl
  · have := h1 row hr; omega
  · rw [List.length_append]
    rcases mem_getD_or (l := st.1.set (d + w) []) (i := d) with h2 | h2
    · have := h1 _ h2; simp only [List.length_cons, List.length_nil]; omega
    · rw [h2]; simp only [List.length_cons, List.length_nil]; omega
theorem fewFold_len (bl : List Nat) (w : Nat) (l : List Nat) : (fewFold bl w l).1.length = fewN bl w := by
  unfold fewFold
  have : ∀ (l : List Nat) (st : List (List Int) × List Int), (l.foldl (fewStep w) st).1.length = st.1.length := by
    intro l
    induction l with
    | nil => intro st; rfl
    | cons d r ih => intro st; rw [List.foldl_cons, ih, fewStep_len]
  rw [this]; simp
theorem fewFold_take (bl : List Nat) (w : Nat) (l : List Nat) (i d : Nat) (h : l[i]? = some d) : fewFold bl w (l.take (i + 1)) = fewStep w (fewFold bl w (l.take i)) d := by
  unfold fewFold
  rw [List.take_add_one, h, Option.toList_some, List.foldl_append, List.foldl_cons, List.foldl_nil]
theorem fewFold_few (bl : List Nat) (w : Nat) (l : List Nat) : (fewFold bl w l).2.length = l.length := by
  unfold fewFold
  have : ∀ (l : List Nat) (st : List (List Int) × List Int), (l.foldl (fewStep w) st).2.length = st.2.length + l.length := by
    intro l
    induction l with
    | nil => intro st; rfl
    | cons d r ih => intro st; rw [List.foldl_cons, ih]; simp [fewStep]; omega
  rw [this]; simp
theorem maxL_bound {bl : List Nat} {M : Nat} (hne : 0 < bl.length) (hb : ∀ x ∈ bl, x ≤ M) : (∀ x ∈ bl, (x : Int) ≤ maxL (bl.map fun (n : Nat) => (n : Int))) ∧ 0 ≤ maxL (bl.map fun (n : Nat) => (n : Int)) ∧ maxL (bl.map fun (n : Nat) => (n : Int)) ≤ M := by
  cases bl with
  | nil => simp at hne
  | cons a r =>
    obtain ⟨g1, g2, g3⟩ := foldl_max (r.map fun (n : Nat) => (n : Int)) a
    refine ⟨fun x hx => ?_, ?_, ?_⟩
    · show (x : Int) ≤ (r.map fun (n : Nat) => (n : Int)).foldl max (a : Int)
      rcases List.mem_cons.mp hx with rfl | hx
      · exact g2
      · exact g3 _ (List.mem_map.mpr ⟨x, hx, rfl⟩)
    · show 0 ≤ (r.map fun (n : Nat) => (n : Int)).foldl max (a : Int)
      omega
    · show (r.map fun (n : Nat) => (n : Int)).foldl max (a : Int) ≤ M
      rcases g1 with g1 | g1
      · rw [g1]; have := hb a (.head _); omega
      · obtain ⟨x, hx, e⟩ := List.mem_map.mp g1
        rw [← e]; have := hb x (.tail _ hx); omega

variable {w : World} {A : Around} {E : Value → Shared → Prop} {b : Shared} {h : Heap} {tk : Nat} {h₀ : Heap} {L : Addr} {V : Vs} {O : Os} {mg mb : Str → Option Value}

set_option maxHeartbeats 4000000 in
theorem fewest_body {env : Env} {Lf : Addr} {oL : Obj} {oc : Addr → Obj} {lb : Addr} {vs : List Value} {blanks : List Nat} {wd : Nat} {tw : Tok} {k : Nat}
    (hA : Ok 3 A) (e : EnvIs env (scopeOf pw 14) Lf [("below", Lf + 1)]) (W : Wd h₀ mg mb) (hlen : mg "len" = none ∧ mb "len" = some (.builtin "len")) (hrange : mg "range" = none ∧ mb "range" = some (.type "range"))
    (hmax : mg "max" = none ∧ mb "max" = some (.builtin "max")) (hsorted : mg "sorted" = none ∧ mb "sorted" = some (.builtin "sorted"))
    (D : Sd h₀ Lf [("blanks", some (.ref lb)), ("width", some (.int wd tw)), ("needs", none), ("fewest", none), ("deep", none)] ((Lf + 1, cellL (oc (Lf + 1)) none) :: (L, oL) :: O) h)
    (hm : (lb, lstO vs k) ∈ O) (hi : IntsAre vs (blanks.map fun (n : Nat) => (n : Int))) (hne : 0 < blanks.length) (hsz : blanks.length ≤ 60) (hb : ∀ x ∈ blanks, x ≤ 10000) (hw : wd ≤ 10000) :
    wpAny (model pw w) A (execs (bodyOf pw 14) env) (FnS b h₀ Lf L oL (fun v O' => ∃ r ws k', v = .ref r ∧ IntsAre ws (fewestS blanks wd) ∧ O' = (r, lstO ws k') :: O)) E (St b h tk) := by
  have hh := hA.handled
  have hkE : env.scope.kind = .function := by rw [e.scope]; rfl
  have hvl : vs.length = blanks.length := by rw [hi.length, List.length_map]
  have hvs : vs.length ≤ sizeLine := by rw [sizeLine_eq]; omega
  obtain ⟨hM1, hM2, hM3⟩ := maxL_bound hne hb
  refine y_comp (u := none) (fun B => [("blanks", some (.ref lb)), ("width", some (.int wd tw)), ("needs", some (.ref B)), ("fewest", none), ("deep", none)]) h₀ e (by rfl) (by rfl) (by rfl) ?_
  repeat' walk_at "st"
  refine k_max hh D (by walk_at "mem") hi (by rw [List.length_map]; exact hne) fun t h tk D => ?_
  repeat' walk_at "st"
  refine k_rng1 hh D (by omega) (by omega) fun I oI S h tk D Dv hst => ?_
  refine ⟨_, fun B => .tail _ (.tail _ (.head _)), k_comp (fun i ys O' => ∃ R, RowsAre ys (List.replicate i []) R ∧ O' = (R ++ ((Lf + 1, cellL (oc (Lf + 1)) none) :: (L, oL) :: O) : Os)) D Dv hst (by rw [sizeLine_eq]; omega) ⟨[], .nil, rfl⟩ (by intros; simp_all) ?_ ?_⟩
  · rintro C i v ys O₁ B oL' oI' k'' h tk E'' hlt _ hyl ⟨R, hys, rfl⟩ D
    refine tests0 (iteT rfl ?_)
    repeat' walk_at "st"
    refine k_newList D fun a h tk D => ?_
    refine ElS.intro (O' := (a, lstO [] 0) :: (R ++ ((Lf + 1, cellL (oc (Lf + 1)) none) :: (L, oL) :: O))) (D.perm List.perm_middle) ⟨(a, lstO [] 0) :: R, ?_, rfl⟩
    rw [List.replicate_succ']
    exact .snoc a hys .nil
  · rintro ln refs kn O₁ h tk hyl ⟨R0, hys, rfl⟩ D
    refine x_asg ?_
    repeat' walk_at "st"
    refine k_newList D fun lf h tk D => ?_
    refine k_sL D e (by walk_at "upd") (by rfl) fun h tk D => ?_
    refine x_for h₀ Lf ?_
    repeat' walk_at "st"
    refine k_newSlice D fun sl h tk D => ?_
    refine k_tailSlice D (by walk_at "mem") (by walk_at "mem") .none .none (.int _ _) (by decide) hvs fun lr h tk D => ?_
    rw [pick_rev] at D
    have D := (D.weak (O' := (lr, lstO vs.reverse 0) :: (lf, lstO [] 0) :: (ln, lstO refs kn) :: (R0 ++ ((Lf + 1, cellL (oc (Lf + 1)) none) :: (L, oL) :: O))) (by walk_at "sub")).perm (.cons _ (.cons _ (.cons _ (List.Perm.append_right _ (List.reverse_perm R0)))))
    refine k_iterList hh D (by walk_at "mem") fun I2 oI2 S2 h tk D Dv2 hst2 => ?_
    have hnN : ((maxL (blanks.map fun (n : Nat) => (n : Int)) + wd + 1).toNat) = fewN blanks wd := rfl
    have hi' : IntsAre vs.reverse (blanks.reverse.map fun (n : Nat) => (n : Int)) := by rw [List.map_reverse]; exact IntsAre.rev hi
    refine k_for (fun i V O' => ∃ refs : List Value, ∃ kn, ∃ R : Os, ∃ few : List Value, ∃ kf cb u, V = ([("blanks", some (.ref lb)), ("width", some (.int wd tw)), ("needs", some (.ref ln)), ("fewest", some (.ref lf)), ("deep", u)] : Vs) ∧
      Rows3 refs (fewFold blanks wd (blanks.reverse.take i)).1 R ∧ IntsAre few (fewFold blanks wd (blanks.reverse.take i)).2 ∧ few.length ≤ i ∧ (∀ row ∈ (fewFold blanks wd (blanks.reverse.take i)).1, row.length ≤ i) ∧
      O' = ((lr, lstO vs.reverse 0) :: (lf, lstO few kf) :: (ln, lstO refs kn) :: (R ++ ((Lf + 1, cellL (oc (Lf + 1)) cb) :: (L, oL) :: O)) : Os)) D Dv2 hst2 ?_ ?_ ?_ ?_
    · rw [hnN] at hys
      refine ⟨refs, kn, R0.reverse, [], 0, none, none, rfl, Rows3.of hys, .nil, Nat.zero_le _, ?_, ?_⟩
      · intro row hr; have := List.eq_of_mem_replicate hr; subst this; exact Nat.le_refl _
      · rfl
    · rintro i V1 O1 ⟨refs, kn, R, few, kf, cb, u, rfl, h1, h2, h3, h4, rfl⟩ p hp
      rw [List.mem_singleton] at hp; subst hp; exact .head _
    · rintro i _ V1 O1 oI' h tk E'' hlt hget ⟨refs, kn, R, few, kf, cb, u, rfl, h1, h2, h3, h4, rfl⟩ D
      have hlr : i < blanks.length := by rw [List.length_reverse, hvl] at hlt; exact hlt
      obtain ⟨d, hd⟩ : ∃ d, blanks.reverse[i]? = some d := ⟨_, List.getElem?_eq_getElem (by rw [List.length_reverse]; exact hlr)⟩
      have hdm : d ∈ blanks := List.mem_reverse.mp (List.mem_of_getElem? hd)
      obtain ⟨td, rfl⟩ := IntsAre.at_ hi' hget (n := (d : Int)) (by rw [List.getElem?_map, hd]; rfl)
      have hdb := hM1 d hdm
      have hfl := fewFold_len blanks wd (blanks.reverse.take i)
      have hfn : (d : Int) + wd < fewN blanks wd := by rw [← hnN]; omega
      have hrl := h1.length
      have hrs : refs.length ≤ sizeLine := by rw [sizeLine_eq, hrl, hfl, ← hnN]; omega
      rw [fewFold_take _ _ _ _ _ hd]
      generalize fewFold blanks wd (blanks.reverse.take i) = st at h1 h2 h4 hfl hrl
      refine k_sL D e (by walk_at "upd") (by rfl) fun h tk D => ?_
      obtain ⟨la, ws, kw, g1, g2, g3⟩ := h1.get (d + wd) (by omega)
      have gl : (st.1.getD (d + wd) []).length ≤ i := by
        rcases mem_getD_or (l := st.1) (i := d + wd) with h5 | h5
        · exact h4 _ h5
        · rw [h5]; exact Nat.zero_le _
      have gw := g3.length
      refine x_asg ?_
      refine s_sub ?_
      repeat' walk_at "st"
      refine item_ D (by walk_at "mem") (by omega) (by rw [show ((d : Int) + wd).toNat = d + wd by omega]; exact g1) hrs ?_
      repeat' walk_at "st"
      refine k_sorted D (by walk_at "mem") g3 (by omega) fun ls ws' k2 h tk hs D => ?_
      repeat' walk_at "st"
      have gs := hs.length
      have gi := (isort_perm (st.1.getD (d + wd) [])).length_eq
      refine k_newSlice D fun sl2 h tk D => ?_
      refine k_tailSlice D (by walk_at "mem") (by walk_at "mem") .none .none (.int _ _) (by decide) (by rw [sizeLine_eq]; omega) fun lb2 h tk D => ?_
      rw [pick_rev] at D
      have D := D.weak (O' := (lb2, lstO ws'.reverse 0) :: (I2, oI') :: (lr, lstO vs.reverse 0) :: (lf, lstO few kf) :: (ln, lstO refs kn) :: (R ++ ((Lf + 1, cellL (oc (Lf + 1)) cb) :: (L, oL) :: O))) (by walk_at "sub")
      refine k_sC D e (by rfl) (by rfl) (by walk_at "upd") fun h tk D => ?_
      refine x_set ?_
      repeat' walk_at "st"
      refine k_newList D fun na h tk D => ?_
      repeat' walk_at "st"
      refine k_setItem D (by walk_at "upd") (by omega) (by omega) hrs fun h tk D => ?_
      rw [show ((d : Int) + wd).toNat = d + wd by omega] at D
      obtain ⟨R1, r, R2, rfl, hslot⟩ := h1.slot (d + wd) (by omega)
      have D := Sd.place (P := [(lb2, lstO ws'.reverse 0), (I2, oI'), (lr, lstO vs.reverse 0), (lf, lstO few kf), (ln, lstO (refs.set (d + wd) (.ref na)) kn)]) D
      have h1' := hslot na [] 0 [] .nil
      simp only [List.cons_append, List.nil_append] at D
      generalize R1 ++ (na, lstO [] 0) :: R2 = R' at D h1'
      refine x_expr hkE ?_
      refine c_M ?_
      repeat' walk_at "st"
      refine mAppend D (by walk_at "mem") ?_
      refine c_M1 ?_
      repeat' walk_at "st"
      refine k_newList D fun la1 h tk D => ?_
      refine e_comp h₀ e (by rfl) (by rfl) ?_
      repeat' walk_at "st"
      refine k_len D (by walk_at "mem") (by rw [sizeLine_eq, List.length_reverse]; omega) fun t tk => ?_
      repeat' walk_at "st"
      refine k_rng1 hh D (by omega) (by rw [List.length_reverse]; omega) fun I3 oI3 S3 h tk D Dv3 hst3 => ?_
      have hrv := IntsAre.rev hs
      have hrvl := hrv.length
      refine ⟨_, k_comp (fun i' ys O' => IntsAre ys ((List.range i').map fun (k : Nat) => (isort (st.1.getD (d + wd) [])).reverse.getD k 0 + (k : Int)) ∧
        O' = ((la1, lstO [.int 1 _] 0) :: (lb2, lstO ws'.reverse 0) :: (I2, oI') :: (lr, lstO vs.reverse 0) :: (lf, lstO few kf) :: (ln, lstO (refs.set (d + wd) (.ref na)) kn) :: (R' ++ ((Lf + 1, cellL (oc (Lf + 1)) (some (.ref lb2))) :: (L, oL) :: O)) : Os)) D Dv3 hst3 (by rw [sizeLine_eq, List.length_reverse]; omega) ⟨.nil, rfl⟩ (by intros; simp_all) ?_ ?_⟩
      · rintro C i' v ys O₁ B oL' oI4 k'' h tk E'' hlt' ⟨t', rfl⟩ hyl' ⟨hys', rfl⟩ D
        refine tests0 (iteT rfl ?_)
        repeat' walk_at "st"
        refine itemI_ D (by walk_at "mem") hrv (by omega) (by omega) (by rw [sizeLine_eq, List.length_reverse]; omega) fun t => ?_
        repeat' walk_at "st"
        refine ElS.intro D ⟨?_, rfl⟩
        rw [List.range_succ, List.map_append, List.map_singleton]
        rw [Int.toNat_natCast]
        exact Mine.IntsAre.snoc hys'
      · rintro B ys k3 O₁ h tk hyl' ⟨hys', rfl⟩ D
        refine k_addL D (by walk_at "mem") (by walk_at "mem") (by rw [sizeLine_eq]; simp only [List.length_cons, List.length_nil]; rw [Int.toNat_natCast, List.length_reverse] at hyl'; omega) fun la2 h tk D => ?_
        repeat' walk_at "st"
        refine k_max hh D (by walk_at "mem") (IntsAre.cons 1 _ hys') (by simp) fun tm h tk D => ?_
        repeat' walk_at "st"
        rw [Int.toNat_natCast, List.length_reverse, gs, gi]
        have hone : maxL (1 :: (List.range (st.1.getD (d + wd) []).length).map fun (k : Nat) => (isort (st.1.getD (d + wd) [])).reverse.getD k 0 + (k : Int)) = fewOne (st.1.getD (d + wd) []) := rfl
        rw [hone]
        refine k_append D (by walk_at "upd") (fun h tk D => ?_) (by rw [sizeLine_eq]; omega)
        have D := D.weak (O' := (I2, oI') :: (lr, lstO vs.reverse 0) :: (lf, lstO (few ++ [.int (fewOne (st.1.getD (d + wd) [])) tm]) (kf + 1)) :: (ln, lstO (refs.set (d + wd) (.ref na)) kn) :: (R' ++ ((Lf + 1, cellL (oc (Lf + 1)) (some (.ref lb2))) :: (L, oL) :: O))) (by walk_at "sub")
        obtain ⟨la3, ws3, kw3, q1, q2, q3, q4⟩ := h1'.push d (by rw [List.length_set]; omega)
        refine x_expr hkE ?_
        refine c_M ?_
        repeat' walk_at "st"
        refine item_ D (by walk_at "mem") (by omega) (by rw [Int.toNat_natCast]; exact q1) (by rw [List.length_set]; exact hrs) ?_
        refine mAppend D (by walk_at "mem") ?_
        refine c_M1 ?_
        repeat' walk_at "st"
        refine k_itemLast D (by walk_at "mem") (by rw [sizeLine_eq]; omega) ?_
        repeat' walk_at "st"
        obtain ⟨R'', u'', q5⟩ := q4 (fewOne (st.1.getD (d + wd) [])) tm
        have q3l := q3.length
        refine k_append D (O' := (I2, oI') :: (lr, lstO vs.reverse 0) :: (lf, lstO (few ++ [.int (fewOne (st.1.getD (d + wd) [])) tm]) (kf + 1)) :: (ln, lstO (refs.set (d + wd) (.ref na)) kn) :: (R'' ++ ((Lf + 1, cellL (oc (Lf + 1)) (some (.ref lb2))) :: (L, oL) :: O))) (by walk_at "upd") (fun h tk D => ?_) ?_
        · refine wpAny_execs_nil ?_
          refine ⟨rfl, _, _, h, tk, rfl, D, refs.set (d + wd) (.ref na), kn, R'', _, kf + 1, some (.ref lb2), some (.int d td), rfl, q5, Mine.IntsAre.snoc h2, by rw [List.length_append, List.length_singleton]; exact Nat.succ_le_succ h3, fewStep_rows wd st d i h4, rfl⟩
        · rw [sizeLine_eq, q3l]
          rcases mem_getD_or (l := st.1.set (d + wd) []) (i := d) with h5 | h5
          · rcases List.mem_or_eq_of_mem_set h5 with h6 | h6
            · have := h4 _ h6; omega
            · rw [h6]; exact Nat.zero_le _
          · rw [h5]; exact Nat.zero_le _
    · rintro V1 O1 h tk ⟨refs, kn, R, few, kf, cb, u, rfl, h1, h2, h3, h4, rfl⟩ D
      rw [List.length_reverse, hvl] at h2 h3
      rw [show blanks.reverse.take blanks.length = blanks.reverse by rw [List.take_of_length_le]; rw [List.length_reverse]; exact Nat.le_refl _] at h2
      refine ⟨rfl, ?_⟩
      refine x_ret ?_
      repeat' walk_at "st"
      refine k_newSlice D fun sl3 h tk D => ?_
      refine k_tailSlice D (by walk_at "mem") (by walk_at "mem") .none .none (.int _ _) (by decide) (by rw [sizeLine_eq]; omega) fun lr3 h tk D => ?_
      rw [pick_rev] at D
      exact FnS.intro [(lr3, lstO few.reverse 0)] (D.weak (O' := (lr3, lstO few.reverse 0) :: (L, oL) :: O) (by walk_at "sub")) ⟨lr3, _, 0, rfl, IntsAre.rev h2, rfl⟩

theorem fewest_call {R : Result → Shared → Prop} {f : Addr} {fd : FuncData} {lb : Addr} {vs : List Value} {blanks : List Nat} {wd : Nat} {tw : Tok} {k : Nat}
    (hA : Ok 4 A) (F : FnIs pw h₀ f 14 fd) (hdf : fd.defaults = .none) (W : Wd h₀ mg mb) (hlen : mg "len" = none ∧ mb "len" = some (.builtin "len")) (hrange : mg "range" = none ∧ mb "range" = some (.type "range"))
    (hmax : mg "max" = none ∧ mb "max" = some (.builtin "max")) (hsorted : mg "sorted" = none ∧ mb "sorted" = some (.builtin "sorted"))
    (D : Sd h₀ L V O h) (hm : (lb, lstO vs k) ∈ O) (hi : IntsAre vs (blanks.map fun (n : Nat) => (n : Int))) (hne : 0 < blanks.length) (hsz : blanks.length ≤ 60) (hb : ∀ x ∈ blanks, x ≤ 10000) (hw : wd ≤ 10000)
    (ret : ∀ r ws k' h' tk', IntsAre ws (fewestS blanks wd) → Sd h₀ L V ((r, lstO ws k') :: O) h' → R (.ok (.ret (.ref r))) (St b h' tk')) :
    codeAny (model pw w) A (.call (.ref f) ⟨[.ref lb, .int wd tw], []⟩) R (St b h tk) := by
  refine k_call (Vf := [("blanks", some (.ref lb)), ("width", some (.int wd tw)), ("needs", none), ("fewest", none), ("deep", none)]) (vals := [.ref lb, .int wd tw]) (binds := [("blanks", .ref lb), ("width", .int wd tw)]) hA F W D (bindArgs_of F.params hdf fun q => by rfl)
    (by intro b x hx; rcases List.mem_cons.mp hx with rfl | hx
        · exact .inl (by rfl)
        · rw [List.mem_singleton] at hx; subst hx; exact .inl (by rfl))
    (by intro q hq; simp only [List.mem_cons, List.not_mem_nil, or_false] at hq; rcases hq with rfl | rfl | rfl | rfl | rfl <;> rfl) (by show (["blanks", "width", "needs", "fewest", "deep"] : List Str).Nodup; decide) (by intro b; show (["below"] : List Str).Nodup; decide)
    (fun Lf oL oc h tk env A' E' hA' e D' => fewest_body (k := k) (b := b) (oc := oc) hA' e W hlen hrange hmax hsorted D' hm hi hne hsz hb hw) ?_
  rintro v O' h' tk' ⟨r, ws, k', rfl, hR, rfl⟩ D'
  exact ret r ws k' h' tk' hR D'
end
/-! text F15 -/
section

noncomputable def endGo (dots : List Int) (d : Int) : Nat → Nat → Nat
  | 0, e => e
  | f + 1, e => if dots.getD e 0 > d then endGo dots d f (e + 1) else e
noncomputable def endAt (dots : List Int) (st : Nat) : Nat := endGo dots (dots.getD st 0) (dots.length - (st + 1)) (st + 1)
noncomputable def leafAt (dots : List Int) (a e i : Nat) : Bool := decide ((a + i : Int) = e - 1) || !(dots.getD (a + i + 1) 0 == dots.getD (a + i) 0 + 1)
noncomputable def leavesS (dots : List Int) : List Int := (List.range dots.length).map fun st => (((List.range (endAt dots st - st)).filter (leafAt dots st (endAt dots st))).length : Int)
theorem endGo_le (dots : List Int) (d : Int) : ∀ f e, e ≤ endGo dots d f e ∧ endGo dots d f e ≤ e + f
  | 0, e => by simp [endGo]
  | f + 1, e => by
    unfold endGo
    split
    · have := endGo_le dots d f (e + 1); omega
    · omega
theorem endAt_le (dots : List Int) (st : Nat) (h : st < dots.length) : st + 1 ≤ endAt dots st ∧ endAt dots st ≤ dots.length := by
  unfold endAt
  have := endGo_le dots (dots.getD st 0) (dots.length - (st + 1)) (st + 1)
  omega

variable {w : World} {A : Around} {E : Value → Shared → Prop} {b : Shared} {h : Heap} {tk : Nat} {h₀ : Heap} {L : Addr} {V : Vs} {O : Os} {mg mb : Str → Option Value}

set_option maxHeartbeats 4000000 in
theorem leaves_body {env : Env} {Lf : Addr} {oL : Obj} {oc : Addr → Obj} {ld : Addr} {vs : List Value} {dots : List Int} {k : Nat}
    (hA : Ok 3 A) (e : EnvIs env (scopeOf pw 15) Lf [("end", Lf + 2), ("dots", Lf + 1)]) (W : Wd h₀ mg mb) (hlen : mg "len" = none ∧ mb "len" = some (.builtin "len")) (hrange : mg "range" = none ∧ mb "range" = some (.type "range"))
    (D : Sd h₀ Lf [("leaves", none), ("start", none)] ((Lf + 2, cellL (oc (Lf + 2)) none) :: (Lf + 1, cellL (oc (Lf + 1)) (some (.ref ld))) :: (L, oL) :: O) h)
    (hm : (ld, lstO vs k) ∈ O) (hi : IntsAre vs dots) (hsz : dots.length ≤ 1000) :
    wpAny (model pw w) A (execs (bodyOf pw 15) env) (FnS b h₀ Lf L oL (fun v O' => ∃ r ws k', v = .ref r ∧ IntsAre ws (leavesS dots) ∧ O' = (r, lstO ws k') :: O)) E (St b h tk) := by
  have hh := hA.handled
  have hkE : env.scope.kind = .function := by rw [e.scope]; rfl
  have hvl : vs.length = dots.length := hi.length
  have hvs : vs.length ≤ sizeLine := by rw [sizeLine_eq]; omega
  have hds : dots.length ≤ sizeLine := by omega
  refine x_asg ?_
  refine d_list ?_
  refine a_nil ?_
  refine k_newList D fun ll h tk D => ?_
  refine k_sL D e (by walk_at "upd") (by rfl) fun h tk D => ?_
  refine x_for h₀ Lf ?_
  repeat' walk_at "st"
  refine k_len D (by walk_at "mem") hvs fun t tk => ?_
  walk_at "st"
  refine k_rng1 hh D (by omega) (by omega) fun I oI S h tk D Dv hst => ?_
  refine k_for (fun i V O' => ∃ ws u c k', V = ([("leaves", some (.ref ll)), ("start", u)] : Vs) ∧ IntsAre ws ((leavesS dots).take i) ∧
    O' = ((ll, lstO ws k') :: (Lf + 2, cellL (oc (Lf + 2)) c) :: (Lf + 1, cellL (oc (Lf + 1)) (some (.ref ld))) :: (L, oL) :: O : Os)) D Dv hst ⟨_, _, _, _, rfl, .nil, rfl⟩ (by intros; simp_all) ?_ ?_
  · rintro st v V₁ O₁ oI h tk E' hlt ⟨t, rfl⟩ ⟨ws, u, c, k', rfl, hws, rfl⟩ D
    simp only [hvl, Int.toNat_natCast] at hlt
    refine k_sL D e (by walk_at "upd") (by rfl) fun h tk D => ?_
    refine x_asg ?_
    repeat' walk_at "st"
    refine k_sC D e (by rfl) (by rfl) (by walk_at "upd") fun h tk D => ?_
    refine k_while (fun n V O' => ∃ (en : Nat) (te : Tok), n = dots.length - en ∧ st + 1 ≤ en ∧ en ≤ dots.length ∧ endGo dots (dots.getD st 0) n en = endAt dots st ∧ V = ([("leaves", some (.ref ll)), ("start", some (.int st t))] : Vs) ∧
      O' = ((I, oI) :: (ll, lstO ws k') :: (Lf + 2, cellL (oc (Lf + 2)) (some (.int en te))) :: (Lf + 1, cellL (oc (Lf + 1)) (some (.ref ld))) :: (L, oL) :: O : Os))
      (fun V O' => ∃ (te : Tok), V = ([("leaves", some (.ref ll)), ("start", some (.int st t))] : Vs) ∧
      O' = ((I, oI) :: (ll, lstO ws k') :: (Lf + 2, cellL (oc (Lf + 2)) (some (.int (endAt dots st : Nat) te))) :: (Lf + 1, cellL (oc (Lf + 1)) (some (.ref ld))) :: (L, oL) :: O : Os))
      (dots.length - (st + 1)) D ⟨st + 1, _, rfl, Nat.le_refl _, hlt, rfl, rfl, rfl⟩ ?_ ?_
    · rintro n V₁ O₁ h tk E' ⟨en, te, rfl, h1, h2, h3, rfl, rfl⟩ D
      refine t_and ?_
      repeat' walk_at "st"
      refine k_len D (by walk_at "mem") hvs fun t tk => ?_
      refine c_lt ?_
      by_cases hlt2 : en < dots.length
      · refine iteT (by simpa [hvl] using hlt2) ?_
        repeat' walk_at "st"
        refine itemI_ D (by walk_at "mem") hi (by omega) (by omega) hds fun t => ?_
        repeat' walk_at "st"
        refine itemI_ D (by walk_at "mem") hi (by omega) (by omega) hds fun t => ?_
        refine c_gt ?_
        by_cases hgt : dots.getD en 0 > dots.getD st 0
        · refine iteT (by simpa using hgt) ?_
          refine x_asg ?_
          repeat' walk_at "st"
          refine k_sC D e (by rfl) (by rfl) (by walk_at "upd") fun h tk D => ?_
          refine wpAny_execs_nil ⟨rfl, WhS.intro D ⟨dots.length - (en + 1), by omega, en + 1, _, rfl, by omega, by omega, ?_, rfl, rfl⟩⟩
          rw [← h3, show dots.length - en = (dots.length - (en + 1)) + 1 by omega, endGo, if_pos hgt]
        · refine iteF (by simpa using hgt) (WhS.intro D ⟨te, rfl, ?_⟩)
          rw [← h3, show dots.length - en = (dots.length - (en + 1)) + 1 by omega, endGo, if_neg hgt]
      · refine iteF (by simpa [hvl] using hlt2) (iteF rfl (WhS.intro D ⟨te, rfl, ?_⟩))
        rw [← h3, show dots.length - en = 0 by omega, endGo]
    · rintro V₁ O₁ h tk ⟨te, rfl, rfl⟩ D
      obtain ⟨h5, h6⟩ := endAt_le dots st hlt
      refine x_expr hkE ?_
      refine c_M ?_
      repeat' walk_at "st"
      refine mAppend D (by walk_at "mem") ?_
      refine c_M1 ?_
      repeat' walk_at "st"
      refine e_comp h₀ e (by rfl) (by rfl) ?_
      repeat' walk_at "st"
      refine k_rng2 hh D (by omega) (by omega) (by omega) fun I' oI' S' h tk D Dv' hst' => ?_
      refine ⟨_, k_comp (fun i ys O' => IntsAre ys (((List.range i).filter (leafAt dots st (endAt dots st))).map fun (i : Nat) => ((st + i : Nat) : Int)) ∧
        O' = ((I, oI) :: (ll, lstO ws k') :: (Lf + 2, cellL (oc (Lf + 2)) (some (.int (endAt dots st : Nat) te))) :: (Lf + 1, cellL (oc (Lf + 1)) (some (.ref ld))) :: (L, oL) :: O : Os)) D Dv' hst' (by omega) ⟨.nil, rfl⟩ (by intros; simp_all) ?_ ?_⟩
      · rintro C i v ys O₁ B oL' oI'' k'' h tk E'' hlt ⟨t', rfl⟩ hyl ⟨hys, rfl⟩ D
        refine tests1 ?_
        refine t_or ?_
        repeat' walk_at "st"
        refine c_eq ?_
        have hlt' : i < endAt dots st - st := by omega
        by_cases hk1 : ((st : Int) + i = (endAt dots st : Nat) - 1)
        · refine iteT (by simpa using hk1) (iteT rfl ?_)
          repeat' walk_at "st"
          refine ElS.intro D ⟨?_, rfl⟩
          have : leafAt dots st (endAt dots st) i = true := by unfold leafAt; rw [decide_eq_true hk1]; rfl
          simp only [List.range_succ, List.filter_append, List.map_append, List.filter_cons, this, if_true, List.filter_nil, List.map_cons, List.map_nil]
          exact Mine.IntsAre.snoc hys
        · refine iteF (by simpa using hk1) ?_
          repeat' walk_at "st"
          refine itemI_ D (by walk_at "mem") hi (by omega) (by omega) hds fun t => ?_
          repeat' walk_at "st"
          refine itemI_ D (by walk_at "mem") hi (by omega) (by omega) hds fun t => ?_
          repeat' walk_at "st"
          refine c_ne ?_
          have e1 : ((st : Int) + i + 1).toNat = st + i + 1 := by omega
          have e2 : ((st : Int) + i).toNat = st + i := by omega
          by_cases hk2 : (dots.getD (st + i + 1) 0 == dots.getD (st + i) 0 + 1) = true
          · refine iteF (by rw [e1, e2]; simpa using hk2) ?_
            refine ElS.intro D ⟨?_, rfl⟩
            have : leafAt dots st (endAt dots st) i = false := by unfold leafAt; rw [decide_eq_false hk1, hk2]; rfl
            simp only [List.range_succ, List.filter_append, List.filter_cons, this, Bool.false_eq_true, if_false, List.filter_nil, List.append_nil]
            exact hys
          · refine iteT (by rw [e1, e2]; simpa using hk2) ?_
            repeat' walk_at "st"
            refine ElS.intro D ⟨?_, rfl⟩
            have : leafAt dots st (endAt dots st) i = true := by unfold leafAt; rw [Bool.not_eq_true] at hk2; rw [hk2]; simp
            simp only [List.range_succ, List.filter_append, List.map_append, List.filter_cons, this, if_true, List.filter_nil, List.map_cons, List.map_nil]
            exact Mine.IntsAre.snoc hys
      · rintro B ys k₂ O₁ h' tk hyl ⟨hys, rfl⟩ D
        repeat' walk_at "st"
        refine k_len D (by walk_at "mem") (by rw [sizeLine_eq]; omega) fun t tk => ?_
        repeat' walk_at "st"
        have hwl := hws.length
        have hlv : (leavesS dots).length = dots.length := by simp [leavesS]
        have hyl2 := hys.length
        rw [List.length_take, hlv] at hwl
        refine k_append D (by walk_at "upd") (fun h tk D => ?_) (by rw [sizeLine_eq]; omega)
        refine wpAny_execs_nil (TurnS.intro (D.weak (List.sublist_cons_self _ _)) ⟨_, _, _, _, rfl, ?_, rfl⟩)
        rw [List.take_add_one, show (leavesS dots)[st]? = some (ys.length : Int) by
          rw [leavesS, List.getElem?_map, List.getElem?_range hlt, Option.map_some, hyl2, List.length_map]
          rw [show ((endAt dots st : Nat) - (st : Nat) : Int).toNat = endAt dots st - st by omega]]
        exact Mine.IntsAre.snoc hws
  · rintro V₁ O₁ h tk ⟨ws, u, c, k', rfl, hws, rfl⟩ D
    refine ⟨rfl, ?_⟩
    refine x_ret ?_
    repeat' walk_at "st"
    refine FnS.intro [(ll, lstO ws k')] (D.weak ?_) ⟨ll, ws, k', rfl, ?_, rfl⟩
    · exact List.Sublist.cons_cons _ (List.Sublist.cons _ (List.Sublist.cons _ (List.Sublist.refl _)))
    · rwa [hvl, Int.toNat_natCast, show dots.length = (leavesS dots).length by simp [leavesS], List.take_length] at hws

theorem leaves_call {R : Result → Shared → Prop} {f : Addr} {fd : FuncData} {ld : Addr} {vs : List Value} {dots : List Int} {k : Nat}
    (hA : Ok 4 A) (F : FnIs pw h₀ f 15 fd) (hdf : fd.defaults = .none) (W : Wd h₀ mg mb) (hlen : mg "len" = none ∧ mb "len" = some (.builtin "len")) (hrange : mg "range" = none ∧ mb "range" = some (.type "range"))
    (D : Sd h₀ L V O h) (hm : (ld, lstO vs k) ∈ O) (hi : IntsAre vs dots) (hsz : dots.length ≤ 1000)
    (ret : ∀ r ws k' h' tk', IntsAre ws (leavesS dots) → Sd h₀ L V ((r, lstO ws k') :: O) h' → R (.ok (.ret (.ref r))) (St b h' tk')) :
    codeAny (model pw w) A (.call (.ref f) ⟨[.ref ld], []⟩) R (St b h tk) := by
  refine k_call (Vf := [("leaves", none), ("start", none)]) (binds := [("dots", .ref ld)]) hA F W D (bindArgs_of F.params hdf fun q => by rfl) (by intro b x hx; rw [List.mem_singleton] at hx; subst hx; exact .inr ⟨by rfl, by rfl⟩)
    (by intro q hq; simp only [List.mem_cons, List.not_mem_nil, or_false] at hq; rcases hq with rfl | rfl <;> rfl) (by decide) (by intro b; show (["end", "dots"] : List Str).Nodup; decide)
    (fun Lf oL oc h tk env A' E' hA' e D' => leaves_body (k := k) (b := b) (oc := oc) hA' e W hlen hrange D' hm hi hsz) ?_
  rintro v O' h' tk' ⟨r, ws, k', rfl, hR, rfl⟩ D'
  exact ret r ws k' h' tk' hR D'
end
/-! text F13 -/
section

--BODY
noncomputable abbrev band : Int → Int → Int := Builtin.bitAnd
noncomputable def bitOf (m v : Int) : Int := band (m.fdiv (2 ^ v.toNat)) 1
noncomputable def underS (ab : List Int) : List Int := (childrenS ab).map fun row => (row.map fun k => (2 : Int) ^ k.toNat).sum
noncomputable def heldP (ab : List Int) (m : Int) (v : Nat) : Bool := bitOf m v != 0 && (((v : Int) == 0) || !(bitOf m (ab.getD v 0) != 0))
noncomputable def heldS (ab : List Int) (m : Int) : List Int := ((List.range ab.length).filter (heldP ab m)).map fun (v : Nat) => (v : Int)
noncomputable def addMost (hl : Int) (ms : List Int) (x : Int) : List Int := if (!(ms.any (· == max x hl))) = true then ms ++ [max x hl] else ms
noncomputable def mostsStep (fd : List (Int × List Int)) (un : List Int) (m hl : Int) (ms : List Int) (v : Int) : List Int :=
  if (band (un.getD v.toNat 0) m == un.getD v.toNat 0) = true then
    match rowOf fd (m - 2 ^ v.toNat) with
    | some row => row.foldl (addMost hl) ms
    | none => ms
  else ms
noncomputable def mostsS (ab : List Int) (fd : List (Int × List Int)) (m : Int) : List Int := (heldS ab m).foldl (mostsStep fd (underS ab) m (heldS ab m).length) []
noncomputable def foundStep (ab : List Int) (fd : List (Int × List Int)) (m : Int) : List (Int × List Int) := if mostsS ab fd m = [] then fd else fd ++ [(m, mostsS ab fd m)]
noncomputable def foundS (ab : List Int) (n : Nat) : List (Int × List Int) := (List.range n).foldl (fun fd (i : Nat) => foundStep ab fd (1 + (i : Int))) [(0, [0])]
noncomputable def wholeStep (ab wh : List Int) (v : Int) : List Int := wh.set (ab.getD v.toNat 0).toNat (wh.getD (ab.getD v.toNat 0).toNat 0 + wh.getD v.toNat 0)
noncomputable def wholeS (ab : List Int) (n : Nat) : List Int := (List.range n).foldl (fun wh (i : Nat) => wholeStep ab wh ((ab.length : Int) - 1 - i)) ((List.range ab.length).map fun (v : Nat) => (2 : Int) ^ v)
noncomputable def allFound (ab : List Int) : List (Int × List Int) := foundS ab (2 ^ ab.length - 1)
noncomputable def mostHeldS (ab : List Int) : List (List Int) := (wholeS ab (ab.length - 1)).map fun m => isort ((rowOf (allFound ab) m).getD [])

structure MostOk (ab : List Int) : Prop where
  pos : 1 ≤ ab.length
  len : ab.length ≤ 10
  up : ∀ k, 1 ≤ k → k < ab.length → 0 ≤ ab.getD k 0 ∧ ab.getD k 0 < ab.length
  rows : ∀ p ∈ allFound ab, p.2.length ≤ 60
  all : ∀ m ∈ wholeS ab (ab.length - 1), (rowOf (allFound ab) m).isSome = true

theorem addMost_len (hl : Int) (ms : List Int) (x : Int) : (addMost hl ms x).length ≤ ms.length + 1 := by
  unfold addMost; split <;> simp
theorem addMost_fold (hl : Int) (row : List Int) : ∀ ms, (row.foldl (addMost hl) ms).length ≤ ms.length + row.length := by
  induction row with
  | nil => intro ms; simp
  | cons x r ih => intro ms; rw [List.foldl_cons]; have := ih (addMost hl ms x); have := addMost_len hl ms x; simp only [List.length_cons]; omega
theorem rowOf_mem {fd : List (Int × List Int)} {k : Int} {xs : List Int} (h : rowOf fd k = some xs) : (k, xs) ∈ fd := by
  unfold rowOf at h
  cases hf : fd.find? fun p => p.1 = k with
  | none => rw [hf] at h; simp at h
  | some p =>
    rw [hf] at h
    simp only [Option.map_some, Option.some.injEq] at h
    have h1 := List.find?_some hf
    have h2 := List.mem_of_find?_eq_some hf
    obtain ⟨a, b⟩ := p
    simp only [decide_eq_true_eq] at h1 h
    subst h1; subst h; exact h2
theorem mostsStep_len {fd : List (Int × List Int)} {un : List Int} {m hl : Int} {B : Nat} (hB : ∀ p ∈ fd, p.2.length ≤ B) (ms : List Int) (v : Int) : (mostsStep fd un m hl ms v).length ≤ ms.length + B := by
  unfold mostsStep
  split
  · split
    · rename_i row hr
      have := hB _ (rowOf_mem hr)
      have := addMost_fold hl row ms
      dsimp only at *; omega
    · omega
  · omega
theorem foundS_succ (ab : List Int) (n : Nat) : foundS ab (n + 1) = foundStep ab (foundS ab n) (1 + (n : Int)) := by
  unfold foundS; rw [List.range_succ, List.foldl_append]; rfl
theorem foundS_mono (ab : List Int) (n d : Nat) : ∀ p ∈ foundS ab n, p ∈ foundS ab (n + d) := by
  induction d with
  | zero => intro p hp; exact hp
  | succ d ih =>
    intro p hp
    rw [← Nat.add_assoc, foundS_succ]
    unfold foundStep
    split
    · exact ih p hp
    · exact List.mem_append_left _ (ih p hp)
theorem foundS_keys (ab : List Int) (n : Nat) : (∀ p ∈ foundS ab n, p.1 ≤ n) ∧ (foundS ab n).length ≤ n + 1 := by
  induction n with
  | zero => exact ⟨by simp [foundS], by simp [foundS]⟩
  | succ n ih =>
    rw [foundS_succ]
    unfold foundStep
    split
    · exact ⟨fun p hp => by have := ih.1 p hp; omega, by have := ih.2; omega⟩
    · refine ⟨fun p hp => ?_, by have := ih.2; simp; omega⟩
      rcases List.mem_append.mp hp with hp | hp
      · have := ih.1 p hp; omega
      · rw [List.mem_singleton] at hp; subst hp; show 1 + (n : Int) ≤ ((n + 1 : Nat) : Int); omega
theorem wholeS_len (ab : List Int) (n : Nat) : (wholeS ab n).length = ab.length := by
  induction n with
  | zero => simp [wholeS]
  | succ n ih =>
    unfold wholeS at ih ⊢
    rw [List.range_succ, List.foldl_append]
    simp only [List.foldl_cons, List.foldl_nil, wholeStep, List.length_set]
    exact ih
theorem childrenS_len (ab : List Int) : (childrenS ab).length = ab.length := by simp [childrenS]

variable {w : World} {A : Around} {E : Value → Shared → Prop} {b : Shared} {h : Heap} {tk : Nat} {h₀ : Heap} {L : Addr} {V : Vs} {O : Os} {mg mb : Str → Option Value}

set_option maxHeartbeats 8000000 in
theorem most_body {env : Env} {Lf : Addr} {oL : Obj} {oc : Addr → Obj} {la fc : Addr} {oC : Obj} {fdc : FuncData} {vs : List Value} {ab : List Int} {k : Nat}
    (hA : Ok 8 A) (e : EnvIs env (scopeOf pw 13) Lf [("made", Lf + 3), ("found", Lf + 2), ("above", Lf + 1)]) (W : Wd h₀ mg mb)
    (hlen : mg "len" = none ∧ mb "len" = some (.builtin "len")) (hrange : mg "range" = none ∧ mb "range" = some (.type "range")) (hsum : mg "sum" = none ∧ mb "sum" = some (.builtin "sum"))
    (hmax : mg "max" = none ∧ mb "max" = some (.builtin "max")) (hsorted : mg "sorted" = none ∧ mb "sorted" = some (.builtin "sorted"))
    (hch : mg "_law_children" = some (.ref fc)) (Fc : FnIs pw h₀ fc 12 fdc) (hdc : fdc.defaults = .none) (hoc : h₀.get? fc = some oC) (hdC : oC.data = .func fdc)
    (D : Sd h₀ Lf [("under", none), ("v", none), ("held", none), ("mosts", none), ("most", none), ("whole", none)] ((Lf + 3, cellL (oc (Lf + 3)) none) :: (Lf + 2, cellL (oc (Lf + 2)) none) :: (Lf + 1, cellL (oc (Lf + 1)) (some (.ref la))) :: (L, oL) :: O) h)
    (hm : (la, lstO vs k) ∈ O) (hi : IntsAre vs ab) (M : MostOk ab) :
    wpAny (model pw w) A (execs (bodyOf pw 13) env) (FnS b h₀ Lf L oL (fun v O' => ∃ r ws k' Rs, v = .ref r ∧ RowsAre ws (mostHeldS ab) Rs ∧ O' = (r, lstO ws k') :: (Rs ++ O))) E (St b h tk) := by
  have hh := hA.handled
  have hkE : env.scope.kind = .function := by rw [e.scope]; rfl
  have hvl : vs.length = ab.length := hi.length
  have hM1 := M.pos
  have hM2 := M.len
  have hvs : vs.length ≤ sizeLine := by rw [sizeLine_eq]; omega
  have hns : ab.length ≤ sizeLine := by rw [sizeLine_eq]; omega
  refine y_comp (u := none) (fun B => [("under", some (.ref B)), ("v", none), ("held", none), ("mosts", none), ("most", none), ("whole", none)]) h₀ e (by rfl) (by rfl) (by rfl) ?_
  repeat' walk_at "st"
  refine c_F hoc hdC ?_
  repeat' walk_at "st"
  refine ⟨⟨_, _, _, D⟩, wpAny_call ?_⟩
  refine children_call (hA.less (by decide)) Fc hdc W hlen hrange D (by walk_at "mem") hi hM1 (by omega) fun rc cs kc Rc h tk hRc D => ?_
  refine k_iterList hh D (by walk_at "mem") fun I oI S h tk D Dv hst => ?_
  have hcl := hRc.length
  have hcl2 := childrenS_len ab
  refine ⟨_, fun B => .head _, k_comp (fun i ys O' => IntsAre ys ((underS ab).take i) ∧ O' = ((rc, lstO cs kc) :: (Rc ++ ((Lf + 3, cellL (oc (Lf + 3)) none) :: (Lf + 2, cellL (oc (Lf + 2)) none) :: (Lf + 1, cellL (oc (Lf + 1)) (some (.ref la))) :: (L, oL) :: O)) : Os)) D Dv hst (by rw [sizeLine_eq]; omega) ⟨.nil, rfl⟩ (by intros; simp_all) ?_ ?_⟩
  · rintro C i v ys O₁ B oL' oI' k'' h tk E'' hlt hget hyl ⟨hys, rfl⟩ D
    obtain ⟨ar, rs, kr, q1, q2, q3⟩ := hRc.get i (by omega)
    rw [q1] at hget
    obtain rfl := Option.some.inj hget
    refine tests0 (iteT rfl ?_)
    repeat' walk_at "st"
    refine e_comp h₀ (e.comp _ _) (by rfl) (by rfl) ?_
    repeat' walk_at "st"
    refine k_iterList hh D (by walk_at "mem") fun I2 oI2 S2 h tk D Dv2 hst2 => ?_
    have hrow : ∀ x ∈ (childrenS ab).getD i [], 0 ≤ x ∧ x ≤ 10 := by
      intro x hx
      have hi' : i < ab.length := by omega
      rw [childrenS, List.getD_eq_getElem?_getD, List.getElem?_map, List.getElem?_range hi', Option.map_some, Option.getD_some] at hx
      obtain ⟨j, hj, rfl⟩ := List.mem_map.mp hx
      have := List.mem_range.mp (List.mem_filter.mp hj).1
      omega
    have hrl : ((childrenS ab).getD i []).length ≤ 10 := by
      have hi' : i < ab.length := by omega
      rw [childrenS, List.getD_eq_getElem?_getD, List.getElem?_map, List.getElem?_range hi', Option.map_some, Option.getD_some, List.length_map]
      have := List.length_filter_le (fun i_1 => ab.getD (i_1 + 1) 0 == (i : Int)) (List.range (ab.length - 1))
      rw [List.length_range] at this
      omega
    have q3l := q3.length
    refine ⟨_, k_comp (fun j zs O' => IntsAre zs ((((childrenS ab).getD i []).take j).map fun k => (2 : Int) ^ k.toNat) ∧ O' = ((I, oI') :: (B, lstO ys k'') :: (Lf, oL') :: (rc, lstO cs kc) :: (Rc ++ ((Lf + 3, cellL (oc (Lf + 3)) none) :: (Lf + 2, cellL (oc (Lf + 2)) none) :: (Lf + 1, cellL (oc (Lf + 1)) (some (.ref la))) :: (L, oL) :: O)) : Os)) D Dv2 hst2 (by rw [sizeLine_eq]; omega) ⟨.nil, rfl⟩ ?_ ?_ ?_⟩
    · rintro j V1 O1 ⟨_, rfl⟩ p hp
      rw [List.mem_singleton] at hp; subst hp
      walk_at "mem"
    · rintro C2 j v2 zs O₁ B2 oL2 oI3 k3 h tk E3 hlt2 hget2 hzl ⟨hzs, rfl⟩ D
      rw [q3l] at hlt2
      obtain ⟨x, hx⟩ : ∃ x, ((childrenS ab).getD i [])[j]? = some x := ⟨_, List.getElem?_eq_getElem hlt2⟩
      obtain ⟨t2, rfl⟩ := IntsAre.at_ q3 hget2 hx
      obtain ⟨x0, x1⟩ := hrow x (List.mem_of_getElem? hx)
      refine tests0 (iteT rfl ?_)
      repeat' walk_at "st"
      refine k_pow x0 (by omega) (by decide) fun _ _ => ?_
      refine ElS.intro D ⟨?_, rfl⟩
      rw [List.take_add_one, hx, Option.toList_some, List.map_append, List.map_singleton]
      exact Mine.IntsAre.snoc hzs
    · rintro B2 zs k3 O₁ h tk hzl ⟨hzs, rfl⟩ D
      rw [q3l, List.take_of_length_le (Nat.le_refl _)] at hzs
      repeat' walk_at "st"
      refine k_sum hh D (by walk_at "mem") hzs (sumFits_small (fun x hx => ?_) (by rw [List.length_map]; omega)) fun ts h tk D => ?_
      · obtain ⟨y, hy, rfl⟩ := List.mem_map.mp hx
        obtain ⟨y0, y1⟩ := hrow y hy
        have h1 : (0 : Int) ≤ 2 ^ y.toNat := Int.pow_nonneg (by decide)
        have h2 : (2 : Int) ^ y.toNat ≤ 2 ^ 10 := by
          have := Nat.pow_le_pow_right (n := 2) (by decide) (show y.toNat ≤ 10 by omega)
          exact_mod_cast this
        constructor
        · omega
        · exact Int.le_trans h2 (by decide)
      · refine ElS.intro (D.weak (by walk_at "sub")) ⟨?_, rfl⟩
        rw [List.take_add_one, show (underS ab)[i]? = some ((((childrenS ab).getD i []).map fun k => (2 : Int) ^ k.toNat).sum) by
          rw [underS, List.getElem?_map, List.getD_eq_getElem?_getD, List.getElem?_eq_getElem (by omega)]; rfl]
        exact Mine.IntsAre.snoc hys
  · rintro lu us ku O₁ h tk hyl ⟨hus, rfl⟩ D
    rw [hcl, List.take_of_length_le (by simp [underS])] at hus
    have hul := hus.length
    have hul2 : (underS ab).length = ab.length := by simp [underS, childrenS_len]
    have D := D.weak (O' := (lu, lstO us ku) :: (Lf + 3, cellL (oc (Lf + 3)) none) :: (Lf + 2, cellL (oc (Lf + 2)) none) :: (Lf + 1, cellL (oc (Lf + 1)) (some (.ref la))) :: (L, oL) :: O) (by walk_at "sub")
    refine x_asg ?_
    refine k_dict1 W.nolimit D fun d h tk hlo D => ?_
    repeat' walk_at "st"
    refine k_newList D fun l0 h tk D => ?_
    refine ⟨(lu, lstO us ku) :: (l0, lstO [.int 0 _] 0) :: (Lf + 3, cellL (oc (Lf + 3)) none) :: (Lf + 2, cellL (oc (Lf + 2)) none) :: (Lf + 1, cellL (oc (Lf + 1)) (some (.ref la))) :: (L, oL) :: O, h, tk, 0, _, rfl, rfl, D.perm ((List.Perm.cons _ (List.Perm.swap _ _ _)).trans (List.Perm.swap _ _ _)), fun od h tk hod D => ?_⟩
    refine k_sC D e (by rfl) (by rfl) (by walk_at "upd") fun h tk D => ?_
    refine x_for h₀ Lf ?_
    repeat' walk_at "st"
    refine k_len D (by walk_at "mem") hvs fun t tk => ?_
    repeat' walk_at "st"
    refine k_pow (by omega) (by omega) (by decide) fun _ _ => ?_
    repeat' walk_at "st"
    have hpw : ((2 : Int) ^ (vs.length : Int).toNat) = ((2 ^ ab.length : Nat) : Int) := by rw [Int.toNat_natCast, hvl]; norm_cast
    have hpb : 2 ^ ab.length ≤ 1024 := Nat.le_trans (Nat.pow_le_pow_right (by decide) hM2) (by decide)
    have hp1 : 1 ≤ 2 ^ ab.length := Nat.one_le_two_pow
    rw [hpw]
    refine k_rng2 hh D (by omega) (by omega) (by omega) fun I oI S h tk D Dv hst => ?_
    have hnn : ((((2 ^ ab.length : Nat) : Int) - 1).toNat) = 2 ^ ab.length - 1 := by omega
    rw [hnn] at Dv
    refine k_for (fun i V O' => ∃ u1 u2 u3 u4, ∃ od : Obj, ∃ kvs, ∃ R : Os, ∃ cm, V = ([("under", some (.ref lu)), ("v", u1), ("held", u2), ("mosts", u3), ("most", u4), ("whole", none)] : Vs) ∧ Obj.IsDictOf (iK pw w) od kvs ∧ Fnd kvs (foundS ab i) R ∧
      O' = ((d, od) :: (lu, lstO us ku) :: (R ++ ((Lf + 3, cellL (oc (Lf + 3)) cm) :: (Lf + 2, cellL (oc (Lf + 2)) (some (.ref d))) :: (Lf + 1, cellL (oc (Lf + 1)) (some (.ref la))) :: (L, oL) :: O)) : Os)) D Dv hst ?_ (by intros; simp_all) ?_ ?_
    · exact ⟨none, none, none, none, od, _, [(l0, lstO [.int 0 _] 0)], none, rfl, hod, .cons 0 l0 0 (.cons 0 _ .nil) .nil, rfl⟩
    · rintro i _ V1 O1 oI' h tk E'' hlt ⟨tm, rfl⟩ ⟨u1, u2, u3, u4, od, kvs, R, cm, rfl, hod, hF, rfl⟩ D
      have hFl := hF.length
      obtain ⟨hk1, hk2⟩ := foundS_keys ab i
      have hrows : ∀ p ∈ foundS ab i, p.2.length ≤ 60 := fun p hp => M.rows p (by
        have := foundS_mono ab i (2 ^ ab.length - 1 - i) p hp
        rwa [show i + (2 ^ ab.length - 1 - i) = 2 ^ ab.length - 1 by omega] at this)
      rw [foundS_succ]
      generalize foundS ab i = fd at hF hFl hk1 hk2 hrows
      generalize hmd : (1 + (i : Int)) = made at *
      refine k_sC D e (by rfl) (by rfl) (by walk_at "upd") fun h tk D => ?_
      refine y_comp (u := u2) (fun B => [("under", some (.ref lu)), ("v", u1), ("held", some (.ref B)), ("mosts", u3), ("most", u4), ("whole", none)]) h₀ e (by rfl) (by rfl) (by rfl) ?_
      repeat' walk_at "st"
      refine k_len D (by walk_at "mem") hvs fun t tk => ?_
      repeat' walk_at "st"
      refine k_rng1 hh D (by omega) (by omega) fun I2 oI2 S2 h tk D Dv2 hst2 => ?_
      rw [Int.toNat_natCast, hvl] at Dv2
      refine ⟨_, fun B => .tail _ (.tail _ (.head _)), k_comp (fun j ys O' => IntsAre ys (((List.range j).filter (heldP ab made)).map fun (v : Nat) => (v : Int)) ∧
        O' = ((I, oI') :: (d, od) :: (lu, lstO us ku) :: (R ++ ((Lf + 3, cellL (oc (Lf + 3)) (some (.int made tm))) :: (Lf + 2, cellL (oc (Lf + 2)) (some (.ref d))) :: (Lf + 1, cellL (oc (Lf + 1)) (some (.ref la))) :: (L, oL) :: O)) : Os)) D Dv2 hst2 hns ⟨.nil, rfl⟩ (by intros; simp_all) ?_ ?_⟩
      · rintro C j _ ys O₁ B oL' oI3 k'' h tk E3 hlt2 ⟨tv, rfl⟩ hyl ⟨hys, rfl⟩ D
        refine tests1 ?_
        refine t_and ?_
        repeat' walk_at "st"
        refine k_shr (by omega) fun _ _ => ?_
        repeat' walk_at "st"
        have step : ∀ bb : Bool, heldP ab made j = bb → (if bb = true then IntsAre (ys ++ [.int (j : Nat) tv]) (((List.range (j + 1)).filter (heldP ab made)).map fun (v : Nat) => (v : Int)) else IntsAre ys (((List.range (j + 1)).filter (heldP ab made)).map fun (v : Nat) => (v : Int))) := by
          intro bb hb
          rw [List.range_succ, List.filter_append, List.map_append]
          cases bb with
          | true => rw [if_pos rfl]; simp only [List.filter_cons, hb, if_true, List.filter_nil, List.map_cons, List.map_nil]; exact Mine.IntsAre.snoc hys
          | false => rw [if_neg (by simp)]; simp only [List.filter_cons, hb, Bool.false_eq_true, if_false, List.filter_nil, List.map_nil, List.append_nil]; exact hys
        by_cases b1 : (band (made.fdiv (2 ^ ((j : Nat) : Int).toNat)) 1 != 0) = true
        · refine iteT b1 ?_
          refine t_or ?_
          repeat' walk_at "st"
          refine c_eq ?_
          by_cases b2 : (((j : Nat) : Int) == 0) = true
          · refine iteT b2 ?_
            refine iteT rfl ?_
            repeat' walk_at "st"
            refine ElS.intro D ⟨?_, rfl⟩
            exact step true (by unfold heldP bitOf; rw [b1, b2]; rfl)
          · refine iteF (by simpa using b2) ?_
            refine t_not ?_
            repeat' walk_at "st"
            have hjn : j ≠ 0 := by intro hj; subst hj; exact b2 rfl
            refine itemI_ D (by walk_at "mem") hi (by omega) (by omega) hns fun t => ?_
            repeat' walk_at "st"
            rw [Int.toNat_natCast]
            have hup := M.up j (by omega) hlt2
            refine k_shr hup.1 fun _ _ => ?_
            repeat' walk_at "st"
            have b2' : (((j : Nat) : Int) == 0) = false := by simpa using b2
            by_cases b3 : (!(band (made.fdiv (2 ^ (ab.getD j 0).toNat)) 1 != 0)) = true
            · refine iteT b3 ?_
              repeat' walk_at "st"
              refine ElS.intro D ⟨?_, rfl⟩
              exact step true (by unfold heldP bitOf; rw [b1, b3, b2']; rfl)
            · refine iteF (by simpa using b3) ?_
              refine ElS.intro D ⟨?_, rfl⟩
              exact step false (by unfold heldP bitOf; rw [b1, b2']; simpa using b3)
        · refine iteF (by simpa using b1) ?_
          refine iteF rfl ?_
          refine ElS.intro D ⟨?_, rfl⟩
          exact step false (by unfold heldP bitOf; rw [show (band (made.fdiv (2 ^ ((j : Nat) : Int).toNat)) 1 != 0) = false by simpa using b1]; rfl)
      · rintro lh hs khs O₁ h tk hyl2 ⟨hhs, rfl⟩ D
        have hhs : IntsAre hs (heldS ab made) := hhs
        have hhl := hhs.length
        have hh10 : (heldS ab made).length ≤ 10 := by
          rw [heldS, List.length_map]
          have := List.length_filter_le (heldP ab made) (List.range ab.length)
          rw [List.length_range] at this; omega
        have hmem : ∀ x ∈ heldS ab made, 0 ≤ x ∧ x < ab.length := by
          intro x hx
          obtain ⟨y, hy, rfl⟩ := List.mem_map.mp hx
          have := List.mem_range.mp (List.mem_filter.mp hy).1
          omega
        refine x_asg ?_
        repeat' walk_at "st"
        refine k_newList D fun lm h tk D => ?_
        refine k_sL D e (by walk_at "upd") (by rfl) fun h tk D => ?_
        refine x_for h₀ Lf ?_
        repeat' walk_at "st"
        refine k_iterList hh D (by walk_at "mem") fun I3 oI3 S3 h tk D Dv3 hst3 => ?_
        have D := D
        refine k_for (fun j V O' => ∃ u1 u4 ms km, V = ([("under", some (.ref lu)), ("v", u1), ("held", some (.ref lh)), ("mosts", some (.ref lm)), ("most", u4), ("whole", none)] : Vs) ∧ IntsAre ms (((heldS ab made).take j).foldl (mostsStep fd (underS ab) made (heldS ab made).length) []) ∧ ms.length ≤ 60 * j ∧
          O' = ((lm, lstO ms km) :: (lh, lstO hs khs) :: (I, oI') :: (d, od) :: (lu, lstO us ku) :: (R ++ ((Lf + 3, cellL (oc (Lf + 3)) (some (.int made tm))) :: (Lf + 2, cellL (oc (Lf + 2)) (some (.ref d))) :: (Lf + 1, cellL (oc (Lf + 1)) (some (.ref la))) :: (L, oL) :: O)) : Os)) D Dv3 hst3 ⟨u1, u4, [], 0, rfl, .nil, Nat.zero_le _, rfl⟩ ?_ ?_ ?_
        · rintro j V1 O1 ⟨u1, u4, ms, km, rfl, _, _, rfl⟩ p hp
          rw [List.mem_singleton] at hp; subst hp
          exact .tail _ (.head _)
        · rintro j _ V1 O1 oI4 h tk E4 hlt3 hget ⟨u1, u4, ms, km, rfl, hms, hml, rfl⟩ D
          rw [hhl] at hlt3
          obtain ⟨x, hx⟩ : ∃ x, (heldS ab made)[j]? = some x := ⟨_, List.getElem?_eq_getElem hlt3⟩
          obtain ⟨tx, rfl⟩ := IntsAre.at_ hhs hget hx
          obtain ⟨x0, x1⟩ := hmem x (List.mem_of_getElem? hx)
          rw [List.take_add_one, hx, Option.toList_some, List.foldl_append, List.foldl_cons, List.foldl_nil]
          generalize ((heldS ab made).take j).foldl (mostsStep fd (underS ab) made (heldS ab made).length) [] = m0 at hms
          have hml0 := hms.length
          have hml3 := mostsStep_len (un := underS ab) (m := made) (hl := (heldS ab made).length) hrows m0 x
          refine k_sL D e (by walk_at "upd") (by rfl) fun h tk D => ?_
          refine x_if ?_
          refine t_and ?_
          repeat' walk_at "st"
          refine itemI_ D (by walk_at "mem") hus x0 (by omega) (by rw [sizeLine_eq]; omega) fun t => ?_
          repeat' walk_at "st"
          refine itemI_ D (by walk_at "mem") hus x0 (by omega) (by rw [sizeLine_eq]; omega) fun t => ?_
          refine c_eq ?_
          by_cases b1 : (band ((underS ab).getD x.toNat 0) made == (underS ab).getD x.toNat 0) = true
          · refine iteT b1 ?_
            repeat' walk_at "st"
            refine k_pow x0 (by omega) (by decide) fun _ _ => ?_
            repeat' walk_at "st"
            refine k_inD D (by walk_at "mem") hlo hod fun _ => ?_
            repeat' walk_at "st"
            cases hr : rowOf fd (made - 2 ^ x.toNat) with
            | none =>
              rw [hF.none hr]
              refine iteF rfl ?_
              refine wpAny_execs_nil (TurnS.intro D ⟨_, _, _, _, rfl, ?_, ?_, rfl⟩)
              · unfold mostsStep; rw [if_pos b1, hr]; exact hms
              · omega
            | some row =>
              obtain ⟨ar, rs, kr, q1, q2, q3⟩ := hF.some hr
              have hrl : row.length ≤ 60 := hrows _ (rowOf_mem hr)
              have q3l := q3.length
              rw [q1]
              refine iteT rfl ?_
              refine x_for h₀ Lf ?_
              repeat' walk_at "st"
              refine k_pow x0 (by omega) (by decide) fun _ _ => ?_
              repeat' walk_at "st"
              refine k_itemD D (by walk_at "mem") hod q1 fun _ => ?_
              refine k_iterList hh D (by walk_at "mem") fun I5 oI5 S5 h tk D Dv5 hst5 => ?_
              refine k_for (fun z V O' => ∃ u4 ms km, V = ([("under", some (.ref lu)), ("v", some (.int x tx)), ("held", some (.ref lh)), ("mosts", some (.ref lm)), ("most", u4), ("whole", none)] : Vs) ∧ IntsAre ms ((row.take z).foldl (addMost (heldS ab made).length) m0) ∧ ms.length ≤ 60 * j + z ∧
                O' = ((I3, oI4) :: (lm, lstO ms km) :: (lh, lstO hs khs) :: (I, oI') :: (d, od) :: (lu, lstO us ku) :: (R ++ ((Lf + 3, cellL (oc (Lf + 3)) (some (.int made tm))) :: (Lf + 2, cellL (oc (Lf + 2)) (some (.ref d))) :: (Lf + 1, cellL (oc (Lf + 1)) (some (.ref la))) :: (L, oL) :: O)) : Os)) D Dv5 hst5 ⟨u4, ms, km, rfl, hms, by omega, rfl⟩ ?_ ?_ ?_
              · rintro z V1 O1 ⟨u4, ms, km, rfl, _, _, rfl⟩ p hp
                rw [List.mem_singleton] at hp; subst hp
                walk_at "mem"
              · rintro z _ V1 O1 oI6 h tk E6 hlt5 hget5 ⟨u4, ms2, km2, rfl, hms2, hml2, rfl⟩ D
                rw [q3l] at hlt5
                obtain ⟨y, hy⟩ : ∃ y, row[z]? = some y := ⟨_, List.getElem?_eq_getElem hlt5⟩
                obtain ⟨ty, rfl⟩ := IntsAre.at_ q3 hget5 hy
                rw [List.take_add_one, hy, Option.toList_some, List.foldl_append, List.foldl_cons, List.foldl_nil]
                generalize (row.take z).foldl (addMost (heldS ab made).length) m0 = m1 at hms2
                have hl1 := hms2.length
                refine k_sL D e (by walk_at "upd") (by rfl) fun h tk D => ?_
                refine x_if ?_
                repeat' walk_at "st"
                refine k_len D (by walk_at "mem") (by rw [sizeLine_eq]; omega) fun t tk => ?_
                repeat' walk_at "st"
                refine k_max2 hh D fun tmx h tk D => ?_
                repeat' walk_at "st"
                rw [hhl]
                refine notin_list_ints ⟨_, D.get (List.Mem.tail _ (List.Mem.tail _ (List.Mem.head _))), rfl, _, rfl⟩ hms2 ?_
                repeat' walk_at "st"
                by_cases b2 : (!(m1.any (· == max y ((heldS ab made).length : Int)))) = true
                · refine iteT b2 ?_
                  refine x_expr hkE ?_
                  refine c_M ?_
                  repeat' walk_at "st"
                  refine mAppend D (by walk_at "mem") ?_
                  refine c_M1 ?_
                  repeat' walk_at "st"
                  refine k_len D (by walk_at "mem") (by rw [sizeLine_eq]; omega) fun t tk => ?_
                  repeat' walk_at "st"
                  refine k_max2 hh D fun tmx h tk D => ?_
                  repeat' walk_at "st"
                  rw [hhl]
                  refine k_append D (by walk_at "upd") (fun h tk D => ?_) (by rw [sizeLine_eq]; omega)
                  refine wpAny_execs_nil (wpAny_execs_nil (TurnS.intro D ⟨_, _, _, rfl, ?_, ?_, rfl⟩))
                  · unfold addMost; rw [if_pos b2]; exact Mine.IntsAre.snoc hms2
                  · rw [List.length_append, List.length_singleton]; omega
                · refine iteF (by simpa using b2) ?_
                  refine wpAny_execs_nil (TurnS.intro D ⟨_, _, _, rfl, ?_, ?_, rfl⟩)
                  · unfold addMost; rw [if_neg b2]; exact hms2
                  · omega
              · rintro V1 O1 h tk ⟨u4, ms2, km2, rfl, hms2, hml2, rfl⟩ D
                rw [q3l, List.take_of_length_le (Nat.le_refl _)] at hms2
                refine ⟨rfl, ?_⟩
                refine wpAny_execs_nil (wpAny_execs_nil (TurnS.intro D ⟨_, _, _, _, rfl, ?_, ?_, rfl⟩))
                · unfold mostsStep; rw [if_pos b1, hr]; exact hms2
                · rw [q3l] at hml2; omega
          · refine iteF (by simpa using b1) ?_
            refine iteF rfl ?_
            refine wpAny_execs_nil (TurnS.intro D ⟨_, _, _, _, rfl, ?_, ?_, rfl⟩)
            · unfold mostsStep; rw [if_neg b1]; exact hms
            · omega
        · rintro V1 O1 h tk ⟨u1, u4, ms, km, rfl, hms, hml, rfl⟩ D
          rw [hhl, List.take_of_length_le (Nat.le_refl _)] at hms
          have hms : IntsAre ms (mostsS ab fd made) := hms
          refine ⟨rfl, ?_⟩
          refine x_if ?_
          repeat' walk_at "st"
          refine k_newList D fun l9 h tk D => ?_
          refine k_neInts (by have := hA.units; omega) D (by walk_at "mem") (by walk_at "mem") hms .nil ?_
          repeat' walk_at "st"
          by_cases b1 : mostsS ab fd made = []
          · refine iteF (by rw [b1]; rfl) ?_
            refine wpAny_execs_nil (TurnS.intro (D.weak (by walk_at "sub")) ⟨_, _, _, _, od, kvs, R, _, rfl, hod, ?_, rfl⟩)
            unfold foundStep; rw [if_pos b1]; exact hF
          · refine iteT (by cases hq : mostsS ab fd made with
              | nil => exact absurd hq b1
              | cons x r => rfl) ?_
            refine x_set ?_
            repeat' walk_at "st"
            have hnew : stored kvs made (.ref lm) = kvs ++ [(made, .ref lm)] := stored_new fun p hp => by
              have : p.1 ∈ kvs.map (·.1) := List.mem_map.mpr ⟨p, hp, rfl⟩
              rw [hF.keys] at this
              obtain ⟨q, hq, e1⟩ := List.mem_map.mp this
              have := hk1 q hq
              omega
            refine k_setD (fun o' => (l9, lstO [] 0) :: (lm, lstO ms km) :: (lh, lstO hs khs) :: (I, oI') :: (d, o') :: (lu, lstO us ku) :: (R ++ ((Lf + 3, cellL (oc (Lf + 3)) (some (.int made tm))) :: (Lf + 2, cellL (oc (Lf + 2)) (some (.ref d))) :: (Lf + 1, cellL (oc (Lf + 1)) (some (.ref la))) :: (L, oL) :: O))) D hod (fun o' => by walk_at "upd") (by rw [sizeLine_eq]; omega) fun od' h tk hod' D => ?_
            rw [hnew] at hod'
            have D := D.weak (O' := (lm, lstO ms km) :: (I, oI') :: (d, od') :: (lu, lstO us ku) :: (R ++ ((Lf + 3, cellL (oc (Lf + 3)) (some (.int made tm))) :: (Lf + 2, cellL (oc (Lf + 2)) (some (.ref d))) :: (Lf + 1, cellL (oc (Lf + 1)) (some (.ref la))) :: (L, oL) :: O))) (by walk_at "sub")
            have D := Sd.placeEnd (P := [(I, oI'), (d, od'), (lu, lstO us ku)]) D
            refine wpAny_execs_nil (wpAny_execs_nil (TurnS.intro D ⟨_, _, _, _, od', _, _, _, rfl, hod', ?_, rfl⟩))
            unfold foundStep; rw [if_neg b1]; exact hF.snoc made lm km hms
    · rintro V1 O1 h tk ⟨u1, u2, u3, u4, od, kvs, R, cm, rfl, hod, hF, rfl⟩ D
      have hF : Fnd kvs (allFound ab) R := hF
      refine ⟨rfl, ?_⟩
      refine y_comp (u := none) (fun B => [("under", some (.ref lu)), ("v", u1), ("held", u2), ("mosts", u3), ("most", u4), ("whole", some (.ref B))]) h₀ e (by rfl) (by rfl) (by rfl) ?_
      repeat' walk_at "st"
      refine k_len D (by walk_at "mem") hvs fun t tk => ?_
      repeat' walk_at "st"
      refine k_rng1 hh D (by omega) (by omega) fun I2 oI2 S2 h tk D Dv2 hst2 => ?_
      rw [Int.toNat_natCast, hvl] at Dv2
      refine ⟨_, fun B => .tail _ (.tail _ (.tail _ (.tail _ (.tail _ (.head _))))), k_comp (fun j ys O' => IntsAre ys ((List.range j).map fun (v : Nat) => (2 : Int) ^ v) ∧
        O' = ((d, od) :: (lu, lstO us ku) :: (R ++ ((Lf + 3, cellL (oc (Lf + 3)) cm) :: (Lf + 2, cellL (oc (Lf + 2)) (some (.ref d))) :: (Lf + 1, cellL (oc (Lf + 1)) (some (.ref la))) :: (L, oL) :: O)) : Os)) D Dv2 hst2 hns ⟨.nil, rfl⟩ (by intros; simp_all) ?_ ?_⟩
      · rintro C j _ ys O₁ B oL' oI3 k'' h tk E3 hlt2 ⟨tv, rfl⟩ hyl ⟨hys, rfl⟩ D
        refine tests0 (iteT rfl ?_)
        repeat' walk_at "st"
        refine k_pow (by omega) (by omega) (by decide) fun _ _ => ?_
        refine ElS.intro D ⟨?_, rfl⟩
        rw [List.range_succ, List.map_append, List.map_singleton, Int.toNat_natCast]
        exact Mine.IntsAre.snoc hys
      · rintro lw wh0 kw0 O₁ h tk hyl2 ⟨hwh0, rfl⟩ D
        refine x_for h₀ Lf ?_
        repeat' walk_at "st"
        refine k_len D (by walk_at "mem") hvs fun t tk => ?_
        repeat' walk_at "st"
        refine k_rng3 hh D (by omega) (by omega) (by omega) fun I3 oI3 S3 h tk D Dv3 hst3 => ?_
        rw [show ((vs.length : Int) - 1 - 0).toNat = ab.length - 1 by omega, hvl] at Dv3
        refine k_for (fun j V O' => ∃ u1 wh kw, V = ([("under", some (.ref lu)), ("v", u1), ("held", u2), ("mosts", u3), ("most", u4), ("whole", some (.ref lw))] : Vs) ∧ IntsAre wh (wholeS ab j) ∧
          O' = ((lw, lstO wh kw) :: (d, od) :: (lu, lstO us ku) :: (R ++ ((Lf + 3, cellL (oc (Lf + 3)) cm) :: (Lf + 2, cellL (oc (Lf + 2)) (some (.ref d))) :: (Lf + 1, cellL (oc (Lf + 1)) (some (.ref la))) :: (L, oL) :: O)) : Os)) D Dv3 hst3 ⟨u1, wh0, kw0, rfl, hwh0, rfl⟩ (by intros; simp_all) ?_ ?_
        · rintro j _ V1 O1 oI4 h tk E4 hlt3 ⟨tv, rfl⟩ ⟨u1, wh, kw, rfl, hwh, rfl⟩ D
          have hwl := hwh.length
          have hwl2 := wholeS_len ab j
          refine k_sL D e (by walk_at "upd") (by rfl) fun h tk D => ?_
          have hup := M.up ((ab.length : Int) - 1 - j).toNat (by omega) (by omega)
          refine x_set ?_
          repeat' walk_at "st"
          refine itemI_ D (by walk_at "mem") hi (by omega) (by omega) hns fun t => ?_
          refine itemI_ D (by walk_at "mem") hwh hup.1 (by omega) (by rw [sizeLine_eq]; omega) fun t => ?_
          repeat' walk_at "st"
          refine itemI_ D (by walk_at "mem") hwh (by omega) (by omega) (by rw [sizeLine_eq]; omega) fun t => ?_
          repeat' walk_at "st"
          refine itemI_ D (by walk_at "mem") hi (by omega) (by omega) hns fun t => ?_
          refine k_setItem D (by walk_at "upd") hup.1 (by omega) (by rw [sizeLine_eq]; omega) fun h tk D => ?_
          refine wpAny_execs_nil (TurnS.intro D ⟨_, _, _, rfl, ?_, rfl⟩)
          have : wholeS ab (j + 1) = wholeStep ab (wholeS ab j) ((ab.length : Int) - 1 - j) := by
            unfold wholeS; rw [List.range_succ, List.foldl_append]; rfl
          rw [this]
          exact IntsAre.set hwh _
        · rintro V1 O1 h tk ⟨u1, wh, kw, rfl, hwh, rfl⟩ D
          have hwl := hwh.length
          have hwl2 := wholeS_len ab (ab.length - 1)
          refine ⟨rfl, ?_⟩
          refine x_ret ?_
          refine e_comp h₀ e (by rfl) (by rfl) ?_
          repeat' walk_at "st"
          refine k_iterList hh D (by walk_at "mem") fun I4 oI4 S4 h tk D Dv4 hst4 => ?_
          refine ⟨_, k_comp (fun j ys O' => ∃ Rs, RowsAre ys ((mostHeldS ab).take j) Rs ∧ O' = (Rs ++ ((lw, lstO wh kw) :: (d, od) :: (lu, lstO us ku) :: (R ++ ((Lf + 3, cellL (oc (Lf + 3)) cm) :: (Lf + 2, cellL (oc (Lf + 2)) (some (.ref d))) :: (Lf + 1, cellL (oc (Lf + 1)) (some (.ref la))) :: (L, oL) :: O))) : Os)) D Dv4 hst4 (by rw [sizeLine_eq]; omega) ⟨[], .nil, rfl⟩ ?_ ?_ ?_⟩
          · rintro j V1 O1 ⟨Rs, _, rfl⟩ p hp
            rw [List.mem_singleton] at hp; subst hp
            walk_at "mem"
          · rintro C j _ ys O₁ B oL' oI5 k'' h tk E5 hlt2 hget hyl ⟨Rs, hys, rfl⟩ D
            rw [hwl] at hlt2
            obtain ⟨m, hm2⟩ : ∃ m, (wholeS ab (ab.length - 1))[j]? = some m := ⟨_, List.getElem?_eq_getElem hlt2⟩
            obtain ⟨tm, rfl⟩ := IntsAre.at_ hwh hget hm2
            have hin := M.all m (List.mem_of_getElem? hm2)
            obtain ⟨row, hr⟩ := Option.isSome_iff_exists.mp hin
            obtain ⟨ar, rs, kr, q1, q2, q3⟩ := hF.some hr
            have hrl : row.length ≤ 60 := M.rows _ (rowOf_mem hr)
            refine tests0 (iteT rfl ?_)
            repeat' walk_at "st"
            refine k_itemD D (by walk_at "mem") hod q1 fun _ => ?_
            repeat' walk_at "st"
            refine k_sorted D (by walk_at "mem") q3 (by omega) fun ls ws' k2 h tk hs D => ?_
            refine ElS.intro (O' := (ls, lstO ws' k2) :: (Rs ++ ((lw, lstO wh kw) :: (d, od) :: (lu, lstO us ku) :: (R ++ ((Lf + 3, cellL (oc (Lf + 3)) cm) :: (Lf + 2, cellL (oc (Lf + 2)) (some (.ref d))) :: (Lf + 1, cellL (oc (Lf + 1)) (some (.ref la))) :: (L, oL) :: O))))) (D.perm ?_) ⟨(ls, lstO ws' k2) :: Rs, ?_, rfl⟩
            · exact List.perm_middle
            · rw [List.take_add_one, show (mostHeldS ab)[j]? = some (isort row) by rw [mostHeldS, List.getElem?_map, hm2, Option.map_some, hr]; rfl]
              exact .snoc ls hys hs
          · rintro B ys k5 O₁ h tk hyl ⟨Rs, hys, rfl⟩ D
            rw [hwl, List.take_of_length_le (by simp [mostHeldS])] at hys
            refine FnS.intro ((B, lstO ys k5) :: Rs) (D.weak (O' := ((B, lstO ys k5) :: Rs) ++ ((L, oL) :: O)) ?_) ⟨B, ys, k5, Rs, rfl, hys, rfl⟩
            exact List.Sublist.cons_cons _ (List.Sublist.append_left (by walk_at "sub") _)

theorem most_call {R : Result → Shared → Prop} {f : Addr} {fd : FuncData} {la fc : Addr} {oC : Obj} {fdc : FuncData} {vs : List Value} {ab : List Int} {k : Nat}
    (hA : Ok 9 A) (F : FnIs pw h₀ f 13 fd) (hdf : fd.defaults = .none) (W : Wd h₀ mg mb)
    (hlen : mg "len" = none ∧ mb "len" = some (.builtin "len")) (hrange : mg "range" = none ∧ mb "range" = some (.type "range")) (hsum : mg "sum" = none ∧ mb "sum" = some (.builtin "sum"))
    (hmax : mg "max" = none ∧ mb "max" = some (.builtin "max")) (hsorted : mg "sorted" = none ∧ mb "sorted" = some (.builtin "sorted"))
    (hch : mg "_law_children" = some (.ref fc)) (Fc : FnIs pw h₀ fc 12 fdc) (hdc : fdc.defaults = .none) (hoc : h₀.get? fc = some oC) (hdC : oC.data = .func fdc)
    (D : Sd h₀ L V O h) (hm : (la, lstO vs k) ∈ O) (hi : IntsAre vs ab) (M : MostOk ab)
    (ret : ∀ r ws k' Rs h' tk', RowsAre ws (mostHeldS ab) Rs → Sd h₀ L V ((r, lstO ws k') :: (Rs ++ O)) h' → R (.ok (.ret (.ref r))) (St b h' tk')) :
    codeAny (model pw w) A (.call (.ref f) ⟨[.ref la], []⟩) R (St b h tk) := by
  refine k_call (Vf := [("under", none), ("v", none), ("held", none), ("mosts", none), ("most", none), ("whole", none)]) (vals := [.ref la]) (binds := [("above", .ref la)]) hA F W D (bindArgs_of F.params hdf fun q => by rfl) (by intro b x hx; rw [List.mem_singleton] at hx; subst hx; exact .inr ⟨by rfl, by rfl⟩)
    (by intro q hq; simp only [List.mem_cons, List.not_mem_nil, or_false] at hq; rcases hq with rfl | rfl | rfl | rfl | rfl | rfl <;> rfl) (by decide) (by intro b; show (["made", "found", "above"] : List Str).Nodup; decide)
    (fun Lf oL oc h tk env A' E' hA' e D' => most_body (k := k) (b := b) (oc := oc) hA' e W hlen hrange hsum hmax hsorted hch Fc hdc hoc hdC D' hm hi M) ?_
  rintro v O' h' tk' ⟨r, ws, k', Rs, rfl, hR, rfl⟩ D'
  exact ret r ws k' Rs h' tk' hR D'
end
/-! text F7 -/
section

--BODY
variable {w : World} {A : Around} {E : Value → Shared → Prop} {b : Shared} {h : Heap} {tk : Nat} {h₀ : Heap} {L : Addr} {V : Vs} {O : Os} {mg mb : Str → Option Value}
theorem rM_no_bool : typeLookup (.type "re.Match") "__bool__" = pure none := by rw [typeLookup_type, builtinLookup_eq_fast]; kernel_rfl
theorem rM_no_len : typeLookup (.type "re.Match") "__len__" = pure none := by rw [typeLookup_type, builtinLookup_eq_fast]; kernel_rfl
theorem tr_match {prog : Program} {s : Shared} {m : Addr} {Q : Bool → Shared → Prop} (hT : s.TypeIs (.ref m) "re.Match") (hQ : Q true s) : wpAny (model prog w) A (truthy (.ref m)) Q E s := by
  unfold truthy
  have f1 := rM_no_bool
  have f2 := rM_no_len
  repeat (any_goals (first | assumption | wp_step))
theorem tr_none {prog : Program} {s : Shared} {Q : Bool → Shared → Prop} (hQ : Q false s) : wpAny (model prog w) A (truthy .none) Q E s := wpAny_pure hQ
theorem c_eqS {prog : Program} {s : Shared} {x y : Str} {t u : Tok} {Q : Bool → Shared → Prop} (h : Q (x.cps.toList == y.cps.toList) s) : wpAny (model prog w) A (compareOp .Eq (.str x t) (.str y u)) (fun v s₃ => wpAny (model prog w) A (truthy v) Q E s₃) E s := P.eq_str (wpAny_truthy_bool h)
theorem hdn_body {env : Env} {Lf : Addr} {oL : Obj} {p : Addr} {x : Str} {tx : Tok}
    (hA : Ok 3 A) (e : EnvIs env (scopeOf pw 7) Lf []) (W : Wd h₀ mg mb) (hp : mg "IPV4_RE" = some (.ref p)) (P : PatIs h₀ p cV 0)
    (D : Sd h₀ Lf [("text", some (.str x tx))] ((L, oL) :: O) h) (hsz : x.cps.size ≤ 1000000) (hne : 0 < x.cps.size) (hfirst : x.cps.toList.getD 0 0 ≠ 46) (hlast : x.cps.toList.getD (x.cps.size - 1) 0 ≠ 46) :
    wpAny (model pw w) A (execs (bodyOf pw 7) env) (FnS b h₀ Lf L oL (fun v O' => v = .bool (nextGo (gV x.cps x.cps.size) (x.cps.size + 1) 0).isNone ∧ O' = O)) E (St b h tk) := by
  refine x_if ?_
  refine wpAny_isTrue_value ?_
  refine c_M ?_
  repeat' walk_at "st"
  refine getMethod_re P D slot_search type_search ?_
  refine c_M1 ?_
  repeat' walk_at "st"
  refine k_search D P hsz (fun hn h tk D => ?_) (fun a e' hs m T pt li n h tk D => ?_)
  · rw [hn]
    refine tr_none ?_
    refine iteF rfl ?_
    refine x_if ?_
    repeat' walk_at "st"
    refine c_eqS ?_
    refine iteF ?_ ?_
    · rw [beq_eq_false_iff_ne]
      intro hc
      have := congrArg List.length hc
      rw [Array.length_toList] at this
      rw [this] at hne
      exact absurd hne (by decide)
    refine x_if ?_
    refine t_or ?_
    repeat' walk_at "st"
    have hit : ∀ (i : Int) (j : Nat), j < x.cps.size → (if i < 0 then i + x.cps.size else i) = j → x.cps.toList.getD j 0 ≠ 46 → ((Txt.item x i).cps.toList == (PySem.Str.ofString ".").cps.toList) = false := by
      intro i j hj hij hne
      have e1 : Txt.charAt x i = some (x.cps.toList.getD j 0) := by
        unfold Txt.charAt
        have e2 : seqIndex? i x.length = some j := by
          unfold seqIndex?
          have : x.length = x.cps.size := rfl
          rw [this]
          dsimp only
          rw [hij, if_pos (by rw [Bool.and_eq_true]; exact ⟨by simp, by simp; omega⟩)]
          simp
        rw [e2]
        show x.cps[j]? = _
        rw [List.getD_eq_getElem?_getD, Array.getElem?_toList, Array.getElem?_eq_getElem hj]; rfl
      have e3 : (Txt.item x i).cps.toList = [x.cps.toList.getD j 0] := by unfold Txt.item; rw [e1]; rfl
      rw [e3, beq_eq_false_iff_ne]
      intro hc
      exact hne (List.cons.inj hc).1
    refine item_str (by decide) (by show -((x.cps.size : Nat) : Int) ≤ 0; omega) (by show (0 : Int) < ((x.cps.size : Nat) : Int); omega) fun _ => ?_
    repeat' walk_at "st"
    refine c_eqS ?_
    refine iteF (hit 0 0 hne (by simp) hfirst) ?_
    repeat' walk_at "st"
    refine item_str (by decide) (by show -((x.cps.size : Nat) : Int) ≤ -1; omega) (by show (-1 : Int) < ((x.cps.size : Nat) : Int); omega) fun _ => ?_
    repeat' walk_at "st"
    refine c_eqS ?_
    refine iteF (hit (-1) (x.cps.size - 1) (by omega) (by simp; omega) hlast) ?_
    refine x_ret ?_
    refine wpAny_Constant_bool ?_
    exact FnS.intro [] D ⟨rfl, rfl⟩
  · rw [hs]
    refine tr_match ⟨_, D.get (.head _), rfl⟩ ?_
    refine iteT rfl ?_
    refine x_ret ?_
    refine wpAny_Constant_bool ?_
    exact FnS.intro [] (D.weak (by walk_at "sub")) ⟨rfl, rfl⟩
theorem hdn_call {R : Result → Shared → Prop} {f p : Addr} {fd : FuncData} {x : Str} {tx : Tok}
    (hA : Ok 4 A) (F : FnIs pw h₀ f 7 fd) (hdf : fd.defaults = .none) (W : Wd h₀ mg mb) (hp : mg "IPV4_RE" = some (.ref p)) (P : PatIs h₀ p cV 0)
    (D : Sd h₀ L V O h) (hsz : x.cps.size ≤ 1000000) (hne : 0 < x.cps.size) (hfirst : x.cps.toList.getD 0 0 ≠ 46) (hlast : x.cps.toList.getD (x.cps.size - 1) 0 ≠ 46)
    (ret : ∀ h' tk', Sd h₀ L V O h' → R (.ok (.ret (.bool (nextGo (gV x.cps x.cps.size) (x.cps.size + 1) 0).isNone))) (St b h' tk')) :
    codeAny (model pw w) A (.call (.ref f) ⟨[.str x tx], []⟩) R (St b h tk) := by
  refine k_call (Vf := [("text", some (.str x tx))]) (vals := [.str x tx]) (binds := [("text", .str x tx)]) hA F W D (bindArgs_of F.params hdf fun q => by rfl) (by intro b x hx; rw [List.mem_singleton] at hx; subst hx; exact .inl (by rfl))
    (by intro q hq; rw [List.mem_singleton] at hq; subst hq; rfl) (by show (["text"] : List Str).Nodup; decide) (by intro b; show ([] : List Str).Nodup; decide)
    (fun Lf oL oc h tk env A' E' hA' e D' => hdn_body (b := b) hA' e W hp P D' hsz hne hfirst hlast) ?_
  rintro v O' h' tk' ⟨rfl, rfl⟩ D'
  exact ret h' tk' D'

/-! unmatched -/
theorem k_sliceS {prog : Program} {value slice : Expr} {x : Str} {t : Tok} {sl : Addr} {l u : Option (Int × Tok)} {Q : Value → Shared → Prop} (D : Sd h₀ L V O h) (hs' : (sl, sliceO (partValue l) (partValue u) .none) ∈ O) (hsz : x.length ≤ sizeLine)
    (hQ : ∀ t' tk', Q (.str (Txt.slice x (l.map (·.1)) (u.map (·.1))) t') (St b h tk'))
    (hs : subscripted slice false (.str x t) (.ref sl) = operate [.ref sl, .str x t] (getItem (.str x t) (.ref sl)) := by with_unfolding_all rfl)
    (ht : ∀ r, letTemporaryGo value (.str x t) r = pure () := by intro _; with_unfolding_all rfl) :
    wpAny (model prog w) A (subscriptTail value slice (.str x t) (.ref sl)) Q E (St b h tk) :=
  tail_of_ItemOn ⟨"str", _, F.slot_str_getitem.lookup, typeIs_str _ _ _, wpAny_getItem_str_slice (l := l) (u := u) (st := none) ⟨_, D.get hs', rfl, rfl⟩ rfl
    (post_val_or_str ⟨Nat.le_trans (Txt.slice_le x _ _) hsz, fun t' k => hQ _ _⟩)⟩ hs ht
theorem k_addS {prog : Program} {x y : Str} {t u : Tok} {Q : Value → Shared → Prop} (hsz : x.length + y.length ≤ 16777216) (hQ : ∀ z t tk', z.cps.toList = x.cps.toList ++ y.cps.toList → Q (.str z t) (St b h tk')) :
    wpAny (model prog w) A (binaryOp .Add (.str x t) (.str y u)) Q E (St b h tk) := by
  refine P.add_str ?_
  by_cases hx : x.length = 0
  · rw [if_pos (by simpa using hx)]
    have : x.cps.toList = [] := by apply List.eq_nil_of_length_eq_zero; rw [Array.length_toList]; exact hx
    exact hQ y u tk (by rw [this]; rfl)
  · rw [if_neg (by simpa using hx)]
    by_cases hy : y.length = 0
    · rw [if_pos (by simpa using hy)]
      have : y.cps.toList = [] := by apply List.eq_nil_of_length_eq_zero; rw [Array.length_toList]; exact hy
      exact hQ x t tk (by rw [this, List.append_nil])
    · rw [if_neg (by simpa using hy)]
      refine ⟨?_, hQ _ _ _ ?_⟩
      · rw [sizeLine_eq]
        show (x.cps ++ y.cps).size ≤ _
        rw [Array.size_append]; exact hsz
      · show (x.cps ++ y.cps).toList = _
        simp
theorem slice_ix (x : Str) (lo hi : Nat) (lov hiv : Option Int) (h : Builtin.Str.strSliceIndices lov hiv 1 x.length = sliceRange (lo : Int) (hi : Int) 1) (hh : hi ≤ x.length) :
    (Txt.slice x lov hiv).cps.toList = (x.cps.toList.drop lo).take (hi - lo) := by
  unfold Txt.slice
  rw [h, sliceRange_one]
  have hxl : x.length = x.cps.size := rfl
  split
  · rename_i hc
    simp only [List.length_map, List.length_range, beq_self_eq_true, Bool.true_and, beq_iff_eq] at hc
    by_cases h0 : x.length = 0
    · have : x.cps.toList = [] := by apply List.eq_nil_of_length_eq_zero; rw [Array.length_toList]; omega
      rw [this]; simp
    · have h1 : lo = 0 := by omega
      rw [h1, List.drop_zero, List.take_of_length_le (by rw [Array.length_toList]; omega)]
  · rw [List.toList_toArray, pick_run]
theorem slice_upto (x : Str) (a : Nat) (h : a ≤ x.length) : (Txt.slice x none (some (a : Int))).cps.toList = x.cps.toList.take a := by
  rw [slice_ix x 0 a none (some (a : Int)) ?_ h]
  · simp
  · unfold Builtin.Str.strSliceIndices
    dsimp only
    rw [if_pos (by decide), if_pos (by decide), if_neg (by omega)]
    congr 1
    omega
theorem slice_from (x : Str) (a : Nat) (h : a ≤ x.length) : (Txt.slice x (some (a : Int)) none).cps.toList = x.cps.toList.drop a := by
  have hxl : x.length = x.cps.size := rfl
  rw [slice_ix x a x.length (some (a : Int)) none ?_ (Nat.le_refl _)]
  · rw [List.take_of_length_le (by simp; omega)]
  · unfold Builtin.Str.strSliceIndices
    have h1 : (1 : Int) > 0 := by decide
    simp only [h1, if_true]
    rw [if_neg (by omega)]
    congr 1
    omega
theorem um_body {env : Env} {Lf : Addr} {oL : Obj} {m T pt : Addr} {x : Str} {tx : Tok} {n li : Int} {a e₂ : Nat}
    (hA : Ok 3 A) (e : EnvIs env (scopeOf pw 5) Lf []) (W : Wd h₀ mg mb)
    (D : Sd h₀ Lf [("match", some (.ref m)), ("start", none), ("end", none)] ((L, oL) :: O) h) (hm : (m, matchO (.str x tx) 0 n li pt T) ∈ O) (hT : (T, tupO [.int a 0, .int e₂ 0]) ∈ O) (hsz : x.cps.size ≤ 1000000) (ha : a ≤ x.cps.size) (he : e₂ ≤ x.cps.size) :
    wpAny (model pw w) A (execs (bodyOf pw 5) env) (FnS b h₀ Lf L oL (fun v O' => ∃ y t, v = .str y t ∧ y.cps.toList = x.cps.toList.take a ++ x.cps.toList.drop e₂ ∧ O' = O)) E (St b h tk) := by
  have hh := hA.handled
  refine x_stmt (wpAny_Assign_stores ?_ rfl rfl)
  refine c_M ?_
  repeat' walk_at "st"
  refine getMethod_builtin ⟨_, D.get (List.Mem.tail _ hm), rfl⟩ pa_rM slot_span type_span (fun a ha => ?_) ?_
  · cases ha; exact ⟨_, D.get (List.Mem.tail _ hm), rfl⟩
  refine c_M1 ?_
  repeat' walk_at "st"
  refine k_span D (by walk_at "mem") (by walk_at "mem") fun r t1 t2 h tk D => ?_
  show wpAny _ _ (assign (Expr.Tuple [Expr.Name (PySem.Str.ofString "start") { line := 8, col := 4, endLine := 8, endCol := 9 }, Expr.Name (PySem.Str.ofString "end") { line := 8, col := 11, endLine := 8, endCol := 14 }] 0 { line := 8, col := 4, endLine := 8, endCol := 14 }) env (.ref r)) _ _ _
  refine wpAny_assign_Tuple (items := #[.int a t1, .int e₂ t2]) hh ⟨_, D.get (.head _), rfl, _, rfl⟩ rfl rfl fun h' hx => ?_
  have D := D.keeps (h' := h') (fun q o ho => hx q o (Nat.ne_of_lt (Heap.lt_size ho)) ho)
  show wpAny _ _ (assignInOrder [assign (Expr.Name (PySem.Str.ofString "start") { line := 8, col := 4, endLine := 8, endCol := 9 }) env, assign (Expr.Name (PySem.Str.ofString "end") { line := 8, col := 11, endLine := 8, endCol := 14 }) env] [.int a t1, .int e₂ t2]) _ _ _
  refine assignInOrder_cons (wpAny_assign_Name ?_)
  refine k_sL (b := b) D e (by walk_at "upd") (by rfl) fun h tk D => ?_
  refine assignInOrder_cons (wpAny_assign_Name ?_)
  refine k_sL (b := b) D e (by walk_at "upd") (by rfl) fun h tk D => ?_
  refine assignInOrder_nil ⟨rfl, ?_⟩
  have hxl : x.length = x.cps.size := rfl
  refine x_ret ?_
  refine b_bin ?_
  refine s_sub ?_
  refine Attribute_any_ ?_
  repeat' walk_at "st"
  refine k_string D (by walk_at "mem") fun _ => ?_
  repeat' walk_at "st"
  refine k_newSlice D fun s1 h tk D => ?_
  refine k_sliceS (l := none) (u := some (a, t1)) D (by walk_at "mem") (by rw [sizeLine_eq]; omega) (fun _ _ => ?_) rfl (by intro _; rfl)
  refine s_sub ?_
  refine Attribute_any_ ?_
  repeat' walk_at "st"
  refine k_string D (by walk_at "mem") fun _ => ?_
  repeat' walk_at "st"
  refine k_newSlice D fun s2 h tk D => ?_
  refine k_sliceS (l := some (e₂, t2)) (u := none) D (by walk_at "mem") (by rw [sizeLine_eq]; omega) (fun _ _ => ?_) rfl (by intro _; rfl)
  have l1 := Txt.slice_le x none (some (a : Int))
  have l2 := Txt.slice_le x (some (e₂ : Int)) none
  refine k_addS (by show (Txt.slice x none (some (a : Int))).length + (Txt.slice x (some (e₂ : Int)) none).length ≤ _; omega) fun z t tk hz => ?_
  refine FnS.intro [] (D.weak (by walk_at "sub")) ⟨z, t, rfl, ?_, rfl⟩
  rw [hz]
  show (Txt.slice x none (some (a : Int))).cps.toList ++ (Txt.slice x (some (e₂ : Int)) none).cps.toList = _
  rw [slice_upto x a ha, slice_from x e₂ he]
theorem um_call {R : Result → Shared → Prop} {f : Addr} {fd : FuncData} {m T pt : Addr} {x : Str} {tx : Tok} {n li : Int} {a e₂ : Nat}
    (hA : Ok 4 A) (F : FnIs pw h₀ f 5 fd) (hdf : fd.defaults = .none) (W : Wd h₀ mg mb)
    (D : Sd h₀ L V O h) (hm : (m, matchO (.str x tx) 0 n li pt T) ∈ O) (hT : (T, tupO [.int a 0, .int e₂ 0]) ∈ O) (hsz : x.cps.size ≤ 1000000) (ha : a ≤ x.cps.size) (he : e₂ ≤ x.cps.size)
    (ret : ∀ y t h' tk', y.cps.toList = x.cps.toList.take a ++ x.cps.toList.drop e₂ → Sd h₀ L V O h' → R (.ok (.ret (.str y t))) (St b h' tk')) :
    codeAny (model pw w) A (.call (.ref f) ⟨[.ref m], []⟩) R (St b h tk) := by
  refine k_call (Vf := [("match", some (.ref m)), ("start", none), ("end", none)]) (vals := [.ref m]) (binds := [("match", .ref m)]) hA F W D (bindArgs_of F.params hdf fun q => by rfl) (by intro b x hx; rw [List.mem_singleton] at hx; subst hx; exact .inl (by rfl))
    (by intro q hq; simp only [List.mem_cons, List.not_mem_nil, or_false] at hq; rcases hq with rfl | rfl | rfl <;> rfl) (by show (["match", "start", "end"] : List Str).Nodup; decide) (by intro b; show ([] : List Str).Nodup; decide)
    (fun Lf oL oc h tk env A' E' hA' e D' => um_body (b := b) hA' e W D' hm hT hsz ha he) ?_
  rintro v O' h' tk' ⟨y, t, rfl, hy, rfl⟩ D'
  exact ret y t h' tk' hy D'
end
/-! text P1 -/
section
/-! the plain law -/
noncomputable def pageStep (ab : List Int) (wd : Nat) (ps : List (List Nat)) (v : Nat) : List (List Nat) :=
  ps.set v ((97 + v) :: 10 :: indentL (blanks wd) true (((childrenS ab).getD v []).map fun k => ps.getD k.toNat []).flatten)
noncomputable def pagesS (ab : List Int) (wd : Nat) (n : Nat) : List (List Nat) := (List.range n).foldl (fun ps i => pageStep ab wd ps (5 - i)) (List.replicate 6 [])
noncomputable def mailStep (ab : List Int) (ps : List (List Nat)) (v : Nat) : List (List Nat) :=
  ps.set v (46 :: (97 + v) :: 10 :: quoteL true (((childrenS ab).getD v []).map fun k => ps.getD k.toNat []).flatten)
noncomputable def mailsS (ab : List Int) (n : Nat) : List (List Nat) := (List.range n).foldl (fun ps i => mailStep ab ps (5 - i)) (List.replicate 6 [])
/-- order and waiting after n turns; none when nothing waits any more before that -/
noncomputable def ordS (ab : List Int) : Nat → List Int → List Int → Option (List Int)
  | 0, ord, wait => if wait.isEmpty then some ord else none
  | n + 1, ord, wait => match wait.reverse with
    | [] => none
    | v :: r => ordS ab n (ord ++ [v]) (r.reverse ++ ((childrenS ab).getD v.toNat []).reverse)
noncomputable def orderS (ab : List Int) : List Int := (ordS ab 6 [] [0]).getD []
noncomputable def lettersS (ab : List Int) : List (List Nat) := (orderS ab).map (fun v => [97 + v.toNat]) ++ [[]]
noncomputable def rowsS (ab : List Int) (wd : Nat) : List (List Nat) := splitL 10 ((pagesS ab wd 6).getD 0 [])
noncomputable def sentS (ab : List Int) : List (List Nat) := splitL 10 ((mailsS ab 6).getD 0 [])
noncomputable def depthsS (rows : List (List Nat)) : List Int := rows.dropLast.map fun r => (r.length : Int) - 1
noncomputable def rangeS (a b : Int) : List Int := (List.range (b - a).toNat).map fun (i : Nat) => a + i
noncomputable def mostOkB (ab : List Int) : Bool :=
  (allFound ab).all (fun p => decide (p.2.length ≤ 60)) && (wholeS ab (ab.length - 1)).all (fun m => (rowOf (allFound ab) m).isSome)
noncomputable def okS (ab : List Int) (wd : Nat) : Bool :=
  let rows := rowsS ab wd
  let sent := sentS ab
  let bl := rows.dropLast.map fun r => r.length - 1
  let few := fewestS bl wd
  let lea := leavesS (depthsS sent)
  let mos := mostHeldS ab
  let ord := orderS ab
  decide (ord.length = 6) && ord.all (fun v => decide (0 ≤ v) && decide (v < 6)) && (ordS ab 6 [] [0]).isSome &&
  (childrenS ab).all (fun r => r.all fun v => decide (0 ≤ v) && decide (v < 6)) &&
  (rows.dropLast.map (stripL 32) ++ [rows.getLastD []] == lettersS ab) && decide (rows.length = 7) && rows.dropLast.all (fun r => decide (1 ≤ r.length)) &&
  (sent.dropLast.map (stripL 46) ++ [sent.getLastD []] == lettersS ab) && decide (sent.length = 7) &&
  decide (few.length = 6) && decide (lea.length = 6) &&
  (List.range 6).all (fun k => decide (few.getD k 0 ≤ lea.getD k 0 + 1) && decide (-1000 ≤ few.getD k 0) && decide (lea.getD k 0 ≤ 1000)) &&
  (ord.map (fun v => mos.getD v.toNat []) == (List.range 6).map fun k => rangeS (few.getD k 0) (lea.getD k 0 + 1)) &&
  ((List.range 7).all fun n => (pagesS ab wd n).all (fun p => decide (p.length ≤ 1000)) && (mailsS ab n).all (fun p => decide (p.length ≤ 1000)) && (mailsS ab n).all (fun p => p.all fun c => decide (c < 128)) && (pagesS ab wd n).all (fun p => p.all fun c => decide (c < 128))) &&
  mostOkB ab
noncomputable def trees : List (List Int) := (List.range 120).map fun i => [-1, 0, ((i % 2 : Nat) : Int), ((i / 2 % 3 : Nat) : Int), ((i / 6 % 4 : Nat) : Int), ((i / 24 % 5 : Nat) : Int)]
end
/-! text F16 -/
section

--BODY
section
variable {prog : Program} {w : World} {A : Around} {E : Value → Shared → Prop} {b : Shared} {h : Heap} {tk : Nat} {h₀ : Heap} {L : Addr} {V : Vs} {O : Os}
theorem k_itemTup {value slice : Expr} {l : Addr} {vs : List Value} {k : Int} {u : Tok} {x : Value} {Q : Value → Shared → Prop} (D : Sd h₀ L V O h) (hm : (l, tupO vs) ∈ O) (h0 : 0 ≤ k) (h1 : k < 1000000) (hx : vs[k.toNat]? = some x) (hQ : Q x (St b h tk))
    (hs : subscripted slice false (.ref l) (.int k u) = operate [.ref l, .int k u] (getItem (.ref l) (.int k u)) := by with_unfolding_all rfl) :
    wpAny (model prog w) A (subscriptTail value slice (.ref l) (.int k u)) Q E (St b h tk) := by
  have key : ∀ {Q : Value → Shared → Prop}, Q x (St b h tk) → wpAny (model prog w) A (subscripted slice false (.ref l) (.int k u)) Q E (St b h tk) := by
    intro Q hQ
    rw [hs]
    have hk : k.toNat < vs.length := (List.getElem?_eq_some_iff.mp hx).1
    exact wpAny_operating (getItem_tuple (j := k.toNat) (items := vs.toArray) ⟨_, D.get hm, rfl, _, rfl⟩ (by omega) (by omega) (seqIndex_of h0 (by simp; omega)) (by simpa using hx) hQ)
  have hT : (St b h tk).TypeIs (.ref l) "tuple" := ⟨_, D.get hm, rfl⟩
  unfold subscriptTail
  refine wpAny_bind ?_
  rw [getitemInPython_of_ne hT.not_modules]
  refine wpAny_bind (wpAny_specialOf hT slot_tuple_getitem.lookup ?_)
  have fin : wpAny (model prog w) A (subscripted slice false (.ref l) (.int k u)) (fun r s₃ => wpAny (model prog w) A (letTemporaryGo value (.ref l) r >>= fun _ => pure r) Q E s₃) E (St b h tk) :=
    key (wpAny_bind (wpAny_letTemporaryGo (wpAny_pure hQ)))
  first
    | exact wpAny_pure (wpAny_bind fin)
    | exact wpAny_bind (wpAny_pure (wpAny_bind fin))
    | exact wpAny_bind fin
end
theorem ints_rep (q : Nat) (t : Tok) : IntsAre (List.replicate q (Value.int 0 t)) (List.replicate q 0) := by
  induction q with
  | zero => exact .nil
  | succ q ih => exact .cons 0 t ih
noncomputable def drawnS (ns : List Int) : List Int := ((ns.take 5).map fun x => x.fmod 1000003) ++ List.replicate (5 - (ns.take 5).length) 0
noncomputable def addS (k : Nat) : Int := ([0, 0, 1, 1, 2] : List Int).getD k 0
noncomputable def aboveS (dr : List Int) : List Int := -1 :: (List.range 5).map fun (i : Nat) => (dr.getD i 0 + addS i).fmod (1 + (i : Int))
noncomputable def widthS (ns : List Int) : Int := 1 + (ns.sum).fmod 3
noncomputable abbrev lawV (script k above width children hosts v order waiting letters rows sent : Option Value) : Vs := [("script", script), ("k", k), ("above", above), ("width", width), ("children", children), ("hosts", hosts), ("v", v), ("order", order), ("waiting", waiting), ("letters", letters), ("rows", rows), ("sent", sent)]
noncomputable abbrev lawC (oc : Addr → Obj) (Lf : Addr) (drawn pages mails lines fewest leaves mosts : Option Value) (r : Os) : Os := (Lf + 7, cellL (oc (Lf + 7)) mosts) :: (Lf + 6, cellL (oc (Lf + 6)) leaves) :: (Lf + 5, cellL (oc (Lf + 5)) fewest) :: (Lf + 4, cellL (oc (Lf + 4)) lines) :: (Lf + 3, cellL (oc (Lf + 3)) mails) :: (Lf + 2, cellL (oc (Lf + 2)) pages) :: (Lf + 1, cellL (oc (Lf + 1)) drawn) :: r
noncomputable abbrev lawCells (Lf : Addr) : List (Str × Addr) := [("mosts", Lf + 7), ("leaves", Lf + 6), ("fewest", Lf + 5), ("lines", Lf + 4), ("mails", Lf + 3), ("pages", Lf + 2), ("drawn", Lf + 1)]
variable {w : World} {A : Around} {E : Value → Shared → Prop} {b : Shared} {h : Heap} {tk : Nat} {h₀ : Heap} {L : Addr} {V : Vs} {O : Os} {mg mb : Str → Option Value}
theorem law_A {env : Env} {Lf : Addr} {r0 : Os} {oc : Addr → Obj} {ls fc : Addr} {fdc : FuncData} {vs : List Value} {ns : List Int} {k : Nat} {Q : Flow → Shared → Prop}
    (hA : Ok 12 A) (e : EnvIs env (scopeOf pw 16) Lf (lawCells Lf)) (W : Wd h₀ mg mb)
    (hlen : mg "len" = none ∧ mb "len" = some (.builtin "len")) (hrange : mg "range" = none ∧ mb "range" = some (.type "range")) (hsum : mg "sum" = none ∧ mb "sum" = some (.builtin "sum"))
    (hch : mg "_law_children" = some (.ref fc)) (Fc : FnIs pw h₀ fc 12 fdc) (hdc : fdc.defaults = .none)
    (D : Sd h₀ Lf (lawV (some (.ref ls)) none none none none none none none none none none none) (lawC oc Lf none none none none none none none r0) h)
    (hm : (ls, lstO vs k) ∈ r0) (hi : IntsAre vs ns) (hsz : ns.length ≤ 63)
    (next : ∀ ld dv kd la av ka lc cv kc Rc tw h tk E', IntsAre dv (drawnS ns) → IntsAre av (aboveS (drawnS ns)) → RowsAre cv (childrenS (aboveS (drawnS ns))) Rc →
      Sd h₀ Lf (lawV (some (.ref ls)) none (some (.ref la)) (some (.int (widthS ns) tw)) (some (.ref lc)) none none none none none none none)
        ((lc, lstO cv kc) :: (Rc ++ ((la, lstO av ka) :: (ld, lstO dv kd) :: lawC oc Lf (some (.ref ld)) none none none none none none r0))) h →
      wpAny (model pw w) A (execs ((bodyOf pw 16).drop 5) env) Q E' (St b h tk)) :
    wpAny (model pw w) A (execs (bodyOf pw 16) env) Q E (St b h tk) := by
  have hh := hA.handled
  have hvl : vs.length = ns.length := hi.length
  have hvs : vs.length ≤ sizeLine := by rw [sizeLine_eq]; omega
  refine y_asg e (by rfl) (by rfl) ?_
  refine e_comp h₀ e (by rfl) (by rfl) ?_
  repeat' walk_at "st"
  refine k_newSlice D fun sl h tk D => ?_
  refine k_tailSlice D (by walk_at "mem") (by walk_at "mem") .none (.int _ _) .none (by decide) hvs fun l5 h tk D => ?_
  have hi5 := slice_ints_uptoW hi (y := 5) (by decide)
  generalize (slicePick vs.toArray none (some 5) none).toList = v5 at D hi5
  have hv5 : v5.length = (ns.take 5).length := hi5.length
  refine k_iterList hh D (by walk_at "mem") fun I oI S h tk D Dv hst => ?_
  have h5 : (Int.toNat 5) = 5 := rfl
  rw [h5] at hi5
  have h5l : (ns.take 5).length ≤ 5 := by rw [List.length_take]; omega
  refine ⟨_, k_comp (fun i ys O' => IntsAre ys (((ns.take 5).take i).map fun x => x.fmod 1000003) ∧ O' = ((l5, lstO v5 0) :: (sl, sliceO .none (.int 5 _) .none) :: lawC oc Lf none none none none none none none r0 : Os)) D Dv hst (by rw [sizeLine_eq]; omega) ⟨.nil, rfl⟩ (by intros; simp_all) ?_ ?_⟩
  · rintro C i v ys O₁ B oL' oI' k'' h tk E'' hlt hget hyl ⟨hys, rfl⟩ D
    obtain ⟨x, hx⟩ : ∃ x, (ns.take 5)[i]? = some x := ⟨_, List.getElem?_eq_getElem (by omega)⟩
    obtain ⟨tx, rfl⟩ := IntsAre.at_ hi5 hget hx
    refine tests0 (iteT rfl ?_)
    repeat' walk_at "st"
    refine k_modI (by decide) fun _ _ => ?_
    refine ElS.intro D ⟨?_, rfl⟩
    rw [List.take_add_one, hx, Option.toList_some, List.map_append, List.map_singleton]
    exact Mine.IntsAre.snoc hys
  · rintro ld1 d1 kd1 O₁ h tk hyl ⟨hd1, rfl⟩ D
    rw [hv5, List.take_length] at hd1
    have hd1l := hd1.length
    rw [List.length_map] at hd1l
    have D := D.weak (O' := (ld1, lstO d1 kd1) :: lawC oc Lf none none none none none none none r0) (by walk_at "sub")
    refine k_sC D e (by rfl) (by rfl) (by walk_at "upd") fun h tk D => ?_
    refine x_asg ?_
    repeat' walk_at "st"
    refine k_newList D fun lz h tk D => ?_
    repeat' walk_at "st"
    refine k_len D (by walk_at "mem") (by rw [sizeLine_eq]; omega) fun t tk => ?_
    repeat' walk_at "st"
    refine k_mulL D (by walk_at "mem") (by omega) (by omega) fun lzz h tk D => ?_
    refine k_addL D (by walk_at "mem") (by walk_at "mem") (by rw [sizeLine_eq, List.length_replicate]; omega) fun ld h tk D => ?_
    generalize hdv : d1 ++ List.replicate ((5 : Int) - (d1.length : Int)).toNat (Value.int 0 _) = dv at D
    have hdi : IntsAre dv (drawnS ns) := by
      rw [← hdv]
      unfold drawnS
      rw [show ((5 : Int) - (d1.length : Int)).toNat = 5 - (ns.take 5).length by omega]
      exact Mine.IntsAre.app hd1 (ints_rep _ _)
    have hdl : (drawnS ns).length = 5 := by unfold drawnS; rw [List.length_append, List.length_map, List.length_replicate]; omega
    refine k_sC D e (by rfl) (by rfl) (by walk_at "upd") fun h tk D => ?_
    have D := D.weak (O' := (ld, lstO dv 0) :: lawC oc Lf (some (.ref ld)) none none none none none none r0) (by walk_at "sub")
    generalize drawnS ns = dr at hdi hdl next ⊢
    refine x_asg ?_
    repeat' walk_at "st"
    refine k_newList D fun lm h tk D => ?_
    refine e_comp h₀ e (by rfl) (by rfl) ?_
    repeat' walk_at "st"
    refine k_rng2 hh D (by omega) (by omega) (by omega) fun I2 oI2 S2 h tk D Dv2 hst2 => ?_
    rw [show ((6 : Int) - 1).toNat = 5 by decide] at Dv2
    refine ⟨_, k_comp (fun i ys O' => IntsAre ys ((List.range i).map fun (i : Nat) => (dr.getD i 0 + addS i).fmod (1 + (i : Int))) ∧ O' = ((lm, lstO [.int (-1) _] 0) :: (ld, lstO dv 0) :: lawC oc Lf (some (.ref ld)) none none none none none none r0 : Os)) D Dv2 hst2 (by decide) ⟨.nil, rfl⟩ (by intros; simp_all) ?_ ?_⟩
    · rintro C i v ys O₁ B oL' oI' k'' h tk E'' hlt ⟨tv, rfl⟩ hyl ⟨hys, rfl⟩ D
      refine tests0 (iteT rfl ?_)
      have ei : ((1 : Int) + (i : Nat) - 1).toNat = i := by omega
      repeat' walk_at "st"
      refine itemI_ D (by walk_at "mem") hdi (by omega) (by omega) (by rw [sizeLine_eq]; omega) fun t => ?_
      repeat' walk_at "st"
      refine k_tup D fun ta h tk D => ?_
      generalize hT : ([Value.int 0 _, Value.int 0 _, Value.int 1 _, Value.int 1 _, Value.int 2 _] : List Value) = tvs at D
      have hti : IntsAre tvs [0, 0, 1, 1, 2] := by rw [← hT]; exact .cons 0 _ (.cons 0 _ (.cons 1 _ (.cons 1 _ (.cons 2 _ .nil))))
      obtain ⟨tt, htt⟩ : ∃ tt, tvs[i]? = some (.int (addS i) tt) := by
        obtain ⟨tt, h1⟩ := hti.get i (addS i) (by
          unfold addS
          rw [List.getD_eq_getElem?_getD, List.getElem?_eq_getElem (by simpa using hlt)]; rfl)
        exact ⟨tt, h1⟩
      repeat' walk_at "st"
      refine k_itemTup D (.head _) (by omega) (by omega) (by rw [ei]; exact htt) ?_
      repeat' walk_at "st"
      refine k_modI (by omega) fun _ _ => ?_
      rw [ei]
      refine ElS.intro (D.weak (by walk_at "sub")) ⟨?_, rfl⟩
      rw [List.range_succ, List.map_append, List.map_singleton]
      exact Mine.IntsAre.snoc hys
    · rintro la1 a1 ka1 O₁ h tk hyl ⟨ha1, rfl⟩ D
      have ha1l := ha1.length
      rw [List.length_map, List.length_range] at ha1l
      refine k_addL D (by walk_at "mem") (by walk_at "mem") (by rw [sizeLine_eq, ha1l]; simp only [List.length_cons, List.length_nil]; omega) fun la h tk D => ?_
      generalize hav : ([Value.int (-1) _] ++ a1) = av at D
      have hai : IntsAre av (aboveS dr) := by rw [← hav]; exact .cons (-1) _ ha1
      have hal : (aboveS dr).length = 6 := rfl
      refine k_sL D e (by walk_at "upd") (by rfl) fun h tk D => ?_
      have D := D.weak (O' := (la, lstO av 0) :: (ld, lstO dv 0) :: lawC oc Lf (some (.ref ld)) none none none none none none r0) (by walk_at "sub")
      refine x_asg ?_
      repeat' walk_at "st"
      refine k_sumG hh D (by walk_at "mem") hi fun ts h tk D => ?_
      repeat' walk_at "st"
      refine k_modI (by decide) fun _ _ => ?_
      repeat' walk_at "st"
      refine k_sL D e (by walk_at "upd") (by rfl) fun h tk D => ?_
      refine x_asg ?_
      repeat' walk_at "st"
      obtain ⟨oC, hoC, hdC⟩ := Fc.at_
      refine c_F hoC hdC ?_
      repeat' walk_at "st"
      refine ⟨⟨_, _, _, D⟩, wpAny_call ?_⟩
      refine children_call (hA.less (by decide)) Fc hdc W hlen hrange D (by walk_at "mem") hai (by rw [hal]; decide) (by rw [hal]; decide) fun lc cs kc Rc h tk hRc D => ?_
      refine k_sL D e (by walk_at "upd") (by rfl) fun h tk D => ?_
      exact next ld dv 0 la av 0 lc cs kc Rc _ h tk _ hdi hai hRc D
end
/-! text F17 -/
section

--BODY
theorem mem_getD_orL {l : List (List Nat)} {i : Nat} : l.getD i [] ∈ l ∨ l.getD i [] = [] := by
  by_cases h : i < l.length
  · left; rw [List.getD_eq_getElem?_getD, List.getElem?_eq_getElem h]; exact List.getElem_mem h
  · right; rw [List.getD_eq_getElem?_getD, List.getElem?_eq_none (by omega)]; rfl
noncomputable def numS (dr : List Int) (i : Nat) : Int := (dr.getD i 0).fdiv (1 + (i : Int)) * 6 + (1 + (i : Int))
noncomputable def hostStep (ab dr : List Int) (hs : List (List Nat)) (i : Nat) : List (List Nat) := hs ++ [hs.getD (ab.getD (1 + i) 0).toNat [] ++ 46 :: digs (numS dr i)]
noncomputable def hostsS (ab dr : List Int) (n : Nat) : List (List Nat) := (List.range n).foldl (hostStep ab dr) [[116]]
theorem hostsS_succ (ab dr : List Int) (n : Nat) : hostsS ab dr (n + 1) = hostStep ab dr (hostsS ab dr n) n := by
  unfold hostsS; rw [List.range_succ, List.foldl_append]; rfl
theorem hostsS_len (ab dr : List Int) (n : Nat) : (hostsS ab dr n).length = n + 1 := by
  induction n with
  | zero => rfl
  | succ n ih => rw [hostsS_succ]; simp [hostStep, ih]
theorem numS_nat {dr : List Int} {i : Nat} (h0 : 0 ≤ dr.getD i 0) (h1 : dr.getD i 0 < 1000003) (hi : i < 5) : ∃ m : Nat, numS dr i = m ∧ m < 10 ^ 10 ∧ (dr.getD i 0).fdiv (1 + (i : Int)) = ((dr.getD i 0).toNat / (1 + i) : Nat) := by
  obtain ⟨d, hd⟩ := Int.eq_ofNat_of_zero_le h0
  have e : (dr.getD i 0).fdiv (1 + (i : Int)) = ((d / (1 + i) : Nat) : Int) := by
    rw [hd, Int.fdiv_eq_ediv_of_nonneg _ (by omega)]
    norm_cast
  refine ⟨d / (1 + i) * 6 + (1 + i), ?_, ?_, ?_⟩
  · unfold numS; rw [e]; push_cast; omega
  · have : d / (1 + i) ≤ d := Nat.div_le_self _ _
    omega
  · rw [e, hd, Int.toNat_natCast]
theorem hostsS_bound {ab dr : List Int} (hdr : ∀ i, i < 5 → 0 ≤ dr.getD i 0 ∧ dr.getD i 0 < 1000003) : ∀ n, n ≤ 5 → ∀ p ∈ hostsS ab dr n, p.length ≤ 1 + 11 * n
  | 0, _, p, hp => by simp [hostsS] at hp; subst hp; simp
  | n + 1, hn, p, hp => by
    have ih := hostsS_bound (ab := ab) hdr n (by omega)
    rw [hostsS_succ] at hp
    rcases List.mem_append.mp hp with hp | hp
    · have := ih p hp; omega
    · rw [List.mem_singleton] at hp; subst hp
      obtain ⟨m, h1, h2, _⟩ := numS_nat (hdr n (by omega)).1 (hdr n (by omega)).2 (by omega)
      have h3 := digs_len m h2
      rw [h1, List.length_append, List.length_cons]
      have h4 : ((hostsS ab dr n).getD (ab.getD (1 + n) 0).toNat []).length ≤ 1 + 11 * n := by
        rcases mem_getD_orL (l := hostsS ab dr n) (i := (ab.getD (1 + n) 0).toNat) with h | h
        · exact ih _ h
        · rw [h]; simp
      omega
variable {w : World} {A : Around} {E : Value → Shared → Prop} {b : Shared} {h : Heap} {tk : Nat} {h₀ : Heap} {L : Addr} {V : Vs} {O : Os} {mg mb : Str → Option Value}
theorem law_B {env : Env} {Lf : Addr} {r0 : Os} {oc : Addr → Obj} {ls ld la lc : Addr} {dv av cv : List Value} {dr ab : List Int} {kd ka kc : Nat} {Rc : Os} {tw : Tok} {wd : Int} {Q : Flow → Shared → Prop}
    (hA : Ok 12 A) (e : EnvIs env (scopeOf pw 16) Lf (lawCells Lf)) (W : Wd h₀ mg mb)
    (hrange : mg "range" = none ∧ mb "range" = some (.type "range")) (hstr : mg "str" = none ∧ mb "str" = some (.type "str"))
    (hdi : IntsAre dv dr) (hai : IntsAre av ab) (hdl : dr.length = 5) (hal : ab.length = 6) (hdr : ∀ i, i < 5 → 0 ≤ dr.getD i 0 ∧ dr.getD i 0 < 1000003) (hab : ∀ i, i < 5 → 0 ≤ ab.getD (1 + i) 0 ∧ ab.getD (1 + i) 0 ≤ i)
    (D : Sd h₀ Lf (lawV (some (.ref ls)) none (some (.ref la)) (some (.int wd tw)) (some (.ref lc)) none none none none none none none)
        ((lc, lstO cv kc) :: (Rc ++ ((la, lstO av ka) :: (ld, lstO dv kd) :: lawC oc Lf (some (.ref ld)) none none none none none none r0))) h)
    (next : ∀ lh hv kh uk h tk E', SV hv (hostsS ab dr 5) →
      Sd h₀ Lf (lawV (some (.ref ls)) uk (some (.ref la)) (some (.int wd tw)) (some (.ref lc)) (some (.ref lh)) none none none none none none)
        ((lh, lstO hv kh) :: (lc, lstO cv kc) :: (Rc ++ ((la, lstO av ka) :: (ld, lstO dv kd) :: lawC oc Lf (some (.ref ld)) none none none none none none r0))) h →
      wpAny (model pw w) A (execs ((bodyOf pw 16).drop 7) env) Q E' (St b h tk)) :
    wpAny (model pw w) A (execs ((bodyOf pw 16).drop 5) env) Q E (St b h tk) := by
  have hh := hA.handled
  have hkE : env.scope.kind = .function := by rw [e.scope]; rfl
  refine x_asg ?_
  repeat' walk_at "st"
  refine k_newList D fun lh h tk D => ?_
  refine k_sL D e (by walk_at "upd") (by rfl) fun h tk D => ?_
  refine x_for h₀ Lf ?_
  repeat' walk_at "st"
  refine k_rng2 hh D (by omega) (by omega) (by omega) fun I oI S h tk D Dv hst => ?_
  rw [show ((6 : Int) - 1).toNat = 5 by decide] at Dv
  refine k_for (fun i V O' => ∃ uk hv kh, V = lawV (some (.ref ls)) uk (some (.ref la)) (some (.int wd tw)) (some (.ref lc)) (some (.ref lh)) none none none none none none ∧ SV hv (hostsS ab dr i) ∧
    O' = ((lh, lstO hv kh) :: (lc, lstO cv kc) :: (Rc ++ ((la, lstO av ka) :: (ld, lstO dv kd) :: lawC oc Lf (some (.ref ld)) none none none none none none r0)) : Os)) D Dv hst ⟨none, _, 0, rfl, .cons _ _ [116] rfl .nil, rfl⟩ (by intros; simp_all) ?_ ?_
  · rintro i _ V1 O1 oI' h tk E'' hlt ⟨tv, rfl⟩ ⟨uk, hv, kh, rfl, hSV, rfl⟩ D
    have hsl := hSV.length
    rw [hostsS_len] at hsl
    have hb := hostsS_bound (ab := ab) hdr i (by omega)
    obtain ⟨m, hm1, hm2, hm3⟩ := numS_nat (hdr i hlt).1 (hdr i hlt).2 hlt
    refine k_sL D e (by walk_at "upd") (by rfl) fun h tk D => ?_
    refine x_expr hkE ?_
    refine c_M ?_
    repeat' walk_at "st"
    refine mAppend D (by walk_at "mem") ?_
    refine c_M1 ?_
    have ei : ((1 : Int) + (i : Nat) - 1).toNat = i := by omega
    have ei1 : ((1 : Int) + (i : Nat)).toNat = 1 + i := by omega
    repeat' walk_at "st"
    refine itemI_ D (by walk_at "mem") hai (by omega) (by omega) (by rw [sizeLine_eq]; omega) fun t => ?_
    rw [ei1]
    have hab' := hab i hlt
    obtain ⟨x0, t0, hx0, hx0c⟩ := hSV.get (ab.getD (1 + i) 0).toNat (by rw [hostsS_len]; omega)
    have hx0l : x0.length ≤ 1 + 11 * i := by
      have e1 : x0.length = x0.cps.toList.length := by rw [Array.length_toList]; rfl
      rw [e1, hx0c]
      rcases mem_getD_orL (l := hostsS ab dr i) (i := (ab.getD (1 + i) 0).toNat) with h | h
      · exact hb _ h
      · rw [h]; simp
    refine item_ D (by walk_at "mem") (by omega) hx0 (by rw [sizeLine_eq]; omega) ?_
    repeat' walk_at "st"
    have hdot : (PySem.Str.ofString ".").length = 1 := rfl
    refine k_addS (by omega) fun z tz tk hz => ?_
    repeat' walk_at "st"
    refine itemI_ D (by walk_at "mem") hdi (by omega) (by omega) (by rw [sizeLine_eq]; omega) fun t => ?_
    rw [ei]
    repeat' walk_at "st"
    have hd := hdr i hlt
    refine k_divI (by omega) (by omega) (by omega) fun _ _ => ?_
    repeat' walk_at "st"
    refine k_mulI (by
      unfold IntMulOk
      rw [show decide (Builtin.Int.intBits 6 > shortFactorBits) = false by decide]
      simp) fun _ _ => ?_
    repeat' walk_at "st"
    have hnum : (dr.getD i 0).fdiv (1 + (i : Int)) * 6 + (1 + (i : Int)) = numS dr i := rfl
    rw [hnum]
    refine k_strI (by rw [hm1]; omega) fun _ _ => ?_
    repeat' walk_at "st"
    have hzl : z.length ≤ 2 + 11 * i := by
      have e1 : z.length = z.cps.toList.length := by rw [Array.length_toList]; rfl
      rw [e1, hz, List.length_append]
      have e2 : x0.cps.toList.length = x0.length := by rw [Array.length_toList]; rfl
      have e3 : (PySem.Str.ofString ".").cps.toList.length = 1 := rfl
      omega
    have hdg : (PySem.Str.ofString (toString (numS dr i))).length ≤ 10 := by
      have e1 : (PySem.Str.ofString (toString (numS dr i))).length = (digs (numS dr i)).length := by unfold digs; rw [Array.length_toList]; rfl
      rw [e1, hm1]; exact digs_len m hm2
    refine k_addS (by omega) fun z2 tz2 tk hz2 => ?_
    repeat' walk_at "st"
    refine k_append D (by walk_at "upd") (fun h tk D => ?_) (by rw [sizeLine_eq]; omega)
    refine wpAny_execs_nil (TurnS.intro D ⟨_, _, _, rfl, ?_, rfl⟩)
    rw [hostsS_succ]
    refine hSV.snoc ?_
    rw [hz2, hz, hx0c]
    have e4 : (PySem.Str.ofString ".").cps.toList = [46] := rfl
    rw [e4]
    simp [digs]
  · rintro V1 O1 h tk ⟨uk, hv, kh, rfl, hSV, rfl⟩ D
    refine ⟨rfl, ?_⟩
    exact next lh hv kh uk h tk _ hSV D
end
/-! text F18 -/
section

--BODY
theorem pagesS_succ (ab : List Int) (wd n : Nat) : pagesS ab wd (n + 1) = pageStep ab wd (pagesS ab wd n) (5 - n) := by
  unfold pagesS; rw [List.range_succ, List.foldl_append]; rfl
theorem pagesS_len (ab : List Int) (wd n : Nat) : (pagesS ab wd n).length = 6 := by
  induction n with
  | zero => rfl
  | succ n ih => rw [pagesS_succ]; simp [pageStep, ih]
theorem mailsS_succ (ab : List Int) (n : Nat) : mailsS ab (n + 1) = mailStep ab (mailsS ab n) (5 - n) := by
  unfold mailsS; rw [List.range_succ, List.foldl_append]; rfl
theorem mailsS_len (ab : List Int) (n : Nat) : (mailsS ab n).length = 6 := by
  induction n with
  | zero => rfl
  | succ n ih => rw [mailsS_succ]; simp [mailStep, ih]
variable {w : World} {A : Around} {E : Value → Shared → Prop} {b : Shared} {h : Heap} {tk : Nat} {h₀ : Heap} {L : Addr} {V : Vs} {O : Os} {mg mb : Str → Option Value}
theorem SV.rep (t : Tok) : ∀ n, SV (List.replicate n (Value.str (PySem.Str.ofString "") t)) (List.replicate n [])
  | 0 => .nil
  | n + 1 => .cons _ _ [] rfl (SV.rep t n)
theorem BV.rep (t : Tok) : ∀ n, BV (List.replicate n (Value.bytes #[] t)) (List.replicate n [])
  | 0 => .nil
  | n + 1 => .cons _ _ [] rfl (BV.rep t n)
theorem item_letter {v : Nat} (hv : v < 6) : (Txt.item (PySem.Str.ofString "abcdef") (v : Int)).cps.toList = [97 + v] := by
  have : v = 0 ∨ v = 1 ∨ v = 2 ∨ v = 3 ∨ v = 4 ∨ v = 5 := by omega
  rcases this with rfl | rfl | rfl | rfl | rfl | rfl <;> decide
theorem k_sliceB {prog : Program} {value slice : Expr} {x : Array UInt8} {t : Tok} {sl : Addr} {l u : Value} {lo hi : Option Int} {Q : Value → Shared → Prop} (D : Sd h₀ L V O h) (hs' : (sl, sliceO l u .none) ∈ O) (hl : IsPart l lo) (hu : IsPart u hi) (hsz : x.size ≤ 1000000)
    (hQ : ∀ t' tk', Q (.bytes (KBy.picked x lo hi) t') (St b h tk'))
    (hs : subscripted slice false (.bytes x t) (.ref sl) = operate [.ref sl, .bytes x t] (getItem (.bytes x t) (.ref sl)) := by with_unfolding_all rfl)
    (ht : ∀ r, letTemporaryGo value (.bytes x t) r = pure () := by intro _; with_unfolding_all rfl) :
    wpAny (model prog w) A (subscriptTail value slice (.bytes x t) (.ref sl)) Q E (St b h tk) :=
  tail_of_ItemOn ⟨"bytes", _, FB.slot_bytes_getitem.lookup, typeIs_bytes _ _ _, getItem_meets (typeIs_bytes _ _ _) (by decide) FB.slot_bytes_getitem FB.entry_bytes_getitem (FB.args_bytes_getitem_2 _ _) (KBc.meets_slice2 x t _ hl hu)
    ⟨⟨_, D.get hs', rfl, rfl⟩, Nat.le_trans (KBc.size_picked_le x lo hi) (by rw [sizeLine_eq]; omega), fun t' k => hQ _ _⟩⟩ hs ht
theorem slice_letter {v : Nat} (hv : v < 6) : (KBy.picked [97, 98, 99, 100, 101, 102].toArray (some (v : Int)) (some ((v : Int) + 1))).toList.map (·.toNat) = [97 + v] := by
  rw [KBc.picked_eq]
  have : v = 0 ∨ v = 1 ∨ v = 2 ∨ v = 3 ∨ v = 4 ∨ v = 5 := by omega
  rcases this with rfl | rfl | rfl | rfl | rfl | rfl <;> decide
theorem k_addB {prog : Program} {x y : Array UInt8} {t u : Tok} {Q : Value → Shared → Prop} (hsz : x.size + y.size ≤ 16777216) (hQ : ∀ z t tk', z.toList.map (·.toNat) = x.toList.map (·.toNat) ++ y.toList.map (·.toNat) → Q (.bytes z t) (St b h tk')) :
    wpAny (model prog w) A (binaryOp .Add (.bytes x t) (.bytes y u)) Q E (St b h tk) :=
  KBy.add_bytes hsz fun t' k => hQ _ _ _ (by simp)
set_option maxHeartbeats 8000000 in
theorem law_C {env : Env} {Lf : Addr} {r0 : Os} {oc : Addr → Obj} {ls ld la lc lh fi pi Ti fq pq : Addr} {fdi fdq : FuncData} {oT : Obj} {itT : Array Value} {nT : Nat} {dv av cv hv : List Value} {dr ab : List Int} {kd ka kc kh : Nat} {Rc : Os} {tw : Tok} {wd : Nat} {uk : Option Value} {Q : Flow → Shared → Prop}
    (hA : Ok 12 A) (e : EnvIs env (scopeOf pw 16) Lf (lawCells Lf)) (W : Wd h₀ mg mb)
    (hrange : mg "range" = none ∧ mb "range" = some (.type "range"))
    (hgi : mg "_indent" = some (.ref fi)) (Fi : FnIs pw h₀ fi 3 fdi) (hdi : fdi.defaults = .ref Ti) (hoT : h₀.get? Ti = some oT) (hdT : oT.data = .seq itT nT) (hone : itT.size = 1) (hpi : mg "twin_re_1_doctest" = some (.ref pi)) (Pi : PatIs h₀ pi cI 0)
    (hgq : mg "_quote_periods" = some (.ref fq)) (Fq : FnIs pw h₀ fq 10 fdq) (hdq : fdq.defaults = .none) (hpq : mg "twin_re_1_smtplib" = some (.ref pq)) (Pq : PatIs h₀ pq cQ 1)
    (hRc : RowsAre cv (childrenS ab) Rc) (hal : ab.length = 6) (hwd : 1 ≤ wd ∧ wd ≤ 3) (hch : ∀ v, v < 6 → ∀ x ∈ (childrenS ab).getD v [], 0 ≤ x ∧ x < 6) (hchl : ∀ v, v < 6 → ((childrenS ab).getD v []).length ≤ 6)
    (hpl : ∀ n, n ≤ 6 → ∀ p ∈ pagesS ab wd n, p.length ≤ 1000) (hml : ∀ n, n ≤ 6 → ∀ p ∈ mailsS ab n, p.length ≤ 1000)
    (D : Sd h₀ Lf (lawV (some (.ref ls)) uk (some (.ref la)) (some (.int wd tw)) (some (.ref lc)) (some (.ref lh)) none none none none none none)
        ((lh, lstO hv kh) :: (lc, lstO cv kc) :: (Rc ++ ((la, lstO av ka) :: (ld, lstO dv kd) :: lawC oc Lf (some (.ref ld)) none none none none none none r0))) h)
    (next : ∀ lp lm pv mv kp km uv h tk E', SV pv (pagesS ab wd 6) → BV mv (mailsS ab 6) →
      Sd h₀ Lf (lawV (some (.ref ls)) uk (some (.ref la)) (some (.int wd tw)) (some (.ref lc)) (some (.ref lh)) uv none none none none none)
        ((lm, lstO mv km) :: (lp, lstO pv kp) :: (lh, lstO hv kh) :: (lc, lstO cv kc) :: (Rc ++ ((la, lstO av ka) :: (ld, lstO dv kd) :: lawC oc Lf (some (.ref ld)) (some (.ref lp)) (some (.ref lm)) none none none none r0))) h →
      wpAny (model pw w) A (execs ((bodyOf pw 16).drop 10) env) Q E' (St b h tk)) :
    wpAny (model pw w) A (execs ((bodyOf pw 16).drop 7) env) Q E (St b h tk) := by
  have hh := hA.handled
  have hkE : env.scope.kind = .function := by rw [e.scope]; rfl
  have hcl := hRc.length
  have hcl2 := childrenS_len ab
  obtain ⟨oFi, hoFi, hdFi⟩ := Fi.at_
  obtain ⟨oFq, hoFq, hdFq⟩ := Fq.at_
  refine x_asg ?_
  repeat' walk_at "st"
  refine k_newList D fun l1 h tk D => ?_
  repeat' walk_at "st"
  refine k_mulL D (by walk_at "mem") (by decide) (by decide) fun lp h tk D => ?_
  refine k_sC D e (by rfl) (by rfl) (by walk_at "upd") fun h tk D => ?_
  refine x_asg ?_
  repeat' walk_at "st"
  refine k_bytes fun _ _ => ?_
  repeat' walk_at "st"
  refine k_newList D fun l2 h tk D => ?_
  repeat' walk_at "st"
  refine k_mulL D (by walk_at "mem") (by decide) (by decide) fun lm h tk D => ?_
  refine k_sC D e (by rfl) (by rfl) (by walk_at "upd") fun h tk D => ?_
  have D := (D.weak (O' := (lm, lstO (List.replicate 6 (Value.bytes #[] _)) 0) :: (lp, lstO (List.replicate 6 (Value.str (PySem.Str.ofString "") _)) 0) :: (lh, lstO hv kh) :: (lc, lstO cv kc) :: (Rc ++ ((la, lstO av ka) :: (ld, lstO dv kd) :: lawC oc Lf (some (.ref ld)) (some (.ref lp)) (some (.ref lm)) none none none none r0))) (by walk_at "sub"))
  refine x_for h₀ Lf ?_
  repeat' walk_at "st"
  refine k_rng3 hh D (by omega) (by omega) (by omega) fun I oI S h tk D Dv hst => ?_
  rw [show ((5 : Int) - -1).toNat = 6 by decide] at Dv
  refine k_for (fun i V O' => ∃ uv pv mv kp km, V = lawV (some (.ref ls)) uk (some (.ref la)) (some (.int wd tw)) (some (.ref lc)) (some (.ref lh)) uv none none none none none ∧ SV pv (pagesS ab wd i) ∧ BV mv (mailsS ab i) ∧
    O' = ((lm, lstO mv km) :: (lp, lstO pv kp) :: (lh, lstO hv kh) :: (lc, lstO cv kc) :: (Rc ++ ((la, lstO av ka) :: (ld, lstO dv kd) :: lawC oc Lf (some (.ref ld)) (some (.ref lp)) (some (.ref lm)) none none none none r0)) : Os)) D Dv hst ⟨none, _, _, 0, 0, rfl, SV.rep _ 6, BV.rep _ 6, rfl⟩ (by intros; simp_all) ?_ ?_
  · rintro i _ V1 O1 oI' h tk E'' hlt ⟨tv, rfl⟩ ⟨uv, pv, mv, kp, km, rfl, hP, hM, rfl⟩ D
    have hpl1 := hP.length
    rw [pagesS_len] at hpl1
    have hml1 := hM.length
    rw [mailsS_len] at hml1
    have hpi1 := hpl i (by omega)
    have hpi2 := hpl (i + 1) (by omega)
    have hmi1 := hml i (by omega)
    have hmi2 := hml (i + 1) (by omega)
    rw [pagesS_succ] at hpi2 ⊢
    rw [mailsS_succ] at hmi2 ⊢
    have hPl := pagesS_len ab wd i
    have hMl := mailsS_len ab i
    generalize pagesS ab wd i = ps at hP hpi1 hpi2 hPl ⊢
    generalize mailsS ab i = ms at hM hmi1 hmi2 hMl ⊢
    have ev : ((5 : Int) - (i : Nat)) = ((5 - i : Nat) : Int) := by omega
    rw [ev]
    have hv6 : 5 - i < 6 := by omega
    generalize 5 - i = v at hv6 hpi2 hmi2 ⊢
    refine k_sL D e (by walk_at "upd") (by rfl) fun h tk D => ?_
    obtain ⟨ar, rs, kr, q1, q2, q3⟩ := hRc.get v (by omega)
    have q3l := q3.length
    have hrow := hch v hv6
    have hrl := hchl v hv6
    refine x_set ?_
    repeat' walk_at "st"
    refine item_str (by unfold PySem.fitsSsize; simp; omega) (by show -((6 : Nat) : Int) ≤ v; omega) (by show (v : Int) < ((6 : Nat) : Int); omega) fun _ => ?_
    have hil := item_letter hv6
    repeat' walk_at "st"
    have hItl : (Txt.item (PySem.Str.ofString "abcdef") (v : Int)).length = 1 := rfl
    have hnl : (PySem.Str.ofString "\n").length = 1 := rfl
    refine k_addS (by rw [hItl, hnl]; decide) fun z1 tz1 tk hz1 => ?_
    repeat' walk_at "st"
    refine c_F hoFi hdFi ?_
    refine a_cons ?_
    refine c_M ?_
    repeat' walk_at "st"
    refine GM.join ?_
    refine c_M1 ?_
    refine a_cons ?_
    refine e_comp h₀ e (by rfl) (by rfl) ?_
    repeat' walk_at "st"
    refine item_ D (by walk_at "mem") (by omega) (by rw [Int.toNat_natCast]; exact q1) (by rw [sizeLine_eq]; omega) ?_
    refine k_iterList hh D (by walk_at "mem") fun I2 oI2 S2 h tk D Dv2 hst2 => ?_
    refine ⟨_, k_comp (fun j ys O' => SV ys ((((childrenS ab).getD v []).take j).map fun k => ps.getD k.toNat []) ∧ O' = ((I, oI') :: (lm, lstO mv km) :: (lp, lstO pv kp) :: (lh, lstO hv kh) :: (lc, lstO cv kc) :: (Rc ++ ((la, lstO av ka) :: (ld, lstO dv kd) :: lawC oc Lf (some (.ref ld)) (some (.ref lp)) (some (.ref lm)) none none none none r0)) : Os)) D Dv2 hst2 (by rw [sizeLine_eq]; omega) ⟨.nil, rfl⟩ ?_ ?_ ?_⟩
    · rintro j V1 O1 ⟨_, rfl⟩ p hp
      rw [List.mem_singleton] at hp; subst hp
      walk_at "mem"
    · rintro C j _ ys O₁ B oL2 oI3 k3 h tk E3 hlt2 hget2 hyl ⟨hys, rfl⟩ D
      rw [q3l] at hlt2
      obtain ⟨x, hx⟩ : ∃ x, ((childrenS ab).getD v [])[j]? = some x := ⟨_, List.getElem?_eq_getElem hlt2⟩
      obtain ⟨t2, rfl⟩ := IntsAre.at_ q3 hget2 hx
      obtain ⟨x0, x1⟩ := hrow x (List.mem_of_getElem? hx)
      obtain ⟨px, pt, hpx, hpc⟩ := hP.get x.toNat (by omega)
      refine tests0 (iteT rfl ?_)
      repeat' walk_at "st"
      refine item_ D (by walk_at "mem") x0 hpx (by rw [sizeLine_eq]; omega) ?_
      refine ElS.intro D ⟨?_, rfl⟩
      rw [List.take_add_one, hx, Option.toList_some, List.map_append, List.map_singleton]
      exact hys.snoc hpc
    · rintro B ys k3 O₁ h tk hyl ⟨hys, rfl⟩ D
      rw [q3l, List.take_of_length_le (Nat.le_refl _)] at hys
      obtain ⟨pp, rfl, hfl⟩ := hys.texts
      repeat' walk_at "st"
      have hnew : (pageStep ab wd ps v).length = 6 := by simp [pageStep, hPl]
      have hmem : ((97 + v) :: 10 :: indentL (blanks wd) true (((childrenS ab).getD v []).map fun k => ps.getD k.toNat []).flatten) ∈ pageStep ab wd ps v := by
        unfold pageStep; exact List.mem_set (by omega) _
      have hlen1 := hpi2 _ hmem
      rw [List.length_cons, List.length_cons] at hlen1
      have hfll : (flatS pp).length ≤ 6000 := by
        rw [hfl, List.length_flatten, List.map_map]
        have : ∀ (l : List Int), l.length ≤ 6 → ((l.map (List.length ∘ fun k => ps.getD k.toNat [])).sum ≤ l.length * 1000) := by
          intro l
          induction l with
          | nil => intro _; simp
          | cons x r ih =>
            intro hl
            rw [List.length_cons] at hl
            have := ih (by omega)
            have h1 : (ps.getD x.toNat []).length ≤ 1000 := by
              rcases mem_getD_orL (l := ps) (i := x.toNat) with h | h
              · exact hpi1 _ h
              · rw [h]; simp
            simp only [List.map_cons, List.sum_cons, Function.comp_apply, List.length_cons]
            omega
        have := this _ hrl
        omega
      refine k_sjoin D (.head _) (by omega) fun _ _ => ?_
      repeat' walk_at "st"
      refine ⟨⟨_, _, _, D⟩, wpAny_call ?_⟩
      have e9 : (⟨(flatS pp).toArray⟩ : Str).cps.toList = (((childrenS ab).getD v []).map fun k => ps.getD k.toNat []).flatten := hfl
      refine indent_call (x := ⟨(flatS pp).toArray⟩) (hA.less (by decide)) Fi hdi hoT hdT hone W hpi Pi D (by show ((flatS pp).toArray).size ≤ _; rw [List.size_toArray]; omega) hwd.1 (by omega) (by rw [e9]; omega) fun t h tk D => ?_
      rw [e9]
      have hz1l : z1.length ≤ 2 := by
        have e1 : z1.length = z1.cps.toList.length := by rw [Array.length_toList]; rfl
        rw [e1, hz1, hil]
        exact Nat.le_refl _
      refine k_addS (by show z1.length + ((indentL (blanks wd) true _).toArray).size ≤ _; rw [List.size_toArray]; omega) fun z2 tz2 tk hz2 => ?_
      repeat' walk_at "st"
      have hz2' : z2.cps.toList = (97 + v) :: 10 :: indentL (blanks wd) true (((childrenS ab).getD v []).map fun k => ps.getD k.toNat []).flatten := by
        rw [hz2, hz1, hil]; rfl
      refine k_setItem D (by walk_at "upd") (by omega) (by omega) (by rw [sizeLine_eq]; omega) fun h tk D => ?_
      rw [Int.toNat_natCast] at D
      have hP2 := hP.set (t := tz2) hz2' v
      have D := D.weak (O' := (I, oI') :: (lm, lstO mv km) :: (lp, lstO (pv.set v (.str z2 tz2)) kp) :: (lh, lstO hv kh) :: (lc, lstO cv kc) :: (Rc ++ ((la, lstO av ka) :: (ld, lstO dv kd) :: lawC oc Lf (some (.ref ld)) (some (.ref lp)) (some (.ref lm)) none none none none r0))) (by walk_at "sub")
      refine x_set ?_
      refine b_bin ?_
      refine b_bin ?_
      refine b_bin ?_
      refine k_bytes fun _ _ => ?_
      refine s_sub ?_
      refine k_bytes fun _ _ => ?_
      repeat' walk_at "st"
      refine k_newSlice D fun sl h tk D => ?_
      refine k_sliceB D (.head _) (.int _ _) (.int _ _) (by decide) fun _ _ => ?_
      have hpk := slice_letter hv6
      have hpks : (KBy.picked [97, 98, 99, 100, 101, 102].toArray (some (v : Int)) (some ((v : Int) + 1))).size = 1 := by
        have := congrArg List.length hpk
        rw [List.length_map, Array.length_toList] at this
        exact this
      refine k_addB (by rw [hpks]; decide) fun y1 ty1 tk hy1 => ?_
      refine k_bytes fun _ _ => ?_
      have hy1s : y1.size = 2 := by
        have := congrArg List.length hy1
        rw [hpk, List.length_map, Array.length_toList] at this
        exact this
      refine k_addB (by rw [hy1s]; decide) fun y2 ty2 tk hy2 => ?_
      have hy2c : y2.toList.map (·.toNat) = [46, 97 + v, 10] := by rw [hy2, hy1, hpk]; rfl
      have hy2s : y2.size = 3 := by
        have := congrArg List.length hy2c
        rw [List.length_map, Array.length_toList] at this
        exact this
      repeat' walk_at "st"
      refine c_F hoFq hdFq ?_
      refine a_cons ?_
      refine c_M ?_
      refine k_bytes fun _ _ => ?_
      refine KBd.method_of _ (typeIs_bytes _ _ _) slot_bjoin type_bjoin KBd.noRef ?_
      refine c_M1 ?_
      refine a_cons ?_
      have D := D.weak (O' := (I, oI') :: (lm, lstO mv km) :: (lp, lstO (pv.set v (.str z2 tz2)) kp) :: (lh, lstO hv kh) :: (lc, lstO cv kc) :: (Rc ++ ((la, lstO av ka) :: (ld, lstO dv kd) :: lawC oc Lf (some (.ref ld)) (some (.ref lp)) (some (.ref lm)) none none none none r0))) (by walk_at "sub")
      refine e_comp h₀ e (by rfl) (by rfl) ?_
      repeat' walk_at "st"
      refine item_ D (by walk_at "mem") (by omega) (by rw [Int.toNat_natCast]; exact q1) (by rw [sizeLine_eq]; omega) ?_
      refine k_iterList hh D (by walk_at "mem") fun I3 oI3 S3 h tk D Dv3 hst3 => ?_
      refine ⟨_, k_comp (fun j ys O' => BV ys ((((childrenS ab).getD v []).take j).map fun k => ms.getD k.toNat []) ∧ O' = ((I, oI') :: (lm, lstO mv km) :: (lp, lstO (pv.set v (.str z2 tz2)) kp) :: (lh, lstO hv kh) :: (lc, lstO cv kc) :: (Rc ++ ((la, lstO av ka) :: (ld, lstO dv kd) :: lawC oc Lf (some (.ref ld)) (some (.ref lp)) (some (.ref lm)) none none none none r0)) : Os)) D Dv3 hst3 (by rw [sizeLine_eq]; omega) ⟨.nil, rfl⟩ ?_ ?_ ?_⟩
      · rintro j V1 O1 ⟨_, rfl⟩ p hp
        rw [List.mem_singleton] at hp; subst hp
        walk_at "mem"
      · rintro C j _ ys O₁ B oL2 oI4 k4 h tk E3 hlt2 hget2 hyl ⟨hys, rfl⟩ D
        rw [q3l] at hlt2
        obtain ⟨x, hx⟩ : ∃ x, ((childrenS ab).getD v [])[j]? = some x := ⟨_, List.getElem?_eq_getElem hlt2⟩
        obtain ⟨t2, rfl⟩ := IntsAre.at_ q3 hget2 hx
        obtain ⟨x0, x1⟩ := hrow x (List.mem_of_getElem? hx)
        obtain ⟨px, pt, hpx, hpc⟩ := hM.get x.toNat (by omega)
        refine tests0 (iteT rfl ?_)
        repeat' walk_at "st"
        refine item_ D (by walk_at "mem") x0 hpx (by rw [sizeLine_eq]; omega) ?_
        refine ElS.intro D ⟨?_, rfl⟩
        rw [List.take_add_one, hx, Option.toList_some, List.map_append, List.map_singleton]
        exact hys.snoc hpc
      · rintro B2 ys k4 O₁ h tk hyl ⟨hys, rfl⟩ D
        rw [q3l, List.take_of_length_le (Nat.le_refl _)] at hys
        obtain ⟨bp, rfl, hfb⟩ := hys.texts
        repeat' walk_at "st"
        have hmem2 : (46 :: (97 + v) :: 10 :: quoteL true (((childrenS ab).getD v []).map fun k => ms.getD k.toNat []).flatten) ∈ mailStep ab ms v := by
          unfold mailStep; exact List.mem_set (by omega) _
        have hlen2 := hmi2 _ hmem2
        rw [List.length_cons, List.length_cons, List.length_cons] at hlen2
        have hfbl : ((bp.map (·.1.toList)).flatten).length ≤ 6000 := by
          have e1 : ((bp.map (·.1.toList)).flatten).length = ((((childrenS ab).getD v []).map fun k => ms.getD k.toNat []).flatten).length := by rw [← hfb, List.length_map]
          rw [e1, List.length_flatten, List.map_map]
          have : ∀ (l : List Int), l.length ≤ 6 → ((l.map (List.length ∘ fun k => ms.getD k.toNat [])).sum ≤ l.length * 1000) := by
            intro l
            induction l with
            | nil => intro _; simp
            | cons x r ih =>
              intro hl
              rw [List.length_cons] at hl
              have := ih (by omega)
              have h1 : (ms.getD x.toNat []).length ≤ 1000 := by
                rcases mem_getD_orL (l := ms) (i := x.toNat) with h | h
                · exact hmi1 _ h
                · rw [h]; simp
              simp only [List.map_cons, List.sum_cons, Function.comp_apply, List.length_cons]
              omega
          have := this _ hrl
          omega
        refine k_bjoin D (.head _) (by omega) fun _ _ => ?_
        repeat' walk_at "st"
        refine ⟨⟨_, _, _, D⟩, wpAny_call ?_⟩
        have e8 : ((bp.map (·.1.toList)).flatten).toArray.toList.map (·.toNat) = (((childrenS ab).getD v []).map fun k => ms.getD k.toNat []).flatten := by rw [List.toList_toArray]; exact hfb
        refine quote_call (y := ((bp.map (·.1.toList)).flatten).toArray) (hA.less (by decide)) Fq hdq W hpq Pq D (by unfold natsB; rw [Array.size_map, List.size_toArray]; omega) (by rw [e8]; omega) fun z3 t h tk hz3 D => ?_
        rw [e8] at hz3
        have hz3s : z3.size = (quoteL true (((childrenS ab).getD v []).map fun k => ms.getD k.toNat []).flatten).length := by
          rw [← hz3, List.length_map, Array.length_toList]
        refine k_addB (by rw [hy2s, hz3s]; omega) fun z4 tz4 tk hz4 => ?_
        have hz4c : z4.toList.map (·.toNat) = 46 :: (97 + v) :: 10 :: quoteL true (((childrenS ab).getD v []).map fun k => ms.getD k.toNat []).flatten := by
          rw [hz4, hy2c, hz3]; rfl
        repeat' walk_at "st"
        refine k_setItem D (by walk_at "upd") (by omega) (by omega) (by rw [sizeLine_eq]; omega) fun h tk D => ?_
        rw [Int.toNat_natCast] at D
        have hM2 := hM.set (t := tz4) hz4c v
        refine wpAny_execs_nil (TurnS.intro (D.weak (by walk_at "sub")) ⟨some (.int v tv), _, _, kp, km, rfl, hP2, hM2, rfl⟩)
  · rintro V1 O1 h tk ⟨uv, pv, mv, kp, km, rfl, hP, hM, rfl⟩ D
    exact ⟨rfl, next lp lm pv mv kp km uv h tk _ hP hM D⟩
end
/-! text F19 -/
section

--BODY
variable {w : World} {A : Around} {E : Value → Shared → Prop} {b : Shared} {h : Heap} {tk : Nat} {h₀ : Heap} {L : Addr} {V : Vs} {O : Os} {mg mb : Str → Option Value}
theorem IntsAre.last {wv : List Value} {r : List Int} {v : Int} (h : IntsAre wv (r ++ [v])) : ∃ wv' t, wv = wv' ++ [.int v t] ∧ IntsAre wv' r := by
  induction r generalizing wv with
  | nil => cases h with
    | cons n t h => cases h; exact ⟨[], t, rfl, .nil⟩
  | cons x r ih => cases h with
    | cons n t h =>
      obtain ⟨wv', t', rfl, h2⟩ := ih h
      exact ⟨.int x t :: wv', t', rfl, .cons x t h2⟩
set_option maxHeartbeats 4000000 in
theorem law_D {env : Env} {Lf : Addr} {r0 base : Os} {oc : Addr → Obj} {la lc lh : Addr} {cv : List Value} {ab fin : List Int} {kc : Nat} {Rc : Os} {s1 s2 s3 s4 : Option Value} {Q : Flow → Shared → Prop}
    (hA : Ok 12 A) (e : EnvIs env (scopeOf pw 16) Lf (lawCells Lf)) (W : Wd h₀ mg mb)
    (hRc : RowsAre cv (childrenS ab) Rc) (hal : ab.length = 6) (hch : ∀ v, v < 6 → ∀ x ∈ (childrenS ab).getD v [], 0 ≤ x ∧ x < 6) (hchl : ∀ v, v < 6 → ((childrenS ab).getD v []).length ≤ 6)
    (hfin : ordS ab 6 [] [0] = some fin) (hmc : (lc, lstO cv kc) ∈ base) (hmR : ∀ p ∈ Rc, p ∈ base) {uv : Option Value}
    (D : Sd h₀ Lf (lawV s1 s2 s3 s4 (some (.ref lc)) (some (.ref lh)) uv none none none none none) base h)
    (next : ∀ lo ov ko lw wv kw uv h tk E', IntsAre ov fin →
      Sd h₀ Lf (lawV s1 s2 s3 s4 (some (.ref lc)) (some (.ref lh)) uv (some (.ref lo)) (some (.ref lw)) none none none) ((lw, lstO wv kw) :: (lo, lstO ov ko) :: base) h →
      wpAny (model pw w) A (execs ((bodyOf pw 16).drop 13) env) Q E' (St b h tk)) :
    wpAny (model pw w) A (execs ((bodyOf pw 16).drop 10) env) Q E (St b h tk) := by
  have hh := hA.handled
  have hkE : env.scope.kind = .function := by rw [e.scope]; rfl
  have hcl := hRc.length
  have hcl2 := childrenS_len ab
  refine x_asg ?_
  repeat' walk_at "st"
  refine k_newList D fun lo h tk D => ?_
  refine k_sL D e (by walk_at "upd") (by rfl) fun h tk D => ?_
  refine x_asg ?_
  repeat' walk_at "st"
  refine k_newList D fun lw0 h tk D => ?_
  refine k_sL D e (by walk_at "upd") (by rfl) fun h tk D => ?_
  refine k_while (fun n V O' => ∃ uv ov ko lw wv kw ord wait, V = lawV s1 s2 s3 s4 (some (.ref lc)) (some (.ref lh)) uv (some (.ref lo)) (some (.ref lw)) none none none ∧ n ≤ 6 ∧ ordS ab n ord wait = some fin ∧ IntsAre ov ord ∧ IntsAre wv wait ∧ ord.length ≤ 6 - n ∧ wait.length ≤ 1 + 6 * (6 - n) ∧ (∀ x ∈ wait, 0 ≤ x ∧ x < 6) ∧
      O' = ((lw, lstO wv kw) :: (lo, lstO ov ko) :: base : Os))
    (fun V O' => ∃ uv ov ko lw wv kw, V = lawV s1 s2 s3 s4 (some (.ref lc)) (some (.ref lh)) uv (some (.ref lo)) (some (.ref lw)) none none none ∧ IntsAre ov fin ∧ O' = ((lw, lstO wv kw) :: (lo, lstO ov ko) :: base : Os)) 6 D
    ⟨uv, [], 0, lw0, _, 0, [], [0], rfl, Nat.le_refl _, hfin, .nil, .cons 0 _ .nil, Nat.le_refl _, by decide, by simp, rfl⟩ ?_ ?_
  · rintro n V1 O1 h tk E' ⟨uv, ov, ko, lw, wv, kw, ord, wait, rfl, hn6, hord, hov, hwv, hol, hwl, hwr, rfl⟩ D
    repeat' walk_at "st"
    refine k_newList D fun le h tk D => ?_
    refine k_neInts (by have := hA.units; omega) D (by walk_at "mem") (by walk_at "mem") hwv .nil ?_
    repeat' walk_at "st"
    have D := D.weak (O' := (lw, lstO wv kw) :: (lo, lstO ov ko) :: base) (by walk_at "sub")
    cases hwt : wait.reverse with
    | nil =>
      have hw0 : wait = [] := by rw [← List.reverse_reverse wait, hwt]; rfl
      subst hw0
      refine iteF rfl ?_
      refine WhS.intro D ⟨uv, ov, ko, lw, wv, kw, rfl, ?_, rfl⟩
      cases n with
      | zero => have : some ord = some fin := hord; rw [← Option.some.inj this]; exact hov
      | succ n => cases hord
    | cons v r =>
      have hw1 : wait = r.reverse ++ [v] := by rw [← List.reverse_reverse wait, hwt]; simp
      cases n with
      | zero =>
        rw [hw1] at hord
        have : (none : Option (List Int)) = some fin := by
          rw [← hord]; unfold ordS; rw [if_neg (by simp)]
        cases this
      | succ n =>
        have hstep : ordS ab n (ord ++ [v]) (r.reverse ++ ((childrenS ab).getD v.toNat []).reverse) = some fin := by
          rw [← hord]; conv => rhs; unfold ordS
          rw [hwt]
        have hv := hwr v (by rw [hw1]; simp)
        rw [hw1] at hwv hwl hwr
        refine iteT (by rw [hw1]; cases hrr : r.reverse <;> rfl) ?_
        obtain ⟨wv', t, rfl, hwv'⟩ := IntsAre.last hwv
        have hwl' := hwv'.length
        have hovl := hov.length
        rw [List.length_append, List.length_singleton] at hwl
        refine x_asg ?_
        refine c_M ?_
        repeat' walk_at "st"
        refine getMethod_builtin ⟨_, D.get (.head _), rfl⟩ F.plainAttrs_list F.slot_list_pop F.type_list_pop (fun a ha => ?_) ?_
        · cases ha; exact ⟨_, D.get (.head _), rfl⟩
        refine c_M0 ?_
        refine k_popL D (.head _) (by rw [sizeLine_eq]; omega) fun h tk D => ?_
        refine k_sL D e (by walk_at "upd") (by rfl) fun h tk D => ?_
        refine x_expr hkE ?_
        refine c_M ?_
        repeat' walk_at "st"
        refine mAppend D (by walk_at "mem") ?_
        refine c_M1 ?_
        repeat' walk_at "st"
        refine k_append D (by walk_at "upd") (fun h tk D => ?_) (by rw [sizeLine_eq]; omega)
        refine x_asg ?_
        repeat' walk_at "st"
        obtain ⟨ar, rs, kr, q1, q2, q3⟩ := hRc.get v.toNat (by omega)
        have q2 := hmR _ q2
        have q3l := q3.length
        have hrl := hchl v.toNat (by omega)
        refine item_ D (by walk_at "mem") hv.1 q1 (by rw [sizeLine_eq]; omega) ?_
        repeat' walk_at "st"
        refine k_newSlice D fun sl h tk D => ?_
        refine k_tailSlice D (by walk_at "mem") (by walk_at "mem") .none .none (.int _ _) (by decide) (by rw [sizeLine_eq]; omega) fun lr h tk D => ?_
        rw [pick_rev] at D
        refine k_addL D (by walk_at "mem") (by walk_at "mem") (by rw [sizeLine_eq, List.length_reverse]; omega) fun lw2 h tk D => ?_
        refine k_sL D e (by walk_at "upd") (by rfl) fun h tk D => ?_
        refine wpAny_execs_nil ⟨rfl, WhS.intro (D.weak (O' := (lw2, lstO (wv' ++ rs.reverse) 0) :: (lo, lstO (ov ++ [.int v t]) (ko + 1)) :: base) (by walk_at "sub")) ⟨n, Nat.lt_succ_self _, some (.int v t), _, _, lw2, _, 0, _, _, rfl, by omega, hstep, Mine.IntsAre.snoc hov, Mine.IntsAre.app hwv' (IntsAre.rev q3), ?_, ?_, ?_, rfl⟩⟩
        · rw [List.length_append, List.length_singleton]; omega
        · rw [List.length_append, List.length_reverse, List.length_reverse]; rw [List.length_reverse] at hwl; omega
        · intro x hx
          rcases List.mem_append.mp hx with hx | hx
          · exact hwr x (List.mem_append_left _ hx)
          · exact hch v.toNat (by omega) x (List.mem_reverse.mp hx)
  · rintro V1 O1 h tk ⟨uv, ov, ko, lw, wv, kw, rfl, hov, rfl⟩ D
    exact next lo ov ko lw wv kw uv h tk _ hov D
end
/-! text F20 -/
section

--BODY
variable {w : World} {A : Around} {E : Value → Shared → Prop} {b : Shared} {h : Heap} {tk : Nat} {h₀ : Heap} {L : Addr} {V : Vs} {O : Os} {mg mb : Str → Option Value}
noncomputable def dS (l : List Nat) : PyData := .str ⟨l.toArray⟩
theorem readsS {h : Heap} {vs : List Value} {xss : List (List Nat)} (hs : SV vs xss) : ReadsAll h vs (xss.map dS) [] := by
  induction hs with
  | nil => exact .nil
  | cons x t xs e _ ih =>
    have : x = ⟨xs.toArray⟩ := by subst e; rfl
    subst this
    exact ReadsAll.cons (.str _ t) ih
noncomputable def textOk (l : List Nat) : Bool := decide (l.length ≤ 2000) && l.all fun c => decide (c < 128)
theorem shaped_S (xss : List (List Nat)) (ho : ∀ l ∈ xss, textOk l = true) : SeqAt.shaped (.list (xss.map dS)) = true := by
  unfold SeqAt.shaped
  rw [Bool.and_eq_true, decide_eq_true_eq]
  constructor
  · simp only [PyData.canLay0]
    induction xss with
    | nil => rfl
    | cons l r ih =>
      simp only [List.map_cons, PyData.canLayAll0, Bool.and_eq_true]
      refine ⟨?_, ih fun l hl => ho l (List.mem_cons_of_mem _ hl)⟩
      have := ho l List.mem_cons_self
      unfold textOk at this
      rw [Bool.and_eq_true, List.all_eq_true] at this
      simp only [dS, PyData.canLay0, PyData.strOk]
      rw [List.all_toArray, List.all_eq_true]
      intro c hc
      have := this.2 c hc
      simp only [decide_eq_true_eq] at this ⊢
      omega
  · simp only [PyData.depth]
    have : PyData.depthAll (xss.map dS) ≤ 1 := by
      clear ho
      induction xss with
      | nil => simp [PyData.depthAll]
      | cons n r ih => simp only [List.map_cons, PyData.depthAll, dS, PyData.depth]; omega
    omega
theorem k_neSame {l m : Addr} {xs ys : List Value} {xss : List (List Nat)} {n k : Nat} {s : Shared} {prog : Program} {Q : Value → Shared → Prop} (hu : A.units + 64 < cLine) (D : Sd h₀ L V O s.heap) (h1 : (l, lstO xs n) ∈ O) (h2 : (m, lstO ys k) ∈ O) (i1 : SV xs xss) (i2 : SV ys xss) (ho : ∀ l ∈ xss, textOk l = true)
    (hQ : Q (.bool false) s) : wpAny (model prog w) A (compareOp .NotEq (.ref l) (.ref m)) Q E s := by
  have hsh := shaped_S xss ho
  refine ne_dataH (Reads.list (D.get h1) rfl rfl (readsS i1)) (Reads.list (D.get h2) rfl rfl (readsS i2)) hsh hsh hu ?_
  rw [SeqAt.eqv_refl _ (SeqAt.canLay_of_shaped hsh)]
  exact hQ
theorem pick_init (vs : List Value) (h : 1 ≤ vs.length) : (slicePick vs.toArray none (some (-1)) none).toList = vs.take (vs.length - 1) := by
  rw [slicePick_plain]
  have := clipAt_neg vs.length 1 (by decide)
  have e1 : (-(1 : Nat) : Int) = -1 := rfl
  rw [e1] at this
  simp [this]
theorem pick_last (vs : List Value) (h : 1 ≤ vs.length) : (slicePick vs.toArray (some (-1)) none none).toList = vs.drop (vs.length - 1) := by
  rw [slicePick_plain]
  have := clipAt_neg vs.length 1 (by decide)
  have e1 : (-(1 : Nat) : Int) = -1 := rfl
  rw [e1] at this
  simp [this]
  rw [List.take_of_length_le (by rw [List.length_drop]; exact Nat.le_refl _)]
set_option maxHeartbeats 4000000 in
theorem law_E {env : Env} {Lf : Addr} {r0 base : Os} {oc : Addr → Obj} {lo lp lm : Addr} {ov pv mv : List Value} {ab : List Int} {wd ko kp km : Nat} {s1 s2 s3 s4 s5 s6 s7 s9 : Option Value} {cP cM : Addr} {Q : Flow → Shared → Prop}
    (hA : Ok 12 A) (e : EnvIs env (scopeOf pw 16) Lf (lawCells Lf)) (W : Wd h₀ mg mb)
    (hmP : (Lf + 2, cellL (oc (Lf + 2)) (some (.ref lp))) ∈ base) (hmM : (Lf + 3, cellL (oc (Lf + 3)) (some (.ref lm))) ∈ base) (hmo : (lo, lstO ov ko) ∈ base) (hmp : (lp, lstO pv kp) ∈ base) (hmm : (lm, lstO mv km) ∈ base)
    (hov : IntsAre ov (orderS ab)) (hol : (orderS ab).length = 6) (hor : ∀ v ∈ orderS ab, 0 ≤ v ∧ v < 6) (hP : SV pv (pagesS ab wd 6)) (hM : BV mv (mailsS ab 6))
    (hp0 : ((pagesS ab wd 6).getD 0 []).length ≤ 1000) (hm0 : ((mailsS ab 6).getD 0 []).length ≤ 1000) (hmne : 0 < ((mailsS ab 6).getD 0 []).length) (hm7 : ∀ c ∈ (mailsS ab 6).getD 0 [], c < 128)
    (hrl : (rowsS ab wd).length = 7) (hrows : (rowsS ab wd).dropLast.map (stripL 32) ++ [(rowsS ab wd).getLastD []] = lettersS ab)
    (hsl : (sentS ab).length = 7) (hsent : (sentS ab).dropLast.map (stripL 46) ++ [(sentS ab).getLastD []] = lettersS ab) (hlet : ∀ l ∈ lettersS ab, textOk l = true)
    (hrow32 : ∀ r ∈ (rowsS ab wd).dropLast, r.length ≤ 1000) (hrow46 : ∀ r ∈ (sentS ab).dropLast, r.length ≤ 1000)
    (D : Sd h₀ Lf (lawV s1 s2 s3 s4 s5 s6 s7 (some (.ref lo)) s9 none none none) base h)
    (next : ∀ lt lr ls tv rv sv h tk E', SV rv (rowsS ab wd) → SV sv (sentS ab) →
      Sd h₀ Lf (lawV s1 s2 s3 s4 s5 s6 s7 (some (.ref lo)) s9 (some (.ref lt)) (some (.ref lr)) (some (.ref ls))) ((ls, lstO sv 0) :: (lr, lstO rv 0) :: (lt, lstO tv 0) :: base) h →
      wpAny (model pw w) A (execs ((bodyOf pw 16).drop 18) env) Q E' (St b h tk)) :
    wpAny (model pw w) A (execs ((bodyOf pw 16).drop 13) env) Q E (St b h tk) := by
  have hh := hA.handled
  have hkE : env.scope.kind = .function := by rw [e.scope]; rfl
  have hovl := hov.length
  have hPl := hP.length
  rw [pagesS_len] at hPl
  have hMl := hM.length
  rw [mailsS_len] at hMl
  refine x_asg ?_
  refine b_bin ?_
  refine e_comp h₀ e (by rfl) (by rfl) ?_
  repeat' walk_at "st"
  refine k_iterList hh D (by walk_at "mem") fun I oI S h tk D Dv hst => ?_
  refine ⟨_, k_comp (fun j ys O' => SV ys (((orderS ab).take j).map fun v => [97 + v.toNat]) ∧ O' = base) D Dv hst (by rw [sizeLine_eq]; omega) ⟨.nil, rfl⟩ ?_ ?_ ?_⟩
  · rintro j V1 O1 ⟨_, hOb⟩ p hp
    rw [List.mem_singleton] at hp; subst hp
    rw [hOb]; exact hmo
  · rintro C j _ ys O₁ B oL2 oI3 k3 h tk E3 hlt2 hget2 hyl ⟨hys, hOb⟩ D
    rw [hOb] at D
    obtain ⟨x, hx⟩ : ∃ x, (orderS ab)[j]? = some x := ⟨_, List.getElem?_eq_getElem (by omega)⟩
    obtain ⟨t2, rfl⟩ := IntsAre.at_ hov hget2 hx
    obtain ⟨x0, x1⟩ := hor x (List.mem_of_getElem? hx)
    refine tests0 (iteT rfl ?_)
    repeat' walk_at "st"
    refine item_str (by unfold PySem.fitsSsize; simp; omega) (by show -((6 : Nat) : Int) ≤ x; omega) (by show x < ((6 : Nat) : Int); omega) fun _ => ?_
    refine ElS.intro (O' := base) D ⟨?_, rfl⟩
    rw [List.take_add_one, hx, Option.toList_some, List.map_append, List.map_singleton]
    refine hys.snoc ?_
    have := item_letter (v := x.toNat) (by omega)
    rwa [Int.toNat_of_nonneg x0] at this
  · rintro lt1 t1 kt1 O₁ h tk hyl ⟨ht1, hOb⟩ D
    rw [hOb] at D
    rw [hovl, List.take_of_length_le (Nat.le_refl _)] at ht1
    have ht1l := ht1.length
    rw [List.length_map] at ht1l
    repeat' walk_at "st"
    refine k_newList D fun le h tk D => ?_
    refine k_addL D (by walk_at "mem") (by walk_at "mem") (by rw [sizeLine_eq]; simp only [List.length_cons, List.length_nil]; omega) fun lt h tk D => ?_
    generalize htv : (t1 ++ [Value.str (PySem.Str.ofString "") _]) = tv at D
    have htS : SV tv (lettersS ab) := by rw [← htv]; exact ht1.snoc rfl
    refine k_sL D e (by walk_at "upd") (by rfl) fun h tk D => ?_
    have D := D.weak (O' := (lt, lstO tv 0) :: base) (by walk_at "sub")
    refine x_asg ?_
    refine c_M ?_
    repeat' walk_at "st"
    obtain ⟨px, pt, hpx, hpc⟩ := hP.get 0 (by rw [pagesS_len]; decide)
    refine item_ D (by walk_at "mem") (by omega) hpx (by rw [sizeLine_eq]; omega) ?_
    refine GM.split ?_
    refine c_M1 ?_
    repeat' walk_at "st"
    have hpxl : px.length ≤ 1000 := by
      have e1 : px.length = px.cps.toList.length := by rw [Array.length_toList]; rfl
      rw [e1, hpc]; exact hp0
    have hsp : (Txt.split px ⟨#[10]⟩).map (·.cps.toList) = rowsS ab wd := by rw [split_is, hpc]; rfl
    have hspl : (Txt.split px ⟨#[10]⟩).length = 7 := by have := congrArg List.length hsp; rw [List.length_map, hrl] at this; exact this
    refine k_split (y := ⟨#[10]⟩) D (by decide) (by rw [sizeLine_eq]; omega) (by rw [sizeLine_eq, hspl]; decide) fun lr rl h tk hrl2 D => ?_
    have hrS : SV (strValues rl) (rowsS ab wd) := SV.ofStrs rl _ (by rw [← hsp, ← hrl2, List.map_map]; rfl)
    have hrvl := hrS.length
    rw [hrl] at hrvl
    generalize strValues rl = rv at D hrS hrvl
    refine k_sL D e (by walk_at "upd") (by rfl) fun h tk D => ?_
    refine x_if ?_
    refine t_cmp ?_
    refine b_bin ?_
    refine e_comp h₀ e (by rfl) (by rfl) ?_
    repeat' walk_at "st"
    refine k_newSlice D fun s1 h tk D => ?_
    refine k_tailSlice D (by walk_at "mem") (by walk_at "mem") .none (.int _ _) .none (by decide) (by rw [sizeLine_eq, hrvl]; decide) fun l1 h tk D => ?_
    rw [pick_init _ (by rw [hrvl]; decide), hrvl] at D
    have hT6 : SV (rv.take (7 - 1)) ((rowsS ab wd).dropLast) := by rw [List.dropLast_eq_take, hrl]; exact hrS.take _
    have hT6l := hT6.length
    rw [List.length_dropLast, hrl] at hT6l
    have D := D.weak (O' := (l1, lstO (rv.take (7 - 1)) 0) :: (lr, lstO rv 0) :: (lt, lstO tv 0) :: base) (by walk_at "sub")
    refine k_iterList hh D (by walk_at "mem") fun I1 oI1 S1 h tk D Dv1 hst1 => ?_
    refine ⟨_, k_comp (fun j ys O' => SV ys (((rowsS ab wd).dropLast.take j).map (stripL 32)) ∧ O' = ((l1, lstO (rv.take (7 - 1)) 0) :: (lr, lstO rv 0) :: (lt, lstO tv 0) :: base : Os)) D Dv1 hst1 (by rw [sizeLine_eq, hT6l]; decide) ⟨.nil, rfl⟩ ?_ ?_ ?_⟩
    · rintro j V1 O1 ⟨_, hOb⟩ p hp
      rw [List.mem_singleton] at hp; subst hp
      rw [hOb]; exact .head _
    · rintro C j _ ys O₁ B oL2 oI3 k3 h tk E3 hlt2 hget2 hyl ⟨hys, hOb⟩ D
      rw [hOb] at D
      rw [hT6l] at hlt2
      obtain ⟨xx, tt, rfl, hxc⟩ := hT6.at_ hget2
      refine tests0 (iteT rfl ?_)
      refine c_M ?_
      repeat' walk_at "st"
      refine GM.lstrip ?_
      refine c_M1 ?_
      repeat' walk_at "st"
      have hxm : (rowsS ab wd).dropLast[j]? = some ((rowsS ab wd).dropLast.getD j []) := by
        rw [List.getD_eq_getElem?_getD, List.getElem?_eq_getElem (by rw [List.length_dropLast, hrl]; exact hlt2)]; rfl
      have hxl : xx.length ≤ sizeLine := by
        rw [sizeLine_eq]
        have e1 : xx.length = xx.cps.toList.length := by rw [Array.length_toList]; rfl
        rw [e1, hxc]
        have := hrow32 _ (List.mem_of_getElem? hxm)
        omega
      refine k_lstrip (y := ⟨#[32]⟩) hxl fun _ _ => ?_
      refine ElS.intro (O' := (l1, lstO (rv.take (7 - 1)) 0) :: (lr, lstO rv 0) :: (lt, lstO tv 0) :: base) D ⟨?_, rfl⟩
      rw [List.take_add_one, hxm, Option.toList_some, List.map_append, List.map_singleton]
      refine hys.snoc ?_
      rw [stripBy_is, hxc]
    · rintro l2 y2 k2 O₁ h tk hyl ⟨hy2, hOb⟩ D
      rw [hOb] at D
      rw [hT6l, List.take_of_length_le (by rw [List.length_dropLast, hrl]; decide)] at hy2
      have hy2l := hy2.length
      rw [List.length_map, List.length_dropLast, hrl] at hy2l
      repeat' walk_at "st"
      refine k_newSlice D fun s2 h tk D => ?_
      refine k_tailSlice D (by walk_at "mem") (by walk_at "mem") (.int _ _) .none .none (by decide) (by rw [sizeLine_eq, hrvl]; decide) fun l3 h tk D => ?_
      rw [pick_last _ (by rw [hrvl]; decide), hrvl] at D
      have hT1 : SV (rv.drop (7 - 1)) [(rowsS ab wd).getLastD []] := by
        have h1 := hrS.drop (7 - 1)
        have h2 : (rowsS ab wd).drop (7 - 1) = [(rowsS ab wd).getLastD []] := by
          have h3 := hrl
          generalize (rowsS ab wd) = rr at h3
          match rr, h3 with
          | [_, _, _, _, _, _, _], _ => rfl
        rwa [h2] at h1
      refine k_addL D (by walk_at "mem") (by walk_at "mem") (by rw [sizeLine_eq, hy2l, hT1.length]; simp only [List.length_cons, List.length_nil]; omega) fun l4 h tk D => ?_
      repeat' walk_at "st"
      refine k_neSame (by have := hA.units; omega) D (by walk_at "mem") (by walk_at "mem") (by rw [← hrows]; exact hy2.app hT1) htS hlet ?_
      repeat' walk_at "st"
      refine iteF rfl ?_
      have D := D.weak (O' := (lr, lstO rv 0) :: (lt, lstO tv 0) :: base) (by walk_at "sub")
      refine x_asg ?_
      refine c_M ?_
      refine c_M ?_
      repeat' walk_at "st"
      obtain ⟨mx, mt, hmx, hmc⟩ := hM.get 0 (by rw [mailsS_len]; decide)
      refine item_ D (by walk_at "mem") (by omega) hmx (by rw [sizeLine_eq]; omega) ?_
      refine KBd.method_of _ (typeIs_bytes _ _ _) FB.slot_bytes_decode FB.type_bytes_decode KBd.noRef ?_
      refine c_M1 ?_
      repeat' walk_at "st"
      have hmxl : mx.size = ((mailsS ab 6).getD 0 []).length := by rw [← hmc, List.length_map, Array.length_toList]
      refine k_decode (by rw [hmxl]; exact hmne) (fun c hc => hm7 _ (by rw [← hmc]; exact List.mem_map.mpr ⟨c, hc, rfl⟩)) (by omega) fun _ _ => ?_
      refine GM.split ?_
      refine c_M1 ?_
      repeat' walk_at "st"
      have hmlen : (⟨(mx.toList.map (·.toNat)).toArray⟩ : Str).length ≤ 1000 := by
        show ((mx.toList.map (·.toNat)).toArray).size ≤ _
        rw [List.size_toArray, hmc]; exact hm0
      have hsp2 : (Txt.split ⟨(mx.toList.map (·.toNat)).toArray⟩ ⟨#[10]⟩).map (·.cps.toList) = sentS ab := by
        rw [split_is]
        show splitL 10 ((mx.toList.map (·.toNat)).toArray.toList) = _
        rw [List.toList_toArray, hmc]; rfl
      have hspl2 : (Txt.split ⟨(mx.toList.map (·.toNat)).toArray⟩ ⟨#[10]⟩).length = 7 := by have := congrArg List.length hsp2; rw [List.length_map, hsl] at this; exact this
      refine k_split (y := ⟨#[10]⟩) D (by decide) (by rw [sizeLine_eq]; omega) (by rw [sizeLine_eq, hspl2]; decide) fun ls sl h tk hsl2 D => ?_
      have hsS : SV (strValues sl) (sentS ab) := SV.ofStrs sl _ (by rw [← hsp2, ← hsl2, List.map_map]; rfl)
      have hsvl := hsS.length
      rw [hsl] at hsvl
      generalize strValues sl = sv at D hsS hsvl
      refine k_sL D e (by walk_at "upd") (by rfl) fun h tk D => ?_

      refine x_if ?_
      refine t_cmp ?_
      refine b_bin ?_
      refine e_comp h₀ e (by rfl) (by rfl) ?_
      repeat' walk_at "st"
      refine k_newSlice D fun s1 h tk D => ?_
      refine k_tailSlice D (by walk_at "mem") (by walk_at "mem") .none (.int _ _) .none (by decide) (by rw [sizeLine_eq, hsvl]; decide) fun l1 h tk D => ?_
      rw [pick_init _ (by rw [hsvl]; decide), hsvl] at D
      have hT6 : SV (sv.take (7 - 1)) ((sentS ab).dropLast) := by rw [List.dropLast_eq_take, hsl]; exact hsS.take _
      have hT6l := hT6.length
      rw [List.length_dropLast, hsl] at hT6l
      have D := D.weak (O' := (l1, lstO (sv.take (7 - 1)) 0) :: (ls, lstO sv 0) :: (lr, lstO rv 0) :: (lt, lstO tv 0) :: base) (by walk_at "sub")
      refine k_iterList hh D (by walk_at "mem") fun I1 oI1 S1 h tk D Dv1 hst1 => ?_
      refine ⟨_, k_comp (fun j ys O' => SV ys (((sentS ab).dropLast.take j).map (stripL 46)) ∧ O' = ((l1, lstO (sv.take (7 - 1)) 0) :: (ls, lstO sv 0) :: (lr, lstO rv 0) :: (lt, lstO tv 0) :: base : Os)) D Dv1 hst1 (by rw [sizeLine_eq, hT6l]; decide) ⟨.nil, rfl⟩ ?_ ?_ ?_⟩
      · rintro j V1 O1 ⟨_, hOb⟩ p hp
        rw [List.mem_singleton] at hp; subst hp
        rw [hOb]; exact .head _
      · rintro C j _ ys O₁ B oL2 oI3 k3 h tk E3 hlt2 hget2 hyl ⟨hys, hOb⟩ D
        rw [hOb] at D
        rw [hT6l] at hlt2
        obtain ⟨xx, tt, rfl, hxc⟩ := hT6.at_ hget2
        refine tests0 (iteT rfl ?_)
        refine c_M ?_
        repeat' walk_at "st"
        refine GM.lstrip ?_
        refine c_M1 ?_
        repeat' walk_at "st"
        have hxm : (sentS ab).dropLast[j]? = some ((sentS ab).dropLast.getD j []) := by
          rw [List.getD_eq_getElem?_getD, List.getElem?_eq_getElem (by rw [List.length_dropLast, hsl]; exact hlt2)]; rfl
        have hxl : xx.length ≤ sizeLine := by
          rw [sizeLine_eq]
          have e1 : xx.length = xx.cps.toList.length := by rw [Array.length_toList]; rfl
          rw [e1, hxc]
          have := hrow46 _ (List.mem_of_getElem? hxm)
          omega
        refine k_lstrip (y := ⟨#[46]⟩) hxl fun _ _ => ?_
        refine ElS.intro (O' := (l1, lstO (sv.take (7 - 1)) 0) :: (ls, lstO sv 0) :: (lr, lstO rv 0) :: (lt, lstO tv 0) :: base) D ⟨?_, rfl⟩
        rw [List.take_add_one, hxm, Option.toList_some, List.map_append, List.map_singleton]
        refine hys.snoc ?_
        rw [stripBy_is, hxc]
      · rintro l2 y2 k2 O₁ h tk hyl ⟨hy2, hOb⟩ D
        rw [hOb] at D
        rw [hT6l, List.take_of_length_le (by rw [List.length_dropLast, hsl]; decide)] at hy2
        have hy2l := hy2.length
        rw [List.length_map, List.length_dropLast, hsl] at hy2l
        repeat' walk_at "st"
        refine k_newSlice D fun s2 h tk D => ?_
        refine k_tailSlice D (by walk_at "mem") (by walk_at "mem") (.int _ _) .none .none (by decide) (by rw [sizeLine_eq, hsvl]; decide) fun l3 h tk D => ?_
        rw [pick_last _ (by rw [hsvl]; decide), hsvl] at D
        have hT1 : SV (sv.drop (7 - 1)) [(sentS ab).getLastD []] := by
          have h1 := hsS.drop (7 - 1)
          have h2 : (sentS ab).drop (7 - 1) = [(sentS ab).getLastD []] := by
            have h3 := hsl
            generalize (sentS ab) = rr at h3
            match rr, h3 with
            | [_, _, _, _, _, _, _], _ => rfl
          rwa [h2] at h1
        refine k_addL D (by walk_at "mem") (by walk_at "mem") (by rw [sizeLine_eq, hy2l, hT1.length]; simp only [List.length_cons, List.length_nil]; omega) fun l4 h tk D => ?_
        repeat' walk_at "st"
        refine k_neSame (by have := hA.units; omega) D (by walk_at "mem") (by walk_at "mem") (by rw [← hsent]; exact hy2.app hT1) htS hlet ?_
        repeat' walk_at "st"
        refine iteF rfl ?_
        have D := D.weak (O' := (ls, lstO sv 0) :: (lr, lstO rv 0) :: (lt, lstO tv 0) :: base) (by walk_at "sub")

        exact next lt lr ls tv rv sv h tk _ hrS hsS D
end
/-! text F21 -/
section

--BODY
variable {w : World} {A : Around} {E : Value → Shared → Prop} {b : Shared} {h : Heap} {tk : Nat} {h₀ : Heap} {L : Addr} {V : Vs} {O : Os} {mg mb : Str → Option Value}
/-- the names: t, and behind it ones that end with a dot and digits -/
noncomputable def hostOk (hs : List (List Nat)) : Prop := hs.length = 6 ∧ hs.getD 0 [] = [116] ∧ (∀ p ∈ hs, p.length ≤ 1000) ∧ (∀ p ∈ hs, ∀ c ∈ p, c < 128)
theorem bool_reads {h : Heap} : ∀ (bs : List Bool), ReadsAll h (bs.map .bool) (bs.map .bool) []
  | [] => .nil
  | x :: r => ReadsAll.cons (.bool x) (bool_reads r)
theorem shaped_B : ∀ (n : Nat), SeqAt.shaped (.list ((List.replicate n true).map .bool)) = true := by
  intro n
  unfold SeqAt.shaped
  rw [Bool.and_eq_true, decide_eq_true_eq]
  constructor
  · simp only [PyData.canLay0]
    induction n with
    | zero => rfl
    | succ n ih => simp only [List.replicate_succ, List.map_cons, PyData.canLayAll0, PyData.canLay0, Bool.true_and]; exact ih
  · simp only [PyData.depth]
    have : PyData.depthAll ((List.replicate n true).map PyData.bool) ≤ 1 := by
      induction n with
      | zero => simp [PyData.depthAll]
      | succ n ih => simp only [List.replicate_succ, List.map_cons, PyData.depthAll, PyData.depth]; omega
    omega
theorem t_is {l r : Expr} {pos : Pos} {env : Env} {prog : Program} {s : Shared} {Q : Value → Shared → Prop}
    (h : wpAny (model prog w) A (eval l env) (fun a s₁ => wpAny (model prog w) A (eval r env) (fun c s₂ => wpAny (model prog w) A (compareOp .Is a c) Q E s₂) E s₁) E s) (hm : behindInMarks .Is r = false := by rfl) :
    wpAny (model prog w) A (eval (.Compare l [.Is] [r] pos) env) Q E s := by
  exact wpAny_Compare1 h hm
theorem hostsS_stable (ab dr : List Int) (n d i : Nat) (hi : i ≤ n) : (hostsS ab dr (n + d)).getD i [] = (hostsS ab dr n).getD i [] := by
  induction d with
  | zero => rfl
  | succ d ih =>
    rw [← Nat.add_assoc, hostsS_succ]
    unfold hostStep
    rw [List.getD_eq_getElem?_getD, List.getElem?_append_left (by rw [hostsS_len]; omega), ← List.getD_eq_getElem?_getD]
    exact ih
theorem hosts_get (ab dr : List Int) (k : Nat) (hk : k < 5) (hab : 0 ≤ ab.getD (1 + k) 0 ∧ ab.getD (1 + k) 0 ≤ k) :
    (hostsS ab dr 5).getD (1 + k) [] = (hostsS ab dr 5).getD (ab.getD (1 + k) 0).toNat [] ++ 46 :: digs (numS dr k) := by
  have e1 := hostsS_stable ab dr (k + 1) (4 - k) (1 + k) (by omega)
  have e2 := hostsS_stable ab dr k (5 - k) (ab.getD (1 + k) 0).toNat (by omega)
  rw [show k + 1 + (4 - k) = 5 by omega] at e1
  rw [show k + (5 - k) = 5 by omega] at e2
  rw [e1, e2, hostsS_succ]
  unfold hostStep
  rw [List.getD_eq_getElem?_getD, List.getElem?_append_right (by rw [hostsS_len]; omega), hostsS_len, show 1 + k - (k + 1) = 0 by omega]
  rfl
theorem hosts_zero (ab dr : List Int) : (hostsS ab dr 5).getD 0 [] = [116] := by
  have e1 := hostsS_stable ab dr 0 5 0 (Nat.le_refl _)
  rw [show 0 + 5 = 5 by decide] at e1
  rw [e1]; rfl
theorem hosts_first0 (ab dr : List Int) (hab : ∀ i, i < 5 → 0 ≤ ab.getD (1 + i) 0 ∧ ab.getD (1 + i) 0 ≤ i) : ∀ m n, n ≤ m → n < 6 → ∃ r, (hostsS ab dr 5).getD n [] = 116 :: r := by
  intro m
  induction m with
  | zero => intro n hn _; rw [show n = 0 by omega]; exact ⟨[], hosts_zero ab dr⟩
  | succ m ih =>
    intro n hn h6
    cases n with
    | zero => exact ⟨[], hosts_zero ab dr⟩
    | succ n =>
      have h1 := hab n (by omega)
      rw [show n + 1 = 1 + n by omega, hosts_get ab dr n (by omega) h1]
      obtain ⟨r, hr⟩ := ih (ab.getD (1 + n) 0).toNat (by omega) (by omega)
      rw [hr]
      exact ⟨_, rfl⟩
theorem hosts_first (ab dr : List Int) (hab : ∀ i, i < 5 → 0 ≤ ab.getD (1 + i) 0 ∧ ab.getD (1 + i) 0 ≤ i) (n : Nat) (h : n < 6) : ∃ r, (hostsS ab dr 5).getD n [] = 116 :: r := hosts_first0 ab dr hab n n (Nat.le_refl _) h
theorem hdn_zero {x : Array Nat} (hx : x.toList = [116]) : nextGo (gV x x.size) (x.size + 1) 0 = none := by
  have : x = #[116] := by apply Array.ext'; rw [hx]
  subst this
  decide
set_option maxHeartbeats 8000000 in
theorem law_F {env : Env} {Lf : Addr} {base : Os} {oc : Addr → Obj} {la lh fh pr fu : Addr} {fdh fdu : FuncData} {hv av : List Value} {ab dr : List Int} {kh ka : Nat} {s1 s2 s4 s5 s7 s8 s9 s10 s11 s12 : Option Value} {Q : Flow → Shared → Prop}
    (hA : Ok 12 A) (e : EnvIs env (scopeOf pw 16) Lf (lawCells Lf)) (W : Wd h₀ mg mb)
    (hgh : mg "is_HDN" = some (.ref fh)) (Fh : FnIs pw h₀ fh 7 fdh) (hdh : fdh.defaults = .none) (hpr : mg "IPV4_RE" = some (.ref pr)) (Pr : PatIs h₀ pr cV 0)
    (hm : (lh, lstO hv kh) ∈ base) (hH : SV hv (hostsS ab dr 5)) (hdr : ∀ i, i < 5 → 0 ≤ dr.getD i 0 ∧ dr.getD i 0 < 1000003) (hab : ∀ i, i < 5 → 0 ≤ ab.getD (1 + i) 0 ∧ ab.getD (1 + i) 0 ≤ i)
    (D : Sd h₀ Lf (lawV s1 s2 (some (.ref la)) s4 s5 (some (.ref lh)) s7 s8 s9 s10 s11 s12) base h)
    (next : ∀ h tk E', Sd h₀ Lf (lawV s1 s2 (some (.ref la)) s4 s5 (some (.ref lh)) s7 s8 s9 s10 s11 s12) base h →
      wpAny (model pw w) A (execs ((bodyOf pw 16).drop 19) env) Q E' (St b h tk)) :
    wpAny (model pw w) A (execs ((bodyOf pw 16).drop 18) env) Q E (St b h tk) := by
  have hh := hA.handled
  have hHl := hH.length
  rw [hostsS_len] at hHl
  have hb := hostsS_bound (ab := ab) hdr 5 (Nat.le_refl _)
  obtain ⟨oH, hoH, hdH⟩ := Fh.at_
  have hsz : ∀ i, i < 6 → ((hostsS ab dr 5).getD i []).length ≤ 100 := by
    intro i hi
    rcases mem_getD_orL (l := hostsS ab dr 5) (i := i) with h | h
    · have := hb _ h; omega
    · rw [h]; simp
  have hfirst : ∀ (x : Str) (i : Nat), i < 6 → x.cps.toList = (hostsS ab dr 5).getD i [] → x.cps.size ≤ 1000000 ∧ 0 < x.cps.size ∧ x.cps.toList.getD 0 0 ≠ 46 := by
    intro x i hi hx
    obtain ⟨r, hr⟩ := hosts_first ab dr hab i hi
    have h1 := hsz i hi
    have h2 : x.cps.size = ((hostsS ab dr 5).getD i []).length := by rw [← hx, Array.length_toList]
    refine ⟨by omega, by rw [h2, hr]; simp, ?_⟩
    rw [hx, hr]
    show (116 : Nat) ≠ 46
    decide
  refine x_if ?_
  refine t_cmp ?_
  refine b_bin ?_
  repeat' walk_at "st"
  refine t_is ?_
  repeat' walk_at "st"
  refine c_F hoH hdH ?_
  repeat' walk_at "st"
  obtain ⟨x0, t0, hx0, hx0c⟩ := hH.get 0 (by rw [hostsS_len]; decide)
  refine item_ D (by walk_at "mem") (by omega) hx0 (by rw [sizeLine_eq]; omega) ?_
  repeat' walk_at "st"
  refine ⟨⟨_, _, _, D⟩, wpAny_call ?_⟩
  obtain ⟨f1, f2, f3⟩ := hfirst x0 0 (by decide) hx0c
  rw [hosts_zero] at hx0c
  refine hdn_call (hA.less (by decide)) Fh hdh W hpr Pr D f1 f2 f3 (by rw [hx0c, show x0.cps.size = 1 by rw [← Array.length_toList, hx0c]; rfl]; decide) fun h tk D => ?_
  rw [hdn_zero hx0c]
  refine wpAny_Constant_bool ?_
  refine wpAny_is_plain rfl ?_
  repeat' walk_at "st"
  refine k_newList D fun l1 h tk D => ?_
  refine e_comp h₀ e (by rfl) (by rfl) ?_
  repeat' walk_at "st"
  refine k_newSlice D fun sl h tk D => ?_
  refine k_tailSlice D (by walk_at "mem") (by walk_at "mem") (.int _ _) .none .none (by decide) (by rw [sizeLine_eq]; omega) fun l2 h tk D => ?_
  have hpick : (slicePick hv.toArray (some 1) none none).toList = hv.drop 1 := by
    have := slicePick_from' hv.toArray 1
    rw [show ((1 : Nat) : Int) = 1 from rfl] at this
    rw [this]
  rw [hpick] at D
  have hd5 := hH.drop 1
  have hd5l : (hv.drop 1).length = 5 := by rw [List.length_drop, hHl]
  refine k_iterList hh D (by walk_at "mem") fun I oI S h tk D Dv hst => ?_
  have D := D.weak (O' := (I, oI) :: (l2, lstO (hv.drop 1) 0) :: (l1, lstO [.bool true] 0) :: base) (by walk_at "sub")
  refine ⟨_, k_comp (fun j ys O' => ys = (List.replicate j true).map Value.bool ∧ O' = ((l2, lstO (hv.drop 1) 0) :: (l1, lstO [.bool true] 0) :: base : Os)) D Dv hst (by rw [sizeLine_eq]; omega) ⟨rfl, rfl⟩ ?_ ?_ ?_⟩
  · rintro j V1 O1 ⟨_, hOb⟩ p hp
    rw [List.mem_singleton] at hp; subst hp
    rw [hOb]; exact .head _
  · rintro C j _ ys O₁ B oL2 oI3 k3 h tk E3 hlt2 hget2 hyl ⟨hys, hOb⟩ D
    rw [hOb] at D
    rw [hd5l] at hlt2
    have hj : j < 5 := by omega
    obtain ⟨xx, tt, rfl, hxc⟩ := hd5.at_ hget2
    have hxc : xx.cps.toList = (hostsS ab dr 5).getD (1 + j) [] := by
      rw [hxc, List.getD_eq_getElem?_getD, List.getElem?_drop, ← List.getD_eq_getElem?_getD]
    refine tests0 (iteT rfl ?_)
    refine t_is ?_
    repeat' walk_at "st"
    refine c_F hoH hdH ?_
    repeat' walk_at "st"
    refine ⟨⟨_, _, _, D⟩, wpAny_call ?_⟩
    obtain ⟨f1, f2, f3⟩ := hfirst xx (1 + j) (by omega) hxc
    have hg := hosts_get ab dr j hj (hab j hj)
    obtain ⟨m, m1, m2, _⟩ := numS_nat (hdr j hj).1 (hdr j hj).2 hj
    rw [hg, m1] at hxc
    obtain ⟨g1, g2⟩ := digs_ok m
    have hsr := host_search _ (digs m) [] g1 g2 (.inl rfl) xx.cps (by rw [hxc, List.append_nil])
    refine hdn_call (hA.less (by decide)) Fh hdh W hpr Pr D f1 f2 f3 ?_ fun h tk D => ?_
    · have hlen : xx.cps.size = ((hostsS ab dr 5).getD (ab.getD (1 + j) 0).toNat []).length + 1 + (digs m).length := by rw [← Array.length_toList, hxc]; simp; omega
      have hpos := List.length_pos_iff.mpr g1
      rw [hxc, hlen, List.getD_eq_getElem?_getD, List.getElem?_append_right (by omega)]
      rw [show ((hostsS ab dr 5).getD (ab.getD (1 + j) 0).toNat []).length + 1 + (digs m).length - 1 - ((hostsS ab dr 5).getD (ab.getD (1 + j) 0).toNat []).length = (digs m).length - 1 + 1 by omega, List.getElem?_cons_succ, List.getElem?_eq_getElem (by omega)]
      intro hc
      have := g2 _ (List.getElem_mem (by omega : (digs m).length - 1 < (digs m).length))
      rw [Option.getD_some] at hc
      rw [hc] at this
      exact absurd this (by decide)
    · rw [hsr]
      refine wpAny_Constant_bool ?_
      refine wpAny_is_plain rfl ?_
      refine ElS.intro (O' := (l2, lstO (hv.drop 1) 0) :: (l1, lstO [.bool true] 0) :: base) D ⟨?_, rfl⟩
      rw [hys, List.replicate_succ', List.map_append]; rfl
  · rintro l3 y3 k3 O₁ h tk hyl ⟨hy3, hOb⟩ D
    rw [hOb] at D
    rw [hd5l] at hy3
    subst hy3
    refine k_addL D (by walk_at "mem") (by walk_at "mem") (by rw [sizeLine_eq]; decide) fun l4 h tk D => ?_
    repeat' walk_at "st"
    refine wpAny_Constant_bool ?_
    repeat' walk_at "st"
    refine k_newList D fun l5 h tk D => ?_
    repeat' walk_at "st"
    refine k_mulL D (by walk_at "mem") (by decide) (by decide) fun l6 h tk D => ?_
    have hsh := shaped_B 6
    refine ne_dataH (Reads.list (D.get (.tail _ (.tail _ (.head _)))) rfl rfl (bool_reads (List.replicate 6 true))) (Reads.list (D.get (.head _)) rfl rfl (bool_reads (List.replicate 6 true))) hsh hsh (by have := hA.units; omega) ?_
    rw [SeqAt.eqv_refl _ (SeqAt.canLay_of_shaped hsh)]
    repeat' walk_at "st"
    refine iteF rfl ?_
    exact next h tk _ (D.weak (by walk_at "sub"))
end
/-! text F22 -/
section

--BODY
theorem intsOf : ∀ (vs : List Value) (f : Nat → Int), (∀ j v, vs[j]? = some v → ∃ t, v = Value.int (f j) t) → IntsAre vs ((List.range vs.length).map f)
  | [], _, _ => .nil
  | v :: r, f, h => by
    obtain ⟨t, rfl⟩ := h 0 v rfl
    have := intsOf r (fun j => f (j + 1)) fun j v hv => h (j + 1) v hv
    rw [List.length_cons, List.range_succ_eq_map, List.map_cons, List.map_map]
    exact .cons (f 0) t this
section
variable {prog : Program} {w : World} {A : Around} {E : Value → Shared → Prop} {b : Shared} {h : Heap} {tk : Nat} {h₀ : Heap} {L : Addr} {V : Vs} {O : Os}
theorem k_range2 {x y : Int} {t u : Tok} {Q : Value → Shared → Prop} (D : Sd h₀ L V O h)
    (hQ : ∀ r oR h' tk' z, IsRange h' r x y 1 t u z → Sd h₀ L V ((r, oR) :: O) h' → Q (.ref r) (St b h' tk')) : wpAny (model prog w) A (call (.type "range") [.int x t, .int y u]) Q E (St b h tk) :=
  call_range_2 (hQ _ _ _ _ _ (IsRange.new ..) (D.push _))
theorem k_listRange {r : Addr} {x y : Int} {t u z : Tok} {Q : Value → Shared → Prop} (hh : A.handled = none) (D : Sd h₀ L V O h) (hr : IsRange h r x y 1 t u z) (h0 : x ≤ y) (ha : -(2 ^ 62) ≤ x) (hb : y < 2 ^ 62) (hl : y - x ≤ 100000)
    (hQ : ∀ a vs k h' tk', IntsAre vs (rangeS x y) → Sd h₀ L V ((a, lstO vs k) :: O) h' → Q (.ref a) (St b h' tk')) : wpAny (model prog w) A (call (.type "list") [.ref r]) Q E (St b h tk) := by
  refine call_list_range (s := St b h tk) hh hr (small_one ha (by omega) (by omega) hb) (rSize h0) (by omega) fun h' tk' acc' c' hk hS hacc => ?_
  have hi : IntsAre acc'.toList (rangeS x y) := by
    have h1 := intsOf acc'.toList (fun (j : Nat) => x + (j : Int)) (fun j v hv => by
      obtain ⟨t, ht⟩ := hacc.2 j v (by simpa using hv)
      exact ⟨t, by rw [ht]; simp⟩)
    rw [Array.length_toList, hacc.1] at h1
    exact h1
  have D' : Sd h₀ L V O h' := D.keeps hk
  refine hQ _ acc'.toList c' _ _ hi ⟨D'.ns, D'.ndV, D'.L0, D'.keep, fun p hp => ?_, fun p hp => ?_, ?_⟩
  · rcases List.mem_cons.mp hp with rfl | hp
    · simpa [lstO] using hS
    · exact D'.obj p hp
  · rcases List.mem_cons.mp hp with rfl | hp
    · refine ⟨Nat.ne_of_gt D.Llt, ?_⟩
      cases q : h₀.get? (St b h tk).heap.objs.size with
      | none => rfl
      | some o => exact absurd (Heap.lt_size (D.keep _ _ q)) (Nat.lt_irrefl _)
    · exact D'.off p hp
  · rw [List.map_cons, List.nodup_cons]
    refine ⟨fun hm => ?_, D.nd⟩
    obtain ⟨p, hp, q⟩ := List.mem_map.mp hm
    have := D.lt (o := p.2) (a := p.1) hp
    have q' : p.1 = h.objs.size := q
    exact absurd this (by rw [q']; exact Nat.lt_irrefl _)
theorem k_lenS {x : Str} {t : Tok} {Q : Value → Shared → Prop} (hsz : x.length ≤ 1000000) (hQ : ∀ t tk', Q (.int x.length t) (St b h tk')) : wpAny (model prog w) A (call (.builtin "len") [.str x t]) Q E (St b h tk) :=
  P.len_str (by omega) (hQ _ _)
end
/-- refs to lists of ints among known objects -/
inductive LL (M : Os) : List Value → List (List Int) → Prop
  | nil : LL M [] []
  | cons {vs xss ws xs} (a : Addr) (k : Nat) : (a, lstO ws k) ∈ M → IntsAre ws xs → LL M vs xss → LL M (.ref a :: vs) (xs :: xss)
theorem LL.snoc {M vs xss ws xs} (h : LL M vs xss) (a : Addr) (k : Nat) (hm : (a, lstO ws k) ∈ M) (hi : IntsAre ws xs) : LL M (vs ++ [.ref a]) (xss ++ [xs]) := by
  induction h with
  | nil => exact .cons a k hm hi .nil
  | cons a' k' hm' hi' h ih => exact .cons a' k' hm' hi' ih
theorem LL.length {M vs xss} (h : LL M vs xss) : vs.length = xss.length := by
  induction h with
  | nil => rfl
  | cons a k hm hi h ih => simp [ih]
theorem LL.reads {M vs xss} {h : Heap} (hl : LL M vs xss) (hM : ∀ p ∈ M, h.get? p.1 = some p.2) : ∃ as, ReadsAll h vs (xss.map fun r => .list (r.map .int)) as := by
  induction hl with
  | nil => exact ⟨[], .nil⟩
  | cons a k hm hi _ ih =>
    obtain ⟨as, hr⟩ := ih
    exact ⟨_, ReadsAll.cons (Reads.list (hM _ hm) rfl rfl (readsInts hi)) hr⟩
theorem shaped_LL (xss : List (List Int)) : SeqAt.shaped (.list (xss.map fun r => .list (r.map .int))) = true := by
  unfold SeqAt.shaped
  rw [Bool.and_eq_true, decide_eq_true_eq]
  have h1 : ∀ r : List Int, PyData.canLay0 (.list (r.map .int)) = true ∧ PyData.depth (.list (r.map .int)) ≤ 1 := by
    intro r
    constructor
    · simp only [PyData.canLay0]
      induction r with
      | nil => rfl
      | cons n r ih => simp only [List.map_cons, PyData.canLayAll0, PyData.canLay0, Bool.true_and]; exact ih
    · simp only [PyData.depth]
      have : PyData.depthAll (r.map PyData.int) ≤ 0 := by
        induction r with
        | nil => simp [PyData.depthAll]
        | cons n r ih => simp only [List.map_cons, PyData.depthAll, PyData.depth]; omega
      omega
  constructor
  · simp only [PyData.canLay0]
    induction xss with
    | nil => rfl
    | cons l r ih => simp only [List.map_cons, PyData.canLayAll0, Bool.and_eq_true]; exact ⟨(h1 l).1, ih⟩
  · simp only [PyData.depth]
    have : PyData.depthAll (xss.map fun r => PyData.list (r.map PyData.int)) ≤ 1 := by
      induction xss with
      | nil => simp [PyData.depthAll]
      | cons n r ih => simp only [List.map_cons, PyData.depthAll]; have := (h1 n).2; omega
    omega
end
/-! text F23 -/
section

--BODY
variable {w : World} {A : Around} {E : Value → Shared → Prop} {b : Shared} {h : Heap} {tk : Nat} {h₀ : Heap} {L : Addr} {V : Vs} {O : Os} {mg mb : Str → Option Value}
theorem hosts_ascii (ab dr : List Int) (hdr : ∀ i, i < 5 → 0 ≤ dr.getD i 0 ∧ dr.getD i 0 < 1000003) : ∀ n, n ≤ 5 → ∀ p ∈ hostsS ab dr n, ∀ c ∈ p, c < 128
  | 0, _, p, hp => by simp [hostsS] at hp; subst hp; simp
  | n + 1, hn, p, hp => by
    have ih := hosts_ascii ab dr hdr n (by omega)
    rw [hostsS_succ] at hp
    rcases List.mem_append.mp hp with hp | hp
    · exact ih p hp
    · rw [List.mem_singleton] at hp; subst hp
      intro c hc
      obtain ⟨m, h1, h2, _⟩ := numS_nat (hdr n (by omega)).1 (hdr n (by omega)).2 (by omega)
      rw [h1] at hc
      rcases List.mem_append.mp hc with hc | hc
      · rcases mem_getD_orL (l := hostsS ab dr n) (i := (ab.getD (1 + n) 0).toNat) with h | h
        · exact ih _ h c hc
        · rw [h] at hc; cases hc
      · rcases List.mem_cons.mp hc with rfl | hc
        · decide
        · have := (digs_ok m).2 c hc
          unfold Sre.isDigit at this
          simp only [Bool.and_eq_true, decide_eq_true_eq] at this
          omega
theorem cut_mid (p ds : List Nat) : (p ++ 46 :: ds ++ [10]).take p.length ++ (p ++ 46 :: ds ++ [10]).drop (p.length + 1 + ds.length) = p ++ [10] := by
  rw [List.append_assoc, List.take_left, ← List.append_assoc, List.drop_left' (by rw [List.length_append, List.length_cons]; omega)]
theorem getD_map10 (l : List (List Nat)) (q : Nat) (h : q < l.length) : (l.map (· ++ [10])).getD q [] = l.getD q [] ++ [10] := by
  rw [List.getD_eq_getElem?_getD, List.getElem?_map, List.getD_eq_getElem?_getD, List.getElem?_eq_getElem h]; rfl
set_option maxHeartbeats 8000000 in
theorem law_G {env : Env} {Lf : Addr} {pre r0 : Os} {oc : Addr → Obj} {la lh pr fu : Addr} {fdu : FuncData} {hv av : List Value} {ab dr : List Int} {kh ka : Nat} {s1 s2 s4 s5 s7 s8 s9 s10 s11 s12 c1 c2 c3 : Option Value} {Q : Flow → Shared → Prop}
    (hA : Ok 12 A) (e : EnvIs env (scopeOf pw 16) Lf (lawCells Lf)) (W : Wd h₀ mg mb)
    (hgu : mg "unmatched" = some (.ref fu)) (Fu : FnIs pw h₀ fu 5 fdu) (hdu : fdu.defaults = .none) (hpr : mg "IPV4_RE" = some (.ref pr)) (Pr : PatIs h₀ pr cV 0)
    (hm : (lh, lstO hv kh) ∈ pre) (hma : (la, lstO av ka) ∈ pre) (hai : IntsAre av ab) (hal : ab.length = 6)
    (hH : SV hv (hostsS ab dr 5)) (hdr : ∀ i, i < 5 → 0 ≤ dr.getD i 0 ∧ dr.getD i 0 < 1000003) (hab : ∀ i, i < 5 → 0 ≤ ab.getD (1 + i) 0 ∧ ab.getD (1 + i) 0 ≤ i)
    (D : Sd h₀ Lf (lawV s1 s2 (some (.ref la)) s4 s5 (some (.ref lh)) s7 s8 s9 s10 s11 s12) (pre ++ lawC oc Lf c1 c2 c3 none none none none r0) h)
    (next : ∀ ll h tk E', Sd h₀ Lf (lawV s1 s2 (some (.ref la)) s4 s5 (some (.ref lh)) s7 s8 s9 s10 s11 s12) (pre ++ lawC oc Lf c1 c2 c3 (some (.ref ll)) none none none r0) h →
      wpAny (model pw w) A (execs ((bodyOf pw 16).drop 21) env) Q E' (St b h tk)) :
    wpAny (model pw w) A (execs ((bodyOf pw 16).drop 19) env) Q E (St b h tk) := by
  have hh := hA.handled
  have hHl := hH.length
  rw [hostsS_len] at hHl
  have hb := hostsS_bound (ab := ab) hdr 5 (Nat.le_refl _)
  have hasc := hosts_ascii ab dr hdr 5 (Nat.le_refl _)
  obtain ⟨oU, hoU, hdU⟩ := Fu.at_
  have havl := hai.length
  have hsz : ∀ i, ((hostsS ab dr 5).getD i []).length ≤ 100 := by
    intro i
    rcases mem_getD_orL (l := hostsS ab dr 5) (i := i) with h | h
    · have := hb _ h; omega
    · rw [h]; simp
  have hok : ∀ i, textOk ((hostsS ab dr 5).getD i [] ++ [10]) = true := by
    intro i
    unfold textOk
    rw [Bool.and_eq_true, decide_eq_true_eq, List.all_eq_true]
    have := hsz i
    refine ⟨by rw [List.length_append, List.length_singleton]; omega, fun c hc => ?_⟩
    rw [decide_eq_true_eq]
    rcases List.mem_append.mp hc with hc | hc
    · rcases mem_getD_orL (l := hostsS ab dr 5) (i := i) with h | h
      · exact hasc _ h c hc
      · rw [h] at hc; cases hc
    · rw [List.mem_singleton] at hc; subst hc; decide
  refine y_asg e (by rfl) (by rfl) ?_
  refine e_comp h₀ e (by rfl) (by rfl) ?_
  repeat' walk_at "st"
  refine k_iterList hh D (by walk_at "mem") fun I oI S h tk D Dv hst => ?_
  refine ⟨_, k_comp (fun j ys O' => SV ys (((hostsS ab dr 5).take j).map (· ++ [10])) ∧ O' = (pre ++ lawC oc Lf c1 c2 c3 none none none none r0 : Os)) D Dv hst (by rw [sizeLine_eq]; omega) ⟨.nil, rfl⟩ ?_ ?_ ?_⟩
  · rintro j V1 O1 ⟨_, hOb⟩ p hp
    rw [List.mem_singleton] at hp; subst hp
    rw [hOb]; exact List.mem_append_left _ hm
  · rintro C j _ ys O₁ B oL2 oI3 k3 h tk E3 hlt2 hget2 hyl ⟨hys, hOb⟩ D
    rw [hOb] at D
    rw [hHl] at hlt2
    obtain ⟨xx, tt, rfl, hxc⟩ := hH.at_ hget2
    refine tests0 (iteT rfl ?_)
    repeat' walk_at "st"
    have hxl : xx.length ≤ 100 := by
      have e1 : xx.length = xx.cps.toList.length := by rw [Array.length_toList]; rfl
      rw [e1, hxc]; exact hsz j
    have hnl : (PySem.Str.ofString "\n").length = 1 := rfl
    refine k_addS (by omega) fun z tz tk hz => ?_
    refine ElS.intro (O' := pre ++ lawC oc Lf c1 c2 c3 none none none none r0) D ⟨?_, rfl⟩
    have hxm : (hostsS ab dr 5)[j]? = some ((hostsS ab dr 5).getD j []) := by
      rw [List.getD_eq_getElem?_getD, List.getElem?_eq_getElem (by rw [hostsS_len]; exact hlt2)]; rfl
    rw [List.take_add_one, hxm, Option.toList_some, List.map_append, List.map_singleton]
    refine hys.snoc ?_
    rw [hz, hxc]; rfl
  · rintro ll lv kl O₁ h tk hyl ⟨hlv, hOb⟩ D
    rw [hOb] at D
    rw [hHl, List.take_of_length_le (by rw [hostsS_len]; exact Nat.le_refl _)] at hlv
    have hlvl := hlv.length
    rw [List.length_map, hostsS_len] at hlvl
    refine k_sC D e (by rfl) (by rfl) (by walk_at "upd") fun h tk D => ?_
    refine x_if ?_
    refine t_cmp ?_
    refine e_comp h₀ e (by rfl) (by rfl) ?_
    repeat' walk_at "st"
    refine k_newSlice D fun sl h tk D => ?_
    refine k_tailSlice D (by walk_at "mem") (by walk_at "mem") (.int _ _) .none .none (by decide) (by rw [sizeLine_eq]; omega) fun l2 h tk D => ?_
    have hpick : ∀ (q : List Value), (slicePick q.toArray (some 1) none none).toList = q.drop 1 := by
      intro q
      have := slicePick_from' q.toArray 1
      rw [show ((1 : Nat) : Int) = 1 from rfl] at this
      rw [this]
    rw [hpick] at D
    have hd5 := hlv.drop 1
    have hd5l : (lv.drop 1).length = 5 := by rw [List.length_drop, hlvl]
    refine k_iterList hh D (by walk_at "mem") fun I2 oI2 S2 h tk D Dv2 hst2 => ?_
    have D := D.weak (O' := (I2, oI2) :: (l2, lstO (lv.drop 1) 0) :: (ll, lstO lv kl) :: (pre ++ lawC oc Lf c1 c2 c3 (some (.ref ll)) none none none r0)) (by walk_at "sub")
    refine ⟨_, k_comp (fun j ys O' => SV ys ((List.range j).map fun k => (hostsS ab dr 5).getD (ab.getD (1 + k) 0).toNat [] ++ [10]) ∧ O' = ((l2, lstO (lv.drop 1) 0) :: (ll, lstO lv kl) :: (pre ++ lawC oc Lf c1 c2 c3 (some (.ref ll)) none none none r0) : Os)) D Dv2 hst2 (by rw [sizeLine_eq]; omega) ⟨.nil, rfl⟩ ?_ ?_ ?_⟩
    · rintro j V1 O1 ⟨_, hOb⟩ p hp
      rw [List.mem_singleton] at hp; subst hp
      rw [hOb]; exact .head _
    · rintro C j _ ys O₁ B oL2 oI3 k3 h tk E3 hlt2 hget2 hyl ⟨hys, hOb⟩ D
      rw [hOb] at D
      rw [hd5l] at hlt2
      obtain ⟨xx, tt, rfl, hxc⟩ := hd5.at_ hget2
      have hxc : xx.cps.toList = (hostsS ab dr 5).getD (1 + j) [] ++ [10] := by
        rw [hxc, List.getD_eq_getElem?_getD, List.getElem?_drop, List.getElem?_map, List.getD_eq_getElem?_getD, List.getElem?_eq_getElem (by rw [hostsS_len]; omega)]; rfl
      have hg := hosts_get ab dr j hlt2 (hab j hlt2)
      obtain ⟨m, m1, m2, _⟩ := numS_nat (hdr j hlt2).1 (hdr j hlt2).2 hlt2
      have hsz1 := hsz (1 + j)
      have hxs : xx.cps.size = ((hostsS ab dr 5).getD (1 + j) []).length + 1 := by rw [← Array.length_toList, hxc]; simp
      rw [hg, m1] at hxc hsz1 hxs
      obtain ⟨g1, g2⟩ := digs_ok m
      have hsr := host_search _ (digs m) [10] g1 g2 (.inr rfl) xx.cps (by rw [hxc])
      rw [List.length_append, List.length_cons] at hxs hsz1
      refine tests0 (iteT rfl ?_)
      repeat' walk_at "st"
      refine c_F hoU hdU ?_
      refine a_cons ?_
      refine c_M ?_
      repeat' walk_at "st"
      refine getMethod_re Pr D slot_search type_search ?_
      refine c_M1 ?_
      repeat' walk_at "st"
      refine k_search D Pr (by omega) (fun hn => by rw [hsr] at hn; cases hn) (fun a e' hs m' T pt li n h tk D => ?_)
      rw [hsr] at hs
      obtain ⟨rfl, rfl⟩ := Prod.mk.inj (Option.some.inj hs)
      repeat' walk_at "st"
      refine ⟨⟨_, _, _, D⟩, wpAny_call ?_⟩
      refine um_call (hA.less (by decide)) Fu hdu W D (.head _) (.tail _ (.head _)) (by omega) (by omega) (by omega) fun y t h tk hy D => ?_
      refine ElS.intro (O' := (l2, lstO (lv.drop 1) 0) :: (ll, lstO lv kl) :: (pre ++ lawC oc Lf c1 c2 c3 (some (.ref ll)) none none none r0)) (D.weak (by walk_at "sub")) ⟨?_, rfl⟩
      rw [List.range_succ, List.map_append, List.map_singleton]
      refine hys.snoc ?_
      rw [hy, hxc, cut_mid]
    · rintro l3 y3 k3 O₁ h tk hyl ⟨hy3, hOb⟩ D
      rw [hOb] at D
      rw [hd5l] at hy3
      refine e_comp h₀ e (by rfl) (by rfl) ?_
      repeat' walk_at "st"
      refine k_newSlice D fun sl2 h tk D => ?_
      refine k_tailSlice D (by walk_at "mem") (by walk_at "mem") (.int _ _) .none .none (by decide) (by rw [sizeLine_eq]; omega) fun l4 h tk D => ?_
      rw [hpick] at D
      have hda := slice_ints_fromW hai (x := 1) (by decide)
      rw [hpick] at hda
      have hdal : (av.drop 1).length = 5 := by rw [List.length_drop, havl, hal]
      refine k_iterList hh D (by walk_at "mem") fun I4 oI4 S4 h tk D Dv4 hst4 => ?_
      have D := D.weak (O' := (I4, oI4) :: (l4, lstO (av.drop 1) 0) :: (l3, lstO y3 k3) :: (ll, lstO lv kl) :: (pre ++ lawC oc Lf c1 c2 c3 (some (.ref ll)) none none none r0)) (by walk_at "sub")
      refine ⟨_, k_comp (fun j ys O' => SV ys ((List.range j).map fun k => (hostsS ab dr 5).getD (ab.getD (1 + k) 0).toNat [] ++ [10]) ∧ O' = ((l4, lstO (av.drop 1) 0) :: (l3, lstO y3 k3) :: (ll, lstO lv kl) :: (pre ++ lawC oc Lf c1 c2 c3 (some (.ref ll)) none none none r0) : Os)) D Dv4 hst4 (by rw [sizeLine_eq]; omega) ⟨.nil, rfl⟩ ?_ ?_ ?_⟩
      · rintro j V1 O1 ⟨_, hOb⟩ p hp
        rw [List.mem_singleton] at hp; subst hp
        rw [hOb]; exact .head _
      · rintro C j _ ys O₁ B oL2 oI3 k3 h tk E3 hlt2 hget2 hyl ⟨hys, hOb⟩ D
        rw [hOb] at D
        rw [hdal] at hlt2
        have hx : (ab.drop (Int.toNat 1))[j]? = some (ab.getD (1 + j) 0) := by
          show (ab.drop 1)[j]? = _
          rw [List.getElem?_drop, List.getD_eq_getElem?_getD, List.getElem?_eq_getElem (by omega)]; rfl
        obtain ⟨t2, rfl⟩ := IntsAre.at_ hda hget2 hx
        have hab' := hab j hlt2
        obtain ⟨px, pt, hpx, hpc⟩ := hlv.get (ab.getD (1 + j) 0).toNat (by rw [List.length_map, hostsS_len]; omega)
        refine tests0 (iteT rfl ?_)
        repeat' walk_at "st"
        refine item_ D (by walk_at "mem") hab'.1 hpx (by rw [sizeLine_eq]; omega) ?_
        refine ElS.intro (O' := (l4, lstO (av.drop 1) 0) :: (l3, lstO y3 _) :: (ll, lstO lv kl) :: (pre ++ lawC oc Lf c1 c2 c3 (some (.ref ll)) none none none r0)) D ⟨?_, rfl⟩
        rw [List.range_succ, List.map_append, List.map_singleton]
        refine hys.snoc ?_
        rw [hpc, getD_map10 _ _ (by rw [hostsS_len]; omega)]
      · rintro l5 y5 k5 O₁ h tk hyl ⟨hy5, hOb⟩ D
        rw [hOb] at D
        rw [hdal] at hy5
        refine k_neSame (by have := hA.units; omega) D (by walk_at "mem") (by walk_at "mem") hy3 hy5 (fun l hl => ?_) ?_
        · obtain ⟨q, _, rfl⟩ := List.mem_map.mp hl
          exact hok _
        repeat' walk_at "st"
        refine iteF rfl ?_
        exact next ll h tk _ (D.weak (by walk_at "sub"))
end
/-! text F24 -/
section

--BODY
theorem LL.mono {M M' vs xss} (h : LL M vs xss) (hs : ∀ p ∈ M, p ∈ M') : LL M' vs xss := by
  induction h with
  | nil => exact .nil
  | cons a k hm hi h ih => exact .cons a k (hs _ hm) hi ih
variable {w : World} {A : Around} {E : Value → Shared → Prop} {b : Shared} {h : Heap} {tk : Nat} {h₀ : Heap} {L : Addr} {V : Vs} {O : Os} {mg mb : Str → Option Value}
set_option maxHeartbeats 8000000 in
theorem law_H {env : Env} {Lf : Addr} {pre O : Os} {oL : Obj} {oc : Addr → Obj} {la lo lr ls fw fl fm fc : Addr} {fdw fdl fdm fdc : FuncData} {rv sv ov av : List Value} {rows sent : List (List Nat)} {ab ord : List Int} {ka ko : Nat} {tw : Tok} {wd : Nat} {s1 s2 s5 s6 s7 s9 s10 c1 c2 c3 c4 : Option Value}
    (hA : Ok 12 A) (e : EnvIs env (scopeOf pw 16) Lf (lawCells Lf)) (W : Wd h₀ mg mb)
    (hlen : mg "len" = none ∧ mb "len" = some (.builtin "len")) (hrange : mg "range" = none ∧ mb "range" = some (.type "range")) (hsum : mg "sum" = none ∧ mb "sum" = some (.builtin "sum"))
    (hmax : mg "max" = none ∧ mb "max" = some (.builtin "max")) (hsorted : mg "sorted" = none ∧ mb "sorted" = some (.builtin "sorted")) (hlist : mg "list" = none ∧ mb "list" = some (.type "list"))
    (hgw : mg "_law_fewest" = some (.ref fw)) (Fw : FnIs pw h₀ fw 14 fdw) (hdw : fdw.defaults = .none)
    (hgl : mg "_law_leaves" = some (.ref fl)) (Fl : FnIs pw h₀ fl 15 fdl) (hdl : fdl.defaults = .none)
    (hgm : mg "_law_most_held" = some (.ref fm)) (Fm : FnIs pw h₀ fm 13 fdm) (hdm : fdm.defaults = .none)
    (hgc : mg "_law_children" = some (.ref fc)) (Fc : FnIs pw h₀ fc 12 fdc) (hdc : fdc.defaults = .none)
    (hmr : (lr, lstO rv 0) ∈ pre) (hms : (ls, lstO sv 0) ∈ pre) (hmo : (lo, lstO ov ko) ∈ pre) (hma : (la, lstO av ka) ∈ pre)
    (hR : SV rv rows) (hS : SV sv sent) (hov : IntsAre ov ord) (hai : IntsAre av ab) (hrl : rows.length = 7) (hsl : sent.length = 7) (hol : ord.length = 6) (hor : ∀ v ∈ ord, 0 ≤ v ∧ v < 6) (hal : ab.length = 6)
    (hr1 : ∀ r ∈ rows.dropLast, 1 ≤ r.length ∧ r.length ≤ 1000) (hs1 : ∀ r ∈ sent.dropLast, r.length ≤ 1000) (hwd : wd ≤ 3) (MO : MostOk ab)
    (hfl : (fewestS (rows.dropLast.map fun r => r.length - 1) wd).length = 6) (hll : (leavesS (depthsS sent)).length = 6)
    (hbd : ∀ k, k < 6 → (fewestS (rows.dropLast.map fun r => r.length - 1) wd).getD k 0 ≤ (leavesS (depthsS sent)).getD k 0 + 1 ∧ -1000 ≤ (fewestS (rows.dropLast.map fun r => r.length - 1) wd).getD k 0 ∧ (leavesS (depthsS sent)).getD k 0 ≤ 1000)
    (heq : ord.map (fun v => (mostHeldS ab).getD v.toNat []) = (List.range 6).map fun k => rangeS ((fewestS (rows.dropLast.map fun r => r.length - 1) wd).getD k 0) ((leavesS (depthsS sent)).getD k 0 + 1))
    (D : Sd h₀ Lf (lawV s1 s2 (some (.ref la)) (some (.int wd tw)) s5 s6 s7 (some (.ref lo)) s9 s10 (some (.ref lr)) (some (.ref ls))) (pre ++ lawC oc Lf c1 c2 c3 c4 none none none ((L, oL) :: O)) h) :
    wpAny (model pw w) A (execs ((bodyOf pw 16).drop 21) env) (FnS b h₀ Lf L oL (fun v O' => v = .bool true ∧ O' = O)) E (St b h tk) := by
  have hh := hA.handled
  have hrvl := hR.length
  rw [hrl] at hrvl
  have hsvl := hS.length
  rw [hsl] at hsvl
  have hovl := hov.length
  obtain ⟨oW, hoW, hdW⟩ := Fw.at_
  obtain ⟨oLv, hoLv, hdLv⟩ := Fl.at_
  obtain ⟨oM, hoM, hdM⟩ := Fm.at_
  have hml : (mostHeldS ab).length = 6 := by unfold mostHeldS; rw [List.length_map, wholeS_len, hal]
  refine x_asg ?_
  repeat' (first | walk_at "nm" | refine c_call ?_)
  refine c_F hoW hdW ?_
  refine a_cons ?_
  refine e_comp h₀ e (by rfl) (by rfl) ?_
  repeat' walk_at "st"
  refine k_newSlice D fun s1 h tk D => ?_
  refine k_tailSlice D (by walk_at "mem") (by walk_at "mem") .none (.int _ _) .none (by decide) (by rw [sizeLine_eq, hrvl]; decide) fun l1 h tk D => ?_
  rw [pick_init _ (by rw [hrvl]; decide), hrvl] at D
  have hT6 : SV (rv.take (7 - 1)) (rows.dropLast) := by rw [List.dropLast_eq_take, hrl]; exact hR.take _
  have hT6l := hT6.length
  rw [List.length_dropLast, hrl] at hT6l
  refine k_iterList hh D (by walk_at "mem") fun I1 oI1 S1 h tk D Dv1 hst1 => ?_
  refine ⟨_, k_comp (fun j ys O' => IntsAre ys (((rows.dropLast.map fun r => r.length - 1).take j).map fun (n : Nat) => (n : Int)) ∧ O' = ((l1, lstO (rv.take (7 - 1)) 0) :: (s1, sliceO .none (.int (-1) _) .none) :: (pre ++ lawC oc Lf c1 c2 c3 c4 none none none ((L, oL) :: O)) : Os)) D Dv1 hst1 (by rw [sizeLine_eq, hT6l]; decide) ⟨.nil, rfl⟩ ?_ ?_ ?_⟩
  · rintro j V1 O1 ⟨_, hOb⟩ p hp
    rw [List.mem_singleton] at hp; subst hp
    rw [hOb]; exact .head _
  · rintro C j _ ys O₁ B oL2 oI3 k3 h tk E3 hlt2 hget2 hyl ⟨hys, hOb⟩ D
    rw [hOb] at D
    rw [hT6l] at hlt2
    obtain ⟨xx, tt, rfl, hxc⟩ := hT6.at_ hget2
    have hxm : rows.dropLast[j]? = some (rows.dropLast.getD j []) := by
      rw [List.getD_eq_getElem?_getD, List.getElem?_eq_getElem (by rw [List.length_dropLast, hrl]; exact hlt2)]; rfl
    have hr := hr1 _ (List.mem_of_getElem? hxm)
    have hxl : xx.length = (rows.dropLast.getD j []).length := by
      have e1 : xx.length = xx.cps.toList.length := by rw [Array.length_toList]; rfl
      rw [e1, hxc]
    refine tests0 (iteT rfl ?_)
    repeat' walk_at "st"
    refine k_lenS (by omega) fun _ _ => ?_
    repeat' walk_at "st"
    refine ElS.intro D ⟨?_, hOb ▸ rfl⟩
    rw [List.take_add_one, List.getElem?_map, hxm, Option.map_some, Option.toList_some, List.map_append, List.map_singleton, hxl, show (((rows.dropLast.getD j []).length : Int) - 1) = (((rows.dropLast.getD j []).length - 1 : Nat) : Int) by omega]
    exact Mine.IntsAre.snoc hys
  · rintro lb bv kb O₁ h tk hyl ⟨hbv, hOb⟩ D
    rw [hOb] at D
    rw [hT6l, List.take_of_length_le (by rw [List.length_map, List.length_dropLast, hrl]; decide)] at hbv
    have D := D.weak (O' := (lb, lstO bv kb) :: (pre ++ lawC oc Lf c1 c2 c3 c4 none none none ((L, oL) :: O))) (by walk_at "sub")
    repeat' walk_at "st"
    refine ⟨⟨_, _, _, D⟩, wpAny_call ?_⟩
    refine fewest_call (hA.less (by decide)) Fw hdw W hlen hrange hmax hsorted D (.head _) hbv (by rw [List.length_map, List.length_dropLast, hrl]; decide) (by rw [List.length_map, List.length_dropLast, hrl]; decide) (fun x hx => ?_) (by omega) fun lf fv kf h tk hfv D => ?_
    · obtain ⟨r, hr, rfl⟩ := List.mem_map.mp hx
      have := hr1 r hr
      omega
    generalize fewestS (rows.dropLast.map fun r => r.length - 1) wd = few at hfl hbd heq hfv
    refine k_sC D e (by rfl) (by rfl) (by walk_at "upd") fun h tk D => ?_
    have D := D.weak (O' := (lf, lstO fv kf) :: (pre ++ lawC oc Lf c1 c2 c3 c4 (some (.ref lf)) none none ((L, oL) :: O))) (by walk_at "sub")
    refine x_asg ?_
    repeat' (first | walk_at "nm" | refine c_call ?_)
    refine c_F hoLv hdLv ?_
    refine a_cons ?_
    refine e_comp h₀ e (by rfl) (by rfl) ?_
    repeat' walk_at "st"
    refine k_newSlice D fun s3 h tk D => ?_
    refine k_tailSlice D (by walk_at "mem") (by walk_at "mem") .none (.int _ _) .none (by decide) (by rw [sizeLine_eq, hsvl]; decide) fun l3 h tk D => ?_
    rw [pick_init _ (by rw [hsvl]; decide), hsvl] at D
    have hU6 : SV (sv.take (7 - 1)) (sent.dropLast) := by rw [List.dropLast_eq_take, hsl]; exact hS.take _
    have hU6l := hU6.length
    rw [List.length_dropLast, hsl] at hU6l
    refine k_iterList hh D (by walk_at "mem") fun I3 oI3 S3 h tk D Dv3 hst3 => ?_
    have D := D.weak (O' := (I3, oI3) :: (l3, lstO (sv.take (7 - 1)) 0) :: (lf, lstO fv kf) :: (pre ++ lawC oc Lf c1 c2 c3 c4 (some (.ref lf)) none none ((L, oL) :: O))) (by walk_at "sub")
    refine ⟨_, k_comp (fun j ys O' => IntsAre ys ((sent.dropLast.take j).map fun r => (r.length : Int) - 1) ∧ O' = ((l3, lstO (sv.take (7 - 1)) 0) :: (lf, lstO fv kf) :: (pre ++ lawC oc Lf c1 c2 c3 c4 (some (.ref lf)) none none ((L, oL) :: O)) : Os)) D Dv3 hst3 (by rw [sizeLine_eq, hU6l]; decide) ⟨.nil, rfl⟩ ?_ ?_ ?_⟩
    · rintro j V1 O1 ⟨_, hOb⟩ p hp
      rw [List.mem_singleton] at hp; subst hp
      rw [hOb]; exact .head _
    · rintro C j _ ys O₁ B oL2 oI4 k3 h tk E3 hlt2 hget2 hyl ⟨hys, hOb⟩ D
      rw [hOb] at D
      rw [hU6l] at hlt2
      obtain ⟨xx, tt, rfl, hxc⟩ := hU6.at_ hget2
      have hxm : sent.dropLast[j]? = some (sent.dropLast.getD j []) := by
        rw [List.getD_eq_getElem?_getD, List.getElem?_eq_getElem (by rw [List.length_dropLast, hsl]; exact hlt2)]; rfl
      have hr := hs1 _ (List.mem_of_getElem? hxm)
      have hxl : xx.length = (sent.dropLast.getD j []).length := by
        have e1 : xx.length = xx.cps.toList.length := by rw [Array.length_toList]; rfl
        rw [e1, hxc]
      refine tests0 (iteT rfl ?_)
      repeat' walk_at "st"
      refine k_lenS (by omega) fun _ _ => ?_
      repeat' walk_at "st"
      refine ElS.intro D ⟨?_, hOb ▸ rfl⟩
      rw [List.take_add_one, hxm, Option.toList_some, List.map_append, List.map_singleton, hxl]
      exact Mine.IntsAre.snoc hys
    · rintro ld2 dv2 kd2 O₁ h tk hyl ⟨hdv2, hOb⟩ D
      rw [hOb] at D
      rw [hU6l, List.take_of_length_le (by rw [List.length_dropLast, hsl]; decide)] at hdv2
      have hdv2 : IntsAre dv2 (depthsS sent) := hdv2
      have hdl2 : (depthsS sent).length = 6 := by unfold depthsS; rw [List.length_map, List.length_dropLast, hsl]
      repeat' walk_at "st"
      refine ⟨⟨_, _, _, D⟩, wpAny_call ?_⟩
      refine leaves_call (hA.less (by decide)) Fl hdl W hlen hrange D (.head _) hdv2 (by rw [hdl2]; decide) fun lv vv kv h tk hvv D => ?_
      generalize leavesS (depthsS sent) = lea at hll hbd heq hvv
      refine k_sC D e (by rfl) (by rfl) (by walk_at "upd") fun h tk D => ?_
      have D := D.weak (O' := (lv, lstO vv kv) :: (lf, lstO fv kf) :: (pre ++ lawC oc Lf c1 c2 c3 c4 (some (.ref lf)) (some (.ref lv)) none ((L, oL) :: O))) (by walk_at "sub")
      refine x_asg ?_
      repeat' (first | walk_at "nm" | refine c_call ?_)
      refine c_F hoM hdM ?_
      repeat' walk_at "st"
      refine ⟨⟨_, _, _, D⟩, wpAny_call ?_⟩
      obtain ⟨oCc, hoCc, hdCc⟩ := Fc.at_
      refine most_call (hA.less (by decide)) Fm hdm W hlen hrange hsum hmax hsorted hgc Fc hdc hoCc hdCc D (by walk_at "mem") hai MO fun rm ms km Rm h tk hRm D => ?_
      refine k_sC D e (by rfl) (by rfl) (by walk_at "upd") fun h tk D => ?_
      have hRml := hRm.length
      rw [hml] at hRml
      have hfvl := hfv.length
      have hvvl := hvv.length
      have D := D.weak (O' := (rm, lstO ms km) :: (Rm ++ ((lv, lstO vv kv) :: (lf, lstO fv kf) :: (pre ++ lawC oc Lf c1 c2 c3 c4 (some (.ref lf)) (some (.ref lv)) (some (.ref rm)) ((L, oL) :: O))))) (List.Sublist.refl _)
      refine x_ret ?_
      refine wpAny_Compare1 ?_ rfl
      refine e_comp h₀ e (by rfl) (by rfl) ?_
      repeat' walk_at "st"
      refine k_iterList hh D (by walk_at "mem") fun I5 oI5 S5 h tk D Dv5 hst5 => ?_
      refine ⟨_, k_comp (fun j ys O' => LL Rm ys ((ord.take j).map fun v => (mostHeldS ab).getD v.toNat []) ∧ O' = ((rm, lstO ms km) :: (Rm ++ ((lv, lstO vv kv) :: (lf, lstO fv kf) :: (pre ++ lawC oc Lf c1 c2 c3 c4 (some (.ref lf)) (some (.ref lv)) (some (.ref rm)) ((L, oL) :: O)))) : Os)) D Dv5 hst5 (by rw [sizeLine_eq]; omega) ⟨.nil, rfl⟩ ?_ ?_ ?_⟩
      · rintro j V1 O1 ⟨_, hOb⟩ p hp
        rw [List.mem_singleton] at hp; subst hp
        rw [hOb]; walk_at "mem"
      · rintro C j _ ys O₁ B oL2 oI6 k6 h tk E3 hlt2 hget2 hyl ⟨hys, hOb⟩ D
        rw [hOb] at D
        obtain ⟨x, hx⟩ : ∃ x, ord[j]? = some x := ⟨_, List.getElem?_eq_getElem (by omega)⟩
        obtain ⟨t2, rfl⟩ := IntsAre.at_ hov hget2 hx
        obtain ⟨x0, x1⟩ := hor x (List.mem_of_getElem? hx)
        obtain ⟨ar, rs, kr, q1, q2, q3⟩ := hRm.get x.toNat (by omega)
        refine tests0 (iteT rfl ?_)
        repeat' walk_at "st"
        refine item_ D (by walk_at "mem") x0 q1 (by rw [sizeLine_eq]; omega) ?_
        refine ElS.intro D ⟨?_, hOb ▸ rfl⟩
        rw [List.take_add_one, hx, Option.toList_some, List.map_append, List.map_singleton]
        exact hys.snoc ar kr q2 q3
      · rintro la1 y1 k1 O₁ h tk hyl ⟨hy1, hOb⟩ D
        rw [hOb] at D
        rw [hovl, List.take_of_length_le (Nat.le_refl _)] at hy1
        refine e_comp h₀ e (by rfl) (by rfl) ?_
        repeat' walk_at "st"
        refine k_rng1 hh D (by omega) (by omega) fun I7 oI7 S7 h tk D Dv7 hst7 => ?_
        rw [show (6 : Int).toNat = 6 from rfl] at Dv7
        refine ⟨_, k_comp (fun j ys O' => ∃ M2 : Os, LL M2 ys ((List.range j).map fun k => rangeS (few.getD k 0) (lea.getD k 0 + 1)) ∧ O' = (M2 ++ ((la1, lstO y1 k1) :: (rm, lstO ms km) :: (Rm ++ ((lv, lstO vv kv) :: (lf, lstO fv kf) :: (pre ++ lawC oc Lf c1 c2 c3 c4 (some (.ref lf)) (some (.ref lv)) (some (.ref rm)) ((L, oL) :: O))))) : Os)) D Dv7 hst7 (by decide) ⟨[], .nil, rfl⟩ (by intros; simp_all) ?_ ?_⟩
        · rintro C j _ ys O₁ B oL2 oI8 k8 h tk E3 hlt2 ⟨tv, rfl⟩ hyl ⟨M2, hys, hOb⟩ D
          rw [hOb] at D
          have hb := hbd j hlt2
          refine tests0 (iteT rfl ?_)
          repeat' walk_at "st"
          refine itemI_ D (by walk_at "mem") hfv (by omega) (by omega) (by rw [sizeLine_eq]; omega) fun t => ?_
          repeat' walk_at "st"
          refine itemI_ D (by walk_at "mem") hvv (by omega) (by omega) (by rw [sizeLine_eq]; omega) fun t => ?_
          repeat' walk_at "st"
          rw [Int.toNat_natCast]
          refine k_range2 D fun r oR h tk z hr D => ?_
          repeat' walk_at "st"
          refine k_listRange hh D hr hb.1 (by omega) (by omega) (by omega) fun a ws kw h tk hws D => ?_
          refine ElS.intro (O' := (a, lstO ws kw) :: (M2 ++ ((la1, lstO y1 k1) :: (rm, lstO ms km) :: (Rm ++ ((lv, lstO vv kv) :: (lf, lstO fv kf) :: (pre ++ lawC oc Lf c1 c2 c3 c4 (some (.ref lf)) (some (.ref lv)) (some (.ref rm)) ((L, oL) :: O))))))) ((D.weak (O' := (a, lstO ws kw) :: (I7, oI8) :: (B, lstO ys k8) :: (Lf, oL2) :: (M2 ++ ((la1, lstO y1 k1) :: (rm, lstO ms km) :: (Rm ++ ((lv, lstO vv kv) :: (lf, lstO fv kf) :: (pre ++ lawC oc Lf c1 c2 c3 c4 (some (.ref lf)) (some (.ref lv)) (some (.ref rm)) ((L, oL) :: O))))))) (by walk_at "sub")).perm ?_) ⟨(a, lstO ws kw) :: M2, ?_, rfl⟩
          · exact List.perm_middle
          · rw [List.range_succ, List.map_append, List.map_singleton]
            exact (hys.mono fun p hp => List.mem_cons_of_mem _ hp).snoc a kw (.head _) hws
        · rintro la2 y2 k2 O₁ h tk hyl ⟨M2, hy2, hOb⟩ D
          rw [hOb] at D
          obtain ⟨as1, hr1'⟩ := hy1.reads (h := h) fun p hp => D.get (O := _) (.tail _ (List.mem_append_right _ (.tail _ (.tail _ (List.mem_append_left _ hp)))))
          obtain ⟨as2, hr2'⟩ := hy2.reads (h := h) fun p hp => D.get (O := _) (.tail _ (List.mem_append_left _ hp))
          have hsh := shaped_LL (ord.map fun v => (mostHeldS ab).getD v.toNat [])
          refine eq_dataH (Reads.list (D.get (.tail _ (List.mem_append_right _ (.head _)))) rfl rfl hr1') (Reads.list (D.get (.head _)) rfl rfl hr2') hsh (shaped_LL _) (by have := hA.units; omega) ?_
          rw [← heq, SeqAt.eqv_refl _ (SeqAt.canLay_of_shaped hsh)]
          exact FnS.intro [] (D.weak (O' := (L, oL) :: O) (by walk_at "sub")) ⟨rfl, rfl⟩
end
/-! text F25 -/
section
/-- what the plain law says of a tree and a width -/
structure OkP (ab : List Int) (wd : Nat) : Prop where
  ol : (orderS ab).length = 6
  or_ : ∀ v ∈ orderS ab, 0 ≤ v ∧ v < 6
  os : (ordS ab 6 [] [0]).isSome = true
  ch : ∀ r ∈ childrenS ab, ∀ v ∈ r, 0 ≤ v ∧ v < 6
  rows : (rowsS ab wd).dropLast.map (stripL 32) ++ [(rowsS ab wd).getLastD []] = lettersS ab
  rl : (rowsS ab wd).length = 7
  r1 : ∀ r ∈ (rowsS ab wd).dropLast, 1 ≤ r.length
  sent : (sentS ab).dropLast.map (stripL 46) ++ [(sentS ab).getLastD []] = lettersS ab
  sl : (sentS ab).length = 7
  fl : (fewestS ((rowsS ab wd).dropLast.map fun r => r.length - 1) wd).length = 6
  ll : (leavesS (depthsS (sentS ab))).length = 6
  bd : ∀ k, k < 6 → (fewestS ((rowsS ab wd).dropLast.map fun r => r.length - 1) wd).getD k 0 ≤ (leavesS (depthsS (sentS ab))).getD k 0 + 1 ∧ -1000 ≤ (fewestS ((rowsS ab wd).dropLast.map fun r => r.length - 1) wd).getD k 0 ∧ (leavesS (depthsS (sentS ab))).getD k 0 ≤ 1000
  eq : (orderS ab).map (fun v => (mostHeldS ab).getD v.toNat []) = (List.range 6).map fun k => rangeS ((fewestS ((rowsS ab wd).dropLast.map fun r => r.length - 1) wd).getD k 0) ((leavesS (depthsS (sentS ab))).getD k 0 + 1)
  sz : ∀ n, n < 7 → (∀ p ∈ pagesS ab wd n, p.length ≤ 1000) ∧ (∀ p ∈ mailsS ab n, p.length ≤ 1000) ∧ (∀ p ∈ mailsS ab n, ∀ c ∈ p, c < 128)
  mo : mostOkB ab = true
theorem okP_of {ab : List Int} {wd : Nat} (h : okS ab wd = true) : OkP ab wd := by
  unfold okS at h
  simp only [Bool.and_eq_true, decide_eq_true_eq, List.all_eq_true, List.mem_range, beq_iff_eq] at h
  obtain ⟨⟨⟨⟨⟨⟨⟨⟨⟨⟨⟨⟨⟨⟨h1, h2⟩, h3⟩, h4⟩, h5⟩, h6⟩, h7⟩, h8⟩, h9⟩, h10⟩, h11⟩, h12⟩, h13⟩, h14⟩, h15⟩ := h
  exact ⟨h1, h2, h3, h4, h5, h6, h7, h8, h9, h10, h11, fun k hk => ⟨(h12 k hk).1.1, (h12 k hk).1.2, (h12 k hk).2⟩, h13, fun n hn => ⟨(h14 n hn).1.1.1, (h14 n hn).1.1.2, (h14 n hn).1.2⟩, h15⟩
theorem drawnS_len (ns : List Int) : (drawnS ns).length = 5 := by
  unfold drawnS
  rw [List.length_append, List.length_map, List.length_replicate, List.length_take]
  omega
theorem drawnS_in (ns : List Int) (i : Nat) (hi : i < 5) : 0 ≤ (drawnS ns).getD i 0 ∧ (drawnS ns).getD i 0 < 1000003 := by
  have : ∀ x ∈ drawnS ns, 0 ≤ x ∧ x < 1000003 := by
    intro x hx
    unfold drawnS at hx
    rcases List.mem_append.mp hx with hx | hx
    · obtain ⟨y, _, rfl⟩ := List.mem_map.mp hx
      exact ⟨Int.fmod_nonneg_of_pos _ (by decide), Int.fmod_lt_of_pos _ (by decide)⟩
    · have := List.eq_of_mem_replicate hx
      subst this; decide
  have hl := drawnS_len ns
  rw [List.getD_eq_getElem?_getD, List.getElem?_eq_getElem (by omega)]
  exact this _ (List.getElem_mem _)
theorem aboveS_in (dr : List Int) (i : Nat) (hi : i < 5) : 0 ≤ (aboveS dr).getD (1 + i) 0 ∧ (aboveS dr).getD (1 + i) 0 ≤ i := by
  have e : (aboveS dr).getD (1 + i) 0 = (dr.getD i 0 + addS i).fmod (1 + (i : Int)) := by
    unfold aboveS
    rw [Nat.add_comm, List.getD_cons_succ, List.getD_eq_getElem?_getD, List.getElem?_map, List.getElem?_range hi]; rfl
  rw [e]
  have h1 := Int.fmod_nonneg_of_pos (dr.getD i 0 + addS i) (show (0 : Int) < 1 + (i : Int) by omega)
  have h2 := Int.fmod_lt_of_pos (dr.getD i 0 + addS i) (show (0 : Int) < 1 + (i : Int) by omega)
  omega

theorem aboveS_tree (dr : List Int) : aboveS dr ∈ trees := by
  have h := fun i hi => aboveS_in dr i hi
  have e : aboveS dr = [-1, (aboveS dr).getD (1 + 0) 0, (aboveS dr).getD (1 + 1) 0, (aboveS dr).getD (1 + 2) 0, (aboveS dr).getD (1 + 3) 0, (aboveS dr).getD (1 + 4) 0] := rfl
  have h0 := h 0 (by decide)
  have h1 := h 1 (by decide)
  have h2 := h 2 (by decide)
  have h3 := h 3 (by decide)
  have h4 := h 4 (by decide)
  rw [e]
  generalize (aboveS dr).getD (1 + 0) 0 = x0 at h0 ⊢
  generalize (aboveS dr).getD (1 + 1) 0 = x1 at h1 ⊢
  generalize (aboveS dr).getD (1 + 2) 0 = x2 at h2 ⊢
  generalize (aboveS dr).getD (1 + 3) 0 = x3 at h3 ⊢
  generalize (aboveS dr).getD (1 + 4) 0 = x4 at h4 ⊢
  obtain ⟨n1, rfl⟩ := Int.eq_ofNat_of_zero_le h1.1
  obtain ⟨n2, rfl⟩ := Int.eq_ofNat_of_zero_le h2.1
  obtain ⟨n3, rfl⟩ := Int.eq_ofNat_of_zero_le h3.1
  obtain ⟨n4, rfl⟩ := Int.eq_ofNat_of_zero_le h4.1
  have : x0 = 0 := by omega
  subst this
  unfold trees
  refine List.mem_map.mpr ⟨n1 + 2 * n2 + 6 * n3 + 24 * n4, List.mem_range.mpr (by omega), ?_⟩
  have q1 : (n1 + 2 * n2 + 6 * n3 + 24 * n4) % 2 = n1 := by omega
  have q2 : (n1 + 2 * n2 + 6 * n3 + 24 * n4) / 2 % 3 = n2 := by omega
  have q3 : (n1 + 2 * n2 + 6 * n3 + 24 * n4) / 6 % 4 = n3 := by omega
  have q4 : (n1 + 2 * n2 + 6 * n3 + 24 * n4) / 24 % 5 = n4 := by omega
  rw [q1, q2, q3, q4]
theorem widthS_in (ns : List Int) : ∃ wd : Nat, widthS ns = wd ∧ 1 ≤ wd ∧ wd ≤ 3 := by
  have h1 := Int.fmod_nonneg_of_pos ns.sum (show (0 : Int) < 3 by decide)
  have h2 := Int.fmod_lt_of_pos ns.sum (show (0 : Int) < 3 by decide)
  refine ⟨(widthS ns).toNat, ?_, ?_, ?_⟩ <;> unfold widthS <;> omega
theorem mostOk_of {ab : List Int} (hal : ab.length = 6) (hab : ∀ i, i < 5 → 0 ≤ ab.getD (1 + i) 0 ∧ ab.getD (1 + i) 0 ≤ i) (h : mostOkB ab = true) : MostOk ab := by
  unfold mostOkB at h
  rw [Bool.and_eq_true, List.all_eq_true, List.all_eq_true] at h
  refine ⟨by omega, by omega, fun k h1 h2 => ?_, fun p hp => of_decide_eq_true (h.1 p hp), fun m hm => h.2 m hm⟩
  have := hab (k - 1) (by omega)
  rw [show 1 + (k - 1) = k by omega] at this
  omega
theorem splitL_short (c : Nat) : ∀ (l : List Nat), ∀ r ∈ splitL c l, r.length ≤ l.length := by
  intro l
  induction l with
  | nil => intro r hr; simp only [splitL, List.mem_singleton] at hr; subst hr; exact Nat.le_refl _
  | cons x t ih =>
    intro r hr
    unfold splitL at hr
    split at hr
    · rcases List.mem_cons.mp hr with rfl | hr
      · exact Nat.zero_le _
      · have := ih r hr; simp only [List.length_cons]; omega
    · split at hr
      · simp only [List.mem_singleton] at hr; subst hr; simp only [List.length_cons, List.length_nil]; omega
      · rename_i p ps he
        rw [he] at ih
        rcases List.mem_cons.mp hr with rfl | hr
        · have := ih p (.head _); simp only [List.length_cons]; omega
        · have := ih r (.tail _ hr); simp only [List.length_cons]; omega
theorem getD0_mem_or (l : List (List Nat)) : l.getD 0 [] = [] ∨ l.getD 0 [] ∈ l := by
  cases l with
  | nil => exact .inl rfl
  | cons a t => exact .inr (.head _)
theorem childrenS_row (ab : List Int) (hal : ab.length = 6) (v : Nat) : ((childrenS ab).getD v []).length ≤ 6 := by
  unfold childrenS
  rw [List.getD_eq_getElem?_getD, List.getElem?_map]
  cases (List.range ab.length)[v]? with
  | none => exact Nat.zero_le _
  | some q =>
    simp only [Option.map_some, Option.getD_some, List.length_map]
    refine Nat.le_trans (List.length_filter_le _ _) ?_
    rw [List.length_range, hal]; decide
theorem childrenS_mem (ab : List Int) (h : ∀ r ∈ childrenS ab, ∀ v ∈ r, 0 ≤ v ∧ v < 6) (v : Nat) : ∀ x ∈ (childrenS ab).getD v [], 0 ≤ x ∧ x < 6 := by
  intro x hx
  rw [List.getD_eq_getElem?_getD] at hx
  cases hq : (childrenS ab)[v]? with
  | none => rw [hq] at hx; exact absurd hx List.not_mem_nil
  | some q => rw [hq] at hx; exact h q (List.mem_of_getElem? hq) x hx
theorem letters_ok (ab : List Int) (h : ∀ v ∈ orderS ab, 0 ≤ v ∧ v < 6) : ∀ l ∈ lettersS ab, textOk l = true := by
  intro l hl
  unfold lettersS at hl
  rcases List.mem_append.mp hl with hl | hl
  · obtain ⟨v, hv, rfl⟩ := List.mem_map.mp hl
    have := h v hv
    simp only [textOk, List.length_cons, List.length_nil, List.all_cons, List.all_nil, Bool.and_true, Bool.and_eq_true, decide_eq_true_eq]
    omega
  · simp only [List.mem_singleton] at hl; subst hl; rfl
/-- what the law finds around it -/
structure Gx (h₀ : Heap) (mg mb : Str → Option Value) : Prop where
  W : Wd h₀ mg mb
  len : mg "len" = none ∧ mb "len" = some (.builtin "len")
  range : mg "range" = none ∧ mb "range" = some (.type "range")
  sum : mg "sum" = none ∧ mb "sum" = some (.builtin "sum")
  max : mg "max" = none ∧ mb "max" = some (.builtin "max")
  sorted : mg "sorted" = none ∧ mb "sorted" = some (.builtin "sorted")
  str : mg "str" = none ∧ mb "str" = some (.type "str")
  list : mg "list" = none ∧ mb "list" = some (.type "list")
  indent : ∃ f fd T oT items n p, mg "_indent" = some (.ref f) ∧ FnIs pw h₀ f 3 fd ∧ fd.defaults = .ref T ∧ h₀.get? T = some oT ∧ oT.data = .seq items n ∧ items.size = 1 ∧ mg "twin_re_1_doctest" = some (.ref p) ∧ PatIs h₀ p cI 0
  quote : ∃ f fd p, mg "_quote_periods" = some (.ref f) ∧ FnIs pw h₀ f 10 fd ∧ fd.defaults = .none ∧ mg "twin_re_1_smtplib" = some (.ref p) ∧ PatIs h₀ p cQ 1
  ipv4 : ∃ p, mg "IPV4_RE" = some (.ref p) ∧ PatIs h₀ p cV 0
  hdn : ∃ f fd, mg "is_HDN" = some (.ref f) ∧ FnIs pw h₀ f 7 fd ∧ fd.defaults = .none
  um : ∃ f fd, mg "unmatched" = some (.ref f) ∧ FnIs pw h₀ f 5 fd ∧ fd.defaults = .none
  ch : ∃ f fd, mg "_law_children" = some (.ref f) ∧ FnIs pw h₀ f 12 fd ∧ fd.defaults = .none
  most : ∃ f fd, mg "_law_most_held" = some (.ref f) ∧ FnIs pw h₀ f 13 fd ∧ fd.defaults = .none
  few : ∃ f fd, mg "_law_fewest" = some (.ref f) ∧ FnIs pw h₀ f 14 fd ∧ fd.defaults = .none
  leaves : ∃ f fd, mg "_law_leaves" = some (.ref f) ∧ FnIs pw h₀ f 15 fd ∧ fd.defaults = .none
variable {w : World} {A : Around} {E : Value → Shared → Prop} {b : Shared} {h : Heap} {tk : Nat} {h₀ : Heap} {L : Addr} {V : Vs} {O : Os} {mg mb : Str → Option Value}
theorem law_body (okAll : ∀ ab ∈ trees, ∀ wd, 1 ≤ wd → wd ≤ 3 → okS ab wd = true) (G : Gx h₀ mg mb) {env : Env} {Lf : Addr} {O : Os} {oL : Obj} {oc : Addr → Obj} {ls : Addr} {vs : List Value} {ns : List Int} {k : Nat}
    (hA : Ok 12 A) (e : EnvIs env (scopeOf pw 16) Lf (lawCells Lf))
    (D : Sd h₀ Lf (lawV (some (.ref ls)) none none none none none none none none none none none) (lawC oc Lf none none none none none none none ((L, oL) :: O)) h)
    (hm : (ls, lstO vs k) ∈ (L, oL) :: O) (hi : IntsAre vs ns) (hsz : ns.length ≤ 63) :
    wpAny (model pw w) A (execs (bodyOf pw 16) env) (FnS b h₀ Lf L oL (fun v O' => v = .bool true ∧ O' = O)) E (St b h tk) := by
  have W := G.W
  obtain ⟨fi, fdi, Ti, oT, itT, nT, pi, i1, i2, i3, i4, i5, i6, i7, i8⟩ := G.indent
  obtain ⟨fq, fdq, pq, q1, q2, q3, q4, q5⟩ := G.quote
  obtain ⟨pv, v1, v2⟩ := G.ipv4
  obtain ⟨fh, fdh, d1, d2, d3⟩ := G.hdn
  obtain ⟨fu, fdu, u1, u2, u3⟩ := G.um
  obtain ⟨fc, fdc, c1, c2, c3⟩ := G.ch
  obtain ⟨fm, fdm, m1, m2, m3⟩ := G.most
  obtain ⟨fw, fdw, w1, w2, w3⟩ := G.few
  obtain ⟨fl, fdl, l1, l2, l3⟩ := G.leaves
  refine law_A hA e W G.len G.range G.sum c1 c2 c3 D hm hi hsz fun ld dv kd la av ka lc cv kc Rc tw h tk E' hdi hai hRc D => ?_
  have hdr := drawnS_in ns
  have hdl := drawnS_len ns
  obtain ⟨wd, hwd, hw1, hw3⟩ := widthS_in ns
  rw [hwd] at D
  generalize drawnS ns = dr at hdi hai hRc hdr hdl
  have htree := aboveS_tree dr
  have hab := aboveS_in dr
  have hal : (aboveS dr).length = 6 := rfl
  generalize aboveS dr = ab at htree hab hal hai hRc
  have P := okP_of (okAll ab htree wd hw1 hw3)
  have MO := mostOk_of hal hab P.mo
  have hch : ∀ v, v < 6 → ∀ x ∈ (childrenS ab).getD v [], 0 ≤ x ∧ x < 6 := fun v _ => childrenS_mem ab P.ch v
  have hchl : ∀ v, v < 6 → ((childrenS ab).getD v []).length ≤ 6 := fun v _ => childrenS_row ab hal v
  have hos : ordS ab 6 [] [0] = some (orderS ab) := by
    have := P.os
    unfold orderS
    cases hq : ordS ab 6 [] [0] with
    | none => rw [hq] at this; exact absurd this (by decide)
    | some q => rfl
  have hp0 : ((pagesS ab wd 6).getD 0 []).length ≤ 1000 := by
    rcases getD0_mem_or (pagesS ab wd 6) with q | q
    · rw [q]; exact Nat.zero_le _
    · exact (P.sz 6 (by decide)).1 _ q
  have hm0 : ((mailsS ab 6).getD 0 []).length ≤ 1000 := by
    rcases getD0_mem_or (mailsS ab 6) with q | q
    · rw [q]; exact Nat.zero_le _
    · exact (P.sz 6 (by decide)).2.1 _ q
  have hm7 : ∀ c ∈ (mailsS ab 6).getD 0 [], c < 128 := by
    rcases getD0_mem_or (mailsS ab 6) with q | q
    · rw [q]; exact fun c hc => absurd hc List.not_mem_nil
    · exact (P.sz 6 (by decide)).2.2 _ q
  have hmne : 0 < ((mailsS ab 6).getD 0 []).length := by
    rcases Nat.eq_zero_or_pos ((mailsS ab 6).getD 0 []).length with q | q
    · have := P.sl
      unfold sentS at this
      rw [List.length_eq_zero_iff.mp q] at this
      exact absurd this (by decide)
    · exact q
  have hrow32 : ∀ r ∈ (rowsS ab wd).dropLast, r.length ≤ 1000 := fun r hr => Nat.le_trans (splitL_short 10 _ r (List.dropLast_subset _ hr)) hp0
  have hrow46 : ∀ r ∈ (sentS ab).dropLast, r.length ≤ 1000 := fun r hr => Nat.le_trans (splitL_short 10 _ r (List.dropLast_subset _ hr)) hm0
  refine law_B hA e W G.range G.str hdi hai hdl hal hdr hab D fun lh hv kh uk h tk E' hH D => ?_
  refine law_C (dr := dr) hA e W G.range i1 i2 i3 i4 i5 i6 i7 i8 q1 q2 q3 q4 q5 hRc hal ⟨hw1, hw3⟩ hch hchl (fun n hn => (P.sz n (by omega)).1) (fun n hn => (P.sz n (by omega)).2.1) D fun lp lm pv mv kp km uv h tk E' hP hM D => ?_
  refine law_D (la := la) (kc := kc) (r0 := []) (oc := oc) hA e W hRc hal hch hchl hos (by walk_at "mem") (fun p hp => by walk_at "mem") D fun lo ov ko lw wv kw uv h tk E' hov D => ?_
  refine law_E (lo := lo) (lp := lp) (lm := lm) (ov := ov) (pv := pv) (mv := mv) (ko := ko) (kp := kp) (km := km) (r0 := []) (oc := oc) (cP := 0) (cM := 0) hA e W (by walk_at "mem") (by walk_at "mem") (by walk_at "mem") (by walk_at "mem") (by walk_at "mem") hov P.ol P.or_ hP hM hp0 hm0 hmne hm7 P.rl P.rows P.sl P.sent (letters_ok ab P.or_) hrow32 hrow46 D fun lt lr lss tv rv sv h tk E' hrv hsv D => ?_
  refine law_F (la := la) (hv := hv) (kh := kh) (ka := 0) (av := []) (fu := 0) (fdu := fdu) (oc := oc) hA e W d1 d2 d3 v1 v2 (by walk_at "mem") hH hdr hab D fun h tk E' D => ?_
  have D : Sd h₀ Lf (lawV (some (.ref ls)) uk (some (.ref la)) (some (.int wd tw)) (some (.ref lc)) (some (.ref lh)) uv (some (.ref lo)) (some (.ref lw)) (some (.ref lt)) (some (.ref lr)) (some (.ref lss))) (((lss, lstO sv 0) :: (lr, lstO rv 0) :: (lt, lstO tv 0) :: (lw, lstO wv kw) :: (lo, lstO ov ko) :: (lm, lstO mv km) :: (lp, lstO pv kp) :: (lh, lstO hv kh) :: (lc, lstO cv kc) :: (Rc ++ [(la, lstO av ka), (ld, lstO dv kd)])) ++ lawC oc Lf (some (.ref ld)) (some (.ref lp)) (some (.ref lm)) none none none none ((L, oL) :: O)) h := by
    simpa only [List.cons_append, List.append_assoc, List.nil_append] using D
  refine law_G (kh := kh) (ka := ka) hA e W u1 u2 u3 v1 v2 (by walk_at "mem") (by walk_at "mem") hai hal hH hdr hab D fun ll h tk E' D => ?_
  exact law_H (ka := ka) (ko := ko) hA e W G.len G.range G.sum G.max G.sorted G.list w1 w2 w3 l1 l2 l3 m1 m2 m3 c1 c2 c3 (by walk_at "mem") (by walk_at "mem") (by walk_at "mem") (by walk_at "mem") hrv hsv hov hai P.rl P.sl P.ol P.or_ hal (fun r hr => ⟨P.r1 r hr, hrow32 r hr⟩) hrow46 hw3 MO P.fl P.ll P.bd P.eq D
end
end Mine
end
/-! text F26 -/
section
open PySem PySem.W PyProof.Rows PySem.Calls PySem.Challenge
set_option Elab.async false
set_option linter.unusedVariables false
set_option maxRecDepth 100000
namespace Mine
section
variable {prog : Program} {w : World} {A : Around} {s : Shared} {h₀ : Heap} {mg mb : Str → Option Value}
theorem Sd.enter0 {h h' : Heap} {L C : Addr} {oL : Obj} {V' : Vs} {m' : Str → Option Value} (hk0 : ∀ b o, h₀.get? b = some o → h.get? b = some o) (hL : h.get? L = some oL) (hL0 : h₀.get? L = none)
    (hC : h.get? C = none) (k : ∀ b o, h.get? b = some o → h'.get? b = some o) (hn' : h'.Ns C m') (hv' : ∀ p ∈ V', m' p.1 = p.2) (nd' : (V'.map (·.1)).Nodup) : Sd h₀ C V' [(L, oL)] h' := by
  refine ⟨⟨m', hn', hv'⟩, nd', ?_, fun b o e => k b o (hk0 b o e), fun p hp => ?_, fun p hp => ?_, by simp⟩
  · cases e : h₀.get? C with
    | none => rfl
    | some o => rw [hk0 _ _ e] at hC; cases hC
  · rw [List.mem_singleton] at hp; subst hp; exact k _ _ hL
  · rw [List.mem_singleton] at hp; subst hp
    exact ⟨fun e => (by rw [← e] at hC; rw [show h.get? L = none from hC] at hL; cases hL), hL0⟩
/-- a call from outside: no frame of ours behind it, one object handed in -/
theorem callFn0 {p : Program} {R : Result → Shared → Prop} {f L : Addr} {oL : Obj} {n : Nat} {fd : FuncData} {vals : List Value} {binds : List (Str × Value)} {Vf : List (Str × Option Value)} {j : Nat} {Post : Value → List (Addr × Obj) → Prop}
    (hA : Ok (j + 1) A) (F : FnIs p h₀ f n fd) (W : Wd h₀ mg mb) (hk0 : ∀ b o, h₀.get? b = some o → s.heap.get? b = some o) (hL : s.heap.get? L = some oL) (hL0 : h₀.get? L = none)
    (hbind : bindArgs fd ⟨vals, []⟩ = pure binds)
    (hkind : ∀ b, ∀ x ∈ binds, (scopeOf p n).names.lookup x.1 = some .local ∨ ((scopeOf p n).names.lookup x.1 = some .cell ∧ ((cellsFrom b (scopeOf p n).names []).lookup x.1).isSome = true))
    (hV : ∀ q ∈ Vf, bindL (fun x => (scopeOf p n).names.lookup x) binds (fun _ => none) q.1 = q.2) (ndV : (Vf.map (·.1)).Nodup) (ndC : ∀ b, ((cellsFrom b (scopeOf p n).names []).map (·.1)).Nodup)
    (body : ∀ Lf oc h tk env A' E', Ok j A' → EnvIs env (scopeOf p n) Lf (cellsFrom (Lf + 1) (scopeOf p n).names []) →
      Sd h₀ Lf Vf (cellsAt oc (bindC (fun x => (scopeOf p n).names.lookup x) binds fun _ => none) (cellsFrom (Lf + 1) (scopeOf p n).names []) ++ [(L, oL)]) h →
      wpAny (model prog w) A' (execs (bodyOf p n) env) (FnPost h₀ Lf L oL Post { s with heap := h, toks := tk }) E' { s with heap := h, toks := tk })
    (ret : ∀ v pre O' Lf V' h' tk, Post v (pre ++ O') → Sd h₀ Lf V' (pre ++ (L, oL) :: O') h' → R (.ok (.ret v)) { s with heap := h', toks := tk })
    (hco : (scopeOf p n).isCoroutine = false := by rfl) (hgen : (scopeOf p n).isGenerator = false := by rfl) (hk : (scopeOf p n).kind = .function := by rfl) :
    codeAny (model prog w) A (.call (.ref f) ⟨vals, []⟩) R s := by
  obtain ⟨o, ho, hdata⟩ := F.at_
  have hsc := F.scope
  refine codeAny_call_cells (by have := hA.room; omega) (hk0 _ _ ho) hdata (W.nolimit.keeps hk0) (F.code.keeps hk0) F.body hbind F.closure (by rw [hsc]; exact hkind _) (fun s₁ x => ?_) (by rw [hsc]; exact hco) (by rw [hsc]; exact hgen) (by rw [hsc]; exact hk)
  have hEnv : EnvIs (callEnvC fd s.heap.objs.size f) (scopeOf p n) s.heap.objs.size (cellsFrom (s.heap.objs.size + 1) (scopeOf p n).names []) :=
    ⟨hsc, rfl, F.globals, F.builtins, by show cellsFrom _ fd.scope.names [] = _; rw [hsc]⟩
  have hkd : (callEnvC fd s.heap.objs.size f).kindOf = fun x => (scopeOf p n).names.lookup x := by funext y; unfold Env.kindOf; rw [hEnv.scope]
  have hcl := hEnv.cells
  rw [hkd, hcl] at x
  obtain ⟨⟨⟨h1, tk1, rfl⟩, hns, hkp, hfr⟩, hcell, hap, hab⟩ := x
  have hC : s.heap.get? s.heap.objs.size = none := by
    cases e : s.heap.get? s.heap.objs.size with
    | none => rfl
    | some o => exact absurd (Heap.lt_size e) (Nat.lt_irrefl _)
  have D2 : Sd h₀ s.heap.objs.size Vf [(L, oL)] h1 := Sd.enter0 hk0 hL hL0 hC hkp hns hV ndV
  have D3 : Sd h₀ s.heap.objs.size Vf (cellsAt (fun a => (h1.get? a).getD default) (bindC (fun x => (scopeOf p n).names.lookup x) binds fun _ => none) (cellsFrom (s.heap.objs.size + 1) (scopeOf p n).names []) ++ [(L, oL)]) h1 := by
    have hcm : ∀ q ∈ cellsFrom (s.heap.objs.size + 1) (scopeOf p n).names [], h1.get? q.2 = some (cellL ((h1.get? q.2).getD default) (bindC (fun x => (scopeOf p n).names.lookup x) binds (fun _ => none) q.1)) := by
      intro q hq
      obtain ⟨oc, hoc, hd⟩ := hcell q.1 q.2 (lookup_of_nodup (ndC _) hq)
      have hoc' : h1.get? q.2 = some oc := hoc
      rw [hoc']
      show some oc = some { oc with data := _ }
      rw [← hd]
    have hfrs : ∀ q ∈ cellsFrom (s.heap.objs.size + 1) (scopeOf p n).names [], s.heap.get? q.2 = none := by
      intro q hq
      cases e : s.heap.get? q.2 with
      | none => rfl
      | some o => exact absurd (Heap.lt_size e) (Nat.lt_asymm (hab q.1 q.2 hq))
    have hO : ∀ q ∈ [(L, oL)], q.1 < s.heap.objs.size := by
      intro q hq
      rw [List.mem_singleton] at hq
      subst hq
      exact Heap.lt_size hL
    refine ⟨D2.ns, ndV, D2.L0, D2.keep, fun q hq => ?_, fun q hq => ?_, ?_⟩
    · rcases List.mem_append.mp hq with hq | hq
      · obtain ⟨r, hr, rfl⟩ := List.mem_map.mp hq; exact hcm r hr
      · exact D2.obj q hq
    · rcases List.mem_append.mp hq with hq | hq
      · obtain ⟨r, hr, rfl⟩ := List.mem_map.mp hq
        refine ⟨Nat.ne_of_gt (hab r.1 r.2 hr), ?_⟩
        cases e : h₀.get? r.2 with
        | none => rfl
        | some o => have := hk0 _ _ e; rw [hfrs r hr] at this; cases this
      · exact D2.off q hq
    · rw [List.map_append, List.nodup_append]
      refine ⟨?_, D2.nd, fun a ha b hb e => ?_⟩
      · unfold cellsAt
        rw [List.map_map]
        show (List.map (fun q : Str × Addr => q.2) _).Nodup
        exact List.pairwise_map.mpr hap
      · obtain ⟨q, hq, rfl⟩ := List.mem_map.mp ha
        obtain ⟨r, hr, rfl⟩ := List.mem_map.mp hq
        obtain ⟨q', hq', rfl⟩ := List.mem_map.mp hb
        have h2 : s.heap.objs.size < r.2 := hab r.1 r.2 hr
        have h3 : r.2 = q'.1 := e
        exact Nat.lt_asymm h2 (h3 ▸ hO q' hq')
  refine wpAny_mono (body s.heap.objs.size _ h1 tk1 _ _ _ (hA.deeper _) hEnv D3) (fun fl s' hp => ?_) fun _ _ e => e
  obtain ⟨v, pre, O', V', h', tk, rfl, rfl, D4, hP⟩ := hp
  exact ret v pre O' _ V' h' tk hP D4
end
variable {w : World} {A : Around} {b : Shared} {h₀ : Heap} {mg mb : Str → Option Value}
theorem law_run {R : Result → Shared → Prop} {s : Shared} {f : Addr} {fd : FuncData} {ls : Addr} {vs : List Value} {ns : List Int} (okAll : ∀ ab ∈ trees, ∀ wd, 1 ≤ wd → wd ≤ 3 → okS ab wd = true) (G : Gx h₀ mg mb)
    (hA : Ok 13 A) (F : FnIs pw h₀ f 16 fd) (hdf : fd.defaults = .none)
    (hk0 : ∀ b o, h₀.get? b = some o → s.heap.get? b = some o) (hL : s.heap.get? ls = some (lstO vs 0)) (hL0 : h₀.get? ls = none) (hi : IntsAre vs ns) (hsz : ns.length ≤ 63)
    (ret : ∀ h' tk', (∀ b o, h₀.get? b = some o → h'.get? b = some o) → h'.get? ls = some (lstO vs 0) → R (.ok (.ret (.bool true))) { s with heap := h', toks := tk' }) :
    codeAny (model pw w) A (.call (.ref f) ⟨[.ref ls], []⟩) R s := by
  refine callFn0 (Vf := lawV (some (.ref ls)) none none none none none none none none none none none) (vals := [.ref ls]) (binds := [("script", .ref ls)]) (Post := fun v O' => v = .bool true ∧ O' = []) hA F G.W hk0 hL hL0 (bindArgs_of F.params hdf fun q => by rfl) (by intro b x hx; rw [List.mem_singleton] at hx; subst hx; exact .inl (by rfl))
    (by intro q hq; simp only [List.mem_cons, List.not_mem_nil, or_false] at hq; rcases hq with rfl | rfl | rfl | rfl | rfl | rfl | rfl | rfl | rfl | rfl | rfl | rfl <;> rfl) (by show (["script", "k", "above", "width", "children", "hosts", "v", "order", "waiting", "letters", "rows", "sent"] : List Str).Nodup; decide) (by intro b; show (["mosts", "leaves", "fewest", "lines", "mails", "pages", "drawn"] : List Str).Nodup; decide)
    (fun Lf oc h tk env A' E' hA' e D' => law_body (L := ls) (oL := lstO vs 0) (O := []) (k := 0) (b := s) (oc := oc) okAll G hA' e D' (.head _) hi hsz) ?_
  rintro v pre O' Lf V' h' tk' ⟨rfl, hO⟩ D'
  obtain ⟨rfl, rfl⟩ := List.append_eq_nil_iff.mp hO
  exact ret h' tk' D'.keep (D'.obj _ (.head _))
end Mine
end
/-! text F27 -/
section
open PySem PySem.W PyProof.Rows PySem.Calls PySem.Challenge PySem.Builtin.Re
set_option Elab.async false
set_option linter.unusedVariables false
set_option maxRecDepth 100000
namespace Mine
noncomputable def fdOf (K : Frag) (f : Addr) : FuncData := match K.lookup f with | some ⟨_, _, .func fd, _⟩ => fd | _ => default
noncomputable def fieldsOf (K : Frag) (a : Addr) : Array Value := match K.lookup a with | some ⟨_, _, .fields vs, _⟩ => vs | _ => #[]
noncomputable def seqOf (K : Frag) (a : Addr) : Array Value := match K.lookup a with | some ⟨_, _, .seq vs _, _⟩ => vs | _ => #[]
noncomputable def isTuple (o : Option Obj) : Bool := match o with | some ⟨.type t, _, .seq _ _, _⟩ => t == "tuple" | _ => false
noncomputable def isPat (o : Option Obj) : Bool := match o with | some ⟨.type t, none, .fields _, _⟩ => t == "re.Pattern" | _ => false
noncomputable def isFn (o : Option Obj) : Bool := match o with | some ⟨_, _, .func _, _⟩ => true | _ => false

structure FnOk (K : Frag) (name : Str) (f : Addr) (n : Nat) (dv : Value) : Prop where
  name : nsIn K mainGlobals name = some (some (.ref f))
  fn : isFn (K.lookup f) = true
  code : codeIn K (fdOf K f).code (fdOf K f).qualname = true
  body : (fdOf K f).body = .stmts (bodyOf pw n)
  scope : (fdOf K f).scope = scopeOf pw n
  params : (fdOf K f).params = paramsOf pw n
  globals : (fdOf K f).globals = mainGlobals
  builtins : (fdOf K f).builtins = builtinsNs
  closure : (fdOf K f).closure = []
  defaults : (fdOf K f).defaults = dv
structure PatOk (K : Frag) (name : Str) (p c : Addr) (code : Array Nat) (want : Nat) : Prop where
  name : nsIn K mainGlobals name = some (some (.ref p))
  pat : isPat (K.lookup p) = true
  flags : reRawNat ((fieldsOf K p).getD 2 .none) = 0
  at_ : (fieldsOf K p).getD 5 .none = .ref c
  want : reRawNat ((fieldsOf K p).getD 6 .none) = want
  tup : isTuple (K.lookup c) = true
  code : ((seqOf K c).map reRawOf).map (·.toNat) = code
structure KOk (K : Frag) : Prop where
  law : FnOk K "law" 100 16 .none
  indent : FnOk K "_indent" 44 3 (.ref 37)
  dflt : isTuple (K.lookup 37) = true
  one : (seqOf K 37).size = 1
  pI : PatOk K "twin_re_1_doctest" 36 35 cI 0
  quote : FnOk K "_quote_periods" 75 10 .none
  pQ : PatOk K "twin_re_1_smtplib" 68 67 cQ 1
  pV : PatOk K "IPV4_RE" 56 55 cV 0
  hdn : FnOk K "is_HDN" 63 7 .none
  um : FnOk K "unmatched" 51 5 .none
  ch : FnOk K "_law_children" 80 12 .none
  most : FnOk K "_law_most_held" 85 13 .none
  few : FnOk K "_law_fewest" 90 14 .none
  leaves : FnOk K "_law_leaves" 95 15 .none
  len : nsIn K mainGlobals "len" = some none
  range : nsIn K mainGlobals "range" = some none
  sum : nsIn K mainGlobals "sum" = some none
  max : nsIn K mainGlobals "max" = some none
  sorted : nsIn K mainGlobals "sorted" = some none
  str : nsIn K mainGlobals "str" = some none
  list : nsIn K mainGlobals "list" = some none

section
variable {K : Frag} {h : Heap} {ls : Addr} {vs : List Value} {mg mb : Str → Option Value}
theorem hide_get (hL : h.get? ls = some (lstO vs 0)) {a : Addr} {o : Obj} (e : h.get? a = some o) (hne : o ≠ lstO vs 0) : (h.hide ls).get? a = some o := by
  by_cases q : a = ls
  · subst q; rw [hL] at e; cases e; exact absurd rfl hne
  · rw [Heap.hide_ne _ q]; exact e
theorem fn_get (X : K.In h) {f : Addr} (q : isFn (K.lookup f) = true) : ∃ o, h.get? f = some o ∧ o.data = .func (fdOf K f) := by
  unfold isFn at q
  split at q
  · rename_i c d fd sl e
    exact ⟨_, X _ _ e, by unfold fdOf; rw [e]⟩
  · cases q
theorem tup_get (X : K.In h) {a : Addr} (q : isTuple (K.lookup a) = true) : ∃ o n, h.get? a = some o ∧ o.cls = .type "tuple" ∧ o.data = .seq (seqOf K a) n := by
  unfold isTuple at q
  split at q
  · rename_i t d v n sl e
    exact ⟨_, n, X _ _ e, by rw [eq_of_beq q], by unfold seqOf; rw [e]⟩
  · cases q
theorem pat_get (X : K.In h) {a : Addr} (q : isPat (K.lookup a) = true) : ∃ o, h.get? a = some o ∧ o.cls = .type "re.Pattern" ∧ o.dict = none ∧ o.data = .fields (fieldsOf K a) := by
  unfold isPat at q
  split at q
  · rename_i t v sl e
    exact ⟨_, X _ _ e, by rw [eq_of_beq q], rfl, by unfold fieldsOf; rw [e]⟩
  · cases q
theorem hide_fn (hL : h.get? ls = some (lstO vs 0)) {f : Addr} {fd : FuncData} (x : ∃ o, h.get? f = some o ∧ o.data = .func fd) : ∃ o, (h.hide ls).get? f = some o ∧ o.data = .func fd := by
  obtain ⟨o, e, hd⟩ := x
  exact ⟨o, hide_get hL e (fun q => by rw [q] at hd; cases hd), hd⟩
theorem hide_tup (hL : h.get? ls = some (lstO vs 0)) {a : Addr} {vs' : Array Value} (x : ∃ o n, h.get? a = some o ∧ o.cls = .type "tuple" ∧ o.data = .seq vs' n) : ∃ o n, (h.hide ls).get? a = some o ∧ o.cls = .type "tuple" ∧ o.data = .seq vs' n := by
  obtain ⟨o, n, e, hc, hd⟩ := x
  exact ⟨o, n, hide_get hL e (fun q => by rw [q] at hc; have hc' : Value.type "list" = Value.type "tuple" := hc; exact absurd hc' (by decide)), hc, hd⟩
theorem hide_code (hL : h.get? ls = some (lstO vs 0)) {cd : Value} {q : Str} (x : h.CodeRec cd q) : (h.hide ls).CodeRec cd q := by
  obtain ⟨c, o, v, t, rfl, e, hd, hv⟩ := x
  exact ⟨c, o, v, t, rfl, hide_get hL e (fun q => by rw [q] at hd; cases hd), hd, hv⟩
theorem hide_ns (hL : h.get? ls = some (lstO vs 0)) {a : Addr} {m : Str → Option Value} (x : h.Ns a m) : (h.hide ls).Ns a m := by
  obtain ⟨o, es, ep, e, hd, r⟩ := x
  exact ⟨o, es, ep, hide_get hL e (fun q => by rw [q] at hd; cases hd), hd, r⟩
theorem fnIs_K (X : K.In h) (hL : h.get? ls = some (lstO vs 0)) {name : Str} {f : Addr} {n : Nat} {dv : Value} (F : FnOk K name f n dv) : FnIs pw (h.hide ls) f n (fdOf K f) :=
  ⟨hide_fn hL (fn_get X F.fn), hide_code hL (codeRec_of X F.code), F.body, F.scope, F.params, F.globals, F.builtins, F.closure⟩
theorem patIs_K (X : K.In h) (hL : h.get? ls = some (lstO vs 0)) {name : Str} {p c : Addr} {code : Array Nat} {want : Nat} (P : PatOk K name p c code want) : PatIs (h.hide ls) p code want := by
  obtain ⟨o, e, h1, h2, h3⟩ := pat_get X P.pat
  obtain ⟨oc, n, e', h4, h5⟩ := hide_tup hL (tup_get X P.tup)
  exact ⟨⟨o, _, c, oc, _, n, hide_get hL e (fun q => by rw [q] at h3; cases h3), h1, h2, h3, P.flags, P.at_, P.want, e', h5, P.code⟩⟩
theorem gx_of {p : Program} {loose : List Str} {mean : ExcName → Option Value} (k : KOk K) (X : K.In h) (T : Top p loose mean mg mb h) (hL : h.get? ls = some (lstO vs 0)) : Gx (h.hide ls) mg mb := by
  have b : ∀ {x : Str} {v : Value}, nsIn K mainGlobals x = some none → x ≠ "__name__" → bootBuiltins x = some v → mg x = none ∧ mb x = some v :=
    fun e hn hv => ⟨mg_none_of X T.g e, (T.builtins _ hn).trans hv⟩
  obtain ⟨oT, nT, d1, _, d3⟩ := hide_tup hL (tup_get X k.dflt)
  exact {
    W := ⟨let ⟨mc, a, e⟩ := T.nolimit; ⟨mc, hide_ns hL a, e⟩, hide_ns hL T.g, hide_ns hL T.b⟩
    len := b k.len (by decide) (by boot_by_name)
    range := b k.range (by decide) (by boot_by_name)
    sum := b k.sum (by decide) (by boot_by_name)
    max := b k.max (by decide) (by boot_by_name)
    sorted := b k.sorted (by decide) (by boot_by_name)
    str := b k.str (by decide) (by boot_by_name)
    list := b k.list (by decide) (by boot_by_name)
    indent := ⟨44, fdOf K 44, 37, oT, seqOf K 37, nT, 36, mg_of X T.g k.indent.name, fnIs_K X hL k.indent, k.indent.defaults, d1, d3, k.one, mg_of X T.g k.pI.name, patIs_K X hL k.pI⟩
    quote := ⟨75, fdOf K 75, 68, mg_of X T.g k.quote.name, fnIs_K X hL k.quote, k.quote.defaults, mg_of X T.g k.pQ.name, patIs_K X hL k.pQ⟩
    ipv4 := ⟨56, mg_of X T.g k.pV.name, patIs_K X hL k.pV⟩
    hdn := ⟨63, _, mg_of X T.g k.hdn.name, fnIs_K X hL k.hdn, k.hdn.defaults⟩
    um := ⟨51, _, mg_of X T.g k.um.name, fnIs_K X hL k.um, k.um.defaults⟩
    ch := ⟨80, _, mg_of X T.g k.ch.name, fnIs_K X hL k.ch, k.ch.defaults⟩
    most := ⟨85, _, mg_of X T.g k.most.name, fnIs_K X hL k.most, k.most.defaults⟩
    few := ⟨90, _, mg_of X T.g k.few.name, fnIs_K X hL k.few, k.few.defaults⟩
    leaves := ⟨95, _, mg_of X T.g k.leaves.name, fnIs_K X hL k.leaves, k.leaves.defaults⟩ }
theorem well_lst {P : Params} {xs : List PyData} (W : Well P h (.ref ls) (ofPy (.list xs))) (hl : h.IsList ls vs.toArray) : h.get? ls = some (lstO vs 0) := by
  obtain ⟨o, e, hc, n, hd⟩ := hl
  rw [ofPy] at W
  cases W with
  | list hg hw =>
    rw [hg] at e
    cases e
    rw [hg]
    have hd' : Data.seq _ _ = Data.seq vs.toArray n := hd
    cases hd'
    rfl
theorem ok_caller : Ok 13 callerA := ⟨rfl, by decide, by decide⟩
theorem law_top {R : Result → Shared → Prop} {A : Around} {s : Shared} {w : World} {p : Program} {loose : List Str} {mean : ExcName → Option Value} {fa : Addr} {ns : List Int} (okAll : ∀ ab ∈ trees, ∀ wd, 1 ≤ wd → wd ≤ 3 → okS ab wd = true)
    (k : KOk K) (X : K.In s.heap) (T : Top p loose mean mg mb s.heap) (hmg : mg "law" = some (.ref fa)) (hL : s.heap.get? ls = some (lstO vs 0)) (hi : IntsAre vs ns) (hsz : ns.length ≤ 63) (hA : Ok 13 A)
    (ret : ∀ h' tk', (∀ b o, s.heap.get? b = some o → h'.get? b = some o) → R (.ok (.ret (.bool true))) { s with heap := h', toks := tk' }) :
    codeAny (model pw w) A (.call (.ref fa) ⟨[.ref ls], []⟩) R s := by
  have e := mg_of X T.g k.law.name
  rw [hmg] at e
  cases e
  refine law_run okAll (gx_of k X T hL) hA (fnIs_K X hL k.law) k.law.defaults (fun b o e => Heap.of_hide e) hL (Heap.hide_self _ _) hi hsz fun h' tk' hk hl => ret h' tk' fun b o e => ?_
  by_cases q : b = ls
  · subst q; rw [hl, ← e, hL]
  · exact hk b o ((Heap.hide_ne _ q).trans e)
end
end Mine
end
/-! text P2 -/
section
open PySem
set_option Elab.async false
namespace Mine
noncomputable def okW (l : List (List Int)) : Bool := l.all fun ab => [1, 2, 3].all fun wd => okS ab wd
noncomputable abbrev ts0 : List (List Int) := [[-1, 0, 0, 0, 0, 0], [-1, 0, 1, 0, 0, 0], [-1, 0, 0, 1, 0, 0], [-1, 0, 1, 1, 0, 0]]
theorem okT0 : okW ts0 = true := by decide +kernel
noncomputable abbrev ts1 : List (List Int) := [[-1, 0, 0, 2, 0, 0], [-1, 0, 1, 2, 0, 0], [-1, 0, 0, 0, 1, 0], [-1, 0, 1, 0, 1, 0]]
theorem okT1 : okW ts1 = true := by decide +kernel
noncomputable abbrev ts2 : List (List Int) := [[-1, 0, 0, 1, 1, 0], [-1, 0, 1, 1, 1, 0], [-1, 0, 0, 2, 1, 0], [-1, 0, 1, 2, 1, 0]]
theorem okT2 : okW ts2 = true := by decide +kernel
noncomputable abbrev ts3 : List (List Int) := [[-1, 0, 0, 0, 2, 0], [-1, 0, 1, 0, 2, 0], [-1, 0, 0, 1, 2, 0], [-1, 0, 1, 1, 2, 0]]
theorem okT3 : okW ts3 = true := by decide +kernel
noncomputable abbrev ts4 : List (List Int) := [[-1, 0, 0, 2, 2, 0], [-1, 0, 1, 2, 2, 0], [-1, 0, 0, 0, 3, 0], [-1, 0, 1, 0, 3, 0]]
theorem okT4 : okW ts4 = true := by decide +kernel
noncomputable abbrev ts5 : List (List Int) := [[-1, 0, 0, 1, 3, 0], [-1, 0, 1, 1, 3, 0], [-1, 0, 0, 2, 3, 0], [-1, 0, 1, 2, 3, 0]]
theorem okT5 : okW ts5 = true := by decide +kernel
noncomputable abbrev ts6 : List (List Int) := [[-1, 0, 0, 0, 0, 1], [-1, 0, 1, 0, 0, 1], [-1, 0, 0, 1, 0, 1], [-1, 0, 1, 1, 0, 1]]
theorem okT6 : okW ts6 = true := by decide +kernel
noncomputable abbrev ts7 : List (List Int) := [[-1, 0, 0, 2, 0, 1], [-1, 0, 1, 2, 0, 1], [-1, 0, 0, 0, 1, 1], [-1, 0, 1, 0, 1, 1]]
theorem okT7 : okW ts7 = true := by decide +kernel
noncomputable abbrev ts8 : List (List Int) := [[-1, 0, 0, 1, 1, 1], [-1, 0, 1, 1, 1, 1], [-1, 0, 0, 2, 1, 1], [-1, 0, 1, 2, 1, 1]]
theorem okT8 : okW ts8 = true := by decide +kernel
noncomputable abbrev ts9 : List (List Int) := [[-1, 0, 0, 0, 2, 1], [-1, 0, 1, 0, 2, 1], [-1, 0, 0, 1, 2, 1], [-1, 0, 1, 1, 2, 1]]
theorem okT9 : okW ts9 = true := by decide +kernel
noncomputable abbrev ts10 : List (List Int) := [[-1, 0, 0, 2, 2, 1], [-1, 0, 1, 2, 2, 1], [-1, 0, 0, 0, 3, 1], [-1, 0, 1, 0, 3, 1]]
theorem okT10 : okW ts10 = true := by decide +kernel
noncomputable abbrev ts11 : List (List Int) := [[-1, 0, 0, 1, 3, 1], [-1, 0, 1, 1, 3, 1], [-1, 0, 0, 2, 3, 1], [-1, 0, 1, 2, 3, 1]]
theorem okT11 : okW ts11 = true := by decide +kernel
noncomputable abbrev ts12 : List (List Int) := [[-1, 0, 0, 0, 0, 2], [-1, 0, 1, 0, 0, 2], [-1, 0, 0, 1, 0, 2], [-1, 0, 1, 1, 0, 2]]
theorem okT12 : okW ts12 = true := by decide +kernel
noncomputable abbrev ts13 : List (List Int) := [[-1, 0, 0, 2, 0, 2], [-1, 0, 1, 2, 0, 2], [-1, 0, 0, 0, 1, 2], [-1, 0, 1, 0, 1, 2]]
theorem okT13 : okW ts13 = true := by decide +kernel
noncomputable abbrev ts14 : List (List Int) := [[-1, 0, 0, 1, 1, 2], [-1, 0, 1, 1, 1, 2], [-1, 0, 0, 2, 1, 2], [-1, 0, 1, 2, 1, 2]]
theorem okT14 : okW ts14 = true := by decide +kernel
noncomputable abbrev ts15 : List (List Int) := [[-1, 0, 0, 0, 2, 2], [-1, 0, 1, 0, 2, 2], [-1, 0, 0, 1, 2, 2], [-1, 0, 1, 1, 2, 2]]
theorem okT15 : okW ts15 = true := by decide +kernel
noncomputable abbrev ts16 : List (List Int) := [[-1, 0, 0, 2, 2, 2], [-1, 0, 1, 2, 2, 2], [-1, 0, 0, 0, 3, 2], [-1, 0, 1, 0, 3, 2]]
theorem okT16 : okW ts16 = true := by decide +kernel
noncomputable abbrev ts17 : List (List Int) := [[-1, 0, 0, 1, 3, 2], [-1, 0, 1, 1, 3, 2], [-1, 0, 0, 2, 3, 2], [-1, 0, 1, 2, 3, 2]]
theorem okT17 : okW ts17 = true := by decide +kernel
noncomputable abbrev ts18 : List (List Int) := [[-1, 0, 0, 0, 0, 3], [-1, 0, 1, 0, 0, 3], [-1, 0, 0, 1, 0, 3], [-1, 0, 1, 1, 0, 3]]
theorem okT18 : okW ts18 = true := by decide +kernel
noncomputable abbrev ts19 : List (List Int) := [[-1, 0, 0, 2, 0, 3], [-1, 0, 1, 2, 0, 3], [-1, 0, 0, 0, 1, 3], [-1, 0, 1, 0, 1, 3]]
theorem okT19 : okW ts19 = true := by decide +kernel
noncomputable abbrev ts20 : List (List Int) := [[-1, 0, 0, 1, 1, 3], [-1, 0, 1, 1, 1, 3], [-1, 0, 0, 2, 1, 3], [-1, 0, 1, 2, 1, 3]]
theorem okT20 : okW ts20 = true := by decide +kernel
noncomputable abbrev ts21 : List (List Int) := [[-1, 0, 0, 0, 2, 3], [-1, 0, 1, 0, 2, 3], [-1, 0, 0, 1, 2, 3], [-1, 0, 1, 1, 2, 3]]
theorem okT21 : okW ts21 = true := by decide +kernel
noncomputable abbrev ts22 : List (List Int) := [[-1, 0, 0, 2, 2, 3], [-1, 0, 1, 2, 2, 3], [-1, 0, 0, 0, 3, 3], [-1, 0, 1, 0, 3, 3]]
theorem okT22 : okW ts22 = true := by decide +kernel
noncomputable abbrev ts23 : List (List Int) := [[-1, 0, 0, 1, 3, 3], [-1, 0, 1, 1, 3, 3], [-1, 0, 0, 2, 3, 3], [-1, 0, 1, 2, 3, 3]]
theorem okT23 : okW ts23 = true := by decide +kernel
noncomputable abbrev ts24 : List (List Int) := [[-1, 0, 0, 0, 0, 4], [-1, 0, 1, 0, 0, 4], [-1, 0, 0, 1, 0, 4], [-1, 0, 1, 1, 0, 4]]
theorem okT24 : okW ts24 = true := by decide +kernel
noncomputable abbrev ts25 : List (List Int) := [[-1, 0, 0, 2, 0, 4], [-1, 0, 1, 2, 0, 4], [-1, 0, 0, 0, 1, 4], [-1, 0, 1, 0, 1, 4]]
theorem okT25 : okW ts25 = true := by decide +kernel
noncomputable abbrev ts26 : List (List Int) := [[-1, 0, 0, 1, 1, 4], [-1, 0, 1, 1, 1, 4], [-1, 0, 0, 2, 1, 4], [-1, 0, 1, 2, 1, 4]]
theorem okT26 : okW ts26 = true := by decide +kernel
noncomputable abbrev ts27 : List (List Int) := [[-1, 0, 0, 0, 2, 4], [-1, 0, 1, 0, 2, 4], [-1, 0, 0, 1, 2, 4], [-1, 0, 1, 1, 2, 4]]
theorem okT27 : okW ts27 = true := by decide +kernel
noncomputable abbrev ts28 : List (List Int) := [[-1, 0, 0, 2, 2, 4], [-1, 0, 1, 2, 2, 4], [-1, 0, 0, 0, 3, 4], [-1, 0, 1, 0, 3, 4]]
theorem okT28 : okW ts28 = true := by decide +kernel
noncomputable abbrev ts29 : List (List Int) := [[-1, 0, 0, 1, 3, 4], [-1, 0, 1, 1, 3, 4], [-1, 0, 0, 2, 3, 4], [-1, 0, 1, 2, 3, 4]]
theorem okT29 : okW ts29 = true := by decide +kernel
noncomputable def tss : List (List (List Int)) := [ts0, ts1, ts2, ts3, ts4, ts5, ts6, ts7, ts8, ts9, ts10, ts11, ts12, ts13, ts14, ts15, ts16, ts17, ts18, ts19, ts20, ts21, ts22, ts23, ts24, ts25, ts26, ts27, ts28, ts29]
theorem trees_is : trees = tss.flatten := by decide +kernel
theorem tss_ok : ∀ l ∈ tss, okW l = true := by
  intro l hl
  unfold tss at hl
  simp only [List.mem_cons, List.not_mem_nil, or_false] at hl
  rcases hl with rfl | rfl | rfl | rfl | rfl | rfl | rfl | rfl | rfl | rfl | rfl | rfl | rfl | rfl | rfl | rfl | rfl | rfl | rfl | rfl | rfl | rfl | rfl | rfl | rfl | rfl | rfl | rfl | rfl | rfl
  · exact okT0
  · exact okT1
  · exact okT2
  · exact okT3
  · exact okT4
  · exact okT5
  · exact okT6
  · exact okT7
  · exact okT8
  · exact okT9
  · exact okT10
  · exact okT11
  · exact okT12
  · exact okT13
  · exact okT14
  · exact okT15
  · exact okT16
  · exact okT17
  · exact okT18
  · exact okT19
  · exact okT20
  · exact okT21
  · exact okT22
  · exact okT23
  · exact okT24
  · exact okT25
  · exact okT26
  · exact okT27
  · exact okT28
  · exact okT29
theorem okAll : ∀ ab ∈ trees, ∀ wd, 1 ≤ wd → wd ≤ 3 → okS ab wd = true := by
  intro ab hab wd h1 h3
  rw [trees_is] at hab
  obtain ⟨l, hl, hm⟩ := List.mem_flatten.mp hab
  have h := List.all_eq_true.mp (tss_ok l hl) ab hm
  exact List.all_eq_true.mp h wd (by
    have : wd = 1 ∨ wd = 2 ∨ wd = 3 := by omega
    rcases this with rfl | rfl | rfl <;> decide)
end Mine
end
/-! the join -/
open PySem PySem.W PyProof.Rows
set_option maxRecDepth 100000 in
set_option maxHeartbeats 8000000 in
theorem PySem.Challenge.cw_xe0003_01_holds : PySem.Challenge.rw_xe0003_01.Holds := by
  (w_on; o_law; k_head; (case hw => w_witness2); w_strict (
    k_fill
    intro w s₀ s₁ mg mb G Y fa o pm cd doc dV kV ho hd hcd hD hmg hg args vals as hpre hlay hrd hwl hlo
    have KX := kIn_of Y
    have X := (Ground.X G).1
    have V := (Ground.X G).2
    refine Ground.open G ?_
    intro T B D TE TW
    try (refine guard_noD D (by decide +kernel) ?_; clear D)
    wrow_args hpre hlay hrd hwl hlo
    all_goals (
      first | refine callC_kw (enter_call ?_) | refine enter_call ?_ | refine callC_kw (enter_callW ?_) | refine enter_callW ?_ | w_how
      w_top on
      try refine codeAny_mono ?_ (fun _ _ g => GoodW.toG g)
      rename_i ns hs hlay0 hL1 hr1 hl2 as1 as2 ls vs as3 hl ra w1 r0 hi hr hc1 hc2
      refine Mine.law_top Mine.okAll ?kok KX T hmg (Mine.well_lst w1 hl) hi (by omega) Mine.ok_caller fun h' tk' hk => ?fin
      case kok => constructor <;> first | kernel_rfl | (constructor <;> kernel_rfl)
      case fin => exact ⟨.inl ⟨_, .bool true, [], rfl, fun _ => rfl, .bool true, by kernel_rfl, fun _ => ⟨List.nodup_nil, fun _ hm => absurd hm List.not_mem_nil⟩⟩, hk, rfl, hg⟩)))
