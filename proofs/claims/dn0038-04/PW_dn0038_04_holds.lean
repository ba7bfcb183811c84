import PyProof.Rows.All
import Wide.All
import OpenK.AllK
import Wide.FinOn
import PySem.Challenge.RW_dn0038_04
open PySem PySem.Calls PyProof.Rows
set_option Elab.async false
set_option linter.unusedVariables false
namespace Mine

abbrev Cell := Obj → Prop

/-- the abstract state: G what is frozen, m the frame's slots, N what is owned and may change, k a bound below the tokens to come -/
structure Pt where
  G : Addr → Option Obj
  m : List (Str × Option Value)
  N : List (Addr × Cell)
  k : Nat

structure TokOk (k : Nat) (s : Shared) : Prop where
  le : k ≤ s.toks

def look : List (Str × Option Value) → Str → Option Value
  | [], _ => none
  | (y, v) :: r, x => if x = y then v else look r x

structure Cx where
  prog : Program
  w : World
  B : Heap

def dom (N : List (Addr × Cell)) : List Addr := N.map (·.1)

/-- the part without the frame -/
structure Sat0 (B : Heap) (G : Addr → Option Obj) (N : List (Addr × Cell)) (h : Heap) : Prop where
  base : ∀ b o, B.get? b = some o → h.get? b = some o
  gs : ∀ b o, G b = some o → h.get? b = some o
  own : ∀ q ∈ N, ∃ o, h.get? q.1 = some o ∧ q.2 o
  nB : ∀ b ∈ dom N, B.get? b = none
  nG : ∀ b ∈ dom N, G b = none
  nd : (dom N).Nodup

structure Sat (B : Heap) (L : Addr) (p : Pt) (h : Heap) : Prop where
  s0 : Sat0 B p.G p.N h
  ns : h.Ns L (look p.m)
  bL : B.get? L = none
  gL : p.G L = none
  nL : L ∉ dom p.N
  mnd : (p.m.map (·.1)).Nodup

/-- from s at (G, N) to s' at (G', N'), the frame L (if any) set free -/
structure Ext0 (Lk : Addr → Prop) (G : Addr → Option Obj) (N : List (Addr × Cell)) (k : Nat) (s : Shared) (G' : Addr → Option Obj) (N' : List (Addr × Cell)) (k' : Nat) (s' : Shared) : Prop where
  keep : ∀ b o, s.heap.get? b = some o → ¬ Lk b → b ∉ dom N → s'.heap.get? b = some o
  grow : ∀ b o, G b = some o → G' b = some o
  fresh : ∀ b, (G' b ≠ none ∨ b ∈ dom N') → G b ≠ none ∨ b ∈ dom N ∨ s.heap.get? b = none
  noleak : ∀ b ∈ dom N, b ∈ dom N' ∨ G' b ≠ none
  gens : s'.gens = s.gens
  os : s'.os = s.os
  km : k ≤ k'
  kk : k' ≤ k ∨ k' ≤ s'.toks

def Ext (L : Addr) (p : Pt) (s : Shared) (p' : Pt) (s' : Shared) : Prop := Ext0 (· = L) p.G p.N p.k s p'.G p'.N p'.k s'
theorem TokOk.next {Lk : Addr → Prop} {G G₁ : Addr → Option Obj} {N N₁ : List (Addr × Cell)} {k k₁ : Nat} {s s₁ : Shared} (T : TokOk k s) (x : Ext0 Lk G N k s G₁ N₁ k₁ s₁) (h : s.toks ≤ s₁.toks) : TokOk k₁ s₁ :=
  ⟨x.kk.elim (fun e => Nat.le_trans e (Nat.le_trans T.le h)) id⟩

theorem Ext.refl {L : Addr} {p : Pt} {s : Shared} : Ext L p s p s :=
  ⟨fun _ _ e _ _ => e, fun _ _ e => e, fun _ h => h.elim .inl (fun h => .inr (.inl h)), fun _ h => .inl h, rfl, rfl, Nat.le_refl _, .inl (Nat.le_refl _)⟩

theorem Ext0.trans {Lk : Addr → Prop} {B : Heap} {G G₁ G₂ : Addr → Option Obj} {N N₁ N₂ : List (Addr × Cell)} {k k₁ k₂ : Nat} {s s₁ s₂ : Shared}
    (S : Sat0 B G N s.heap) (S₁ : Sat0 B G₁ N₁ s₁.heap) (hL : ∀ b, Lk b → s.heap.get? b ≠ none → s₁.heap.get? b ≠ none)
    (x : Ext0 Lk G N k s G₁ N₁ k₁ s₁) (y : Ext0 Lk G₁ N₁ k₁ s₁ G₂ N₂ k₂ s₂) (ht : s₁.toks ≤ s₂.toks) : Ext0 Lk G N k s G₂ N₂ k₂ s₂ := by
  have al : ∀ b o, s.heap.get? b = some o → s₁.heap.get? b ≠ none := fun b o e => by
    by_cases h1 : Lk b
    · exact hL b h1 (by rw [e]; exact fun h => nomatch h)
    · by_cases h2 : b ∈ dom N
      · rcases x.noleak b h2 with h3 | h3
        · obtain ⟨q, hq, rfl⟩ := List.mem_map.mp h3
          obtain ⟨o', ho', _⟩ := S₁.own q hq
          rw [ho']; exact fun h => nomatch h
        · cases hg : G₁ b with
          | none => exact absurd hg h3
          | some o' => rw [S₁.gs b o' hg]; exact fun h => nomatch h
      · rw [x.keep b o e h1 h2]; exact fun h => nomatch h
  have fr : ∀ b, s₁.heap.get? b = none → s.heap.get? b = none := fun b hb => by
    cases e : s.heap.get? b with
    | none => rfl
    | some o => exact absurd hb (al b o e)
  refine ⟨fun b o e h1 h2 => ?_, fun b o e => y.grow b o (x.grow b o e), fun b h => ?_, fun b h => ?_, y.gens.trans x.gens, y.os.trans x.os, Nat.le_trans x.km y.km,
    y.kk.elim (fun e => x.kk.elim (fun e' => .inl (Nat.le_trans e e')) fun e' => .inr (Nat.le_trans e (Nat.le_trans e' ht))) .inr⟩
  · have e1 := x.keep b o e h1 h2
    refine y.keep b o e1 h1 fun h3 => ?_
    rcases x.fresh b (.inr h3) with h4 | h4 | h4
    · cases hg : G b with
      | none => exact h4 hg
      | some o' =>
        have := S₁.nG b h3
        rw [x.grow b o' hg] at this; cases this
    · exact h2 h4
    · rw [e] at h4; cases h4
  · rcases y.fresh b h with h4 | h4 | h4
    · exact x.fresh b (.inl h4)
    · exact x.fresh b (.inr h4)
    · exact .inr (.inr (fr b h4))
  · rcases x.noleak b h with h4 | h4
    · exact y.noleak b h4
    · right
      cases hg : G₁ b with
      | none => exact absurd hg h4
      | some o' => rw [y.grow b o' hg]; exact fun h => nomatch h

theorem Ext.trans {B : Heap} {L : Addr} {p p₁ p₂ : Pt} {s s₁ s₂ : Shared} (S : Sat B L p s.heap) (S₁ : Sat B L p₁ s₁.heap) (x : Ext L p s p₁ s₁) (y : Ext L p₁ s₁ p₂ s₂) (ht : s₁.toks ≤ s₂.toks) : Ext L p s p₂ s₂ :=
  Ext0.trans S.s0 S₁.s0 (fun b hb _ => by
    cases hb
    obtain ⟨o, _, _, ho, _⟩ := S₁.ns
    rw [ho]; exact fun h => nomatch h) x y ht

/-- from every heap that satisfies p the tree t comes back, without an exception, and then Q -/
structure Run (C : Cx) (A : Around) (L : Addr) {α : Type} (t : Sem α) (p : Pt) (Q : α → Pt → Prop) : Prop where
  of :: go : ∀ s, Sat C.B L p s.heap → TokOk p.k s → wpAny (model C.prog C.w) A t (fun a s' => ∃ p', Sat C.B L p' s'.heap ∧ Ext L p s p' s' ∧ Q a p') (fun _ _ => False) s

/-- what a raw rule wants to hear at its end -/
def Post (C : Cx) (L : Addr) (p : Pt) (s : Shared) {α : Type} (Q : α → Pt → Prop) (a : α) (s' : Shared) : Prop := ∃ p', Sat C.B L p' s'.heap ∧ Ext L p s p' s' ∧ Q a p'

section
variable {C : Cx} {A : Around} {L : Addr} {α β : Type} {p : Pt}

theorem Run.pure {a : α} {Q : α → Pt → Prop} (h : Q a p) : Run C A L (Pure.pure a : Sem α) p Q := .of fun _ S _ => wpAny_pure ⟨p, S, .refl, h⟩

theorem Run.mono {t : Sem α} {Q Q' : α → Pt → Prop} (h : Run C A L t p Q) (hq : ∀ a p', Q a p' → Q' a p') : Run C A L t p Q' :=
  .of fun s S T => wpAny_mono (h.go s S T) (fun a _ ⟨p', S', x, q⟩ => ⟨p', S', x, hq a p' q⟩) fun _ _ e => e

/-- one thing behind another: the second's ends, seen from the first's start -/
theorem Run.after {t : Sem β} {p₁ : Pt} {Q : β → Pt → Prop} {s s₁ : Shared} (S : Sat C.B L p s.heap) (T : TokOk p.k s) (S₁ : Sat C.B L p₁ s₁.heap) (x : Ext L p s p₁ s₁) (ht : s.toks ≤ s₁.toks) (h : Run C A L t p₁ Q) :
    wpAny (model C.prog C.w) A t (Post C L p s Q) (fun _ _ => False) s₁ :=
  wpAny_mono (wpAny_toks (h.go s₁ S₁ (T.next x ht))) (fun b s₂ ⟨ht₂, p₂, S₂, y, r⟩ => ⟨p₂, S₂, x.trans S S₁ y ht₂, r⟩) fun _ _ e => e.2

theorem Run.bind {m : Sem α} {f : α → Sem β} {Q : β → Pt → Prop} (h : Run C A L m p fun a p₁ => Run C A L (f a) p₁ Q) : Run C A L (m >>= f) p Q :=
  .of fun s S T => wpAny_bind (wpAny_mono (wpAny_toks (h.go s S T)) (fun a s₁ ⟨ht, p₁, S₁, x, q⟩ => Run.after S T S₁ x ht q) fun _ _ e => e.2)

theorem Run.of_eq {t t' : Sem α} {Q : α → Pt → Prop} (e : t = t') (h : Run C A L t' p Q) : Run C A L t p Q := e ▸ h

/-- in the same state, whatever the tokens -/
theorem Post.same {s : Shared} {Q : α → Pt → Prop} {a : α} {tk : Nat} (S : Sat C.B L p s.heap) (q : Q a p) : Post C L p s Q a { s with toks := tk } :=
  ⟨p, S, ⟨fun _ _ e _ _ => e, fun _ _ e => e, fun _ h => h.elim .inl (fun h => .inr (.inl h)), fun _ h => .inl h, rfl, rfl, Nat.le_refl _, .inl (Nat.le_refl _)⟩, q⟩
/-- a new token -/
theorem Post.fresh {s : Shared} {Q : α → Pt → Prop} {a : α} (S : Sat C.B L p s.heap) (T : TokOk p.k s) (q : Q a { p with k := s.toks + 1 }) : Post C L p s Q a { s with toks := s.toks + 1 } :=
  ⟨{ p with k := s.toks + 1 }, ⟨S.s0, S.ns, S.bL, S.gL, S.nL, S.mnd⟩, ⟨fun _ _ e _ _ => e, fun _ _ e => e, fun _ h => h.elim .inl (fun h => .inr (.inl h)), fun _ h => .inl h, rfl, rfl, Nat.le_succ_of_le T.le, .inr (Nat.le_refl _)⟩, q⟩

theorem Run.holding {vs : List Value} {t : Sem α} {Q : α → Pt → Prop} (h : Run C A L t p Q) : Run C A L (PySem.holding vs t) p Q := .of fun s S T => wpAny_holding (h.go s S T)
theorem Run.standAt {pos : Pos} {Q : Unit → Pt → Prop} (h : Q () p) : Run C A L (PySem.standAt pos) p Q := .of fun _ S _ => wpAny_standAt ⟨p, S, .refl, h⟩
theorem Run.point {Q : Unit → Pt → Prop} (h : Q () p) : Run C A L PySem.point p Q := .of fun _ S _ => wpAny_point ⟨p, S, .refl, h⟩

end
/-! slots -/
inductive PutM : List (Str × Option Value) → Str → Option Value → List (Str × Option Value) → Prop
  | head {x : Str} {o v : Option Value} {r : List (Str × Option Value)} : PutM ((x, o) :: r) x v ((x, v) :: r)
  | tail {q : Str × Option Value} {x : Str} {v : Option Value} {r r' : List (Str × Option Value)} : PutM r x v r' → PutM (q :: r) x v (q :: r')

theorem PutM.names {m m' : List (Str × Option Value)} {x : Str} {v : Option Value} (h : PutM m x v m') : m'.map (·.1) = m.map (·.1) := by
  induction h with
  | head => rfl
  | tail _ ih => simp only [List.map_cons, ih]
theorem PutM.mem {m m' : List (Str × Option Value)} {x : Str} {v : Option Value} (h : PutM m x v m') : x ∈ m.map (·.1) := by
  induction h with
  | head => simp
  | tail _ ih => exact List.mem_cons_of_mem _ ih
theorem PutM.look {m m' : List (Str × Option Value)} {x : Str} {v : Option Value} (h : PutM m x v m') (hn : (m.map (·.1)).Nodup) :
    Mine.look m' = fun y => if y = x then v else Mine.look m y := by
  induction h with
  | head => funext y; simp only [Mine.look]; split <;> rfl
  | @tail q x v r r' h ih =>
    obtain ⟨z, u⟩ := q
    have h1 := List.nodup_cons.mp hn
    funext y
    simp only [Mine.look, ih h1.2]
    by_cases hz : y = z
    · subst hz
      have : y ≠ x := fun e => h1.1 (e ▸ h.mem)
      simp [this]
    · simp [hz]
theorem look_of_mem {m : List (Str × Option Value)} {x : Str} {v : Option Value} (hm : (x, v) ∈ m) (hn : (m.map (·.1)).Nodup) : look m x = v := by
  induction m with
  | nil => cases hm
  | cons q r ih =>
    obtain ⟨y, u⟩ := q
    have h1 := List.nodup_cons.mp hn
    rcases List.mem_cons.mp hm with e | hm
    · cases e; simp [look]
    · have : x ≠ y := fun e => h1.1 (e ▸ List.mem_map_of_mem (f := (·.1)) hm)
      simp only [look, if_neg this]
      exact ih hm h1.2

inductive PutN : List (Addr × Cell) → Addr → Cell → Cell → List (Addr × Cell) → Prop
  | head {a : Addr} {c c' : Cell} {r : List (Addr × Cell)} : PutN ((a, c) :: r) a c c' ((a, c') :: r)
  | tail {q : Addr × Cell} {a : Addr} {c c' : Cell} {r r' : List (Addr × Cell)} : PutN r a c c' r' → PutN (q :: r) a c c' (q :: r')
theorem PutN.dom {N N' : List (Addr × Cell)} {a : Addr} {c c' : Cell} (h : PutN N a c c' N') : dom N' = dom N := by
  induction h with
  | head => rfl
  | tail _ ih => simp only [Mine.dom, List.map_cons] at *; rw [ih]
theorem PutN.mem {N N' : List (Addr × Cell)} {a : Addr} {c c' : Cell} (h : PutN N a c c' N') : (a, c) ∈ N := by
  induction h with
  | head => simp
  | tail _ ih => exact List.mem_cons_of_mem _ ih
theorem mem_dom {N : List (Addr × Cell)} {a : Addr} {c : Cell} (h : (a, c) ∈ N) : a ∈ dom N := List.mem_map_of_mem (f := (·.1)) h
theorem PutN.cases {N N' : List (Addr × Cell)} {a : Addr} {c c' : Cell} (h : PutN N a c c' N') (hn : (Mine.dom N).Nodup) : ∀ q ∈ N', q = (a, c') ∨ (q ∈ N ∧ q.1 ≠ a) := by
  induction h with
  | @head a c c' r =>
    intro q hq
    have h1 := List.nodup_cons.mp hn
    rcases List.mem_cons.mp hq with e | hq
    · exact .inl e
    · exact .inr ⟨List.mem_cons_of_mem _ hq, fun e => h1.1 (by rw [← e]; exact List.mem_map_of_mem (f := (·.1)) hq)⟩
  | @tail z a c c' r r' h ih =>
    intro q hq
    have h1 := List.nodup_cons.mp hn
    rcases List.mem_cons.mp hq with e | hq
    · subst e
      exact .inr ⟨List.mem_cons_self, fun e => h1.1 (by show q.1 ∈ Mine.dom r; rw [e]; exact mem_dom h.mem)⟩
    · rcases ih h1.2 q hq with e | ⟨e1, e2⟩
      · exact .inl e
      · exact .inr ⟨List.mem_cons_of_mem _ e1, e2⟩

inductive DelN : List (Addr × Cell) → Addr → Cell → List (Addr × Cell) → Prop
  | head {a : Addr} {c : Cell} {r : List (Addr × Cell)} : DelN ((a, c) :: r) a c r
  | tail {q : Addr × Cell} {a : Addr} {c : Cell} {r r' : List (Addr × Cell)} : DelN r a c r' → DelN (q :: r) a c (q :: r')
theorem DelN.mem {N N' : List (Addr × Cell)} {a : Addr} {c : Cell} (h : DelN N a c N') : (a, c) ∈ N := by
  induction h with
  | head => simp
  | tail _ ih => exact List.mem_cons_of_mem _ ih
theorem DelN.sub {N N' : List (Addr × Cell)} {a : Addr} {c : Cell} (h : DelN N a c N') : ∀ q ∈ N', q ∈ N := by
  induction h with
  | head => exact fun q hq => List.mem_cons_of_mem _ hq
  | tail _ ih =>
    intro q hq
    rcases List.mem_cons.mp hq with e | hq
    · rw [e]; exact List.mem_cons_self
    · exact List.mem_cons_of_mem _ (ih q hq)
theorem DelN.dom {N N' : List (Addr × Cell)} {a : Addr} {c : Cell} (h : DelN N a c N') : ∀ b ∈ dom N, b = a ∨ b ∈ dom N' := by
  induction h with
  | head =>
    intro b hb
    rcases List.mem_cons.mp hb with e | hb
    · exact .inl e
    · exact .inr hb
  | tail _ ih =>
    intro b hb
    rcases List.mem_cons.mp hb with e | hb
    · exact .inr (e ▸ List.mem_cons_self)
    · exact (ih b hb).imp id fun h => List.mem_cons_of_mem _ h
theorem DelN.nodup {N N' : List (Addr × Cell)} {a : Addr} {c : Cell} (h : DelN N a c N') (hn : (Mine.dom N).Nodup) : (Mine.dom N').Nodup ∧ a ∉ Mine.dom N' := by
  induction h with
  | head => exact ⟨(List.nodup_cons.mp hn).2, (List.nodup_cons.mp hn).1⟩
  | @tail q a c r r' h ih =>
    have h1 := List.nodup_cons.mp hn
    have h2 := ih h1.2
    refine ⟨List.nodup_cons.mpr ⟨fun hm => h1.1 ?_, h2.1⟩, fun hm => ?_⟩
    · obtain ⟨z, hz, e⟩ := List.mem_map.mp hm
      exact e ▸ List.mem_map_of_mem (f := (·.1)) (h.sub z hz)
    · rcases List.mem_cons.mp hm with e | hm
      · exact h1.1 (e ▸ mem_dom h.mem)
      · exact h2.2 hm

def addG (G : Addr → Option Obj) (a : Addr) (o : Obj) : Addr → Option Obj := fun b => if b = a then some o else G b

section
variable {B : Heap} {L : Addr} {p : Pt} {h h' : Heap}

theorem Sat0.lt {G : Addr → Option Obj} {N : List (Addr × Cell)} (S : Sat0 B G N h) {b : Addr} (hb : b ∈ dom N) : b < h.objs.size := by
  obtain ⟨q, hq, rfl⟩ := List.mem_map.mp hb
  obtain ⟨o, ho, _⟩ := S.own q hq
  exact Heap.lt_size ho

theorem Sat0.keep {G : Addr → Option Obj} {N : List (Addr × Cell)} (S : Sat0 B G N h) (hk : ∀ b o, h.get? b = some o → h'.get? b = some o) : Sat0 B G N h' :=
  ⟨fun b o e => hk b o (S.base b o e), fun b o e => hk b o (S.gs b o e), fun q hq => let ⟨o, ho, hc⟩ := S.own q hq; ⟨o, hk _ _ ho, hc⟩, S.nB, S.nG, S.nd⟩
/-- a cell of the frame or of what is hidden changes -/
theorem Sat0.sameBut {G : Addr → Option Obj} {N : List (Addr × Cell)} {a : Addr} (S : Sat0 B G N h) (hs : Heap.ExtBut a h h') (aB : B.get? a = none) (aG : G a = none) (aN : a ∉ dom N) : Sat0 B G N h' :=
  ⟨fun b o e => hs b o (fun q => by rw [q, aB] at e; cases e) (S.base b o e), fun b o e => hs b o (fun q => by rw [q, aG] at e; cases e) (S.gs b o e),
   fun q hq => let ⟨o, ho, hc⟩ := S.own q hq; ⟨o, hs _ _ (fun e => aN (e ▸ List.mem_map_of_mem (f := (·.1)) hq)) ho, hc⟩, S.nB, S.nG, S.nd⟩

theorem Sat.keep (S : Sat B L p h) (hk : ∀ b o, h.get? b = some o → h'.get? b = some o) : Sat B L p h' := ⟨S.s0.keep hk, S.ns.keeps hk, S.bL, S.gL, S.nL, S.mnd⟩
theorem Sat.none_at (S : Sat B L p h) {a : Addr} (ha : h.get? a = none) : B.get? a = none ∧ p.G a = none ∧ a ∉ dom p.N ∧ a ≠ L := by
  refine ⟨?_, ?_, fun hm => ?_, fun e => ?_⟩
  · cases hb : B.get? a with
    | none => rfl
    | some o => have := S.s0.base a o hb; rw [ha] at this; cases this
  · cases hb : p.G a with
    | none => rfl
    | some o => have := S.s0.gs a o hb; rw [ha] at this; cases this
  · obtain ⟨q, hq, e⟩ := List.mem_map.mp hm
    obtain ⟨o, ho, _⟩ := S.s0.own q hq
    rw [e, ha] at ho; cases ho
  · obtain ⟨o, _, _, ho, _⟩ := S.ns
    rw [← e, ha] at ho; cases ho
theorem get_size_none (h : Heap) : h.get? h.objs.size = none := by
  cases e : h.get? h.objs.size with
  | none => rfl
  | some o => exact absurd (Heap.lt_size e) (Nat.lt_irrefl _)

theorem Sat.extBut {a : Addr} (S : Sat B L p h) (hs : Heap.ExtBut a h h') (aB : B.get? a = none) (aG : p.G a = none) (aN : a ∉ dom p.N) (aL : a ≠ L) : Sat B L p h' :=
  ⟨S.s0.sameBut hs aB aG aN, S.ns.extBut hs (Ne.symm aL), S.bL, S.gL, S.nL, S.mnd⟩

theorem Sat.setM (S : Sat B L p h) {x : Str} {v : Option Value} {m' : List (Str × Option Value)} (hs : Heap.SameBut L h h') (hn : h'.Ns L fun y => if y = x then v else look p.m y) (P : PutM p.m x v m') :
    Sat B L { p with m := m' } h' :=
  ⟨S.s0.sameBut hs.extBut S.bL S.gL S.nL, by rw [P.look S.mnd]; exact hn, S.bL, S.gL, S.nL, by rw [P.names]; exact S.mnd⟩

theorem Sat.pushN (S : Sat B L p h) {o : Obj} {c : Cell} (hf : o.isFreed = false) (hc : c o) : Sat B L { p with N := (h.objs.size, c) :: p.N } (h.push o) := by
  have hk : ∀ b ob, h.get? b = some ob → (h.push o).get? b = some ob := fun b ob e => Heap.get?_push_of_some _ e
  obtain ⟨nb, ng, nn, nl⟩ := S.none_at (get_size_none h)
  have S' := S.keep hk
  refine ⟨⟨S'.s0.base, S'.s0.gs, fun q hq => ?_, fun b hb => ?_, fun b hb => ?_, List.nodup_cons.mpr ⟨nn, S.s0.nd⟩⟩, S'.ns, S.bL, S.gL, fun hm => ?_, S.mnd⟩
  · rcases List.mem_cons.mp hq with e | hq
    · subst e; exact ⟨o, Heap.get?_push_size _ hf, hc⟩
    · exact S'.s0.own q hq
  · rcases List.mem_cons.mp hb with e | hb
    · exact e ▸ nb
    · exact S.s0.nB b hb
  · rcases List.mem_cons.mp hb with e | hb
    · exact e ▸ ng
    · exact S.s0.nG b hb
  · rcases List.mem_cons.mp hm with e | hm
    · exact nl e.symm
    · exact S.nL hm

theorem Sat.pushG (S : Sat B L p h) {o : Obj} (hf : o.isFreed = false) : Sat B L { p with G := addG p.G h.objs.size o } (h.push o) := by
  have hk : ∀ b ob, h.get? b = some ob → (h.push o).get? b = some ob := fun b ob e => Heap.get?_push_of_some _ e
  obtain ⟨nb, ng, nn, nl⟩ := S.none_at (get_size_none h)
  have S' := S.keep hk
  refine ⟨⟨S'.s0.base, fun b ob e => ?_, S'.s0.own, S.s0.nB, fun b hb => ?_, S.s0.nd⟩, S'.ns, S.bL, ?_, S.nL, S.mnd⟩
  · simp only [addG] at e
    split at e
    · rename_i q; cases e; rw [q]; exact Heap.get?_push_size _ hf
    · exact S'.s0.gs b ob e
  · simp only [addG]; rw [if_neg (by rintro rfl; exact nn hb)]; exact S.s0.nG b hb
  · simp only [addG]; rw [if_neg (Ne.symm nl)]; exact S.gL

theorem Sat.putN (S : Sat B L p h) {a : Addr} {c c' : Cell} {N' : List (Addr × Cell)} {o : Obj} (P : PutN p.N a c c' N') (hs : Heap.ExtBut a h h') (ho : h'.get? a = some o) (hc : c' o) : Sat B L { p with N := N' } h' := by
  have am := mem_dom P.mem
  have aB := S.s0.nB a am
  have aG := S.s0.nG a am
  have aL : a ≠ L := fun e => S.nL (e ▸ am)
  refine ⟨⟨fun b ob e => hs b ob (fun q => by rw [q, aB] at e; cases e) (S.s0.base b ob e), fun b ob e => hs b ob (fun q => by rw [q, aG] at e; cases e) (S.s0.gs b ob e), fun q hq => ?_,
    by show ∀ b ∈ dom N', _; rw [P.dom]; exact S.s0.nB, by show ∀ b ∈ dom N', _; rw [P.dom]; exact S.s0.nG, by show (dom N').Nodup; rw [P.dom]; exact S.s0.nd⟩, S.ns.extBut hs (Ne.symm aL), S.bL, S.gL, by show L ∉ dom N'; rw [P.dom]; exact S.nL, S.mnd⟩
  rcases P.cases S.s0.nd q hq with rfl | ⟨h1, h2⟩
  · exact ⟨o, ho, hc⟩
  · obtain ⟨o', ho', hc'⟩ := S.s0.own q h1
    exact ⟨o', hs _ _ h2 ho', hc'⟩

/-- what is owned is frozen -/
theorem Sat.freeze (S : Sat B L p h) {a : Addr} {c : Cell} {N' : List (Addr × Cell)} (P : DelN p.N a c N') : ∃ o, c o ∧ h.get? a = some o ∧ Sat B L { p with G := addG p.G a o, N := N' } h := by
  obtain ⟨o, ho, hc⟩ := S.s0.own _ P.mem
  refine ⟨o, hc, ho, ⟨S.s0.base, fun b ob e => ?_, fun q hq => S.s0.own q (P.sub q hq), fun b hb => S.s0.nB b ?_, fun b hb => ?_, (P.nodup S.s0.nd).1⟩, S.ns, S.bL, ?_, fun hm => S.nL ?_, S.mnd⟩
  · simp only [addG] at e
    split at e
    · rename_i q; cases e; rw [q]; exact ho
    · exact S.s0.gs b ob e
  · obtain ⟨q, hq, rfl⟩ := List.mem_map.mp hb
    exact List.mem_map_of_mem (f := (·.1)) (P.sub q hq)
  · simp only [addG]
    rw [if_neg (by rintro rfl; exact (P.nodup S.s0.nd).2 hb)]
    obtain ⟨q, hq, rfl⟩ := List.mem_map.mp hb
    exact S.s0.nG _ (List.mem_map_of_mem (f := (·.1)) (P.sub q hq))
  · simp only [addG]; rw [if_neg (by intro q; exact S.nL (by rw [q]; exact mem_dom P.mem))]; exact S.gL
  · obtain ⟨q, hq, e⟩ := List.mem_map.mp hm
    exact e ▸ List.mem_map_of_mem (f := (·.1)) (P.sub q hq)

end

section
variable {L : Addr} {p p' : Pt} {s s' : Shared}
theorem Ext.heap {h' : Heap} {tk : Nat} (hk : ∀ b o, s.heap.get? b = some o → h'.get? b = some o) : Ext L p s p { s with heap := h', toks := tk } :=
  ⟨fun b o e _ _ => hk b o e, fun _ _ e => e, fun _ h => h.elim .inl (fun h => .inr (.inl h)), fun _ h => .inl h, rfl, rfl, Nat.le_refl _, .inl (Nat.le_refl _)⟩
theorem Ext.setM {h' : Heap} {tk : Nat} {m' : List (Str × Option Value)} (hs : Heap.ExtBut L s.heap h') : Ext L p s { p with m := m' } { s with heap := h', toks := tk } :=
  ⟨fun b o e h1 _ => hs b o h1 e, fun _ _ e => e, fun _ h => h.elim .inl (fun h => .inr (.inl h)), fun _ h => .inl h, rfl, rfl, Nat.le_refl _, .inl (Nat.le_refl _)⟩
theorem Ext.putN {h' : Heap} {tk : Nat} {a : Addr} {c c' : Cell} {N' : List (Addr × Cell)} (P : PutN p.N a c c' N') (hs : Heap.ExtBut a s.heap h') : Ext L p s { p with N := N' } { s with heap := h', toks := tk } :=
  ⟨fun b o e _ h2 => hs b o (fun q => h2 (q ▸ mem_dom P.mem)) e, fun _ _ e => e, fun b h => h.elim .inl fun h => .inr (.inl (P.dom ▸ h)), fun b h => .inl (by show b ∈ dom N'; rw [P.dom]; exact h), rfl, rfl, Nat.le_refl _, .inl (Nat.le_refl _)⟩
theorem Ext.pushN {o : Obj} {c : Cell} {tk : Nat} : Ext L p s { p with N := (s.heap.objs.size, c) :: p.N } { s with heap := s.heap.push o, toks := tk } :=
  ⟨fun b o e _ _ => Heap.get?_push_of_some _ e, fun _ _ e => e, fun b h => h.elim .inl fun h => by
    rcases List.mem_cons.mp h with e | h
    · exact .inr (.inr (e ▸ get_size_none _))
    · exact .inr (.inl h), fun b h => .inl (List.mem_cons_of_mem _ h), rfl, rfl, Nat.le_refl _, .inl (Nat.le_refl _)⟩
theorem Ext.pushG (S : Sat B L p s.heap) {o : Obj} {tk : Nat} : Ext L p s { p with G := addG p.G s.heap.objs.size o } { s with heap := s.heap.push o, toks := tk } :=
  ⟨fun b o e _ _ => Heap.get?_push_of_some _ e, fun b ob e => by
      simp only [addG]
      rw [if_neg (by intro q; rw [q, (S.none_at (get_size_none _)).2.1] at e; cases e)]; exact e,
    fun b h => h.elim (fun h => by
      simp only [addG] at h
      split at h
      · rename_i q; exact .inr (.inr (q ▸ get_size_none _))
      · exact .inl h) fun h => .inr (.inl h), fun b h => .inl h, rfl, rfl, Nat.le_refl _, .inl (Nat.le_refl _)⟩
theorem Ext.freeze (S : Sat B L p s.heap) {a : Addr} {c : Cell} {N' : List (Addr × Cell)} {o : Obj} (P : DelN p.N a c N') : Ext L p s { p with G := addG p.G a o, N := N' } s :=
  ⟨fun b o e _ _ => e, fun b ob e => by
      simp only [addG]
      rw [if_neg (by intro q; rw [q, S.s0.nG a (mem_dom P.mem)] at e; cases e)]; exact e,
    fun b h => h.elim (fun h => by
      simp only [addG] at h
      split at h
      · rename_i q; exact .inr (.inl (q ▸ mem_dom P.mem))
      · exact .inl h) fun h => .inr (.inl (by
        obtain ⟨q, hq, e⟩ := List.mem_map.mp h
        exact e ▸ List.mem_map_of_mem (f := (·.1)) (P.sub q hq))),
    fun b h => (P.dom b h).elim (fun e => .inr (by simp [addG, e])) .inl, rfl, rfl, Nat.le_refl _, .inl (Nat.le_refl _)⟩
end

/-- a step of the ghost: what is owned is frozen -/
theorem Run.freeze {C : Cx} {A : Around} {L : Addr} {α : Type} {t : Sem α} {p : Pt} {Q : α → Pt → Prop} {a : Addr} {c : Cell} {N' : List (Addr × Cell)} (P : DelN p.N a c N')
    (h : ∀ o G', c o → G' = addG p.G a o → p.G a = none → Run C A L t { p with G := G', N := N' } Q) : Run C A L t p Q := .of fun s S T => by
  obtain ⟨o, hc, ho, S'⟩ := S.freeze P
  exact Run.after S T S' (Ext.freeze S P) (Nat.le_refl _) (h o _ hc rfl (S.s0.nG a (mem_dom P.mem)))
end Mine

open PySem PySem.Calls PyProof.Rows
set_option Elab.async false
set_option linter.unusedVariables false
namespace Mine

/-- room above for d further frames -/
structure Room (A : Around) (d : Nat) : Prop where
  depth : A.depth + d < recursionLimit
  units : A.units + 8 * d < cLine
  hd : A.handled = none
theorem Room.deeper {A : Around} {d : Nat} (h : Room A (d + 1)) (env : Env) : Room (A.deeper env) d :=
  ⟨by have := h.depth; show A.depth + 1 + d < _; omega, by have := h.units; show A.units + 3 + 8 * d < _; omega, h.hd⟩
theorem Room.less {A : Around} {d e : Nat} (h : Room A d) (he : e ≤ d) : Room A e :=
  ⟨by have := h.depth; omega, by have := h.units; omega, h.hd⟩
theorem Room.u {A : Around} {d : Nat} (h : Room A d) : A.units < cLine := by have := h.units; omega

/-- what is known of the names of the module and of the built-ins -/
structure Base (C : Cx) (gl bl : List (Str × Value)) where
  mg : Str → Option Value
  mb : Str → Option Value
  hg : C.B.Ns mainGlobals mg
  hb : C.B.Ns builtinsNs mb
  lim : C.B.NoLimit
  g : ∀ q ∈ gl, mg q.1 = some q.2
  b : ∀ q ∈ bl, mg q.1 = none ∧ mb q.1 = some q.2

section
variable {C : Cx} {A : Around} {L : Addr} {α β : Type} {p : Pt} {env : Env}

theorem Run.release {vs keep : List Value} {Q : Unit → Pt → Prop} (h : Q () p) : Run C A L (release vs keep) p Q := .of fun _ S T => wpAny_release ⟨p, S, .refl, h⟩
theorem Run.operate {vs : List Value} {t : Sem Value} {Q : Value → Pt → Prop} (h : Run C A L t p Q) : Run C A L (operate vs t) p Q := .of fun s S T => wpAny_operating (h.go s S T)

/-! expressions -/
theorem E_int {i k pos} {Q : Value → Pt → Prop} (h : ∀ t, Q (.int i t) p) : Run C A L (eval (.Constant (.int i) k pos) env) p Q := .of fun s S T => wpAny_Constant_int (Post.same S (h s.toks))
theorem E_str {x k pos} {Q : Value → Pt → Prop} (h : ∀ t, p.k ≤ t → Q (.str x t) { p with k := t + 1 }) : Run C A L (eval (.Constant (.str x) k pos) env) p Q := .of fun s S T => wpAny_Constant_str (Post.fresh S T (h s.toks T.le))
theorem E_bool {b k pos} {Q : Value → Pt → Prop} (h : Q (.bool b) p) : Run C A L (eval (.Constant (.bool b) k pos) env) p Q := .of fun s S T => wpAny_Constant_bool ⟨p, S, .refl, h⟩
theorem E_none {k pos} {Q : Value → Pt → Prop} (h : Q .none p) : Run C A L (eval (.Constant .none k pos) env) p Q := .of fun s S T => wpAny_Constant_none ⟨p, S, .refl, h⟩

theorem E_loc {x : Str} {pos : Pos} {v : Value} {Q : Value → Pt → Prop} (hm : (x, some v) ∈ p.m) (h : Q v p) (hL : env.locals = L := by rfl) (hk : env.scope.kind = .function := by rfl) (hl : env.kindOf x = some .local := by rfl)
    (hd : (x == ("__debug__" : Str)) = false := by decide) : Run C A L (eval (.Name x pos) env) p Q := .of fun s S T => by
  subst hL
  exact wpAny_Name (wpAny_loadName_local hk hl S.ns (look_of_mem hm S.mnd) ⟨p, S, .refl, h⟩) hd
theorem E_glob {gl bl : List (Str × Value)} {x : Str} {pos : Pos} {v : Value} {Q : Value → Pt → Prop} (K : Base C gl bl) (hm : (x, v) ∈ gl) (h : Q v p) (hk : env.scope.kind = .function := by rfl) (hg : env.globals = mainGlobals := by rfl)
    (hl : env.kindOf x = some .globalImplicit := by rfl) (hd : (x == ("__debug__" : Str)) = false := by decide) : Run C A L (eval (.Name x pos) env) p Q := .of fun s S T =>
  Name_function_global hk hl (loadGlobal_global (hg ▸ K.hg.keeps S.s0.base) (K.g _ hm) ⟨p, S, .refl, h⟩) hd
theorem E_blt {gl bl : List (Str × Value)} {x : Str} {pos : Pos} {v : Value} {Q : Value → Pt → Prop} (K : Base C gl bl) (hm : (x, v) ∈ bl) (h : Q v p) (hk : env.scope.kind = .function := by rfl) (hg : env.globals = mainGlobals := by rfl) (hb : env.builtins = builtinsNs := by rfl)
    (hl : env.kindOf x = some .globalImplicit := by rfl) (hd : (x == ("__debug__" : Str)) = false := by decide) : Run C A L (eval (.Name x pos) env) p Q := .of fun s S T =>
  Name_function_global hk hl (loadGlobal_builtin (hg ▸ K.hg.keeps S.s0.base) (K.b _ hm).1 (hb ▸ K.hb.keeps S.s0.base) (K.b _ hm).2 ⟨p, S, .refl, h⟩) hd

/-- a variable's cell (closures) -/
def cellC (v : Option Value) : Cell := fun o => o.data = .cell v
theorem E_cell {x : Str} {pos : Pos} {c : Addr} {v : Value} {Q : Value → Pt → Prop} (hm : (c, cellC (some v)) ∈ p.N) (hc : env.cells.lookup x = some c) (h : Q v p) (hk : env.scope.kind = .function := by rfl)
    (hl : env.kindOf x = some .cell ∨ env.kindOf x = some .free := by first | exact .inl rfl | exact .inr rfl) (hd : (x == ("__debug__" : Str)) = false := by decide) (hn : (x == ("__classdict__" : Str)) = false := by decide) :
    Run C A L (eval (.Name x pos) env) p Q := .of fun s S T => by
  obtain ⟨o, ho, hv⟩ := S.s0.own _ hm
  rcases hl with hl | hl
  · exact wpAny_Name (wpAny_loadName_cell hk hl hc ⟨o, ho, hv⟩ ⟨p, S, .refl, h⟩) hd
  · exact wpAny_Name (wpAny_loadName_free hk hl hc ⟨o, ho, hv⟩ ⟨p, S, .refl, h⟩ hn) hd

theorem E_BinOp {l r : Expr} {op : Operator} {pos : Pos} {Q : Value → Pt → Prop} (h : Run C A L (eval l env) p fun a p₁ => Run C A L (eval r env) p₁ fun b p₂ => Run C A L (binaryOp op a b) p₂ Q) :
    Run C A L (eval (.BinOp l op r pos) env) p Q :=
  Run.of_eq (eval_BinOp ..) (.bind (h.mono fun a p₁ h₁ => .bind (.holding (h₁.mono fun b p₂ h₂ => .bind (.standAt (.operate h₂))))))
theorem E_Unary {op : UnaryOp} {x : Expr} {pos : Pos} {Q : Value → Pt → Prop} (h : Run C A L (eval x env) p fun a p₁ => Run C A L (unaryOp op a) p₁ Q) : Run C A L (eval (.UnaryOp op x pos) env) p Q :=
  Run.of_eq (arm_eval_UnaryOp ..) (.bind (h.mono fun a p₁ h₁ => .bind (.standAt (.holding h₁))))
theorem E_Cmp {l r : Expr} {op : CmpOp} {pos : Pos} {Q : Value → Pt → Prop} (h : Run C A L (eval l env) p fun a p₁ => Run C A L (eval r env) p₁ fun b p₂ => Run C A L (compareOp op a b) p₂ Q)
    (hm : behindInMarks op r = false := by with_unfolding_all rfl) : Run C A L (eval (.Compare l [op] [r] pos) env) p Q :=
  Run.of_eq (eval_Compare1 ..) (.bind (h.mono fun a p₁ h₁ => .bind (.holding (Run.of_eq (markedBehindIn_of_false hm) (h₁.mono fun b p₂ h₂ => .bind (.standAt (.operate h₂)))))))
theorem E_IfExp {t b o : Expr} {pos : Pos} {Q : Value → Pt → Prop} (h : Run C A L (isTrue t env (eval t env)) p fun c p₁ => if c then Run C A L (eval b env) p₁ Q else Run C A L (eval o env) p₁ Q) :
    Run C A L (eval (.IfExp t b o pos) env) p Q :=
  Run.of_eq (arm_eval_IfExp ..) (.bind (h.mono fun c p₁ h₁ => by cases c <;> exact h₁))
theorem E_Tuple {es : List Expr} {k : Nat} {pos : Pos} {Q : Value → Pt → Prop} (h : Run C A L (spliced (backTo pos (starEach es env))) p fun vs p₁ => Run C A L (newTuple vs) p₁ Q) : Run C A L (eval (.Tuple es k pos) env) p Q :=
  Run.of_eq (arm_eval_Tuple ..) (.bind (.standAt (.bind h)))
theorem E_List {es : List Expr} {pos : Pos} {Q : Value → Pt → Prop} (h : Run C A L (spliced (backTo pos (starEach es env))) p fun vs p₁ => Run C A L (newList vs) p₁ Q) : Run C A L (eval (.List es pos) env) p Q :=
  Run.of_eq (arm_eval_List ..) (.bind (.standAt (.bind h)))
theorem E_items_nil {pos : Pos} {Q : List Value → Pt → Prop} (h : Q [] p) : Run C A L (spliced (backTo pos (starEach [] env))) p Q := Run.pure h
theorem starEach_cons {e : Expr} {r : List Expr} (hs : PySem.W.isStarred e = false) : starEach (e :: r) env = (false, eval e env) :: starEach r env := by cases e <;> first | rfl | cases hs
theorem E_items_cons {pos : Pos} {e : Expr} {r : List Expr} {Q : List Value → Pt → Prop} (h : Run C A L (eval e env) p fun v p₁ => Run C A L (spliced (backTo pos (starEach r env))) p₁ fun vs p₂ => Q (v :: vs) p₂)
    (hs : PySem.W.isStarred e = false := by rfl) : Run C A L (spliced (backTo pos (starEach (e :: r) env))) p Q := by
  rw [starEach_cons hs]
  show Run C A L (spliced ((false, eval e env) :: backTo pos (starEach r env))) p Q
  rw [spliced]
  refine .bind (h.mono fun v p₁ h₁ => ?_)
  simp only [Bool.false_eq_true, if_false]
  exact .bind (.pure (.bind (.holding (h₁.mono fun vs p₂ h₂ => .pure h₂))))

/-! tests -/
theorem T_val {e : Expr} {whole : Sem Value} {Q : Bool → Pt → Prop} (h : Run C A L whole p fun v p₁ => Run C A L (truthy v) p₁ Q)
    (he : isTrue e env whole = (do let v ← whole; standAt e.pos; PySem.holding [v] (truthy v)) := by rfl) : Run C A L (isTrue e env whole) p Q :=
  Run.of_eq he (.bind (h.mono fun v p₁ h₁ => .bind (.standAt (.holding h₁))))
theorem T_Cmp {l r : Expr} {op : CmpOp} {pos : Pos} {whole : Sem Value} {Q : Bool → Pt → Prop}
    (h : Run C A L (eval l env) p fun a p₁ => Run C A L (eval r env) p₁ fun b p₂ => Run C A L (compareOp op a b) p₂ fun c p₃ => Run C A L (truthy c) p₃ Q)
    (hm : behindInMarks op r = false := by with_unfolding_all rfl) : Run C A L (isTrue (.Compare l [op] [r] pos) env whole) p Q :=
  Run.of_eq (isTrue_Compare1 ..) (.bind (h.mono fun a p₁ h₁ => .bind (.holding (Run.of_eq (markedBehindIn_of_false hm) (h₁.mono fun b p₂ h₂ => .bind (.standAt (.bind (.operate (h₂.mono fun c p₃ h₃ => .holding h₃)))))))))
theorem T_BoolOp {op : BoolOp} {vs : List Expr} {pos : Pos} {whole : Sem Value} {Q : Bool → Pt → Prop} (h : Run C A L (allTrue op vs env) p Q) : Run C A L (isTrue (.BoolOp op vs pos) env whole) p Q := h
theorem T_And_nil {Q : Bool → Pt → Prop} (h : Q true p) : Run C A L (allTrue .And [] env) p Q := Run.pure h
theorem T_Or_nil {Q : Bool → Pt → Prop} (h : Q false p) : Run C A L (allTrue .Or [] env) p Q := Run.pure h
theorem T_And_cons {x : Expr} {r : List Expr} {Q : Bool → Pt → Prop} (h : Run C A L (isTrue x env (eval x env)) p fun b p₁ => if b then Run C A L (allTrue .And r env) p₁ Q else Q false p₁) : Run C A L (allTrue .And (x :: r) env) p Q :=
  Run.of_eq (arm_allTrue_cons ..) (.bind (h.mono fun b p₁ h₁ => by cases b <;> first | exact h₁ | exact .pure h₁))
theorem T_Or_cons {x : Expr} {r : List Expr} {Q : Bool → Pt → Prop} (h : Run C A L (isTrue x env (eval x env)) p fun b p₁ => if b then Q true p₁ else Run C A L (allTrue .Or r env) p₁ Q) : Run C A L (allTrue .Or (x :: r) env) p Q :=
  Run.of_eq (arm_allTrue_cons ..) (.bind (h.mono fun b p₁ h₁ => by cases b <;> first | exact h₁ | exact .pure h₁))
theorem truthy_bool {b : Bool} {Q : Bool → Pt → Prop} (h : Q b p) : Run C A L (truthy (.bool b)) p Q := .of fun s S T => wpAny_truthy_bool ⟨p, S, .refl, h⟩

/-! statements -/
theorem X_nil {Q : Flow → Pt → Prop} (h : Q .next p) : Run C A L (execs [] env) p Q := Run.pure h
theorem X_cons {st : Stmt} {r : List Stmt} {Q : Flow → Pt → Prop} (h : Run C A L (exec st env) p fun f p₁ => match f with | .next => Run C A L (execs r env) p₁ Q | f => Q f p₁) : Run C A L (execs (st :: r) env) p Q :=
  Run.of_eq (execs_cons ..) (.bind (h.mono fun f p₁ h₁ => by cases f <;> first | exact h₁ | exact .pure h₁))
theorem X_one {st : Stmt} {Q : Flow → Pt → Prop} (h : Run C A L (exec st env) p Q) (hn : ∀ p', Q .next p' → Q .next p' := by exact fun _ h => h) : Run C A L (execs [st] env) p Q :=
  Run.of_eq (execs_cons ..) (.bind (h.mono fun f p₁ h₁ => by cases f <;> exact .pure h₁))
theorem X_Return {e : Expr} {pos : Pos} {Q : Flow → Pt → Prop} (h : Run C A L (eval e env) p fun v p₁ => Q (.ret v) p₁) : Run C A L (exec (.Return (some e) pos) env) p Q :=
  Run.of_eq (exec_Return_some ..) (.bind (.standAt (.bind (h.mono fun v p₁ h₁ => .pure h₁))))
theorem X_Break {pos : Pos} {Q : Flow → Pt → Prop} (h : Q .brk p) : Run C A L (exec (.Break pos) env) p Q := .of fun s S T => wpAny_Break ⟨p, S, .refl, h⟩
theorem X_Continue {pos : Pos} {Q : Flow → Pt → Prop} (h : Q .cont p) : Run C A L (exec (.Continue pos) env) p Q := .of fun s S T => wpAny_Continue ⟨p, S, .refl, h⟩
theorem X_If {t : Expr} {b o : List Stmt} {pos : Pos} {Q : Flow → Pt → Prop} (h : Run C A L (isTrue t env (eval t env)) p fun c p₁ => if c then Run C A L (execs b env) p₁ Q else Run C A L (execs o env) p₁ Q) :
    Run C A L (exec (.If t b o pos) env) p Q :=
  Run.of_eq (exec_If ..) (.bind (.standAt (.bind (h.mono fun c p₁ h₁ => by cases c <;> exact h₁))))

theorem storeLoc {x : Str} {v : Value} {m' : List (Str × Option Value)} {Q : Unit → Pt → Prop} (P : PutM p.m x (some v) m') (h : Q () { p with m := m' }) (hL : env.locals = L := by rfl) (hk : env.scope.kind = .function := by rfl)
    (hl : env.kindOf x = some .local := by rfl) : Run C A L (bindName env x v) p Q := .of fun s S T => by
  subst hL
  refine wpAny_bindName (wpAny_storeName_local hl S.ns (fun h' hn hs => ⟨_, S.setM hs hn P, Ext.setM hs.extBut, h⟩) ?_)
  rw [hk]; rfl
theorem storeCell {x : Str} {v : Value} {v₀ : Option Value} {c : Addr} {N' : List (Addr × Cell)} {Q : Unit → Pt → Prop} (P : PutN p.N c (cellC v₀) (cellC (some v)) N') (hc : env.cells.lookup x = some c) (h : Q () { p with N := N' })
    (hk : env.scope.kind = .function := by rfl) (hl : env.kindOf x = some .cell := by rfl) : Run C A L (bindName env x v) p Q := .of fun s S T => by
  obtain ⟨o, ho, hd⟩ := S.s0.own _ P.mem
  refine wpAny_bindName (wpAny_storeName_cell hk hl hc ⟨o, ho, hd⟩ fun h' hv hs => ?_)
  obtain ⟨o', ho', hd'⟩ := hv
  exact ⟨_, S.putN P hs.extBut ho' hd', Ext.putN P hs.extBut, h⟩
theorem X_Assign {x : Str} {e : Expr} {pos pos' : Pos} {Q : Flow → Pt → Prop} (h : Run C A L (eval e env) p fun v p₁ => Run C A L (bindName env x v) p₁ fun _ p₂ => Q .next p₂)
    (hs : swapsWith e (some (.Name x pos')) pos.line env = pure false := by rfl) : Run C A L (exec (.Assign [.Name x pos'] e pos) env) p Q :=
  Run.of_eq (exec_Assign_Name _ _ _ _ _ hs) (.bind (.standAt (.bind (h.mono fun v p₁ h₁ => .bind (.standAt (.bind (h₁.mono fun _ p₂ h₂ => .pure h₂)))))))
structure ExprQ (Q : Flow → Pt → Prop) (v : Value) (p₁ : Pt) : Prop where
  nr : ∀ a, v ≠ .ref a
  q : Q .next p₁
theorem X_Expr {e : Expr} {pos : Pos} {Q : Flow → Pt → Prop} (h : Run C A L (eval e env) p (ExprQ Q))
    (hi : interactive env = false := by rfl) (hs : swapsWith e none pos.line env = pure false := by rfl) : Run C A L (exec (.Expr e pos) env) p Q :=
  Run.of_eq (exec_Expr _ _ _ hi hs) (.bind (.standAt (.bind (h.mono fun v p₁ h₁ => Run.of_eq (dropValue_plain h₁.1) (.pure h₁.2)))))

theorem X_While {t : Expr} {b o : List Stmt} {pos : Pos} {Q : Flow → Pt → Prop} (I : Nat → Pt → Prop) (n : Nat) (h0 : I n p)
    (h : ∀ n p₁, I n p₁ → Run C A L (isTrue t env (eval t env)) p₁ fun c p₂ => if c then Run C A L (execs b env) p₂ (fun f p₃ => match f with
        | .next | .cont => ∃ k, k < n ∧ I k p₃
        | .brk => Q .next p₃
        | .ret v => Q (.ret v) p₃) else Run C A L (execs o env) p₂ Q) : Run C A L (exec (.While t b o pos) env) p Q := .of fun s S T => by
  refine wpAny_While ?_
  refine codeAny_mono (codeAny_whileLoop (R := fun r s' => ∃ f, r = .ok f ∧ ∃ p', Sat C.B L p' s'.heap ∧ Ext L p s p' s' ∧ Q f p')
    (fun n s' => ∃ p', Sat C.B L p' s'.heap ∧ Ext L p s p' s' ∧ s.toks ≤ s'.toks ∧ I n p') ?_ n ⟨p, S, .refl, Nat.le_refl _, h0⟩) fun r s' hr => by obtain ⟨f, rfl, hq⟩ := hr; exact hq
  rintro n s₁ ⟨p₁, S₁, x₁, t₁, hI⟩
  refine wpAny_mono (wpAny_toks (Run.after S T S₁ x₁ t₁ (h n p₁ hI))) (fun c s₂ hc => ?_) fun _ _ e => e.2.elim
  obtain ⟨t₂, p₂, S₂, x₂, hc⟩ := hc
  have t₂' := Nat.le_trans t₁ t₂
  cases c with
  | false =>
    refine wpAny_mono (Run.after S T S₂ x₂ t₂' hc) (fun f s₃ h₃ => ?_) fun _ _ e => e.elim
    obtain ⟨p₃, S₃, x₃, h₃⟩ := h₃
    exact ⟨f, rfl, p₃, S₃, x₃, h₃⟩
  | true =>
    refine wpAny_mono (wpAny_toks (Run.after S T S₂ x₂ t₂' hc)) (fun f s₃ h₃ => ?_) fun _ _ e => e.2.elim
    obtain ⟨t₃, p₃, S₃, x₃, h₃⟩ := h₃
    have t₃' := Nat.le_trans t₂' t₃
    cases f with
    | next => obtain ⟨k, hk, hI⟩ := h₃; exact ⟨k, hk, p₃, S₃, x₃, t₃', hI⟩
    | cont => obtain ⟨k, hk, hI⟩ := h₃; exact ⟨k, hk, p₃, S₃, x₃, t₃', hI⟩
    | brk => exact ⟨_, rfl, p₃, S₃, x₃, h₃⟩
    | ret v => exact ⟨_, rfl, p₃, S₃, x₃, h₃⟩

/-! objects -/
def listC (vs : List Value) : Cell := fun o => ∃ n, o = { cls := .type "list", data := .seq vs.toArray n }
def tupO (vs : List Value) : Obj := { cls := .type "tuple", data := .seq vs.toArray }

theorem newList_N {vs : List Value} {Q : Value → Pt → Prop} (hz : vs.length ≤ sizeLine) (h : ∀ a, Q (.ref a) { p with N := (a, listC vs) :: p.N }) : Run C A L (newList vs) p Q := .of fun s S T =>
  wpAny_newObj_type ⟨_, S.pushN rfl ⟨0, rfl⟩, Ext.pushN, h _⟩ (by show vs.toArray.size ≤ sizeLine; rw [List.size_toArray]; exact hz)
theorem newTuple_G {vs : List Value} {Q : Value → Pt → Prop} (hz : vs.length ≤ sizeLine) (h : ∀ a G', G' = addG p.G a (tupO vs) → p.G a = none → Q (.ref a) { p with G := G' }) : Run C A L (newTuple vs) p Q := .of fun s S T =>
  wpAny_newObj_type ⟨_, S.pushG rfl, Ext.pushG S, h _ _ rfl (S.none_at (get_size_none _)).2.1⟩ (by show vs.toArray.size ≤ sizeLine; rw [List.size_toArray]; exact hz)
end
end Mine

open PySem PySem.Calls PyProof.Rows
set_option Elab.async false
set_option linter.unusedVariables false
namespace Mine

/-- a def of the text, called with vs -/
def CallRun (C : Cx) (A : Around) (f : Addr) (vs : List Value) (G : Addr → Option Obj) (N : List (Addr × Cell)) (k : Nat) (Q : Value → (Addr → Option Obj) → List (Addr × Cell) → Nat → Prop) : Prop :=
  ∀ s, Sat0 C.B G N s.heap → TokOk k s → codeAny (model C.prog C.w) A (.call (.ref f) ⟨vs, []⟩)
    (fun r s' => ∃ v G' N' k', r = .ok (.ret v) ∧ Sat0 C.B G' N' s'.heap ∧ Ext0 (fun _ => False) G N k s G' N' k' s' ∧ Q v G' N' k') s

section
variable {C : Cx} {A : Around} {L : Addr} {α β : Type} {p : Pt} {env : Env}

theorem Sat0.framed {B : Heap} {p : Pt} {s s' : Shared} {G' : Addr → Option Obj} {Nc Nr N' : List (Addr × Cell)} {k' : Nat} (S : Sat B L p s.heap) (hp : p.N.Perm (Nc ++ Nr))
    (S' : Sat0 B G' N' s'.heap) (x : Ext0 (fun _ => False) p.G Nc p.k s G' N' k' s') : Sat B L { p with G := G', N := N' ++ Nr, k := k' } s'.heap ∧ Ext L p s { p with G := G', N := N' ++ Nr, k := k' } s' := by
  have hd : (dom p.N).Perm (dom Nc ++ dom Nr) := by have := hp.map (·.1); simpa [dom] using this
  have hnd : (dom Nc ++ dom Nr).Nodup := hd.nodup_iff.mp S.s0.nd
  obtain ⟨nc, nr, disj⟩ := List.nodup_append.mp hnd
  have mr : ∀ b ∈ dom Nr, b ∈ dom p.N := fun b hb => hd.mem_iff.mpr (List.mem_append_right _ hb)
  have mc : ∀ b ∈ dom Nc, b ∈ dom p.N := fun b hb => hd.mem_iff.mpr (List.mem_append_left _ hb)
  have notc : ∀ b ∈ dom Nr, b ∉ dom Nc := fun b hr hc => disj b hc b hr rfl
  have alive : ∀ b ∈ dom Nr, s.heap.get? b ≠ none := fun b hb => by
    obtain ⟨q, hq, rfl⟩ := List.mem_map.mp (mr b hb)
    obtain ⟨o, ho, _⟩ := S.s0.own q hq
    rw [ho]; exact fun h => nomatch h
  have Lnc : L ∉ dom Nc := fun h => S.nL (mc L h)
  have Lal : s.heap.get? L ≠ none := by
    obtain ⟨o, _, _, ho, _⟩ := S.ns
    rw [ho]; exact fun h => nomatch h
  have offG : ∀ b, p.G b = none → b ∉ dom Nc → s.heap.get? b ≠ none → G' b = none := fun b h1 h2 h3 => by
    cases h : G' b with
    | none => rfl
    | some o =>
      rcases x.fresh b (.inl (by rw [h]; exact fun h => nomatch h)) with e | e | e
      · exact absurd h1 e
      · exact absurd e h2
      · exact absurd e h3
  have offN : ∀ b, p.G b = none → b ∉ dom Nc → s.heap.get? b ≠ none → b ∉ dom N' := fun b h1 h2 h3 h => by
    rcases x.fresh b (.inr h) with e | e | e
    · exact e h1
    · exact h2 e
    · exact h3 e
  have da : dom (N' ++ Nr) = dom N' ++ dom Nr := by simp [dom]
  refine ⟨⟨⟨S'.base, S'.gs, fun q hq => ?_, fun b hb => ?_, fun b hb => ?_, ?_⟩, ?_, S.bL, offG L S.gL Lnc Lal, fun h => ?_, S.mnd⟩, ⟨fun b o e h1 h2 => x.keep b o e id fun h => h2 (mc b h), x.grow, fun b h => ?_, fun b h => ?_, x.gens, x.os, x.km, x.kk⟩⟩
  · rcases List.mem_append.mp hq with h | h
    · exact S'.own q h
    · have hm : q.1 ∈ dom Nr := List.mem_map_of_mem (f := (·.1)) h
      obtain ⟨o, ho, hc⟩ := S.s0.own q (hp.mem_iff.mpr (List.mem_append_right _ h))
      exact ⟨o, x.keep _ _ ho id (notc _ hm), hc⟩
  · rw [da] at hb
    rcases List.mem_append.mp hb with h | h
    · exact S'.nB b h
    · exact S.s0.nB b (mr b h)
  · rw [da] at hb
    rcases List.mem_append.mp hb with h | h
    · exact S'.nG b h
    · exact offG b (S.s0.nG b (mr b h)) (notc b h) (alive b h)
  · show (dom (N' ++ Nr)).Nodup
    rw [da]
    refine List.nodup_append.mpr ⟨S'.nd, nr, fun a ha b hb e => ?_⟩
    subst e
    exact offN a (S.s0.nG a (mr a hb)) (notc a hb) (alive a hb) ha
  · exact S.ns.at' fun o e => x.keep L o e id Lnc
  · rw [da] at h
    rcases List.mem_append.mp h with h | h
    · exact offN L S.gL Lnc Lal h
    · exact S.nL (mr L h)
  · rcases h with h | h
    · rcases x.fresh b (.inl h) with e | e | e
      · exact .inl e
      · exact .inr (.inl (mc b e))
      · exact .inr (.inr e)
    · change b ∈ dom (N' ++ Nr) at h
      rw [da] at h
      rcases List.mem_append.mp h with h | h
      · rcases x.fresh b (.inr h) with e | e | e
        · exact .inl e
        · exact .inr (.inl (mc b e))
        · exact .inr (.inr e)
      · exact .inr (.inl (mr b h))
  · show b ∈ dom (N' ++ Nr) ∨ _
    rw [da]
    rcases List.mem_append.mp (hd.mem_iff.mp h) with h | h
    · exact (x.noleak b h).imp (List.mem_append_left _) id
    · exact .inl (List.mem_append_right _ h)

theorem Sat0.sub {B : Heap} {G : Addr → Option Obj} {N Nc : List (Addr × Cell)} {h : Heap} (S : Sat0 B G N h) (hs : ∀ q ∈ Nc, q ∈ N) (hn : (dom Nc).Nodup) : Sat0 B G Nc h := by
  have hm : ∀ b ∈ dom Nc, b ∈ dom N := fun b hb => by
    obtain ⟨q, hq, rfl⟩ := List.mem_map.mp hb
    exact List.mem_map_of_mem (f := (·.1)) (hs q hq)
  exact ⟨S.base, S.gs, fun q hq => S.own q (hs q hq), fun b hb => S.nB b (hm b hb), fun b hb => S.nG b (hm b hb), hn⟩

theorem R_call {f : Addr} {vs : List Value} {Nc Nr : List (Addr × Cell)} {Q : Value → Pt → Prop} (hp : p.N.Perm (Nc ++ Nr))
    (h : CallRun C A f vs p.G Nc p.k fun v G' N' k' => Q v { p with G := G', N := N' ++ Nr, k := k' }) : Run C A L (PySem.call (.ref f) vs) p Q := .of fun s S T => by
  have hd : (dom p.N).Perm (dom Nc ++ dom Nr) := by have := hp.map (·.1); simpa [dom] using this
  refine wpAny_call (codeAny_mono (h s (S.s0.sub (fun q hq => hp.mem_iff.mpr (List.mem_append_left _ hq)) (List.nodup_append.mp (hd.nodup_iff.mp S.s0.nd)).1) T) fun r s' hr => ?_)
  obtain ⟨v, G', N', k', rfl, S', x, q⟩ := hr
  obtain ⟨S'', x'⟩ := S'.framed S hp x
  exact ⟨_, S'', x', q⟩
/-- a def that wants and hands back nothing that is owned -/
theorem R_call0 {f : Addr} {vs : List Value} {Q : Value → Pt → Prop} (h : CallRun C A f vs p.G [] p.k fun v G' N' k' => Q v { p with G := G', N := N' ++ p.N, k := k' }) : Run C A L (PySem.call (.ref f) vs) p Q :=
  R_call (Nc := []) (Nr := p.N) (List.Perm.refl _) h

theorem CallRun.mono {f : Addr} {vs : List Value} {G : Addr → Option Obj} {N : List (Addr × Cell)} {k : Nat} {Q Q' : Value → (Addr → Option Obj) → List (Addr × Cell) → Nat → Prop} (h : CallRun C A f vs G N k Q) (hq : ∀ v G' N' k', Q v G' N' k' → Q' v G' N' k') :
    CallRun C A f vs G N k Q' := fun s S T => codeAny_mono (h s S T) fun r s' ⟨v, G', N', k', e, S', x, q⟩ => ⟨v, G', N', k', e, S', x, hq _ _ _ _ q⟩

def retOf : Flow → Value
  | .ret v => v
  | _ => .none

theorem look_of_binds {binds : List (Str × Value)} {m₀ : List (Str × Option Value)} (hm : m₀ = (m₀.map (·.1)).map fun x => (x, binds.reverse.lookup x)) (hs : (binds.all fun q => (m₀.map (·.1)).contains q.1) = true) :
    look m₀ = fun x => binds.reverse.lookup x := by
  have key : ∀ (ns : List Str) (y : Str), look (ns.map fun x => (x, binds.reverse.lookup x)) y = if y ∈ ns then binds.reverse.lookup y else none := by
    intro ns y
    induction ns with
    | nil => rfl
    | cons n r ih =>
      simp only [List.map_cons, look, ih, List.mem_cons]
      by_cases h : y = n
      · simp [h]
      · simp [h]
  funext y
  rw [hm, key]
  by_cases h : y ∈ m₀.map (·.1)
  · rw [if_pos h]
  · rw [if_neg h]
    cases e : binds.reverse.lookup y with
    | none => rfl
    | some v =>
      exfalso
      have hmem : (y, v) ∈ binds := List.mem_reverse.mp (mem_of_lookup e)
      have := List.all_eq_true.mp hs _ hmem
      exact h (List.contains_iff_mem.mp this)

/-- what a call binds, whatever the heap -/
def Binds (C : Cx) (fd : FuncData) (vs : List Value) (binds : List (Str × Value)) : Prop := ∀ s : Shared, (∀ b o, C.B.get? b = some o → s.heap.get? b = some o) → BindsTo s fd ⟨vs, []⟩ binds
theorem Binds.of_eq {fd : FuncData} {vs : List Value} {binds : List (Str × Value)} (h : bindArgs fd ⟨vs, []⟩ = pure binds) : Binds C fd vs binds := fun _ _ => .of_eq h
theorem Binds.of_defaults {fd : FuncData} {vs : List Value} {binds : List (Str × Value)} {T : Addr} {o : Obj} {items : Array Value} {n : Nat}
    {kk : Option (Array Value) → Sem (List (Str × Value))} (hd : fd.defaults = .ref T) (ho : C.B.get? T = some o) (hs : o.data = .seq items n) (h₁ : bindArgs fd ⟨vs, []⟩ = seqItems? fd.defaults >>= kk) (h₂ : kk (some items) = pure binds) : Binds C fd vs binds :=
  fun s S => .of_defaults hd (S _ _ ho) hs h₁ h₂

theorem CallRun.body {gl bl : List (Str × Value)} {f : Addr} {o : Obj} {fd : FuncData} {body : List Stmt} {vs : List Value} {binds : List (Str × Value)} {G : Addr → Option Obj} {N : List (Addr × Cell)} {m₀ : List (Str × Option Value)} {k : Nat}
    {Q : Value → (Addr → Option Obj) → List (Addr × Cell) → Nat → Prop} {d : Nat} (K : Base C gl bl) (hr : Room A (d + 1)) (ho : C.B.get? f = some o) (hdata : o.data = .func fd) (hcd : C.B.CodeRec fd.code fd.qualname)
    (hbind : Binds C fd vs binds) (hm : m₀ = (m₀.map (·.1)).map fun x => (x, binds.reverse.lookup x)) (hs : (binds.all fun q => (m₀.map (·.1)).contains q.1) = true) (hnd : (m₀.map (·.1)).Nodup)
    (hbody : fd.body = .stmts body) (hcell : ∀ x ∈ fd.scope.names, x.2 ≠ .cell) (hloc : ∀ x ∈ binds, fd.scope.names.lookup x.1 = some .local)
    (h : ∀ L, Room (A.deeper (callEnv fd L f)) d → Run C (A.deeper (callEnv fd L f)) L (execs body (callEnv fd L f)) ⟨G, m₀, N, k⟩ fun fl p' => Q (retOf fl) p'.G p'.N p'.k)
    (hco : fd.scope.isCoroutine = false := by rfl) (hgen : fd.scope.isGenerator = false := by rfl) (hk : fd.scope.kind = .function := by rfl) : CallRun C A f vs G N k Q := fun s S T => by
  have hroom : A.depth < recursionLimit := by have := hr.depth; omega
  refine codeAny_call_def hroom (S.base _ _ ho) hdata (K.lim.keeps S.base) ?_ hbody (hbind s S.base) hcell hloc (fun h₁ hns hk₁ => ?_) hco hgen hk
  · obtain ⟨c, oc, x, y, e1, e2, e3⟩ := hcd
    exact ⟨c, oc, x, y, e1, S.base _ _ e2, e3⟩
  have Lnone : s.heap.get? s.heap.objs.size = none := get_size_none _
  have S1 := S.keep hk₁
  have Sat1 : Sat C.B s.heap.objs.size ⟨G, m₀, N, k⟩ h₁ := ⟨S1, by rw [look_of_binds hm hs]; exact hns, by
      cases e : C.B.get? s.heap.objs.size with
      | none => rfl
      | some o => (have := S.base _ _ e; rw [Lnone] at this; cases this), by
      show G s.heap.objs.size = none
      cases e : G s.heap.objs.size with
      | none => rfl
      | some o => (have := S.gs _ _ e; rw [Lnone] at this; cases this), fun hL => Nat.lt_irrefl _ (S.lt hL), hnd⟩
  refine wpAny_mono ((h s.heap.objs.size (hr.deeper _)).go _ Sat1 ⟨Nat.le_trans T.le (Nat.le_add_right _ _)⟩) (fun fl s' hq => ?_) fun _ _ e => e.elim
  obtain ⟨p', S', x, q⟩ := hq
  refine ⟨_, p'.G, p'.N, p'.k, by cases fl <;> rfl, S'.s0, ⟨fun b o e _ hb => x.keep b o (hk₁ b o e) (Nat.ne_of_lt (Heap.lt_size e)) hb, x.grow, fun b hb => ?_, x.noleak, x.gens, x.os, x.km, x.kk⟩, q⟩
  rcases x.fresh b hb with e | e | e
  · exact .inl e
  · exact .inr (.inl e)
  · refine .inr (.inr ?_)
    cases e2 : s.heap.get? b with
    | none => rfl
    | some o => rw [hk₁ b o e2] at e; cases e

/-! calls -/
theorem R_evalArgs {f : Value} {args : List (Bool × Sem Value)} {Q : Args → Pt → Prop} (hp : args.any (·.1) = false) (h : Run C A L (spliced args) p fun vs p₁ => Q ⟨vs, []⟩ p₁) : Run C A L (PySem.evalArgs f true args []) p Q := by
  have e : PySem.evalArgs f true args [] = (do
      let vs ← spliced args
      PySem.holding (vs ++ []) (do let ks ← evalAll []; let ps ← (Pure.pure vs : Sem (List Value)); Pure.pure ⟨ps, (([] : List (Option Str × Sem Value)).filterMap (·.1)).zip ks⟩)) := by
    cases args with
    | nil => rfl
    | cons x r =>
      obtain ⟨b, t⟩ := x
      have hb : b = false := by
        simp only [List.any_cons, Bool.or_eq_false_iff] at hp
        exact hp.1
      subst hb
      rfl
  refine Run.of_eq e (.bind (h.mono fun vs p₁ h₁ => .holding (.bind (.pure (.bind (.pure (.pure ?_)))))))
  exact h₁
end
end Mine

open PySem PySem.Calls PyProof.Rows
set_option Elab.async false
set_option linter.unusedVariables false
namespace Mine

section
variable {C : Cx} {A : Around} {L : Addr} {α β : Type} {p : Pt} {env : Env}

theorem R_chain {t : Sem α} {k : α → Sem β} {P : α → Shared → Prop} {Q : β → Pt → Prop} {s : Shared} (S : Sat C.B L p s.heap) (T : TokOk p.k s) (h : Run C A L t p fun a p₁ => (∀ s₁, Sat C.B L p₁ s₁.heap → P a s₁) ∧ Run C A L (k a) p₁ Q) :
    wpAny (model C.prog C.w) A t (fun a s₁ => P a s₁ ∧ wpAny (model C.prog C.w) A (k a) (Post C L p s Q) (fun _ _ => False) s₁) (fun _ _ => False) s :=
  wpAny_mono (wpAny_toks (h.go s S T)) (fun a s₁ ⟨ht, p₁, S₁, x, q⟩ => ⟨q.1 s₁ S₁, Run.after S T S₁ x ht q.2⟩) fun _ _ e => e.2

theorem R_callV {f : Value} {first : List Value} {args : List (Bool × Sem Value)} {pos : Pos} {Q : Value → Pt → Prop} (hk : keeperOf f = pure .machine) (hp : args.any (·.1) = false)
    (h : Run C A L (spliced args) p fun vs p₁ => Run C A L (PySem.call f (first ++ vs)) p₁ Q) : Run C A L (callWith pos f first args []) p Q := by
  unfold callWith
  refine .bind (.holding (R_evalArgs hp (h.mono fun vs p₁ h₁ => .bind (.standAt ?_))))
  simp only [hp, List.any_nil, Bool.or_false]
  refine .bind (Run.of_eq hk (.pure ?_))
  exact .bind (h₁.mono fun r p₂ h₂ => .bind (.holding (.point (.pure h₂))))
theorem R_callF {f : Addr} {o : Obj} {fd : FuncData} {first : List Value} {args : List (Bool × Sem Value)} {pos : Pos} {Q : Value → Pt → Prop} (ho : C.B.get? f = some o) (hd : o.data = .func fd) (hp : args.any (·.1) = false)
    (h : Run C A L (spliced args) p fun vs p₁ => Run C A L (PySem.call (.ref f) (first ++ vs)) p₁ Q) : Run C A L (callWith pos (.ref f) first args []) p Q := .of fun s S T => by
  refine callWith_function (o := o) (fd := fd) (wpAny_mono (R_chain (P := fun a s₁ => (s₁.heap.get? f = some o ∧ o.data = .func fd) ∧ a.kw = []) (k := fun a => PySem.call (.ref f) (first ++ a.pos)) S T
    (R_evalArgs hp (h.mono fun vs p₁ h₁ => ⟨fun s₁ S₁ => ⟨⟨S₁.s0.base _ _ ho, hd⟩, rfl⟩, h₁⟩))) (fun a s₁ h₁ => ⟨h₁.1.1, ?_⟩) fun _ _ e => e)
  rw [h₁.1.2]; exact h₁.2

theorem plainTrees {pos : Pos} : ∀ {args : List Expr}, (args.all fun e => !PySem.W.isStarred e) = true → ((backTo pos (starEach args env)).any (·.1)) = false
  | [], _ => rfl
  | e :: r, h => by
    simp only [List.all_cons, Bool.and_eq_true, Bool.not_eq_true'] at h
    rw [starEach_cons h.1]
    have := plainTrees (pos := pos) h.2
    simpa [backTo] using this

/-- a name is called: a built-in or a type -/
theorem E_callV {id : Str} {np pos : Pos} {args : List Expr} {f : Value} {Q : Value → Pt → Prop} (hf : ∀ {Q : Value → Pt → Prop}, Q f p → Run C A L (eval (.Name id np) env) p Q)
    (h : Run C A L (spliced (backTo pos (starEach args env))) p fun vs p₁ => Run C A L (PySem.call f vs) p₁ Q) (hk : keeperOf f = pure .machine := by rfl) (hp : (args.all fun e => !PySem.W.isStarred e) = true := by rfl) :
    Run C A L (eval (.Call (.Name id np) args [] pos) env) p Q :=
  Run.of_eq (arm_eval_Call_Name' ..) (.bind (hf (R_callV (first := []) hk (plainTrees hp) h)))
/-- a name is called: a def of the text -/
theorem E_callF {id : Str} {np pos : Pos} {args : List Expr} {f : Addr} {o : Obj} {fd : FuncData} {Q : Value → Pt → Prop} (ho : C.B.get? f = some o) (hd : o.data = .func fd) (hf : ∀ {Q : Value → Pt → Prop}, Q (.ref f) p → Run C A L (eval (.Name id np) env) p Q)
    (h : Run C A L (spliced (backTo pos (starEach args env))) p fun vs p₁ => Run C A L (PySem.call (.ref f) vs) p₁ Q) (hp : (args.all fun e => !PySem.W.isStarred e) = true := by rfl) :
    Run C A L (eval (.Call (.Name id np) args [] pos) env) p Q :=
  Run.of_eq (arm_eval_Call_Name' ..) (.bind (hf (R_callF (first := []) ho hd (plainTrees hp) h)))

/-- the type of a value, as every heap of the state tells it -/
def HasT (C : Cx) (L : Addr) (p : Pt) (v : Value) (T : String) : Prop := ∀ s : Shared, Sat C.B L p s.heap → s.TypeIs v T ∧ ∀ a, v = .ref a → ∃ ob, s.heap.get? a = some ob ∧ ob.dict = none
theorem HasT.str {x : Str} {t : Tok} : HasT C L p (.str x t) "str" := fun s _ => ⟨rfl, fun _ e => nomatch e⟩
structure MethQ (C : Cx) (A : Around) (L : Addr) (env : Env) (T id : String) (pos : Pos) (args : List Expr) (Q : Value → Pt → Prop) (ov : Value) (p₁ : Pt) : Prop where
  ty : HasT C L p₁ ov T
  go : Run C A L (spliced (backTo pos (starEach args env))) p₁ fun vs p₂ => Run C A L (PySem.call (.builtin id) (ov :: vs)) p₂ Q
theorem E_meth {T id : String} {o : Expr} {name : Str} {apos pos : Pos} {args : List Expr} {Q : Value → Pt → Prop} (slot : Slot T name id) (pa : PlainAttrs T) (hty : typeOf (.builtin id) = pure (.type "method_descriptor"))
    (h : Run C A L (eval o env) p (MethQ C A L env T id pos args Q))
    (hbase : attributeBase o name env (eval o env) = eval o env := by rfl) (hp : (args.all fun e => !PySem.W.isStarred e) = true := by rfl)
    (hfew : ((backTo pos (starEach args env)).all (fun x => !x.1) && (backToKw pos (keywordEach [] env)).all (fun x => x.1.isSome) && decide (args.length + ([] : List Keyword).length + (if ([] : List Keyword).isEmpty then 0 else 1) < 30)) = true := by rfl)
    (hline : (apos.endLine == pos.line) = true := by rfl) : Run C A L (eval (.Call (.Attribute o name apos) args [] pos) env) p Q := .of fun s S TK => by
  refine wpAny_Call_method hbase hfew hline pa slot hty (wpAny_mono (R_chain (P := fun ov s₁ => s₁.TypeIs ov T ∧ ∀ a, ov = .ref a → ∃ ob, s₁.heap.get? a = some ob ∧ ob.dict = none)
    (k := fun ov => callWith pos (.builtin id) [ov] (backTo pos (starEach args env)) []) S TK (h.mono fun ov p₁ h₁ => ⟨fun s₁ S₁ => h₁.1 s₁ S₁, R_callV (first := [ov]) rfl (plainTrees hp) h₁.2⟩)) (fun ov s₁ h₁ => ⟨h₁.1.1, h₁.1.2, h₁.2⟩) fun _ _ e => e)

/-- a built-in method's summary, as a step -/
theorem R_meets {T : String} {name : Str} {id : String} {B : Builtin} {self : Value} {rest : List Value} {Q : Value → Pt → Prop} (slot : Slot T name id) (entry : entryFor table id = some B) (args : argsOk id ⟨self :: rest, []⟩) (hT : HasT C L p self T)
    (h : ∀ s, Sat C.B L p s.heap → TokOk p.k s → ∃ S, MeetsIn C.prog C.w (B ⟨self :: rest, []⟩) S ∧ S A (wants (Post C L p s Q) fun _ _ => False) s) : Run C A L (PySem.call (.builtin id) (self :: rest)) p Q := .of fun s S TK => by
  obtain ⟨Sp, g, hs⟩ := h s S TK
  exact call_meetsIn slot (hT s S).1 entry args g hs
end
end Mine

open PySem PySem.Calls PyProof.Rows
set_option Elab.async false
set_option linter.unusedVariables false
namespace Mine

/-- objects that the state does not speak of -/
def Hid (B : Heap) (L : Addr) (W : List Addr) (p : Pt) (h : Heap) : Prop := ∀ b ∈ W, B.get? b = none ∧ p.G b = none ∧ b ∉ dom p.N ∧ b ≠ L ∧ h.get? b ≠ none

section
variable {B : Heap} {L : Addr} {W : List Addr} {p p' p₀ : Pt} {h h' : Heap} {s s' s₀ : Shared}
theorem Hid.step (H : Hid B L W p s.heap) (x : Ext L p s p' s') : Hid B L W p' s'.heap ∧ ∀ b ∈ W, ∀ o, s.heap.get? b = some o → s'.heap.get? b = some o := by
  have kp : ∀ b ∈ W, ∀ o, s.heap.get? b = some o → s'.heap.get? b = some o := fun b hb o e => x.keep b o e (H b hb).2.2.2.1 (H b hb).2.2.1
  refine ⟨fun b hb => ?_, kp⟩
  obtain ⟨h1, h2, h3, h4, h5⟩ := H b hb
  refine ⟨h1, ?_, fun h => ?_, h4, ?_⟩
  · cases e : p'.G b with
    | none => rfl
    | some o =>
      rcases x.fresh b (.inl (by rw [e]; exact fun h => nomatch h)) with q | q | q
      · exact absurd h2 q
      · exact absurd q h3
      · exact absurd q h5
  · rcases x.fresh b (.inr h) with q | q | q
    · exact q h2
    · exact h3 q
    · exact h5 q
  · cases e : s.heap.get? b with
    | none => exact absurd e h5
    | some o => rw [kp b hb o e]; exact fun h => nomatch h
theorem Hid.only (H : Hid B L W p h) (ha : ∀ b ∈ W, h'.get? b ≠ none) : Hid B L W p h' := fun b hb => let ⟨h1, h2, h3, h4, _⟩ := H b hb; ⟨h1, h2, h3, h4, ha b hb⟩
theorem Sat.hid (S : Sat B L p h) (H : Hid B L W p h) (hk : ∀ b o, b ∉ W → h.get? b = some o → h'.get? b = some o) : Sat B L p h' := by
  refine ⟨⟨fun b o e => hk b o (fun hb => by rw [(H b hb).1] at e; cases e) (S.s0.base b o e), fun b o e => hk b o (fun hb => by rw [(H b hb).2.1] at e; cases e) (S.s0.gs b o e), fun q hq => ?_, S.s0.nB, S.s0.nG, S.s0.nd⟩, ?_, S.bL, S.gL, S.nL, S.mnd⟩
  · obtain ⟨o, ho, hc⟩ := S.s0.own q hq
    exact ⟨o, hk _ _ (fun hb => (H _ hb).2.2.1 (List.mem_map_of_mem (f := (·.1)) hq)) ho, hc⟩
  · exact S.ns.at' fun o e => hk _ _ (fun hb => (H _ hb).2.2.2.1 rfl) e
theorem Ext.hid (x : Ext L p₀ s₀ p s) (hW : ∀ b ∈ W, s₀.heap.get? b = none) {tk : Nat} (ht : s.toks ≤ tk) (hk : ∀ b o, b ∉ W → s.heap.get? b = some o → h'.get? b = some o) : Ext L p₀ s₀ p { s with heap := h', toks := tk } :=
  ⟨fun b o e h1 h2 => hk b o (fun hb => by rw [hW b hb] at e; cases e) (x.keep b o e h1 h2), x.grow, x.fresh, x.noleak, x.gens, x.os, x.km, x.kk.imp id fun e => Nat.le_trans e ht⟩
end

section
variable {C : Cx} {A : Around} {L : Addr} {α β : Type} {p : Pt} {env : Env}

/-- what a for or a comprehension goes over -/
def IterOn (C : Cx) (A : Around) (L : Addr) (p : Pt) (target : Expr) (xv : Value) (n : Nat) (P : Nat → Value → Heap → Prop) : Prop :=
  ∀ s, Sat C.B L p s.heap → TokOk p.k s → wpAny (model C.prog C.w) A (pyIter xv) (fun itv s₂ => ∃ I fp wr Md St h' tk, itv = .ref I ∧ s₂ = { s with heap := h', toks := tk } ∧ PySem.W.KTurns C.prog C.w A target I fp wr n P Md St ∧ St 0 h' ∧
    (∀ b o, s.heap.get? b = some o → h'.get? b = some o) ∧ (∀ b ∈ wr, s.heap.get? b = none) ∧ (∀ b ∈ fp, b ∈ wr ∨ ∃ o, p.G b = some o) ∧ (∀ i h, St i h → ∀ b ∈ wr, h.get? b ≠ none) ∧
    (∀ i (s : Shared) (Q : Value → Shared → Prop) (E : Value → Shared → Prop), St i s.heap → Q (.ref I) s → wpAny (model C.prog C.w) A (pyIter (.ref I)) Q E s)) (fun _ _ => False) s

/-- the target takes one item -/
def AsgRun (C : Cx) (A : Around) (L : Addr) (target : Expr) (env : Env) (P : Value → Heap → Prop) (p : Pt) (Q : Pt → Prop) : Prop :=
  ∀ v s, P v s.heap → Sat C.B L p s.heap → TokOk p.k s → wpAny (model C.prog C.w) A (assign target env v) (Post C L p s fun _ p' => Q p') (fun _ _ => False) s

theorem Hid.ofNew {wr : List Addr} {s : Shared} {h' : Heap} (S : Sat C.B L p s.heap) (hw : ∀ b ∈ wr, s.heap.get? b = none) (ha : ∀ b ∈ wr, h'.get? b ≠ none) : Hid C.B L wr p h' := fun b hb =>
  let ⟨h1, h2, h3, h4⟩ := S.none_at (hw b hb); ⟨h1, h2, h3, h4, ha b hb⟩

inductive ForQ (C : Cx) (A : Around) (L : Addr) (env : Env) (target : Expr) (body orelse : List Stmt) (Q : Flow → Pt → Prop) (I : Nat → Pt → Prop) (xv : Value) (p₁ : Pt) : Prop
  | mk (n : Nat) (P : Nat → Value → Heap → Prop) (it : IterOn C A L p₁ target xv n P) (h0 : I 0 p₁)
      (step : ∀ i p₂, i < n → I i p₂ → (∀ b o, p₁.G b = some o → p₂.G b = some o) → AsgRun C A L target env (P i) p₂ fun p₃ => Run C A L (execs body env) p₃ fun f p₄ => match f with
        | .next | .cont => I (i + 1) p₄
        | .brk => Q .next p₄
        | .ret v => Q (.ret v) p₄)
      (fin : ∀ p₂, I n p₂ → (∀ b o, p₁.G b = some o → p₂.G b = some o) → Run C A L (execs orelse env) p₂ Q) : ForQ C A L env target body orelse Q I xv p₁
inductive ForR (C : Cx) (L : Addr) (p : Pt) (s : Shared) (Q : Flow → Pt → Prop) (r : Result) (s' : Shared) : Prop
  | mk (f : Flow) (e : r = .ok f) (p' : Pt) (h1 : Sat C.B L p' s'.heap) (h2 : Ext L p s p' s') (h3 : Q f p') : ForR C L p s Q r s'
inductive ForI (C : Cx) (L : Addr) (I : Nat → Pt → Prop) (St : Nat → Heap → Prop) (wr : List Addr) (p₁ : Pt) (s₁ : Shared) (n : Nat) (k : Nat) (s' : Shared) : Prop
  | mk (i : Nat) (p₂ : Pt) (h1 : St i s'.heap) (h2 : Sat C.B L p₂ s'.heap) (h3 : Ext L p₁ s₁ p₂ s') (h4 : s₁.toks ≤ s'.toks) (h5 : Hid C.B L wr p₂ s'.heap) (h6 : I i p₂) (h7 : i ≤ n) (h8 : k = n + 1 - i) : ForI C L I St wr p₁ s₁ n k s'
theorem X_For {target iter : Expr} {body orelse : List Stmt} {pos : Pos} {Q : Flow → Pt → Prop} (I : Nat → Pt → Prop)
    (h : Run C A L (eval iter env) p (ForQ C A L env target body orelse Q I))
    (hs : ∀ x, foldedSetIterable iter env x = pure x := by intro _; rfl) : Run C A L (exec (.For target iter body orelse pos) env) p Q := .of fun s S T => by
  refine wpAny_For (wpAny_mono (wpAny_toks (h.go s S T)) (fun xv s₁ h₁ => ?_) fun _ _ e => e.2) hs
  obtain ⟨t₁, p₁, S₁, x₁, n, P, it, hI0, step, fin⟩ := h₁
  have T₁ := T.next x₁ t₁
  refine wpAny_mono (wpAny_toks (it s₁ S₁ T₁)) (fun itv s₂ h₂ => ?_) fun _ _ e => e.2.elim
  obtain ⟨t₂, Ia, fp, wr, Md, St, h', tk, rfl, rfl, W, st0, hk, hw, hf, hal, _⟩ := h₂
  refine codeAny_mono (PySem.codeAny_forLoop_any (R := ForR C L p s Q) (ForI C L I St wr p₁ s₁ n) ?_ (n + 1)
    ⟨0, p₁, st0, S₁.keep hk, Ext.heap hk, t₂, Hid.ofNew S₁ hw (hal 0 _ st0), hI0, Nat.zero_le _, rfl⟩) fun r s' hr => by obtain ⟨f, rfl, p', h1, h2, h3⟩ := hr; exact ⟨p', h1, h2, h3⟩
  rintro k s' ⟨i, p₂, st, S₂, x₂, t₃, H, hI, hi, rfl⟩
  by_cases hlt : i < n
  · refine wpAny_with_toks (Nat.le_refl _) (W.item i _ _ _ hlt st fun v h₄ tk₄ hMd hk₄ ht₄ => W.go i v _ _ _ hMd fun h₅ hP st₅ hk₅ => ?_)
    have hk₅' : ∀ b o, b ∉ wr → s'.heap.get? b = some o → h₅.get? b = some o := fun b o hb e => hk₅ b o hb (hk₄ b o hb e)
    have H₅ : Hid C.B L wr p₂ h₅ := H.only (hal _ _ st₅)
    have S₅ : Sat C.B L p₂ h₅ := S₂.hid H hk₅'
    have x₅ : Ext L p₁ s₁ p₂ { s' with heap := h₅, toks := tk₄ } := x₂.hid hw ht₄ hk₅'
    have t₅ : s₁.toks ≤ tk₄ := Nat.le_trans t₃ ht₄
    refine wpAny_mono (wpAny_toks (step i p₂ hlt hI x₂.grow v { s' with heap := h₅, toks := tk₄ } hP S₅ (T₁.next x₅ t₅))) (fun _ s₆ h₆ => ?_) fun _ _ e => e.2.elim
    obtain ⟨t₆, p₆, S₆, y₆, run⟩ := h₆
    obtain ⟨H₆, W₆⟩ := Hid.step H₅ y₆
    have st₆ : St (i + 1) s₆.heap := W.frame _ _ _ st₅ fun b hb o e => by
      rcases hf b hb with hb | ⟨o', ho'⟩
      · exact W₆ b hb o e
      · have e1 := S₅.s0.gs b o' (x₂.grow b o' ho')
        have e2 := S₆.s0.gs b o' (y₆.grow b o' (x₂.grow b o' ho'))
        rw [e1] at e; cases e; exact e2
    have x₆ := x₅.trans S₁ S₅ y₆ t₆
    have t₆' : s₁.toks ≤ s₆.toks := Nat.le_trans t₅ t₆
    refine wpAny_mono (wpAny_toks ((run : Run ..).go s₆ S₆ (T₁.next x₆ t₆'))) (fun f s₇ h₇ => ?_) fun _ _ e => e.2.elim
    obtain ⟨t₇, p₇, S₇, y₇, q⟩ := h₇
    obtain ⟨H₇, W₇⟩ := Hid.step H₆ y₇
    have st₇ : St (i + 1) s₇.heap := W.frame _ _ _ st₆ fun b hb o e => by
      rcases hf b hb with hb | ⟨o', ho'⟩
      · exact W₇ b hb o e
      · have e0 := y₆.grow b o' (x₂.grow b o' ho')
        have e1 := S₆.s0.gs b o' e0
        have e2 := S₇.s0.gs b o' (y₇.grow b o' e0)
        rw [e1] at e; cases e; exact e2
    have x₇ := x₆.trans S₁ S₆ y₇ t₇
    have t₇' : s₁.toks ≤ s₇.toks := Nat.le_trans t₆' t₇
    have big := x₁.trans S S₁ x₇ t₇'
    cases f with
    | next => exact ⟨n + 1 - (i + 1), by omega, i + 1, p₇, st₇, S₇, x₇, t₇', H₇, q, hlt, rfl⟩
    | cont => exact ⟨n + 1 - (i + 1), by omega, i + 1, p₇, st₇, S₇, x₇, t₇', H₇, q, hlt, rfl⟩
    | brk => exact ⟨_, rfl, p₇, S₇, big, q⟩
    | ret v => exact ⟨_, rfl, p₇, S₇, big, q⟩
  · have hin : i = n := by omega
    subst hin
    refine wpAny_with_toks (Nat.le_refl _) (W.done _ _ _ st fun h₄ tk₄ hk₄ ht₄ => ?_)
    have S₅ : Sat C.B L p₂ h₄ := S₂.hid H hk₄
    have x₅ : Ext L p₁ s₁ p₂ { s' with heap := h₄, toks := tk₄ } := x₂.hid hw ht₄ hk₄
    have t₅ : s₁.toks ≤ tk₄ := Nat.le_trans t₃ ht₄
    refine wpAny_mono (wpAny_toks ((fin p₂ hI x₂.grow).go { s' with heap := h₄, toks := tk₄ } S₅ (T₁.next x₅ t₅))) (fun f s₆ h₆ => ?_) fun _ _ e => e.2.elim
    obtain ⟨t₆, p₆, S₆, y₆, q⟩ := h₆
    have x₆ := x₅.trans S₁ S₅ y₆ t₆
    exact ⟨f, rfl, p₆, S₆, x₁.trans S S₁ x₆ (Nat.le_trans t₅ t₆), q⟩

theorem AsgRun.name {x : Str} {px : Pos} {P : Value → Heap → Prop} {Q : Pt → Prop} (h : ∀ v, (∃ h', P v h') → Run C A L (bindName env x v) p fun _ p' => Q p') : AsgRun C A L (.Name x px) env P p Q := fun v s hP S T => by
  rw [arm_assign_Name]
  exact wpAny_bind (wpAny_standAt ((h v ⟨_, hP⟩).go s S T))

/-! comprehensions -/
theorem R_tests_nil {Q : Bool → Pt → Prop} (h : Q true p) : Run C A L (forIn ([] : List Expr) true fun c r => if r = true then do let ok ← isTrue c env (eval c env); Pure.pure (ForInStep.yield ok) else Pure.pure (ForInStep.yield r)) p Q :=
  .of fun s S T => wpAny_tests_nil ⟨p, S, .refl, h⟩
theorem R_tests_one {c : Expr} {Q : Bool → Pt → Prop} (h : Run C A L (isTrue c env (eval c env)) p Q) :
    Run C A L (forIn [c] true fun c r => if r = true then do let ok ← isTrue c env (eval c env); Pure.pure (ForInStep.yield ok) else Pure.pure (ForInStep.yield r)) p Q := .of fun s S T => wpAny_tests_one (h.go s S T)

/-- the frame of a comprehension, made: its slots empty -/
theorem look_none : ∀ {m : List (Str × Option Value)}, (∀ q ∈ m, q.2 = none) → ∀ y, look m y = none
  | [], _, _ => rfl
  | (x, v) :: r, h, y => by
    simp only [look]
    split
    · exact h _ List.mem_cons_self
    · exact look_none (fun q hq => h q (List.mem_cons_of_mem _ hq)) y

end
end Mine

open PySem PySem.Calls PyProof.Rows
set_option Elab.async false
set_option linter.unusedVariables false
namespace Mine

/-- frozen sequences -/
def ListAt (G : Addr → Option Obj) (l : Addr) (vs : List Value) : Prop := ∃ o n, G l = some o ∧ o.cls = .type "list" ∧ o.data = .seq vs.toArray n
def TupAt (G : Addr → Option Obj) (l : Addr) (vs : List Value) : Prop := ∃ o n, G l = some o ∧ o.cls = .type "tuple" ∧ o.data = .seq vs.toArray n
abbrev GLe (G G' : Addr → Option Obj) : Prop := ∀ b o, G b = some o → G' b = some o
theorem GLe.refl (G : Addr → Option Obj) : GLe G G := fun _ _ e => e
theorem GLe.trans {G G' G'' : Addr → Option Obj} (x : GLe G G') (y : GLe G' G'') : GLe G G'' := fun b o e => y b o (x b o e)
theorem GLe.add {G : Addr → Option Obj} {a : Addr} {o : Obj} (h : G a = none) : GLe G (addG G a o) := fun b ob e => by
  simp only [addG]; rw [if_neg (by rintro rfl; rw [h] at e; cases e)]; exact e
theorem addG_self {G : Addr → Option Obj} {a : Addr} {o : Obj} : addG G a o a = some o := by simp [addG]
theorem ListAt.mono {G G' : Addr → Option Obj} {l : Addr} {vs : List Value} (h : ListAt G l vs) (x : GLe G G') : ListAt G' l vs := let ⟨o, n, e, r⟩ := h; ⟨o, n, x _ _ e, r⟩
theorem TupAt.mono {G G' : Addr → Option Obj} {l : Addr} {vs : List Value} (h : TupAt G l vs) (x : GLe G G') : TupAt G' l vs := let ⟨o, n, e, r⟩ := h; ⟨o, n, x _ _ e, r⟩
theorem TupAt.new {G : Addr → Option Obj} {a : Addr} {vs : List Value} : TupAt (addG G a (tupO vs)) a vs := ⟨_, 0, addG_self, rfl, rfl⟩
theorem ListAt.new {G : Addr → Option Obj} {a : Addr} {vs : List Value} {o : Obj} (h : listC vs o) : ListAt (addG G a o) a vs := let ⟨n, e⟩ := h; ⟨o, n, addG_self, by rw [e], by rw [e]⟩

section
variable {C : Cx} {A : Around} {L : Addr} {α β : Type} {p : Pt} {env : Env}

theorem ListAt.isList {B : Heap} {h : Heap} {l : Addr} {vs : List Value} (x : ListAt p.G l vs) (S : Sat B L p h) : h.IsList l vs.toArray := let ⟨o, n, e, hc, hd⟩ := x; ⟨o, S.s0.gs _ _ e, hc, n, hd⟩
theorem TupAt.isTup {B : Heap} {h : Heap} {l : Addr} {vs : List Value} (x : TupAt p.G l vs) (S : Sat B L p h) : h.IsTuple l vs.toArray := let ⟨o, n, e, hc, hd⟩ := x; ⟨o, S.s0.gs _ _ e, hc, n, hd⟩

/-- a target that unpacks nothing, or unpacks what a list's iterator hands out -/
def EasyTarget : Expr → Bool
  | .Name .. => true
  | .Tuple .. => true
  | _ => false

theorem go_list {target : Expr} {I l : Addr} {i : Nat} {v : Value} {s : Shared} {Q : Unit → Shared → Prop} {E : Value → Shared → Prop} (ht : EasyTarget target = true) (hi : s.heap.IsListIter I l i) (hQ : Q () s) :
    wpAny (model C.prog C.w) A (letOwnedTupleGo target (.ref I) v) Q E s := by
  cases target with
  | Name x p => exact wpAny_pure hQ
  | Tuple es k pos =>
    cases v with
    | ref T => exact wpAny_letOwnedTupleGo_listiter hi hQ
    | _ => exact wpAny_pure hQ
  | _ => cases ht

theorem IterOn.list {target : Expr} {l : Addr} {vs : List Value} (hh : A.handled = none) (hl : ListAt p.G l vs) (ht : EasyTarget target = true := by rfl) : IterOn C A L p target (.ref l) vs.length fun i v _ => vs[i]? = some v := fun s S T => by
  have hls := hl.isList S
  obtain ⟨o, n, e, _⟩ := id hl
  have hlt : l < s.heap.objs.size := Heap.lt_size (S.s0.gs _ _ e)
  have hne : l ≠ s.heap.objs.size := Nat.ne_of_lt hlt
  refine wpAny_pyIter_list hls ?_
  have W := Walks.list (prog := C.prog) (w := C.w) hh s.heap.objs.size l hne vs.toArray
  have W' := PySem.W.KTurns.ofWalks (target := target) W fun i v s Q E st hQ => go_list ht st.1 hQ
  rw [List.size_toArray] at W'
  refine ⟨_, _, _, _, _, _, _, rfl, rfl, { W' with item := fun i s Q E hi st hQ => W'.item i s Q E hi st hQ, go := fun i v s Q E hm hQ => W'.go i v s Q E hm fun h' hP st hk => hQ h' (by simpa using hP) st hk }, ⟨⟨_, Heap.get?_push_size _ rfl, rfl, rfl⟩, hls.at fun o e => Heap.get?_push_of_some _ e⟩,
    fun b o e => Heap.get?_push_of_some _ e, fun b hb => by rw [List.mem_singleton.mp hb]; exact get_size_none _, fun b hb => ?_, fun i h st b hb => ?_, fun i s Q E st hQ => W.self i s Q E st hQ⟩
  · rcases List.mem_cons.mp hb with q | q
    · exact .inl (List.mem_singleton.mpr q)
    · exact .inr ⟨o, by rw [List.mem_singleton.mp q]; exact e⟩
  · rw [List.mem_singleton.mp hb]
    obtain ⟨_, ho, _⟩ := st.1
    rw [ho]; exact fun h => nomatch h

theorem IterOn.tuple {x : Str} {px : Pos} {l : Addr} {vs : List Value} (hh : A.handled = none) (hl : TupAt p.G l vs) : IterOn C A L p (.Name x px) (.ref l) vs.length fun i v _ => vs[i]? = some v := fun s S T => by
  have hls := hl.isTup S
  obtain ⟨o, n, e, _⟩ := id hl
  have hlt : l < s.heap.objs.size := Heap.lt_size (S.s0.gs _ _ e)
  have hne : l ≠ s.heap.objs.size := Nat.ne_of_lt hlt
  refine wpAny_pyIter_tuple hls ?_
  have W := Walks.tuple (prog := C.prog) (w := C.w) hh s.heap.objs.size l hne vs.toArray
  have W' := PySem.W.KTurns.ofWalks (target := .Name x px) W fun i v s Q E st hQ => wpAny_pure hQ
  rw [List.size_toArray] at W'
  refine ⟨_, _, _, _, _, _, _, rfl, rfl, { W' with item := fun i s Q E hi st hQ => W'.item i s Q E hi st hQ, go := fun i v s Q E hm hQ => W'.go i v s Q E hm fun h' hP st hk => hQ h' (by simpa using hP) st hk }, ⟨⟨_, Heap.get?_push_size _ rfl, rfl, rfl⟩, hls.at fun o e => Heap.get?_push_of_some _ e⟩,
    fun b o e => Heap.get?_push_of_some _ e, fun b hb => by rw [List.mem_singleton.mp hb]; exact get_size_none _, fun b hb => ?_, fun i h st b hb => ?_, fun i s Q E st hQ => W.self i s Q E st hQ⟩
  · rcases List.mem_cons.mp hb with q | q
    · exact .inl (List.mem_singleton.mpr q)
    · exact .inr ⟨o, by rw [List.mem_singleton.mp q]; exact e⟩
  · rw [List.mem_singleton.mp hb]
    obtain ⟨_, ho, _⟩ := st.1
    rw [ho]; exact fun h => nomatch h

/-- two names take a pair -/
inductive PairQ (C : Cx) (A : Around) (L : Addr) (env : Env) (x y : Str) (p : Pt) (Q : Pt → Prop) (v : Value) (h' : Heap) : Prop
  | mk (T : Addr) (a b : Value) (e : v = .ref T) (ht : TupAt p.G T [a, b] ∨ h'.IsTuple T #[a, b]) (h : Run C A L (bindName env x a) p fun _ p₁ => Run C A L (bindName env y b) p₁ fun _ p₂ => Q p₂) : PairQ C A L env x y p Q v h'
theorem AsgRun.pair {x y : Str} {px py tp : Pos} {k : Nat} {P : Value → Heap → Prop} {Q : Pt → Prop} (hh : A.handled = none)
    (h : ∀ v h', P v h' → PairQ C A L env x y p Q v h') :
    AsgRun C A L (.Tuple [.Name x px, .Name y py] k tp) env P p Q := fun v s hP S T => by
  obtain ⟨Tu, a, b, rfl, ht, run⟩ := h v s.heap hP
  have ht' : s.heap.IsTuple Tu #[a, b] := by
    rcases ht with ht | ht
    · exact ht.isTup S
    · exact ht
  refine wpAny_assign_Tuple hh ht' rfl rfl fun h' hs => ?_
  have nn := S.none_at (get_size_none s.heap)
  have S' : Sat C.B L p h' := S.extBut hs nn.1 nn.2.1 nn.2.2.1 nn.2.2.2
  have x' : Ext L p s p { s with heap := h' } := Ext.heap fun b o e => hs b o (Nat.ne_of_lt (Heap.lt_size e)) e
  refine Run.after S T S' x' (Nat.le_refl _) ?_
  show Run C A L (do PySem.holding [b] ((do PySem.standAt px; bindName env x a)); assignInOrder [assign (.Name y py) env] [b]) p _
  refine .bind (.holding (.bind (.standAt (run.mono fun _ p₁ h₁ => ?_))))
  show Run C A L (do PySem.holding [] ((do PySem.standAt py; bindName env y b)); assignInOrder [] []) p₁ _
  exact .bind (.holding (.bind (.standAt (h₁.mono fun _ p₂ h₂ => .pure h₂))))

end
end Mine

open PySem PySem.Calls PyProof.Rows
set_option Elab.async false
set_option linter.unusedVariables false
namespace Mine

section
variable {C : Cx} {A : Around} {L : Addr} {p : Pt} {env : Env}

/-! ints -/
section
variable {a b : Int} {t u : Tok} {Q : Value → Pt → Prop}
theorem B_add (h : ∀ tk, Q (.int (a + b) tk) p) : Run C A L (binaryOp .Add (.int a t) (.int b u)) p Q := .of fun s S T => PySem.P.add_int (Post.same S (h _))
theorem B_iadd (h : ∀ tk, Q (.int (a + b) tk) p) : Run C A L (inplaceOp .Add (.int a t) (.int b u)) p Q := .of fun s S T => PySem.P.iadd_int (Post.same S (h _))
theorem B_sub (h : ∀ tk, Q (.int (a - b) tk) p) : Run C A L (binaryOp .Sub (.int a t) (.int b u)) p Q := .of fun s S T => PySem.P.sub_int (Post.same S (h _))
theorem B_isub (h : ∀ tk, Q (.int (a - b) tk) p) : Run C A L (inplaceOp .Sub (.int a t) (.int b u)) p Q := .of fun s S T => PySem.P.isub_int (Post.same S (h _))
theorem B_mod (hb : b ≠ 0) (h : ∀ tk, Q (.int (a.fmod b) tk) p) : Run C A L (binaryOp .Mod (.int a t) (.int b u)) p Q := .of fun s S T => mod_int' hb (Post.same S (h _))
theorem C_eqI (h : Q (.bool (a == b)) p) : Run C A L (compareOp .Eq (.int a t) (.int b u)) p Q := .of fun s S T => PySem.P.eq_int ⟨p, S, .refl, h⟩
theorem C_neI (h : Q (.bool (a != b)) p) : Run C A L (compareOp .NotEq (.int a t) (.int b u)) p Q := .of fun s S T => PySem.P.ne_int ⟨p, S, .refl, h⟩
theorem C_ltI (h : Q (.bool (decide (a < b))) p) : Run C A L (compareOp .Lt (.int a t) (.int b u)) p Q := .of fun s S T => PySem.P.lt_int ⟨p, S, .refl, h⟩
theorem C_leI (h : Q (.bool (decide (a ≤ b))) p) : Run C A L (compareOp .LtE (.int a t) (.int b u)) p Q := .of fun s S T => PySem.P.le_int ⟨p, S, .refl, h⟩
theorem C_gtI (h : Q (.bool (decide (a > b))) p) : Run C A L (compareOp .Gt (.int a t) (.int b u)) p Q := .of fun s S T => PySem.P.gt_int ⟨p, S, .refl, h⟩
theorem C_geI (h : Q (.bool (decide (a ≥ b))) p) : Run C A L (compareOp .GtE (.int a t) (.int b u)) p Q := .of fun s S T => PySem.P.ge_int ⟨p, S, .refl, h⟩
end

/-! texts -/
section
variable {x y z : Str} {t u v : Tok} {Q : Value → Pt → Prop}
theorem C_eqS (h : Q (.bool (decide (x = y))) p) : Run C A L (compareOp .Eq (.str x t) (.str y u)) p Q := .of fun s S T => by
  refine PySem.P.eq_str ⟨p, S, .refl, ?_⟩
  have e : (x.cps.toList == y.cps.toList) = decide (x = y) := by
    by_cases h : x = y
    · subst h; simp
    · rw [decide_eq_false h]
      cases hb : (x.cps.toList == y.cps.toList) with
      | false => rfl
      | true => exact absurd (by cases x; cases y; simpa using hb) h
  rw [e]; exact h
theorem C_neS (h : Q (.bool (!decide (x = y))) p) : Run C A L (compareOp .NotEq (.str x t) (.str y u)) p Q := .of fun s S T => by
  refine PySem.P.ne_str ⟨p, S, .refl, ?_⟩
  have e : (x.cps.toList != y.cps.toList) = !decide (x = y) := by
    by_cases h : x = y
    · subst h; simp
    · rw [decide_eq_false h]
      cases hb : (x.cps.toList == y.cps.toList) with
      | false => simp [bne, hb]
      | true => exact absurd (by cases x; cases y; simpa using hb) h
  rw [e]; exact h
theorem B_addS (hz : x.length + y.length ≤ sizeLine) (h : ∀ tk, Q (.str (x ++ y) tk) p) : Run C A L (binaryOp .Add (.str x t) (.str y u)) p Q := .of fun s S T => SB.add (fun t' k => Post.same S (h t')) hz
end

/-! subscripts -/
theorem R_subscripted {slice : Expr} {o i : Value} {Q : Value → Pt → Prop} (h : Run C A L (getItem o i) p Q) : Run C A L (subscripted slice false o i) p Q := by
  unfold subscripted
  split
  · exact .operate h
  · rename_i e; cases e
  · exact .operate h
/-- its type alone -/
def HasTy (C : Cx) (L : Addr) (p : Pt) (v : Value) (T : String) : Prop := ∀ s : Shared, Sat C.B L p s.heap → s.TypeIs v T
theorem R_gip' {o : Value} {T id : String} {Q : Bool → Pt → Prop} (hT : HasTy C L p o T) (hl : typeLookup (.type T) "__getitem__" = Pure.pure (some (.builtin id))) (h : Q false p) : Run C A L (getitemInPython o) p Q := .of fun s S TK => by
  rw [getitemInPython_of_ne (hT s S).not_modules]
  exact wpAny_bind (wpAny_specialOf (hT s S) hl (wpAny_pure ⟨p, S, .refl, h⟩))
theorem HasTy.list {l : Addr} {vs : List Value} (h : ListAt p.G l vs ∨ (l, listC vs) ∈ p.N) : HasTy C L p (.ref l) "list" := fun s S => by
  rcases h with h | h
  · obtain ⟨o, n, e, hc, _⟩ := h
    exact ⟨o, S.s0.gs _ _ e, hc⟩
  · obtain ⟨o, ho, n, rfl⟩ := S.s0.own _ h
    exact ⟨_, ho, rfl⟩
theorem isList_of {l : Addr} {vs : List Value} {s : Shared} (h : ListAt p.G l vs ∨ (l, listC vs) ∈ p.N) (S : Sat C.B L p s.heap) : s.heap.IsList l vs.toArray := by
  rcases h with h | h
  · exact h.isList S
  · obtain ⟨o, ho, n, rfl⟩ := S.s0.own _ h
    exact ⟨_, ho, rfl, n, rfl⟩

theorem G_list {l : Addr} {vs : List Value} {i : Int} {u : Tok} {x : Value} {Q : Value → Pt → Prop} (hl : ListAt p.G l vs ∨ (l, listC vs) ∈ p.N) (h0 : 0 ≤ i) (h1 : i < 2 ^ 62) (hx : vs[i.toNat]? = some x) (h : Q x p) :
    Run C A L (getItem (.ref l) (.int i u)) p Q := .of fun s S T => wpAny_getItem_list (isList_of hl S) h0 (by omega) (by simpa using hx) ⟨p, S, .refl, h⟩
/-- len of a list -/
theorem R_len_list {l : Addr} {vs : List Value} {Q : Value → Pt → Prop} (hl : ListAt p.G l vs ∨ (l, listC vs) ∈ p.N) (hz : vs.length < 2 ^ 62) (h : ∀ tk, Q (.int vs.length tk) p) : Run C A L (PySem.call (.builtin "len") [.ref l]) p Q := .of fun s S T => by
  refine call_len_list (isList_of hl S) (by rw [List.size_toArray]; omega) ?_
  rw [List.size_toArray]
  exact Post.same S (h _)
end
end Mine

open PySem PySem.Calls PyProof.Rows
set_option Elab.async false
set_option linter.unusedVariables false
namespace Mine

section
variable {C : Cx} {A : Around} {L : Addr} {p : Pt} {env : Env}

/-- an assignment to a pair of names -/
theorem X_AssignT {es : List Expr} {k : Nat} {tp pos : Pos} {e : Expr} {Q : Flow → Pt → Prop} (h : Run C A L (eval e env) p fun v p₁ => AsgRun C A L (.Tuple es k tp) env (fun u _ => u = v) p₁ fun p₂ => Q .next p₂)
    (hs : swapsWithSole [.Tuple es k tp] e pos.line env = Pure.pure false := by rfl) (hw : swappedStores [.Tuple es k tp] e env = Pure.pure none := by rfl) : Run C A L (exec (.Assign [.Tuple es k tp] e pos) env) p Q := .of fun s S T =>
  PyProof.Rows.Assign_Tuple (wpAny_mono (wpAny_toks (h.go s S T)) (fun v s₁ ⟨t₁, p₁, S₁, x₁, q⟩ =>
    wpAny_mono (wpAny_toks (q v s₁ rfl S₁ (T.next x₁ t₁))) (fun _ s₂ ⟨t₂, p₂, S₂, x₂, r⟩ => ⟨p₂, S₂, x₁.trans S S₁ x₂ t₂, r⟩) fun _ _ e => e.2) fun _ _ e => e.2) hs hw

theorem X_AssignSub {o i : Expr} {pos pos' : Pos} {e : Expr} {Q : Flow → Pt → Prop} (h : Run C A L (eval e env) p fun v p₁ => Run C A L (eval o env) p₁ fun ov p₂ => Run C A L (eval i env) p₂ fun iv p₃ => Run C A L (setItem ov iv v) p₃ fun _ p₄ => Q .next p₄)
    (hs : swapsWith e (some (.Subscript o i pos')) pos.line env = Pure.pure false := by rfl) : Run C A L (exec (.Assign [.Subscript o i pos'] e pos) env) p Q :=
  Run.of_eq (exec_Assign_Subscript _ _ _ _ _ hs) (.bind (.standAt (.bind (h.mono fun v p₁ h₁ => .bind (Run.of_eq (arm_assign_Subscript ..) (.bind (.holding (h₁.mono fun ov p₂ h₂ => .bind (.holding (h₂.mono fun iv p₃ h₃ =>
    .bind (.standAt (.bind (.holding (h₃.mono fun _ p₄ h₄ => .release (Run.pure h₄)))))))))))))))

/-! pure defs -/
theorem CallRun.drop {f : Addr} {vs : List Value} {G : Addr → Option Obj} {N : List (Addr × Cell)} {k : Nat} {Q : Value → (Addr → Option Obj) → List (Addr × Cell) → Nat → Prop}
    (h : CallRun C A f vs G N k fun v G' N' k' => ∃ N'', (∀ q ∈ N'', q ∈ N') ∧ (dom N'').Nodup ∧ (∀ b ∈ dom N, b ∈ dom N'' ∨ G' b ≠ none) ∧ Q v G' N'' k') : CallRun C A f vs G N k Q := fun s S T =>
  codeAny_mono (h s S T) fun r s' hr => by
    obtain ⟨v, G', N', k', e, S', x, N'', h1, h2, h3, q⟩ := hr
    exact ⟨v, G', N'', k', e, S'.sub h1 h2, ⟨x.keep, x.grow, fun b hb => x.fresh b (hb.imp id fun hb => by
      obtain ⟨q, hq, rfl⟩ := List.mem_map.mp hb
      exact List.mem_map_of_mem (f := (·.1)) (h1 q hq)), h3, x.gens, x.os, x.km, x.kk⟩, q⟩

/-- a call that wants nothing owned and hands back what is frozen, or no object at all -/
def PureCall (C : Cx) (A : Around) (f : Addr) (vs : List Value) (G : Addr → Option Obj) (k : Nat) (Q : Value → (Addr → Option Obj) → Nat → Prop) : Prop :=
  CallRun C A f vs G [] k fun v G' N' k' => N' = [] ∧ GLe G G' ∧ k ≤ k' ∧ Q v G' k'
theorem PureCall.mono {f : Addr} {vs : List Value} {G : Addr → Option Obj} {k : Nat} {Q Q' : Value → (Addr → Option Obj) → Nat → Prop} (h : PureCall C A f vs G k Q) (hq : ∀ v G' k', GLe G G' → k ≤ k' → Q v G' k' → Q' v G' k') : PureCall C A f vs G k Q' :=
  CallRun.mono h fun v G' N' k' ⟨h1, h2, h3, h4⟩ => ⟨h1, h2, h3, hq v G' k' h2 h3 h4⟩
theorem R_pure {f : Addr} {vs : List Value} {Q : Value → Pt → Prop} (h : PureCall C A f vs p.G p.k fun v G' k' => Q v { p with G := G', k := k' }) : Run C A L (PySem.call (.ref f) vs) p Q :=
  R_call0 (CallRun.mono h fun v G' N' k' ⟨h1, _, _, h4⟩ => by subst h1; exact h4)
theorem PureCall.of {f : Addr} {vs : List Value} {G : Addr → Option Obj} {k : Nat} {Q : Value → (Addr → Option Obj) → Nat → Prop} (h : CallRun C A f vs G [] k fun v G' N' k' => Q v G' k') : PureCall C A f vs G k Q := fun s S T =>
  (CallRun.drop (Q := fun v G' N' k' => N' = [] ∧ Q v G' k') (CallRun.mono h fun v G' N' k' q => ⟨[], (fun _ hq => nomatch hq), List.nodup_nil, (fun _ hb => nomatch hb), rfl, q⟩)) s S T |> fun z =>
    codeAny_mono z fun r s' hr => by
      obtain ⟨v, G', N', k', e, S', x, e', q⟩ := hr
      exact ⟨v, G', N', k', e, S', x, e', x.grow, x.km, q⟩

/-- the call of a def of the text whose body has no cells -/
theorem PureCall.body {gl bl : List (Str × Value)} {f : Addr} {o : Obj} {fd : FuncData} {body : List Stmt} {vs : List Value} {binds : List (Str × Value)} {G : Addr → Option Obj} {m₀ : List (Str × Option Value)} {k : Nat}
    {Q : Value → (Addr → Option Obj) → Nat → Prop} {d : Nat} (K : Base C gl bl) (hr : Room A (d + 1)) (ho : C.B.get? f = some o) (hdata : o.data = .func fd) (hcd : C.B.CodeRec fd.code fd.qualname)
    (hbind : Binds C fd vs binds) (hm : m₀ = (m₀.map (·.1)).map fun x => (x, binds.reverse.lookup x)) (hs : (binds.all fun q => (m₀.map (·.1)).contains q.1) = true) (hnd : (m₀.map (·.1)).Nodup)
    (hbody : fd.body = .stmts body) (hcell : ∀ x ∈ fd.scope.names, x.2 ≠ .cell) (hloc : ∀ x ∈ binds, fd.scope.names.lookup x.1 = some .local)
    (h : ∀ L, Room (A.deeper (callEnv fd L f)) d → Run C (A.deeper (callEnv fd L f)) L (execs body (callEnv fd L f)) ⟨G, m₀, [], k⟩ fun fl p' => Q (retOf fl) p'.G p'.k)
    (hco : fd.scope.isCoroutine = false := by rfl) (hgen : fd.scope.isGenerator = false := by rfl) (hk : fd.scope.kind = .function := by rfl) : PureCall C A f vs G k Q :=
  .of (CallRun.body K hr ho hdata hcd hbind hm hs hnd hbody hcell hloc h hco hgen hk)

def nd : List Str → Bool
  | [] => true
  | x :: r => !(r.contains x) && nd r
theorem nodup_of : ∀ {b : List Str}, nd b = true → b.Nodup
  | [], _ => List.nodup_nil
  | x :: r, h => by
    simp only [nd, Bool.and_eq_true, Bool.not_eq_true'] at h
    refine List.nodup_cons.mpr ⟨fun hm => ?_, nodup_of h.2⟩
    have := List.contains_iff_mem.mpr hm
    rw [h.1] at this; cases this
def okB (m₀ : List (Str × Option Value)) (binds : List (Str × Value)) (names : List (Str × NameKind)) : Bool :=
  (binds.all fun q => (m₀.map (·.1)).contains q.1) && nd (m₀.map (·.1)) && binds.all fun q => names.lookup q.1 == some .local
theorem okB.split {m₀ : List (Str × Option Value)} {binds : List (Str × Value)} {names : List (Str × NameKind)} (h : okB m₀ binds names = true) :
    (binds.all fun q => (m₀.map (·.1)).contains q.1) = true ∧ (m₀.map (·.1)).Nodup ∧ ∀ x ∈ binds, names.lookup x.1 = some .local := by
  simp only [okB, Bool.and_eq_true] at h
  exact ⟨h.1.1, nodup_of h.1.2, fun x hx => eq_of_beq (List.all_eq_true.mp h.2 x hx)⟩
theorem PureCall.go {gl bl : List (Str × Value)} {f : Addr} {o : Obj} {fd : FuncData} {body : List Stmt} {vs : List Value} {binds : List (Str × Value)} {G : Addr → Option Obj} (m₀ : List (Str × Option Value)) {k : Nat}
    {Q : Value → (Addr → Option Obj) → Nat → Prop} {d : Nat} (K : Base C gl bl) (hr : Room A (d + 1)) (ho : C.B.get? f = some o) (hdata : o.data = .func fd) (hcd : C.B.CodeRec fd.code fd.qualname)
    (hbind : Binds C fd vs binds) (h : ∀ L, Room (A.deeper (callEnv fd L f)) d → Run C (A.deeper (callEnv fd L f)) L (execs body (callEnv fd L f)) ⟨G, m₀, [], k⟩ fun fl p' => Q (retOf fl) p'.G p'.k)
    (hm : m₀ = (m₀.map (·.1)).map fun x => (x, binds.reverse.lookup x) := by rfl) (hok : okB m₀ binds fd.scope.names = true := by rfl)
    (hbody : fd.body = .stmts body := by rfl) (hcell : ∀ x ∈ fd.scope.names, x.2 ≠ .cell := by decide)
    (hco : fd.scope.isCoroutine = false := by rfl) (hgen : fd.scope.isGenerator = false := by rfl) (hk : fd.scope.kind = .function := by rfl) : PureCall C A f vs G k Q :=
  .body K hr ho hdata hcd hbind hm (okB.split hok).1 (okB.split hok).2.1 hbody hcell (okB.split hok).2.2 h hco hgen hk
end
end Mine

open PySem PySem.Calls PyProof.Rows
set_option Elab.async false
set_option linter.unusedVariables false
namespace Mine

/-! a dict of texts, its keys' tokens told -/
abbrev Ent := Str × Tok × Value
def entOf (w : World) (q : Ent) : DictEntry := ⟨hashStr w q.1, .str q.1 q.2.1, q.2.2⟩
def dput : List Ent → Str → Tok → Value → List Ent
  | [], k, t, v => [(k, t, v)]
  | q :: r, k, t, v => if q.1 = k then (k, q.2.1, v) :: r else q :: dput r k t v
def dget : List Ent → Str → Option Value
  | [], _ => none
  | q :: r, k => if q.1 = k then some q.2.2 else dget r k
def kvOf (es : List Ent) : List (Str × Value) := es.map fun q => (q.1, q.2.2)
def dictC (w : World) (es : List Ent) : Cell := fun o => ∃ ep, o.ExactDict ∧ o.data = .dict (es.map (entOf w)).toArray ep ∧ (es.map (·.1)).Nodup

theorem dput_names : ∀ (es : List Ent) (k : Str) (t : Tok) (v : Value), (dput es k t v).map (·.1) = if k ∈ es.map (·.1) then es.map (·.1) else es.map (·.1) ++ [k]
  | [], k, t, v => rfl
  | q :: r, k, t, v => by
    have ih := dput_names r k t v
    unfold dput
    by_cases h : q.1 = k
    · subst h; simp
    · rw [if_neg h]
      simp only [List.map_cons, ih, List.mem_cons]
      have : ¬ k = q.1 := fun e => h e.symm
      by_cases h2 : k ∈ r.map (·.1) <;> simp [this, h2]
theorem dput_nodup {es : List Ent} {k : Str} {t : Tok} {v : Value} (h : (es.map (·.1)).Nodup) : ((dput es k t v).map (·.1)).Nodup := by
  rw [dput_names]
  split
  · exact h
  · rename_i hn
    refine List.nodup_append.mpr ⟨h, by simp, fun a ha b hb e => ?_⟩
    rw [List.mem_singleton.mp hb] at e
    exact hn (e ▸ ha)
theorem dput_length : ∀ (es : List Ent) (k : Str) (t : Tok) (v : Value), (dput es k t v).length ≤ es.length + 1
  | [], k, t, v => Nat.le_refl _
  | q :: r, k, t, v => by
    have ih := dput_length r k t v
    unfold dput
    split <;> simp <;> omega

section
variable {prog : Program} {w : World}
theorem isKey (q : Ent) (k : Str) : (strKind prog w).is k (entOf w q).key = decide (q.1 = k) := by
  show Value.isStrOf k (.str q.1 q.2.1) = _
  show (q.1 == k) = decide (q.1 = k)
  by_cases h : q.1 = k
  · subst h; simp
  · rw [decide_eq_false h]; exact beq_eq_false_iff_ne.mpr h
theorem dput_arr : ∀ (es : List Ent) (k : Str) (t : Tok) (v : Value),
    match (es.map (entOf w)).findIdx? (fun e => (strKind prog w).is k e.key) with
    | some i => (es.map (entOf w)).modify i (fun e => { e with val := v }) = (dput es k t v).map (entOf w)
    | none => es.map (entOf w) ++ [⟨(strKind prog w).hash k, .str k t, v⟩] = (dput es k t v).map (entOf w)
  | [], k, t, v => rfl
  | q :: r, k, t, v => by
    have ih := dput_arr r k t v
    rw [List.map_cons, List.findIdx?_cons, isKey]
    unfold dput
    by_cases h : q.1 = k
    · subst h; simp [entOf]
    · rw [if_neg h]
      simp only [decide_eq_false h, Bool.false_eq_true, if_false]
      cases hf : (r.map (entOf w)).findIdx? (fun e => (strKind prog w).is k e.key) with
      | none => rw [hf] at ih; simpa using ih
      | some i => rw [hf] at ih; simpa using ih
theorem findBy_dget (es : List Ent) (k : Str) : findBy (strKind prog w).is (es.map (entOf w)).toArray k = dget es k := by
  simp only [findBy, List.find?_toArray]
  induction es with
  | nil => rfl
  | cons q r ih =>
    rw [List.map_cons, List.find?_cons, isKey]
    unfold dget
    by_cases h : q.1 = k
    · subst h; simp [entOf]
    · rw [if_neg h, decide_eq_false h]; exact ih
theorem keysOf_ent (es : List Ent) : KeysOf (strKind prog w) (es.map (entOf w)).toArray := fun e he => by
  have he' : e ∈ es.map (entOf w) := by simpa using he
  obtain ⟨q, _, rfl⟩ := List.mem_map.mp he'
  exact ⟨q.1, by rw [isKey]; simp, rfl⟩
theorem pairs_ent : ∀ (es : List Ent), Pairs (strKind prog w) (es.map (entOf w)) (kvOf es)
  | [] => .nil
  | q :: r => .cons (by rw [isKey]; simp) rfl (pairs_ent r)
theorem kvOf_names (es : List Ent) : (kvOf es).map (·.1) = es.map (·.1) := by simp [kvOf]
theorem dictC.isDictOf {es : List Ent} {o : Obj} (h : dictC w es o) : o.IsDictOf (strKind prog w) (kvOf es) :=
  let ⟨ep, h1, h2, h3⟩ := h; ⟨_, ep, h1, h2, keysOf_ent es, by simpa using pairs_ent es, by rw [kvOf_names]; exact h3⟩

variable {A : Around} {E : Value → Shared → Prop} {s : Shared}
theorem wp_put {d : Addr} {o : Obj} {es : List Ent} {k : Str} {t : Tok} {v : Value} {n : Nat} {Q : Option Nat → Shared → Prop} (ho : s.heap.get? d = some o) (hc : dictC w es o) (hq : Q ((es.map (entOf w)).findIdx? (fun e => (strKind prog w).is k e.key)) s) :
    wpAny (model prog w) A (dictFind d (.str k t) (hashStr w k)) Q E s := by
  obtain ⟨ep, hx, hd, hn⟩ := hc
  refine wpAny_dictFind_of (knd := strKind prog w) (strKind_is prog w k t) ho hd (keysOf_ent es) ?_
  rw [List.findIdx?_toArray]; exact hq
theorem wp_dictSet {d : Addr} {o : Obj} {es : List Ent} {k : Str} {t : Tok} {v : Value} {Q : Unit → Shared → Prop} (ho : s.heap.get? d = some o) (hc : dictC w es o) (hz : es.length ≤ sizeLine)
    (hQ : ∀ h' o', h'.get? d = some o' → dictC w (dput es k t v) o' → Heap.SameBut d s.heap h' → Q () { s with heap := h', toks := s.toks + 1 }) : wpAny (model prog w) A (dictSet d (.str k t) v) Q E s := by
  unfold dictSet
  refine wpAny_holding (wpAny_bind ((strKind prog w).pyHash (strKind_is prog w k t) ?_))
  unfold dictSetHashed
  refine wpAny_holding (wpAny_bind (wp_put (s := { s with toks := s.toks + 1 }) (n := 0) ho hc ?_ (v := v)))
  obtain ⟨ep, hx, hd, hn⟩ := id hc
  have key := dput_arr (prog := prog) (w := w) es k t v
  cases hi : (es.map (entOf w)).findIdx? (fun e => (strKind prog w).is k e.key) with
  | some i =>
    rw [hi] at key
    dsimp only at key
    refine wpAny_bind (wpAny_rule (wpAny_bind (wpAny_updateDict (s := { s with toks := s.toks + 1 }) ho hd (wpAny_point (hQ _ _ (Heap.get?_update_self _ ho (Obj.isFreed_of_dict (Obj.data_mapDict hd _))) ⟨ep, hx.mapDict _, ?_, dput_nodup hn⟩ (Heap.SameBut.update ..))))))
    rw [Obj.data_mapDict hd, ← key]; simp
  | none =>
    rw [hi] at key
    dsimp only at key
    refine wpAny_bind (wpAny_rule (wpAny_updateDictKeys (s := { s with toks := s.toks + 1 }) (hz := by simpa using hz) ho hd (hQ _ _ (Heap.get?_update_self _ ho (Obj.isFreed_of_dict (Obj.data_mapDictKeys hd _))) ⟨ep + 1, hx.mapDictKeys _, ?_, dput_nodup hn⟩ (Heap.SameBut.update ..))))
    rw [Obj.data_mapDictKeys hd, ← key]
    simp
theorem typeIs_dict {d : Addr} {o : Obj} (ho : s.heap.get? d = some o) (hx : o.ExactDict) : s.TypeIs (.ref d) "dict" := ⟨o, ho, hx.1⟩
theorem wp_setItem {d : Addr} {o : Obj} {es : List Ent} {k : Str} {t : Tok} {v : Value} {Q : Unit → Shared → Prop} (ho : s.heap.get? d = some o) (hc : dictC w es o) (hz : es.length ≤ sizeLine)
    (hQ : ∀ h' o', h'.get? d = some o' → dictC w (dput es k t v) o' → Heap.SameBut d s.heap h' → Q () { s with heap := h', toks := s.toks + 1 }) : wpAny (model prog w) A (setItem (.ref d) (.str k t) v) Q E s := by
  have hT : s.TypeIs (.ref d) "dict" := let ⟨_, hx, _⟩ := hc; typeIs_dict ho hx
  unfold setItem
  refine wpAny_holding (wpAny_bind (wpAny_sequenceKey hT (by decide) ?_))
  refine wpAny_bind (wpAny_callSpecial?_slot (name := Str.ofString "__setitem__") hT slot_dict_setitem
    (wpAny_call_entry slot_dict_setitem hT entry_dict_setitem ?_ (args_dict_setitem _ _ _)))
  show wpAny _ _ (Builtin.Dict.notOrdered "__setitem__" ⟨[.ref d, .str k t, v], []⟩ >>= _) _ _ s
  refine wpAny_bind (wpAny_notOrdered_dict hT ?_)
  show wpAny _ _ (dictSet d (.str k t) v >>= _) _ _ s
  exact wpAny_bind (wp_dictSet ho hc hz fun h' o' ho' hc' hs' => wpAny_pure ⟨.none, rfl, wpAny_pure (hQ h' o' ho' hc' hs')⟩)

def dputs (es more : List Ent) : List Ent := more.foldl (fun acc q => dput acc q.1 q.2.1 q.2.2) es
end
end Mine

open PySem PySem.Calls PyProof.Rows
set_option Elab.async false
set_option linter.unusedVariables false
namespace Mine

section
variable {prog : Program} {w : World} {A : Around} {E : Value → Shared → Prop} {s : Shared}
theorem dictC.at {h : Heap} {d : Addr} {o : Obj} {es : List Ent} (ho : h.get? d = some o) (hc : dictC w es o) : ∃ ep, h.DictAt (PySem.strKind prog w) d (kvOf es) ep ∧ o.ExactDict ∧ o.data = .dict (es.map (entOf w)).toArray ep := by
  obtain ⟨ep, h1, h2, h3⟩ := hc
  exact ⟨ep, ⟨o, _, ho, h1, h2, keysOf_ent es, by simpa using pairs_ent es, by rw [kvOf_names]; exact h3⟩, h1, h2⟩

/-- the next pair of a dict's items, its key to the token -/
theorem wp_items_next {it d : Addr} {od : Obj} {i ep : Nat} {es : List Ent} {q : Ent} {ok ov : Value} {Q : Option Value → Shared → Prop} (hit : IsItemIter s.heap it d i es.length ep ok ov) (hod : s.heap.get? d = some od)
    (hdd : od.data = .dict (es.map (entOf w)).toArray ep) (hx : es[i]? = some q)
    (hQ : ∀ h', IsItemIterOut h' it d (i + 1) es.length ep (.str q.1 q.2.1) q.2.2 s.heap.objs.size → h'.get? s.heap.objs.size = some { cls := .type "tuple", data := .seq #[.str q.1 q.2.1, q.2.2] } →
      (∀ b o, b ≠ it → s.heap.get? b = some o → h'.get? b = some o) → Q (some (.ref s.heap.objs.size)) { s with heap := h' }) : wpAny (model prog w) A (pyNext (.ref it)) Q E s := by
  have hT : s.TypeIs (.ref it) "dict_itemiterator" := ⟨_, hit, rfl⟩
  have hlt : i < es.length := (List.getElem?_eq_some_iff.mp hx).1
  have hown : Builtin.Dict_items.ownsTuple "dict_itemiterator" = true := by decide
  have e1 : (es.map (entOf w)).toArray[i]? = some (entOf w q) := by simp [hx]
  unfold pyNext
  refine wpAny_bind (wpAny_attempt (wpAny_callSpecial?_slot (name := Str.ofString "__next__") hT F.slot_dict_itemiterator_next
    (wpAny_call_entry F.slot_dict_itemiterator_next hT F.entry_dict_itemiterator_next ?_ (F.args_dict_itemiterator_next_1 _))))
  refine wpAny_bind (wpAny_pure (wpAny_bind (wpAny_bind (wpAny_bind ?_))))
  refine wpAny_typeNameOfWhole_itemiter hT (wpAny_pure ?_)
  refine wpAny_bind (wpAny_fieldsOf hit rfl ?_)
  simp only [hown, if_true]
  show wpAny _ _ (if (Value.ref d == Value.none) = true then _ else _) _ _ _
  rw [if_neg (show ¬ ((Value.ref d == Value.none) = true) from Bool.false_ne_true)]
  refine wpAny_bind (wpAny_pure (wpAny_bind (wpAny_dictEntries hod hdd ?_)))
  rw [if_neg (by simp)]
  refine wpAny_bind (wpAny_pure (wpAny_bind (wpAny_dictEpoch hod hdd ?_)))
  rw [if_neg (by simp)]
  refine wpAny_pure ?_
  simp only [show ¬ ((i : Int) < 0) from by omega, if_false, Int.toNat_natCast, e1]
  refine wpAny_bind (wpAny_bind (wpAny_typeNameOfWhole_itemiter hT (wpAny_pure ?_)))
  refine wpAny_bind (wpAny_isOneOf_itemiter hT ?_)
  show wpAny _ _ (setField (.ref it) 3 (rawInt ((i : Int) + 1)) >>= _) _ _ s
  refine wpAny_bind (wpAny_setField_rec hit (by simp) fun h₁ he₁ hs₁ => ?_)
  replace he₁ : IsItemIter h₁ it d (i + 1) es.length ep ok ov := by
    have e : ((i + 1 : Nat) : Int) = (i : Int) + 1 := by omega
    unfold IsItemIter; rw [e]; simpa [rawInt] using he₁
  have hT₁ : Shared.TypeIs { s with heap := h₁ } (.ref it) "dict_itemiterator" := ⟨_, he₁, rfl⟩
  refine wpAny_bind (wpAny_holding (wpAny_bind (wpAny_isOneOf_itemiter hT₁ (wpAny_bind (wpAny_isOneOf_itemiter hT₁ ?_)))))
  show wpAny _ _ (Builtin.Dict_items.pairFromOwner (.ref it) 6 (.str q.1 q.2.1) q.2.2) _ _ _
  unfold Builtin.Dict_items.pairFromOwner
  have hz₁ : h₁.objs.size = s.heap.objs.size := hs₁.1
  have hil : it < s.heap.objs.size := Heap.lt_size hit
  refine wpAny_bind (wpAny_newTuple ?_)
  have he₂ : IsItemIter (h₁.push { cls := .type "tuple", data := .seq #[.str q.1 q.2.1, q.2.2] }) it d (i + 1) es.length ep ok ov := Heap.get?_push_of_some _ he₁
  have ht₂ : (h₁.push { cls := .type "tuple", data := .seq #[.str q.1 q.2.1, q.2.2] }).get? s.heap.objs.size = some { cls := .type "tuple", data := .seq #[.str q.1 q.2.1, q.2.2] } := by rw [← hz₁]; exact Heap.get?_push_size _ rfl
  have hk₂ : ∀ b o, b ≠ it → s.heap.get? b = some o → (h₁.push { cls := .type "tuple", data := .seq #[.str q.1 q.2.1, q.2.2] }).get? b = some o := fun b o hb e => Heap.get?_push_of_some _ (hs₁.extBut b o hb e)
  generalize h₁.push { cls := .type "tuple", data := .seq #[.str q.1 q.2.1, q.2.2] } = h₂ at he₂ ht₂ hk₂ ⊢
  show wpAny _ _ (Builtin.Dict_items.ownedTupleIsFree (.ref it) >>= _) _ _ _
  rw [show ({ s with heap := h₁ } : Shared).heap.objs.size = s.heap.objs.size from hz₁]
  unfold Builtin.Dict_items.ownedTupleIsFree
  refine wpAny_bind (wpAny_bind (wpAny_field he₂ rfl (x := .none) rfl (wpAny_pure ?_)))
  simp only [if_true]
  refine wpAny_bind (wpAny_field he₂ rfl (x := ok) rfl (wpAny_bind (wpAny_field he₂ rfl (x := ov) rfl ?_)))
  refine wpAny_bind (wpAny_setField_rec he₂ (by simp) fun h₃ he₃ hs₃ => ?_)
  refine wpAny_bind (wpAny_setField_rec he₃ (by simp) fun h₄ he₄ hs₄ => ?_)
  refine wpAny_bind (wpAny_setField_rec he₄ (by simp) fun h₅ he₅ hs₅ => ?_)
  refine wpAny_bind (wpAny_setField_rec he₅ (by simp) fun h₆ he₆ hs₆ => ?_)
  have up : ∀ b o, b ≠ it → h₂.get? b = some o → h₆.get? b = some o := fun b o hb e => hs₆.extBut b o hb (hs₅.extBut b o hb (hs₄.extBut b o hb (hs₃.extBut b o hb e)))
  exact wpAny_bind (wpAny_letGo (wpAny_pure (wpAny_pure ⟨_, rfl, wpAny_pure (hQ h₆ he₆ (up _ _ (Nat.ne_of_gt hil) ht₂) fun b o hb e => up b o hb (hk₂ b o hb e))⟩)))
end

/-- a frozen dict -/
def DictG (w : World) (G : Addr → Option Obj) (d : Addr) (es : List Ent) : Prop := (d == sysModules) = false ∧ ∃ o, G d = some o ∧ dictC w es o
theorem DictG.mono {w : World} {G G' : Addr → Option Obj} {d : Addr} {es : List Ent} (h : DictG w G d es) (x : GLe G G') : DictG w G' d es := let ⟨h1, o, e, c⟩ := h; ⟨h1, o, x _ _ e, c⟩

section
variable {C : Cx} {A : Around} {L : Addr} {p : Pt} {env : Env}
theorem DictG.map {d : Addr} {es : List Ent} {h : Heap} (x : DictG C.w p.G d es) (S : Sat C.B L p h) : h.MapOf (PySem.strKind C.prog C.w) d (dget es) := by
  obtain ⟨_, o, e, ep, hx, hd, hn⟩ := x
  exact ⟨o, _, ep, S.s0.gs _ _ e, hx, hd, keysOf_ent es, findBy_dget es⟩
theorem DictG.dictAt {d : Addr} {es : List Ent} {h : Heap} (x : DictG C.w p.G d es) (S : Sat C.B L p h) : ∃ o ep, h.get? d = some o ∧ o.data = .dict (es.map (entOf C.w)).toArray ep ∧ h.DictAt (PySem.strKind C.prog C.w) d (kvOf es) ep := by
  obtain ⟨_, o, e, hc⟩ := x
  obtain ⟨ep, h1, h2, h3⟩ := dictC.at (prog := C.prog) (S.s0.gs _ _ e) hc
  exact ⟨o, ep, S.s0.gs _ _ e, h3, h1⟩
theorem G_dict {d : Addr} {es : List Ent} {k : Str} {t : Tok} {v : Value} {Q : Value → Pt → Prop} (x : DictG C.w p.G d es) (hv : dget es k = some v) (h : Q v p) : Run C A L (getItem (.ref d) (.str k t)) p Q := .of fun s S T =>
  wpAny_getItem_of (PySem.strKind_is _ _ k t) (x.map S) hv (Post.same S h)
theorem truthy_dict {d : Addr} {es : List Ent} {Q : Bool → Pt → Prop} (x : DictG C.w p.G d es) (hz : es.length ≤ sizeLine) (h : Q (!es.isEmpty) p) : Run C A L (truthy (.ref d)) p Q := .of fun s S T => by
  obtain ⟨o, ep, e1, e2, e3⟩ := x.dictAt S
  have hl : (kvOf es).length = es.length := by simp [kvOf]
  refine wpAny_truthy_dict x.1 e3.dictOf (by rw [hl]; rw [sizeLine_eq] at hz; omega) ?_
  have : (kvOf es).isEmpty = es.isEmpty := by simp [kvOf]
  rw [this]
  exact Post.same S h
theorem HasT.dict {d : Addr} {es : List Ent} (x : DictG C.w p.G d es) : HasT C L p (.ref d) "dict" := fun s S => by
  obtain ⟨_, o, e, ep, hx, hd, hn⟩ := x
  exact ⟨⟨o, S.s0.gs _ _ e, hx.1⟩, fun b q => by cases q; exact ⟨o, S.s0.gs _ _ e, hx.2.1⟩⟩
theorem HasTy.dict {d : Addr} {es : List Ent} (x : DictG C.w p.G d es) : HasTy C L p (.ref d) "dict" := fun s S => (HasT.dict x s S).1

/-- a view of a dict's items -/
def ViewG (G : Addr → Option Obj) (v d : Addr) : Prop := ∃ o, G v = some o ∧ o.cls = .type "dict_items" ∧ o.data = .fields #[.ref d]
theorem R_items {d : Addr} {es : List Ent} {Q : Value → Pt → Prop} (x : DictG C.w p.G d es) (h : ∀ v G', GLe p.G G' → ViewG G' v d → Q (.ref v) { p with G := G' }) : Run C A L (PySem.call (.builtin "dict.items") [.ref d]) p Q :=
  R_meets F.slot_dict_items F.entry_dict_items (F.args_dict_items_1 _) (HasT.dict x) fun s S T => by
    obtain ⟨o, ep, e1, e2, e3⟩ := x.dictAt S
    have nn := S.none_at (get_size_none s.heap)
    refine ⟨_, meets_dict_items (PySem.strKind C.prog C.w) d x.1, ⟨_, e3.dictOf⟩, ?_⟩
    exact ⟨_, S.pushG rfl, Ext.pushG S, h _ _ (GLe.add nn.2.1) ⟨_, addG_self, rfl, rfl⟩⟩

/-- a pair that a dict's items hand out -/
def PairAt (es : List Ent) (i : Nat) (v : Value) (h : Heap) : Prop := ∃ T q, v = .ref T ∧ es[i]? = some q ∧ h.IsTuple T #[.str q.1 q.2.1, q.2.2]
theorem items_turns {elts : List Expr} {kk : Nat} {pos : Pos} (hh : A.handled = none) (I d : Addr) (hne : d ≠ I) (es : List Ent) (ep : Nat) (od : Obj) (hdd : od.data = .dict (es.map (entOf C.w)).toArray ep) :
    PySem.W.KTurns C.prog C.w A (.Tuple elts kk pos) I [I, d] [I] es.length (PairAt es)
      (fun i v h => ∃ T q ok ov, v = .ref T ∧ es[i]? = some q ∧ h.IsTuple T #[.str q.1 q.2.1, q.2.2] ∧ IsItemIterOut h I d (i + 1) es.length ep ok ov T ∧ h.get? d = some od ∧ h.DictAt (PySem.strKind C.prog C.w) d (kvOf es) ep ∧ T ≠ I)
      (fun i h => (∃ ok ov, IsItemIter h I d i es.length ep ok ov) ∧ h.get? d = some od ∧ h.DictAt (PySem.strKind C.prog C.w) d (kvOf es) ep) where
  sub := fun b hb => by simp at hb; simp [hb]
  frame := fun i h h' st hk => by
    obtain ⟨⟨ok, ov, he⟩, hd, hm⟩ := st
    exact ⟨⟨ok, ov, hk I (by simp) _ he⟩, hk d (by simp) _ hd, hm.at' fun o e => hk d (by simp) o e⟩
  item := fun i s Q E hi st hQ => by
    obtain ⟨⟨ok, ov, he⟩, hd, hm⟩ := st
    refine wp_items_next (q := es[i]) he hd hdd (by simp [hi]) fun h' ho hT hk => ?_
    exact hQ (.ref s.heap.objs.size) h' s.toks ⟨s.heap.objs.size, es[i], _, _, rfl, by simp [hi], ⟨_, hT, rfl, _, rfl⟩, ho, hk d od hne hd, hm.at' (fun o e => hk d o hne e), Nat.ne_of_gt (Heap.lt_size he)⟩ fun b o hb e => hk b o (fun h => hb (by simp [h])) e
  go := fun i v s Q E hm hQ => by
    obtain ⟨T, q, ok, ov, rfl, hx, hT, ho, hd, hda, hTI⟩ := hm
    refine wpAny_letOwnedTupleGo_items ho fun h' he hs => ?_
    exact hQ h' ⟨T, q, rfl, hx, hT.at fun o e => hs.extBut T o hTI e⟩ ⟨⟨ok, ov, he⟩, hs.extBut d _ hne hd, hda.extBut hs.extBut hne⟩ fun b o hb e => hs.extBut b o (fun h => hb (by simp [h])) e
  done := fun s Q E st hQ => by
    obtain ⟨⟨ok, ov, he⟩, hd, hm⟩ := st
    have he' : IsItemIter s.heap I d es.length (kvOf es).length ep ok ov := by rw [show (kvOf es).length = es.length by simp [kvOf]]; exact he
    exact wpAny_pyNext_items_end hh he' hm (by simp [kvOf]) fun h' hx => hQ h' s.toks fun b o hb e => hx b o (fun h => hb (by simp [h])) e
theorem IterOn.items {elts : List Expr} {kk : Nat} {pos : Pos} {v d : Addr} {es : List Ent} (hh : A.handled = none) (hv : ViewG p.G v d) (x : DictG C.w p.G d es) : IterOn C A L p (.Tuple elts kk pos) (.ref v) es.length (PairAt es) := fun s S T => by
  obtain ⟨od, ep, e1, e2, e3⟩ := x.dictAt S
  obtain ⟨ov, g1, g2, g3⟩ := hv
  have hlt := Heap.lt_size e1
  have hne : d ≠ s.heap.objs.size := Nat.ne_of_lt hlt
  refine wpAny_pyIter_items ⟨ov, S.s0.gs _ _ g1, g2, g3⟩ e3 ?_
  have hl : (kvOf es).length = es.length := by simp [kvOf]
  rw [hl]
  refine ⟨_, _, _, _, _, _, _, rfl, rfl, items_turns hh s.heap.objs.size d hne es ep od e2, ⟨⟨.none, .none, Heap.get?_push_size _ rfl⟩, Heap.get?_push_of_some _ e1, e3.push _⟩,
    fun b o e => Heap.get?_push_of_some _ e, fun b hb => by rw [List.mem_singleton.mp hb]; exact get_size_none _, fun b hb => ?_, fun i h st b hb => ?_, fun i s Q E st hQ => ?_⟩
  · rcases List.mem_cons.mp hb with q | q
    · exact .inl (List.mem_singleton.mpr q)
    · obtain ⟨_, o, e, _⟩ := x
      exact .inr ⟨o, by rw [List.mem_singleton.mp q]; exact e⟩
  · obtain ⟨⟨ok, ov, he⟩, _⟩ := st
    rw [List.mem_singleton.mp hb, he]; exact fun h => nomatch h
  · obtain ⟨⟨ok, ov, he⟩, _⟩ := st
    exact PySem.W.kcp_self he hQ

/-- a dict's keys -/
theorem IterOn.keys {y : Str} {py : Pos} {d : Addr} {es : List Ent} (hh : A.handled = none) (x : DictG C.w p.G d es) : IterOn C A L p (.Name y py) (.ref d) es.length fun i v _ => ∃ q t, es[i]? = some q ∧ v = .str q.1 t := fun s S T => by
  obtain ⟨od, ep, e1, e2, e3⟩ := x.dictAt S
  have hne : d ≠ s.heap.objs.size := Nat.ne_of_lt (Heap.lt_size e1)
  have hl : (kvOf es).length = es.length := by simp [kvOf]
  refine wpAny_pyIter_dict x.1 e3 ?_
  have W := Walks.dictKeys (knd := PySem.strKind C.prog C.w) hh s.heap.objs.size d hne (kvOf es) ep
  have W' := PySem.W.KTurns.ofWalks (target := .Name y py) W fun i v s Q E st hQ => wpAny_pure hQ
  rw [hl] at W' ⊢
  refine ⟨_, _, _, _, _, _, _, rfl, rfl, { W' with item := fun i s Q E hi st hQ => W'.item i s Q E hi st hQ, go := fun i v s Q E hm hQ => W'.go i v s Q E hm fun h' hP st hk => hQ h' ?_ st hk }, ⟨⟨_, Heap.get?_push_size _ rfl, rfl, rfl⟩, e3.push _⟩,
    fun b o e => Heap.get?_push_of_some _ e, fun b hb => by rw [List.mem_singleton.mp hb]; exact get_size_none _, fun b hb => ?_, fun i h st b hb => ?_, fun i s Q E st hQ => W.self i s Q E (by rw [hl]; exact st) hQ⟩
  · obtain ⟨k, xv, h1, h2⟩ := hP
    simp only [kvOf, List.getElem?_map, Option.map_eq_some_iff] at h1
    obtain ⟨q, h3, h4⟩ := h1
    obtain ⟨t, rfl⟩ := Value.isStrOf_shape h2
    cases h4
    exact ⟨q, t, h3, rfl⟩
  · rcases List.mem_cons.mp hb with q | q
    · exact .inl (List.mem_singleton.mpr q)
    · obtain ⟨_, o, e, _⟩ := x
      exact .inr ⟨o, by rw [List.mem_singleton.mp q]; exact e⟩
  · rw [List.mem_singleton.mp hb]
    obtain ⟨_, ho, _⟩ := st.1
    rw [ho]; exact fun h => nomatch h

/-- range of one number -/
def RangeG (G : Addr → Option Obj) (r : Addr) (n : Nat) : Prop := ∃ t u v, G r = some { cls := .type "range", dict := none, data := .fields #[.int 0 t, .int n u, .int 1 v], slots := #[] }
theorem R_range {n : Nat} {t : Tok} {Q : Value → Pt → Prop} (h : ∀ r G', GLe p.G G' → RangeG G' r n → Q (.ref r) { p with G := G' }) : Run C A L (PySem.call (.type "range") [.int n t]) p Q := .of fun s S T => by
  have nn := S.none_at (get_size_none s.heap)
  refine call_range_1 ?_
  exact ⟨_, S.pushG rfl, Ext.pushG S, h _ _ (GLe.add nn.2.1) ⟨_, _, _, addG_self⟩⟩
theorem IterOn.range {y : Str} {py : Pos} {r : Addr} {n : Nat} (hh : A.handled = none) (x : RangeG p.G r n) (hn : n < 2 ^ 60) : IterOn C A L p (.Name y py) (.ref r) n fun i v _ => ∃ t, v = .int i t := fun s S T => by
  obtain ⟨t, u, v, e⟩ := x
  have e' := S.s0.gs _ _ e
  have hsz : Builtin.Range.rangeSize 0 n 1 = (n : Int) := by unfold Builtin.Range.rangeSize; split <;> simp <;> omega
  refine wpAny_pyIter_range e' (small_one (by omega) (by omega) (by omega) (by omega)) ?_
  have W := Walks.range (prog := C.prog) (w := C.w) hh s.heap.objs.size 0 1 n
  have W' := PySem.W.KTurns.ofWalks (target := .Name y py) W fun i v s Q E st hQ => wpAny_pure hQ
  refine ⟨_, _, _, _, _, _, _, rfl, rfl, { W' with item := fun i s Q E hi st hQ => W'.item i s Q E hi st hQ, go := fun i v s Q E hm hQ => W'.go i v s Q E hm fun h' hP st hk => hQ h' (by simpa using hP) st hk }, ?_,
    fun b o e => Heap.get?_push_of_some _ e, fun b hb => by rw [List.mem_singleton.mp hb]; exact get_size_none _, fun b hb => .inl hb, fun i h st b hb => ?_, fun i s Q E st hQ => W.self i s Q E st hQ⟩
  · show IsRangeIter _ _ _ _ _
    rw [hsz]; simpa using Heap.get?_push_size _ rfl
  · rw [List.mem_singleton.mp hb, st]; exact fun h => nomatch h
end
end Mine

open PySem PySem.Calls PyProof.Rows
set_option Elab.async false
set_option linter.unusedVariables false
namespace Mine

/-- a frozen list, its object to the letter -/
def ListG (G : Addr → Option Obj) (l : Addr) (vs : List Value) : Prop := ∃ o, G l = some o ∧ listC vs o
theorem ListG.mono {G G' : Addr → Option Obj} {l : Addr} {vs : List Value} (h : ListG G l vs) (x : GLe G G') : ListG G' l vs := let ⟨o, e, c⟩ := h; ⟨o, x _ _ e, c⟩
theorem ListG.at {G : Addr → Option Obj} {l : Addr} {vs : List Value} (h : ListG G l vs) : ListAt G l vs := let ⟨o, e, n, c⟩ := h; ⟨o, n, e, by rw [c], by rw [c]⟩
theorem ListG.new {G : Addr → Option Obj} {a : Addr} {vs : List Value} {o : Obj} (h : listC vs o) : ListG (addG G a o) a vs := ⟨o, addG_self, h⟩

theorem listC_map {f : Array Value → Array Value} {vs ys : List Value} {n : Nat} (h : f vs.toArray = ys.toArray) : listC ys (Obj.mapSeq f { cls := .type "list", data := .seq vs.toArray n }) := Exists.intro _ (by rw [← h]; rfl)
section
variable {C : Cx} {A : Around} {L : Addr} {p : Pt} {env : Env}
theorem ListG.isL {B : Heap} {h : Heap} {l : Addr} {vs : List Value} (x : ListG p.G l vs) (S : Sat B L p h) : ∃ n, IsL h l vs.toArray n := by
  obtain ⟨o, e, n, rfl⟩ := x
  exact ⟨n, S.s0.gs _ _ e⟩
theorem own_isL {B : Heap} {h : Heap} {l : Addr} {vs : List Value} (x : (l, listC vs) ∈ p.N) (S : Sat B L p h) : ∃ n, IsL h l vs.toArray n := by
  obtain ⟨o, e, n, rfl⟩ := S.s0.own _ x
  exact ⟨n, e⟩
theorem HasT.list {l : Addr} {vs : List Value} (x : ListG p.G l vs ∨ (l, listC vs) ∈ p.N) : HasT C L p (.ref l) "list" := fun s S => by
  rcases x with x | x
  · obtain ⟨n, e⟩ := x.isL S
    exact ⟨⟨_, e, rfl⟩, fun b q => by cases q; exact ⟨_, e, rfl⟩⟩
  · obtain ⟨n, e⟩ := own_isL x S
    exact ⟨⟨_, e, rfl⟩, fun b q => by cases q; exact ⟨_, e, rfl⟩⟩
theorem HasTy.listG {l : Addr} {vs : List Value} (x : ListG p.G l vs) : HasTy C L p (.ref l) "list" := fun s S => (HasT.list (.inl x) s S).1

structure SbQ (C : Cx) (A : Around) (L : Addr) (T : String) (Q : Value → Pt → Prop) (o i : Value) (p₂ : Pt) : Prop where
  ty : HasTy C L p₂ o T
  go : Run C A L (getItem o i) p₂ Q
theorem E_Sb {value slice : Expr} {pos : Pos} {T id : String} {Q : Value → Pt → Prop} (hl : typeLookup (.type T) "__getitem__" = Pure.pure (some (.builtin id)))
    (h : Run C A L (eval value env) p fun o p₁ => Run C A L (eval slice env) p₁ (SbQ C A L T Q o)) : Run C A L (eval (.Subscript value slice pos) env) p Q :=
  Run.of_eq (eval_Subscript ..) (.bind (h.mono fun o p₁ h₁ => .bind (.holding (h₁.mono fun i p₂ h₂ => .bind (.standAt (.bind (R_gip' h₂.1 hl (.bind (R_subscripted (h₂.2.mono fun r p₃ h₃ =>
    .bind (.of fun s S T => wpAny_letTemporaryGo ⟨p₃, S, .refl, Run.pure h₃⟩))))))))))) 

theorem R_append {l : Addr} {vs : List Value} {x : Value} {N' : List (Addr × Cell)} {Q : Value → Pt → Prop} (P : PutN p.N l (listC vs) (listC (vs ++ [x])) N') (hz : vs.length ≤ sizeLine) (h : Q .none { p with N := N' }) :
    Run C A L (PySem.call (.builtin "list.append") [.ref l, x]) p Q := .of fun s S T => by
  obtain ⟨n, e⟩ := own_isL P.mem S
  refine wpAny_list_append_plain ⟨n, e⟩ (fun h' hp hs => ?_) (by simpa using hz)
  obtain ⟨n', e'⟩ := hp
  exact ⟨_, S.putN P hs.extBut e' ⟨n', by simp⟩, Ext.putN P hs.extBut, h⟩
theorem R_pop {l : Addr} {vs : List Value} {x : Value} {N' : List (Addr × Cell)} {Q : Value → Pt → Prop} (P : PutN p.N l (listC (vs ++ [x])) (listC vs) N') (hz : vs.length < sizeLine) (h : Q x { p with N := N' }) :
    Run C A L (PySem.call (.builtin "list.pop") [.ref l]) p Q :=
  R_meets F.slot_list_pop F.entry_list_pop (F.args_list_pop_1 _) (HasT.list (.inr P.mem)) fun s S T => by
    obtain ⟨n, e⟩ := own_isL P.mem S
    have e1 : (vs ++ [x]).toArray.size - 1 = vs.length := by simp
    refine ⟨_, (MeetsSeq.list_pop_last l (vs ++ [x]).toArray n x (by rw [e1]; simp) (by simp; omega)).inModel _ _, e, ?_⟩
    rw [e1]
    refine ⟨_, S.putN P (Heap.SameBut.update ..).extBut (Heap.get?_update_self _ e rfl) ?_, Ext.putN P (Heap.SameBut.update ..).extBut, h⟩
    refine listC_map ?_
    simp [List.eraseIdx_append_of_length_le]
theorem B_addL {l b : Addr} {vs ws : List Value} {Q : Value → Pt → Prop} (hl : ListG p.G l vs) (hb : ListG p.G b ws) (hz : vs.length + ws.length ≤ sizeLine) (h : ∀ a, Q (.ref a) { p with N := (a, listC (vs ++ ws)) :: p.N }) :
    Run C A L (binaryOp .Add (.ref l) (.ref b)) p Q := .of fun s S T => by
  obtain ⟨n, e⟩ := hl.isL S
  obtain ⟨n2, e2⟩ := hb.isL S
  exact P.add_list e e2 ⟨_, S.pushN rfl ⟨0, by simp⟩, Ext.pushN, h _⟩ (by simpa using hz)

/-! slices -/
def SliceG (G : Addr → Option Obj) (a : Addr) (l u st : Value) : Prop := ∃ o, G a = some o ∧ o.cls = .type "slice" ∧ o.data = .fields #[l, u, st]
theorem E_Slice {lower upper step : Option Expr} {pos : Pos} {Q : Value → Pt → Prop}
    (h : Run C A L (evalPart lower env) p fun l p₁ => Run C A L (evalPart upper env) p₁ fun u p₂ => Run C A L (evalPart step env) p₂ fun st p₃ => ∀ a G', GLe p₃.G G' → SliceG G' a l u st → Q (.ref a) { p₃ with G := G' }) :
    Run C A L (eval (.Slice lower upper step pos) env) p Q := .of fun s S T => by
  refine wpAny_Slice (wpAny_mono (wpAny_toks (h.go s S T)) (fun l s₁ ⟨t₁, p₁, S₁, x₁, h₁⟩ => ?_) fun _ _ e => e.2)
  have T₁ := T.next x₁ t₁
  refine wpAny_mono (wpAny_toks (h₁.go s₁ S₁ T₁)) (fun u s₂ ⟨t₂, p₂, S₂, x₂, h₂⟩ => ?_) fun _ _ e => e.2.elim
  have T₂ := T₁.next x₂ t₂
  have y₂ := x₁.trans S S₁ x₂ t₂
  refine wpAny_mono (wpAny_toks (h₂.go s₂ S₂ T₂)) (fun st s₃ ⟨t₃, p₃, S₃, x₃, h₃⟩ => ?_) fun _ _ e => e.2.elim
  have y₃ := y₂.trans S S₂ x₃ t₃
  have nn := S₃.none_at (get_size_none s₃.heap)
  refine ⟨_, S₃.pushG rfl, y₃.trans S S₃ (Ext.pushG S₃) (Nat.le_refl _), h₃ _ _ (GLe.add nn.2.1) ⟨_, addG_self, rfl, rfl⟩⟩
theorem G_listS {l a : Addr} {vs : List Value} {vl vu vst : Value} {lo hi st : Option Int} {Q : Value → Pt → Prop} (hl : ListAt p.G l vs ∨ (l, listC vs) ∈ p.N) (hs : SliceG p.G a vl vu vst) (pl : IsPart vl lo) (pu : IsPart vu hi) (ps : IsPart vst st) (h0 : st ≠ some 0)
    (hz : vs.length ≤ sizeLine) (h : ∀ b, Q (.ref b) { p with N := (b, listC (slicePick vs.toArray lo hi st).toList) :: p.N }) : Run C A L (getItem (.ref l) (.ref a)) p Q := .of fun s S T => by
  obtain ⟨o, e, e2, e3⟩ := hs
  exact wpAny_getItem_list_slice (isList_of hl S) ⟨o, S.s0.gs _ _ e, e2, e3⟩ pl pu ps h0 ⟨_, S.pushN rfl ⟨0, by simp⟩, Ext.pushN, h _⟩ (by simpa using hz)
/-! lists against lists -/
theorem C_neL {l b : Addr} {vs : List Value} {Q : Value → Pt → Prop} (hu : A.units < cLine) (hl : ListAt p.G l vs ∨ (l, listC vs) ∈ p.N) (hb : (b, listC []) ∈ p.N) (h : Q (.bool (!vs.isEmpty)) p) : Run C A L (compareOp .NotEq (.ref l) (.ref b)) p Q := .of fun s S T => by
  have h1 := isList_of hl S
  have h2 := isList_of (.inr hb) S
  show wpAny _ A (richCompare .NotEq (.ref l) (.ref b)) _ _ s
  cases vs with
  | nil => exact SeqAt.RcNeAt.lists (e := fun _ => true) h1 h2 rfl hu (fun j a b => by simp at a) _ _ _ _ ⟨p, S, .refl, h⟩
  | cons v r => exact SeqAt.RcNeAt.lists_lengths h1 h2 (by simp) hu _ _ _ _ ⟨p, S, .refl, h⟩

end
end Mine

open PySem PySem.Calls PyProof.Rows
set_option Elab.async false
set_option linter.unusedVariables false
namespace Mine

/-- an address that the law's own run has made -/
def Fresh (C : Cx) (a : Addr) : Prop := ∀ b o, C.B.get? b = some o → b < a
theorem Sat.fresh {C : Cx} {L : Addr} {p : Pt} {h : Heap} (S : Sat C.B L p h) : Fresh C h.objs.size := fun b o e => Heap.lt_size (S.s0.base b o e)
section
variable {C : Cx} {A : Around} {L : Addr} {p : Pt} {env : Env}
theorem E_Dict0 {pos : Pos} {Q : Value → Pt → Prop} (h : ∀ a, Fresh C a → Q (.ref a) { p with N := (a, dictC C.w []) :: p.N }) : Run C A L (eval (.Dict [] [] pos) env) p Q :=
  Run.of_eq (eval_Dict_empty pos) (.bind (.standAt <| .of fun s S T => wpAny_newObj_type ⟨_, S.pushN rfl ⟨0, ⟨rfl, rfl, rfl⟩, rfl, List.nodup_nil⟩, Ext.pushN, h _ S.fresh⟩))
theorem S_dict {d : Addr} {es : List Ent} {k : Str} {t : Tok} {v : Value} {N' : List (Addr × Cell)} {Q : Unit → Pt → Prop} (P : PutN p.N d (dictC C.w es) (dictC C.w (dput es k t v)) N') (hz : es.length ≤ sizeLine) (h : Q () { p with N := N' }) :
    Run C A L (setItem (.ref d) (.str k t) v) p Q := .of fun s S T => by
  obtain ⟨o, ho, hc⟩ := S.s0.own _ P.mem
  exact wp_setItem ho hc hz fun h' o' ho' hc' hs' => ⟨_, S.putN P hs'.extBut ho' hc', Ext.putN P hs'.extBut, h⟩

def asPair (q : Ent) : Value × Value := (.str q.1 q.2.1, q.2.2)
theorem wp_storeAll {prog : Program} {w : World} {A : Around} {E : Value → Shared → Prop} {d : Addr} : ∀ (more es : List Ent) (o : Obj) (s : Shared) (Q : PUnit → Shared → Prop), s.heap.get? d = some o → dictC w es o → es.length + more.length ≤ sizeLine →
    (∀ h' o' tk, h'.get? d = some o' → dictC w (dputs es more) o' → Heap.SameBut d s.heap h' → Q PUnit.unit { s with heap := h', toks := tk }) →
    wpAny (model prog w) A (forIn (more.map asPair) PUnit.unit fun (x : Value × Value) (_ : PUnit) => (do dictSet d x.1 x.2; pure (ForInStep.yield PUnit.unit) : Sem (ForInStep PUnit))) Q E s
  | [], es, o, s, Q, ho, hc, _, hQ => wpAny_pure (by simpa using hQ s.heap o s.toks ho hc (Heap.SameBut.refl _ _))
  | q :: r, es, o, s, Q, ho, hc, hz, hQ => by
    rw [List.map_cons, List.forIn_cons]
    simp only [List.length_cons] at hz
    refine wpAny_bind (wpAny_bind (wp_dictSet ho hc (by omega) fun h₁ o₁ ho₁ hc₁ hs₁ => wpAny_pure ?_))
    refine wp_storeAll r _ o₁ _ Q ho₁ hc₁ (by have := dput_length es q.1 q.2.1 (asPair q).2; omega) fun h' o' tk ho' hc' hs' => ?_
    exact hQ h' o' tk ho' hc' (hs₁.trans hs')

theorem R_pairs_nil {Q : List (Value × Value) → Pt → Prop} (h : Q [] p) : Run C A L (evalPairs []) p Q := Run.pure h
theorem R_pairs_cons {k v : Sem Value} {rest : List (Sem Value × Sem Value)} {Q : List (Value × Value) → Pt → Prop} (h : Run C A L k p fun kv p₁ => Run C A L v p₁ fun vv p₂ => Run C A L (evalPairs rest) p₂ fun vs p₃ => Q ((kv, vv) :: vs) p₃) :
    Run C A L (evalPairs ((k, v) :: rest)) p Q := by
  rw [evalPairs]
  exact .bind (h.mono fun kv p₁ h₁ => .bind (.holding (h₁.mono fun vv p₂ h₂ => .bind (.holding (h₂.mono fun vs p₃ h₃ => .pure h₃)))))

theorem R_allocD {Q : Addr → Pt → Prop} (h : ∀ a, Fresh C a → a ∉ dom p.N → Q a { p with N := (a, dictC C.w []) :: p.N }) : Run C A L (alloc { cls := .type "dict", data := .dict #[] }) p Q := .of fun s S T =>
  wpAny_alloc ⟨_, S.pushN rfl ⟨0, ⟨rfl, rfl, rfl⟩, rfl, List.nodup_nil⟩, Ext.pushN, h _ S.fresh (S.none_at (get_size_none _)).2.2.1⟩
theorem R_subDict {pairs : List (Sem Value × Sem Value)} {Q : Addr → Pt → Prop} (hlen : pairs.length ≤ 15)
    (h : ∀ d, Fresh C d → d ∉ dom p.N → Run C A L (evalPairs pairs) { p with N := (d, dictC C.w []) :: p.N } fun vs p₁ => ∃ more N', vs = more.map asPair ∧ more.length ≤ 15 ∧ PutN p₁.N d (dictC C.w []) (dictC C.w (dputs [] more)) N' ∧ Q d { p₁ with N := N' }) :
    Run C A L (subDict pairs) p Q := by
  unfold subDict
  refine .bind (R_allocD fun d hd hn => .bind (.holding ?_))
  rw [if_pos hlen]
  refine .bind ((h d hd hn).mono fun vs p₁ ⟨more, N', e, hz, P, hq⟩ => .holding (.bind ?_))
  subst e
  refine .of fun s₁ S₁ T₁ => ?_
  obtain ⟨o, ho, hc⟩ := S₁.s0.own _ P.mem
  refine wp_storeAll more [] o s₁ _ ho hc (by rw [sizeLine_eq]; simp; omega) fun h' o' tk ho' hc' hs' => ?_
  exact ⟨_, S₁.putN P hs'.extBut ho' hc', Ext.putN P hs'.extBut, .pure (.pure hq)⟩

/-- a display of pairs alone -/
theorem E_DictP {keys : List (Option Expr)} {values : List Expr} {pos : Pos} {pairs : List (Sem Value × Sem Value)} {Q : Value → Pt → Prop}
    (hshape : (evalEachOpt keys env).zip ((evalEach values env).map fun v => do let x ← v; PySem.standAt pos; Pure.pure x) = pairs.map fun p => (some p.1, p.2)) (h0 : pairs ≠ []) (hlen : pairs.length ≤ 15)
    (h : Run C A L (subDict pairs) p fun d p₁ => Q (.ref d) p₁) : Run C A L (eval (.Dict keys values pos) env) p Q := by
  rw [arm_eval_Dict, hshape, dictDisplay_pairs pairs h0 (by omega)]
  exact .bind (.standAt (.bind (h.mono fun d p₁ h₁ => .pure h₁)))

end
end Mine

open PySem PySem.Calls PyProof.Rows
set_option Elab.async false
set_option linter.unusedVariables false
namespace Mine

def addGs (G : Addr → Option Obj) (as : List Addr) (h : Heap) : Addr → Option Obj := fun b => if b ∈ as then h.get? b else G b
section
variable {B : Heap} {L : Addr} {p : Pt} {h h' : Heap} {s : Shared}
theorem Sat.adds (S : Sat B L p h) (hk : ∀ b o, h.get? b = some o → h'.get? b = some o) {as : List Addr} {a : Addr} {c : Cell} {o : Obj} (ha : h.get? a = none) (ho : h'.get? a = some o) (hc : c o) (hn : ∀ b ∈ as, h.get? b = none) (hna : a ∉ as) :
    Sat B L { p with G := addGs p.G as h', N := (a, c) :: p.N } h' := by
  obtain ⟨aB, aG, aN, aL⟩ := S.none_at ha
  have S' := S.keep hk
  refine ⟨⟨S'.s0.base, fun b o e => ?_, fun q hq => ?_, fun b hb => ?_, fun b hb => ?_, List.nodup_cons.mpr ⟨aN, S.s0.nd⟩⟩, S'.ns, S.bL, ?_, fun hm => ?_, S.mnd⟩
  · simp only [addGs] at e
    split at e
    · exact e
    · exact S'.s0.gs b o e
  · rcases List.mem_cons.mp hq with e | hq
    · subst e; exact ⟨o, ho, hc⟩
    · exact S'.s0.own q hq
  · rcases List.mem_cons.mp hb with e | hb
    · exact e ▸ aB
    · exact S.s0.nB b hb
  · simp only [addGs]
    rcases List.mem_cons.mp hb with e | hb
    · rw [e, if_neg hna]; exact aG
    · rw [if_neg fun hm => (S.none_at (hn b hm)).2.2.1 hb]; exact S.s0.nG b hb
  · simp only [addGs]
    rw [if_neg fun hm => (S.none_at (hn L hm)).2.2.2 rfl]; exact S.gL
  · rcases List.mem_cons.mp hm with e | hm
    · exact aL e.symm
    · exact S.nL hm
theorem Ext.adds (S : Sat B L p s.heap) {tk : Nat} (hk : ∀ b o, s.heap.get? b = some o → h'.get? b = some o) {as : List Addr} {a : Addr} {c : Cell} (ha : s.heap.get? a = none) (hn : ∀ b ∈ as, s.heap.get? b = none) :
    Ext L p s { p with G := addGs p.G as h', N := (a, c) :: p.N } { s with heap := h', toks := tk } :=
  ⟨fun b o e _ _ => hk b o e, fun b o e => by
      simp only [addGs]
      rw [if_neg fun hm => by (have := (S.none_at (hn b hm)).2.1; rw [e] at this; cases this)]; exact e,
    fun b hb => by
      rcases hb with hb | hb
      · simp only [addGs] at hb
        split at hb
        · rename_i hm; exact .inr (.inr (hn b hm))
        · exact .inl hb
      · rcases List.mem_cons.mp hb with e | hb
        · exact .inr (.inr (e ▸ ha))
        · exact .inr (.inl hb), fun b hb => .inl (List.mem_cons_of_mem _ hb), rfl, rfl, Nat.le_refl _, .inl (Nat.le_refl _)⟩
end

section
variable {C : Cx} {A : Around} {L : Addr} {p : Pt} {env : Env}
theorem booked_keep {B h : Heap} (x : NoneBooked B) (hk : ∀ b o, B.get? b = some o → h.get? b = some o) : NoneBooked h := let ⟨mc, hn, hm⟩ := x; ⟨mc, hn.keeps hk, hm⟩
theorem R_replace {x y z : Str} {t u v : Tok} {Q : Value → Pt → Prop} (hnb : NoneBooked C.B) (hu : u ≠ 0) (hv : v ≠ 0) (huv : u ≠ v) (hb : x.length + (x.length + 1) * z.length ≤ 16777216) (h : ∀ tk, Q (.str (Txt.replace x y z) tk) p) :
    Run C A L (PySem.call (.builtin "str.replace") [.str x t, .str y u, .str z v]) p Q := .of fun s S T =>
  SC.replaceA hu hv huv hb (fun t' k => Post.same S (h t')) (booked_keep hnb S.s0.base)
end
end Mine

open PySem PySem.Calls PyProof.Rows
set_option Elab.async false
set_option linter.unusedVariables false
namespace Mine

section
variable {C : Cx} {A : Around} {L : Addr} {p : Pt} {env : Env}

/-- the values so far, each as it should be -/
def Made (R : Nat → Value → (Addr → Option Obj) → Nat → Prop) (idx : List Nat) (ys : List Value) (G : Addr → Option Obj) (k : Nat) : Prop :=
  ys.length = idx.length ∧ ∀ (j a : Nat) (y : Value), idx[j]? = some a → ys[j]? = some y → R a y G k
theorem Made.push {R : Nat → Value → (Addr → Option Obj) → Nat → Prop} {idx : List Nat} {ys : List Value} {G G' : Addr → Option Obj} {k k' a : Nat} {y : Value} (hm : ∀ a y G G' k k', R a y G k → GLe G G' → k ≤ k' → R a y G' k')
    (h : Made R idx ys G k) (hG : GLe G G') (hk : k ≤ k') (hy : R a y G' k') : Made R (idx ++ [a]) (ys ++ [y]) G' k' := by
  refine ⟨by simp [h.1], fun j b z hb hz => ?_⟩
  rcases Nat.lt_trichotomy j idx.length with hj | hj | hj
  · rw [List.getElem?_append_left hj] at hb
    rw [List.getElem?_append_left (by rw [h.1]; exact hj)] at hz
    exact hm _ _ _ _ _ _ (h.2 j b z hb hz) hG hk
  · subst hj
    rw [List.getElem?_append_right (Nat.le_refl _)] at hb
    rw [List.getElem?_append_right (by rw [h.1]; exact Nat.le_refl _), h.1] at hz
    simp at hb hz
    subst hb; subst hz
    exact hy
  · rw [List.getElem?_eq_none (by simp; omega)] at hb; cases hb
theorem Made.mono {R : Nat → Value → (Addr → Option Obj) → Nat → Prop} {idx : List Nat} {ys : List Value} {G G' : Addr → Option Obj} {k k' : Nat} (hm : ∀ a y G G' k k', R a y G k → GLe G G' → k ≤ k' → R a y G' k')
    (h : Made R idx ys G k) (hG : GLe G G') (hk : k ≤ k') : Made R idx ys G' k' := ⟨h.1, fun j a y h1 h2 => hm _ _ _ _ _ _ (h.2 j a y h1 h2) hG hk⟩
theorem Made.nil {R : Nat → Value → (Addr → Option Obj) → Nat → Prop} {G : Addr → Option Obj} {k : Nat} : Made R [] [] G k := ⟨rfl, fun j a y h => by simp at h⟩

abbrev MonoR (R : Nat → Value → (Addr → Option Obj) → Nat → Prop) : Prop := ∀ a y G G' k k', R a y G k → GLe G G' → k ≤ k' → R a y G' k'

/-- a comprehension's invariant: nothing owned changes -/
def CompI (R : Nat → Value → (Addr → Option Obj) → Nat → Prop) (sel : Nat → Bool) (p₁ : Pt) (M : List (Str × Option Value) → Prop) (i : Nat) (ys : List Value) (p : Pt) : Prop :=
  ∃ G' m' k', p = ⟨G', m', p₁.N, k'⟩ ∧ M m' ∧ GLe p₁.G G' ∧ p₁.k ≤ k' ∧ Made R ((List.range i).filter sel) ys G' k'
abbrev OneM (x : Str) (m : List (Str × Option Value)) : Prop := ∃ o, m = [(x, o)]
abbrev TwoM (x y : Str) (m : List (Str × Option Value)) : Prop := ∃ o o', m = [(x, o), (y, o')]

/-- what an element does -/
inductive EltQ (R : Nat → Value → (Addr → Option Obj) → Nat → Prop) (i : Nat) (p : Pt) (y : Value) (p₄ : Pt) : Prop
  | mk (G' : Addr → Option Obj) (k' : Nat) (e : p₄ = ⟨G', p.m, p.N, k'⟩) (h1 : GLe p.G G') (h2 : p.k ≤ k') (h3 : R i y G' k') : EltQ R i p y p₄
inductive TstQ (b : Bool) (p : Pt) (Q : Pt → Prop) (b' : Bool) (p₄ : Pt) : Prop
  | mk (e : b' = b) (G' : Addr → Option Obj) (k' : Nat) (e' : p₄ = ⟨G', p.m, p.N, k'⟩) (h1 : GLe p.G G') (h2 : p.k ≤ k') (h3 : Q p₄) : TstQ b p Q b' p₄
def Elt (C : Cx) (A : Around) (Cc : Addr) (elt : Expr) (cenv : Env) (R : Nat → Value → (Addr → Option Obj) → Nat → Prop) (i : Nat) (p : Pt) : Prop :=
  Run C A Cc (eval elt cenv) p (EltQ R i p)
/-- what a test does -/
def Tst (C : Cx) (A : Around) (Cc : Addr) (ifs : List Expr) (cenv : Env) (b : Bool) (p : Pt) (Q : Pt → Prop) : Prop :=
  Run C A Cc (forIn ifs true fun c r => if r = true then do let ok ← isTrue c cenv (eval c cenv); Pure.pure (ForInStep.yield ok) else Pure.pure (ForInStep.yield r)) p (TstQ b p Q)

theorem filter_range_succ (sel : Nat → Bool) (i : Nat) : (List.range (i + 1)).filter sel = (List.range i).filter sel ++ if sel i then [i] else [] := by
  rw [List.range_succ, List.filter_append]
  congr 1
  cases h : sel i <;> simp [h]

theorem comp_step1 {R : Nat → Value → (Addr → Option Obj) → Nat → Prop} {sel : Nat → Bool} (hm : MonoR R) {elt : Expr} {ifs : List Expr} {x : Str} {px : Pos} {scope : Scope} {cl : List (Str × Addr)} {P : Nat → Value → Heap → Prop} {p₁ : Pt} {n : Nat}
    (hx : (compEnvC scope cl 0 env).kindOf x = some .local) (hk : (relabel scope env).kind = .function)
    (h : ∀ Cc i v G' k', i < n → (∃ h', P i v h') → GLe p₁.G G' → p₁.k ≤ k' → Tst C A Cc ifs (compEnvC scope cl Cc env) (sel i) ⟨G', [(x, some v)], p₁.N, k'⟩ fun p₄ => sel i = true → Elt C A Cc elt (compEnvC scope cl Cc env) R i p₄)
    (Cc : Addr) (i : Nat) (ys : List Value) (p₂ : Pt) (hi : i < n) (hI : CompI R sel p₁ (OneM x) i ys p₂) : AsgRun C A Cc (.Name x px) (compEnvC scope cl Cc env) (P i) p₂ fun p₃ =>
      Run C A Cc (forIn ifs true fun c r => if r = true then do let ok ← isTrue c (compEnvC scope cl Cc env) (eval c (compEnvC scope cl Cc env)); Pure.pure (ForInStep.yield ok) else Pure.pure (ForInStep.yield r)) p₃ fun b p₄ =>
        if b then Run C A Cc (eval elt (compEnvC scope cl Cc env)) p₄ (fun y p₅ => CompI R sel p₁ (OneM x) (i + 1) (ys ++ [y]) p₅) else CompI R sel p₁ (OneM x) (i + 1) ys p₄ := by
  obtain ⟨G', m', k', rfl, ⟨o, rfl⟩, hG, hk', hM⟩ := hI
  refine AsgRun.name fun v hv => storeLoc .head ?_ rfl hk hx
  refine (h Cc i v G' k' hi hv hG hk').mono fun b p₄ ⟨hb, G₄, k₄, e4, hG4, hk4, hq⟩ => ?_
  subst hb; subst e4
  cases hs : sel i with
  | true =>
    refine (hq hs).mono fun y p₅ ⟨G₅, k₅, e5, hG5, hk5, hy⟩ => ?_
    subst e5
    refine ⟨G₅, _, k₅, rfl, ⟨_, rfl⟩, hG.trans (GLe.trans hG4 hG5), Nat.le_trans hk' (Nat.le_trans hk4 hk5), ?_⟩
    rw [filter_range_succ, hs]
    exact hM.push hm (GLe.trans hG4 hG5) (Nat.le_trans hk4 hk5) hy
  | false =>
    refine ⟨G₄, _, k₄, rfl, ⟨_, rfl⟩, hG.trans hG4, Nat.le_trans hk' hk4, ?_⟩
    rw [filter_range_succ, hs]
    simpa using hM.mono hm hG4 hk4
theorem comp_step2 {R : Nat → Value → (Addr → Option Obj) → Nat → Prop} {sel : Nat → Bool} (hh : A.handled = none) (hm : MonoR R) {elt : Expr} {ifs : List Expr} {x y : Str} {px py tp : Pos} {kk : Nat} {scope : Scope} {cl : List (Str × Addr)} {P : Nat → Value → Heap → Prop} {p₁ : Pt} {n : Nat}
    (hx : (compEnvC scope cl 0 env).kindOf x = some .local) (hy : (compEnvC scope cl 0 env).kindOf y = some .local) (hk : (relabel scope env).kind = .function)
    (h : ∀ Cc i v h' G' k', i < n → P i v h' → GLe p₁.G G' → p₁.k ≤ k' → ∃ T a b, v = .ref T ∧ (TupAt p₁.G T [a, b] ∨ h'.IsTuple T #[a, b]) ∧
      Tst C A Cc ifs (compEnvC scope cl Cc env) (sel i) ⟨G', [(x, some a), (y, some b)], p₁.N, k'⟩ fun p₄ => sel i = true → Elt C A Cc elt (compEnvC scope cl Cc env) R i p₄)
    (Cc : Addr) (i : Nat) (ys : List Value) (p₂ : Pt) (hi : i < n) (hI : CompI R sel p₁ (TwoM x y) i ys p₂) : AsgRun C A Cc (.Tuple [.Name x px, .Name y py] kk tp) (compEnvC scope cl Cc env) (P i) p₂ fun p₃ =>
      Run C A Cc (forIn ifs true fun c r => if r = true then do let ok ← isTrue c (compEnvC scope cl Cc env) (eval c (compEnvC scope cl Cc env)); Pure.pure (ForInStep.yield ok) else Pure.pure (ForInStep.yield r)) p₃ fun b p₄ =>
        if b then Run C A Cc (eval elt (compEnvC scope cl Cc env)) p₄ (fun z p₅ => CompI R sel p₁ (TwoM x y) (i + 1) (ys ++ [z]) p₅) else CompI R sel p₁ (TwoM x y) (i + 1) ys p₄ := by
  obtain ⟨G', m', k', rfl, ⟨o, o', rfl⟩, hG, hk', hM⟩ := hI
  refine AsgRun.pair hh fun v h' hP => ?_
  obtain ⟨T, a, b, e, ht, hq⟩ := h Cc i v h' G' k' hi hP hG hk'
  refine ⟨T, a, b, e, ht.imp (fun t => t.mono hG) id, storeLoc .head (storeLoc (.tail .head) ?_ rfl hk hy) rfl hk hx⟩
  refine hq.mono fun b p₄ ⟨hb, G₄, k₄, e4, hG4, hk4, hq⟩ => ?_
  subst hb; subst e4
  cases hs : sel i with
  | true =>
    refine (hq hs).mono fun y p₅ ⟨G₅, k₅, e5, hG5, hk5, hy⟩ => ?_
    subst e5
    refine ⟨G₅, _, k₅, rfl, ⟨_, _, rfl⟩, hG.trans (GLe.trans hG4 hG5), Nat.le_trans hk' (Nat.le_trans hk4 hk5), ?_⟩
    rw [filter_range_succ, hs]
    exact hM.push hm (GLe.trans hG4 hG5) (Nat.le_trans hk4 hk5) hy
  | false =>
    refine ⟨G₄, _, k₄, rfl, ⟨_, _, rfl⟩, hG.trans hG4, Nat.le_trans hk' hk4, ?_⟩
    rw [filter_range_succ, hs]
    simpa using hM.mono hm hG4 hk4
theorem Tst.none {Cc : Addr} {cenv : Env} {Q : Pt → Prop} (h : Q p) : Tst C A Cc [] cenv true p Q := R_tests_nil ⟨rfl, p.G, p.k, rfl, GLe.refl _, Nat.le_refl _, h⟩

/-- [elt for x in iter], and with a test -/
inductive Comp1Q (C : Cx) (A : Around) (env : Env) (R : Nat → Value → (Addr → Option Obj) → Nat → Prop) (sel : Nat → Bool) (cl : List (Str × Addr)) (elt : Expr) (ifs : List Expr) (x : Str) (px : Pos) (scope : Scope) (L : Addr) (Q : Value → Pt → Prop) (xv : Value) (p₁ : Pt) : Prop
  | mk (n : Nat) (P : Nat → Value → Heap → Prop) (it : IterOn C A L p₁ (.Name x px) xv n P) (hn : n ≤ sizeLine)
      (step : ∀ Cc i v G' k', i < n → (∃ h', P i v h') → GLe p₁.G G' → p₁.k ≤ k' → Tst C A Cc ifs (compEnvC scope cl Cc env) (sel i) ⟨G', [(x, some v)], p₁.N, k'⟩ fun p₄ => sel i = true → Elt C A Cc elt (compEnvC scope cl Cc env) R i p₄)
      (fin : ∀ D ys G' k', GLe p₁.G G' → p₁.k ≤ k' → Made R ((List.range n).filter sel) ys G' k' → Q (.ref D) ⟨G', p₁.m, (D, listC ys) :: p₁.N, k'⟩) : Comp1Q C A env R sel cl elt ifs x px scope L Q xv p₁
end
end Mine

open PySem PySem.Calls PyProof.Rows
set_option Elab.async false
set_option linter.unusedVariables false
set_option maxRecDepth 100000
namespace Mine
open PySem.W (Frag InstAt findIn typeIn specialIn clsIn plainGet hasDictIn plainOver takerIn noGet handedIn getL putL putN dictOf slotIn takesIn instObj emptyDict isClsIn makesIn)
open Builtin Builtin.ObjectAttr Builtin.Getset_descriptor

/-! state-level stores into a made object -/
section
variable {prog : Program} {w : World} {A : Around} {E : Value → Shared → Prop} {s : Shared} {K : Frag} {x Cc p : Addr} {ox : Obj} {name : Str} {v : Value} {i : Nat}
theorem wp_osaOwn {R : Result → Shared → Prop} {es : List DictEntry} {n : Nat} {dx : Addr} {tk : Tok} (X : K.In s.heap) (I : InstAt s.heap x ox Cc (some (dictOf es n))) (hd : ox.dict = some dx) (hD : s.heap.get? dx = some (dictOf es n))
    (hp : plainOver K Cc = true) (ht : takerIn K Cc name = some none) (hh : hasDictIn K Cc = true) (hl : (getL name es).isSome = true) (hz : es.length ≤ 900)
    (hR : R (.ok (.ret .none)) { s with heap := s.heap.update dx (Obj.putName name (PyData.keyHash w.params name) (.str name s.toks) v), toks := s.toks + 1 }) :
    codeAny (model prog w) A (.call (.builtin "object.__setattr__") ⟨[.ref x, .str name tk, v], []⟩) R s := by
  refine PySem.W.osa_open X I hp ht fun b => ?_
  obtain ⟨cd, hc, hd'⟩ := PySem.W.any_some hh
  obtain ⟨hx, hcl, hn, -⟩ := I
  obtain ⟨oc, odi, oda, osl⟩ := ox
  dsimp only at hcl hd
  subst hcl hd
  refine wpAny_bind (wpAny_pure (wpAny_bind (wpAny_bind (wpAny_loadPart hx (wpAny_bind ((PySem.W.looks_clsIn X hc).here ?_))))))
  rw [hd']
  refine wpAny_pure (a := some dx) (wpAny_bind (wpAny_pure (wpAny_bind ?_)))
  unfold nsSet
  refine wpAny_bind (wpAny_bind (wpAny_askSetting (wpAny_pure (wpAny_bind (wpAny_mkText (wpAny_bind (wpAny_loadPart hD ?_)))))))
  dsimp only
  have c : (!es.toArray.any (·.key.isStr name) && es.toArray.any (·.refKey)) = false := by
    rw [← Array.any_toList, ← Array.any_toList]
    unfold getL at hl
    split at hl
    · rename_i en he
      rw [List.any_eq_true.mpr ⟨en, List.mem_of_find?_eq_some he, List.find?_some he⟩]; rfl
    · split at hl
      · cases hl
      · rename_i z; rw [Bool.not_eq_true] at z; rw [z, Bool.and_false]
  rw [aRefKeyMayBeTheName_at, c]
  refine wpAny_updatePart hD ?_
  have e := PySem.W.putName_dict name (PyData.keyHash w.params name) (.str name s.toks) v es n
  have D' : (s.heap.update dx (Obj.putName name (PyData.keyHash w.params name) (.str name s.toks) v)).get? dx = some (dictOf (putL name (PyData.keyHash w.params name) (.str name s.toks) v es) (putN name es n)) := by
    rw [← e]; exact Heap.get?_update_self _ hD (by rw [e]; rfl)
  have hlen : ∀ (hsh : Int) (key : Value) (l : List DictEntry), (putL name hsh key v l).length ≤ l.length + 1 := by
    intro hsh key l
    induction l with
    | nil => exact Nat.le_refl _
    | cons a r ih =>
      unfold putL
      split <;> simp <;> omega
  have hl2 := hlen (PyData.keyHash w.params name) (.str name s.toks) es
  refine wpAny_bind (wpAny_lookBehind D' (pastItsLine_dict (by rw [List.size_toArray, sizeLine_eq]; omega)) ?_)
  exact wpAny_pure hR
theorem wp_setOwn {es : List DictEntry} {n : Nat} {dx : Addr} {Q : Unit → Shared → Prop} (X : K.In s.heap) (I : InstAt s.heap x ox Cc (some (dictOf es n))) (hd : ox.dict = some dx) (hD : s.heap.get? dx = some (dictOf es n))
    (hs : findIn K (.ref Cc) "__setattr__" = some (some (.builtin "object.__setattr__"))) (hp : plainOver K Cc = true) (ht : takerIn K Cc name = some none) (hh : hasDictIn K Cc = true) (hl : (getL name es).isSome = true) (hz : es.length ≤ 900)
    (hQ : Q () { s with heap := s.heap.update dx (Obj.putName name (PyData.keyHash w.params name) (.str name (s.toks + 1)) v), toks := s.toks + 1 + 1 }) : wpAny (model prog w) A (setAttr (.ref x) name v) Q E s :=
  PySem.W.set_plain X I hs (wp_osaOwn (s := { s with toks := s.toks + 1 }) X I hd hD hp ht hh hl hz hQ)

/-- a slot's store -/
theorem wp_slotSet {R : Result → Shared → Prop} {od : Option Obj} (X : K.In s.heap) (I : InstAt s.heap x ox Cc od) (hp : slotIn K p Cc = some i) (hi : i < 1000)
    (hR : R (.ok (.ret .none)) { s with heap := s.heap.update x fun o => { o with slots := (o.slots ++ Array.replicate (i + 1 - o.slots.size) none).setIfInBounds i (some v) } }) :
    codeAny (model prog w) A (.call (.builtin "member_descriptor.__set__") ⟨[.ref p, .ref x, v], []⟩) R s := by
  obtain ⟨n, tn, owner, behind, tb, d, sl, cd, ho, hc, hm, hb, rfl⟩ := PySem.W.slot_of X hp
  obtain ⟨hh, g, dr, t, os⟩ := s
  have L0 := I.type (M := model prog w)
  have L1 := PySem.W.looks_mroIn (M := model prog w) X hm
  have L2 : PySem.W.Looks (model prog w) hh (Slots.slotNamesOf (.ref Cc)) cd.slotNames := (PySem.W.looks_clsIn X hc).andThen .now
  have hx := I.at_
  dsimp only at ho hx L0 L1
  have f0 := PySem.W.looks_field (M := model prog w) ho 0 (v := .str n tn) rfl
  have f1 := PySem.W.looks_field (M := model prog w) ho 1 (v := owner) rfl
  have f3 := PySem.W.looks_field (M := model prog w) ho 3 (v := .builtin "proto.slot#set") rfl
  have f4 := PySem.W.looks_field (M := model prog w) ho 4 (v := .int behind tb) rfl
  refine codeAny_call_builtin PySem.W.KF.slot_mset.plain PySem.W.KF.entry_mset (PySem.W.KF.slot_mset.check _ _ _ _ _ _ _ _ ⟨_, ho, rfl⟩ (PySem.W.KF.args_mset _ _ _) ?_)
  unfold Builtin.«member_descriptor.__set__» descrSet descrStoreThrough descrCheckInstance descrNameAndClass isInstance
  have f5 : PySem.W.Looks (model prog w) hh (descrItself (.ref p)) [.ref p] := ((PySem.W.Looks.ld (part := none) ho).andThen .now).andThen (PySem.W.Looks.of_pure (by kernel_rfl))
  repeat lk
  refine ⟨Code.quiet_builtin _ (by decide +kernel), codeAny_builtin PySem.W.KF.entry_slotset ?_⟩
  unfold Builtin.«proto.slot#set» Slots.target
  repeat lk
  rw [if_neg hb]
  refine wpAny_pure (wpAny_bind ?_)
  unfold setSlotAt
  dsimp only
  rw [if_neg (by rw [sizeLine_eq]; omega)]
  exact wpAny_updatePart hx (wpAny_pure hR)
theorem wp_setSlot {od : Option Obj} {Q : Unit → Shared → Prop} (X : K.In s.heap) (I : InstAt s.heap x ox Cc od) (hs : findIn K (.ref Cc) "__setattr__" = some (some (.builtin "object.__setattr__"))) (hp : plainOver K Cc = true)
    (ht : takerIn K Cc name = some (some (.ref p))) (hT : typeIn K (.ref p) = some (.type "member_descriptor")) (hsl : slotIn K p Cc = some i) (hi : i < 1000)
    (hQ : Q () { s with heap := s.heap.update x fun o => { o with slots := (o.slots ++ Array.replicate (i + 1 - o.slots.size) none).setIfInBounds i (some v) }, toks := s.toks + 1 }) : wpAny (model prog w) A (setAttr (.ref x) name v) Q E s :=
  PySem.W.set_plain X I hs (PySem.W.osa_descr (s := { s with toks := s.toks + 1 }) PySem.W.KF.slot_mset X I hp ht hT (wp_slotSet (s := { s with toks := s.toks + 1 }) X I hsl hi hQ))
theorem wp_getSlot {od : Obj} {expr : Bool} {Q : Value → Shared → Prop} (X : K.In s.heap) (I : InstAt s.heap x ox Cc (some od)) (hg : plainGet K Cc name = true) (hc : isClsIn K Cc = true)
    (ha : findIn K (.ref Cc) name = some (some (.ref p))) (hn : specialIn K (.ref p) "__get__" = some (some (.builtin "member_descriptor.__get__"))) (ht : takesIn K (.ref p) = some true) (hp : slotIn K p Cc = some i)
    (hv : (ox.slots[i]?).join = some v) (hh : handedIn v = true) (h : Q v { s with toks := s.toks + 1 }) : wpAny (model prog w) A (getAttr (.ref x) name expr) Q E s :=
  PySem.W.get_bind X I (PySem.W.plainGet_of hg).1 (PySem.W.findObj_data hc ha hn ht) (PySem.W.plainGet_of hg).2 (wpAny_call (PySem.W.slot_get (s := { s with toks := s.toks + 1 }) X I hp hv (PySem.W.handed_on hh h)))
end
end Mine

open PySem PySem.Calls PyProof.Rows
set_option Elab.async false
set_option linter.unusedVariables false
set_option maxRecDepth 100000
namespace Mine
open PySem.W (Frag InstAt findIn typeIn specialIn clsIn plainGet hasDictIn plainOver takerIn noGet handedIn getL putL putN dictOf slotIn takesIn instObj emptyDict isClsIn makesIn isFn)

/-- an attribute that lives in the object's own dict -/
structure OwnAttr (K : Frag) (Cc : Addr) (name : Str) : Prop where
  get : plainGet K Cc name = true
  hd : hasDictIn K Cc = true
  fnd : findIn K (.ref Cc) name = some none
  set : findIn K (.ref Cc) "__setattr__" = some (some (.builtin "object.__setattr__"))
  po : plainOver K Cc = true
  tk : takerIn K Cc name = some none
/-- an attribute that lives in a slot -/
structure SlotAttr (K : Frag) (Cc : Addr) (name : Str) (p i : Nat) : Prop where
  get : plainGet K Cc name = true
  cls : isClsIn K Cc = true
  fnd : findIn K (.ref Cc) name = some (some (.ref p))
  spec : specialIn K (.ref p) "__get__" = some (some (.builtin "member_descriptor.__get__"))
  takes : takesIn K (.ref p) = some true
  set : findIn K (.ref Cc) "__setattr__" = some (some (.builtin "object.__setattr__"))
  po : plainOver K Cc = true
  tk : takerIn K Cc name = some (some (.ref p))
  ty : typeIn K (.ref p) = some (.type "member_descriptor")
  sl : slotIn K p Cc = some i
  hi : i < 1000
structure MethAttr (K : Frag) (Cc : Addr) (name : Str) (f : Addr) : Prop where
  get : plainGet K Cc name = true
  fnd : findIn K (.ref Cc) name = some (some (.ref f))
  ty : typeIn K (.ref f) = some (.type "function")

inductive AttrEs : List DictEntry → List (Str × Value) → Prop
  | nil : AttrEs [] []
  | cons {h : Int} {x : Str} {t : Tok} {v : Value} {es : List DictEntry} {kv : List (Str × Value)} : AttrEs es kv → AttrEs (⟨h, .str x t, v⟩ :: es) ((x, v) :: kv)
def kvput : List (Str × Value) → Str → Value → List (Str × Value)
  | [], x, v => [(x, v)]
  | q :: r, x, v => if q.1 = x then (x, v) :: r else q :: kvput r x v
def kvget : List (Str × Value) → Str → Option Value
  | [], _ => none
  | q :: r, x => if q.1 = x then some q.2 else kvget r x
def attrC (kv : List (Str × Value)) : Cell := fun o => ∃ es n, o = dictOf es n ∧ AttrEs es kv
theorem isStr_eq (x y : Str) (t : Tok) : (Value.str x t).isStr y = decide (x = y) := by
  show (x == y) = _
  by_cases h : x = y
  · subst h; simp
  · rw [decide_eq_false h]; exact beq_eq_false_iff_ne.mpr h
theorem AttrEs.noref {es : List DictEntry} {kv : List (Str × Value)} (h : AttrEs es kv) : es.any (·.refKey) = false := by
  induction h with
  | nil => rfl
  | cons _ ih => rw [List.any_cons, ih]; rfl
theorem AttrEs.getL {es : List DictEntry} {kv : List (Str × Value)} (h : AttrEs es kv) (x : Str) : PySem.W.getL x es = some (kvget kv x) := by
  have hr := h.noref
  unfold PySem.W.getL
  rw [if_neg (by rw [hr]; exact Bool.false_ne_true)]
  clear hr
  induction h with
  | nil => rfl
  | @cons hs y t v es kv _ ih =>
    have e1 : (⟨hs, Value.str y t, v⟩ : DictEntry).key.isStr x = decide (y = x) := isStr_eq ..
    unfold kvget
    by_cases hy : y = x
    · rw [List.find?_cons_of_pos (by rw [e1]; exact decide_eq_true hy), if_pos hy]
    · rw [List.find?_cons_of_neg (by rw [e1, decide_eq_false hy]; exact Bool.false_ne_true), if_neg hy]; exact ih
theorem AttrEs.put {es : List DictEntry} {kv : List (Str × Value)} (h : AttrEs es kv) (x : Str) (hs : Int) (t : Tok) (v : Value) : AttrEs (PySem.W.putL x hs (.str x t) v es) (kvput kv x v) := by
  induction h with
  | nil => exact .cons .nil
  | @cons h' y t' v' es kv hr ih =>
    unfold PySem.W.putL kvput
    rw [show (⟨h', Value.str y t', v'⟩ : DictEntry).key.isStr x = decide (y = x) from isStr_eq ..]
    by_cases hy : y = x
    · subst hy; simp only [decide_true, if_true]; exact .cons hr
    · rw [if_neg (by simpa using hy), if_neg hy]; exact .cons ih
theorem AttrEs.len {es : List DictEntry} {kv : List (Str × Value)} (h : AttrEs es kv) : es.length = kv.length := by
  induction h with
  | nil => rfl
  | cons _ ih => simp [ih]

/-- an object with slots -/
def slotC (Cc dx : Addr) (vs : List (Option Value)) : Cell := fun o => o = { instObj Cc dx with slots := vs.toArray }
/-- an own dict, as it is made -/
def emptyC : Cell := fun o => o = emptyDict
def slput (vs : List (Option Value)) (i : Nat) (v : Value) : List (Option Value) := (vs ++ List.replicate (i + 1 - vs.length) none).set i (some v)

section
variable {C : Cx} {A : Around} {L : Addr} {p : Pt} {env : Env} {K : Frag} {x dx Cc : Addr} {name : Str}
theorem R_getOwn {kv : List (Str × Value)} {v : Value} {expr : Bool} {Q : Value → Pt → Prop} (X : K.In C.B) (a : OwnAttr K Cc name) (hx : p.G x = some (instObj Cc dx)) (hd : (dx, attrC kv) ∈ p.N) (hv : kvget kv name = some v) (hh : handedIn v = true) (h : Q v p) :
    Run C A L (getAttr (.ref x) name expr) p Q := .of fun s S T => by
  obtain ⟨o, ho, es, n, rfl, hE⟩ := S.s0.own _ hd
  have I : InstAt s.heap x (instObj Cc dx) Cc (some (dictOf es n)) := ⟨S.s0.gs _ _ hx, rfl, rfl, ho⟩
  have hl : PySem.W.getL name es = some (some v) := by rw [hE.getL, hv]
  exact PySem.W.get_value (X.keeps S.s0.base) I (PySem.W.plainGet_of a.get).1 (PySem.W.findObj_own a.hd a.fnd rfl hl) hh (Post.same S h)
theorem R_setOwn {kv : List (Str × Value)} {v : Value} {N' : List (Addr × Cell)} {Q : Unit → Pt → Prop} (X : K.In C.B) (a : OwnAttr K Cc name) (hx : p.G x = some (instObj Cc dx)) (P : PutN p.N dx (attrC kv) (attrC (kvput kv name v)) N') (hz : kv.length ≤ 900) (h : Q () { p with N := N' }) :
    Run C A L (setAttr (.ref x) name v) p Q := .of fun s S T => by
  obtain ⟨o, ho, es, n, rfl, hE⟩ := S.s0.own _ P.mem
  have I : InstAt s.heap x (instObj Cc dx) Cc (some (dictOf es n)) := ⟨S.s0.gs _ _ hx, rfl, rfl, ho⟩
  refine wp_setOwn (X.keeps S.s0.base) I rfl ho a.set a.po a.tk a.hd (by rw [hE.getL]; rfl) (by rw [hE.len]; exact hz) ?_
  have e := PySem.W.putName_dict name (PyData.keyHash C.w.params name) (.str name (s.toks + 1)) v es n
  refine ⟨_, S.putN P (Heap.SameBut.update ..).extBut (Heap.get?_update_self _ ho (by rw [e]; rfl)) ⟨_, _, e, hE.put ..⟩, Ext.putN P (Heap.SameBut.update ..).extBut, h⟩
theorem R_getSlot {q i : Nat} {vs : List (Option Value)} {v : Value} {expr : Bool} {Q : Value → Pt → Prop} (X : K.In C.B) (a : SlotAttr K Cc name q i) (hx : (x, slotC Cc dx vs) ∈ p.N ∨ ∃ o, p.G x = some o ∧ slotC Cc dx vs o) (hd : p.G dx = some emptyDict) (hv : vs[i]? = some (some v)) (hh : handedIn v = true) (h : Q v p) :
    Run C A L (getAttr (.ref x) name expr) p Q := .of fun s S T => by
  have ho : s.heap.get? x = some { instObj Cc dx with slots := vs.toArray } := by
    rcases hx with hx | ⟨o, e, rfl⟩
    · obtain ⟨o, ho, rfl⟩ := S.s0.own _ hx; exact ho
    · exact S.s0.gs _ _ e
  have I : InstAt s.heap x { instObj Cc dx with slots := vs.toArray } Cc (some emptyDict) := ⟨ho, rfl, rfl, S.s0.gs _ _ hd⟩
  exact wp_getSlot (X.keeps S.s0.base) I a.get a.cls a.fnd a.spec a.takes a.sl (by show (vs.toArray[i]?).join = _; simp [hv]) hh (Post.same S h)
theorem R_setSlot {q i : Nat} {vs : List (Option Value)} {v : Value} {N' : List (Addr × Cell)} {Q : Unit → Pt → Prop} (X : K.In C.B) (a : SlotAttr K Cc name q i) (P : PutN p.N x (slotC Cc dx vs) (slotC Cc dx (slput vs i v)) N') (hd : p.G dx = some emptyDict) (h : Q () { p with N := N' }) :
    Run C A L (setAttr (.ref x) name v) p Q := .of fun s S T => by
  obtain ⟨o, ho, rfl⟩ := S.s0.own _ P.mem
  have I : InstAt s.heap x { instObj Cc dx with slots := vs.toArray } Cc (some emptyDict) := ⟨ho, rfl, rfl, S.s0.gs _ _ hd⟩
  refine wp_setSlot (X.keeps S.s0.base) I a.set a.po a.tk a.ty a.sl a.hi ?_
  refine ⟨_, S.putN P (Heap.SameBut.update ..).extBut (Heap.get?_update_self _ ho rfl) ?_, Ext.putN P (Heap.SameBut.update ..).extBut, h⟩
  show ({ instObj Cc dx with slots := (vs.toArray ++ Array.replicate (i + 1 - vs.toArray.size) none).setIfInBounds i (some v) } : Obj) = _
  have : (vs.toArray ++ Array.replicate (i + 1 - vs.toArray.size) none).setIfInBounds i (some v) = (slput vs i v).toArray := by
    apply Array.toList_inj.mp
    simp [slput]
  rw [this]
/-- the method of an object whose dict does not hide it -/
theorem R_method {f : Addr} {kv : List (Str × Value)} {pl : Sem Bool} {Q : Value × List Value → Pt → Prop} (X : K.In C.B) (a : MethAttr K Cc name f) (hx : p.G x = some (instObj Cc dx)) (hd : (dx, attrC kv) ∈ p.N) (hv : kvget kv name = none) (h : Q (.ref f, [.ref x]) p) :
    Run C A L (getMethod (.ref x) name pl) p Q := .of fun s S T => by
  obtain ⟨o, ho, es, n, rfl, hE⟩ := S.s0.own _ hd
  have I : InstAt s.heap x (instObj Cc dx) Cc (some (dictOf es n)) := ⟨S.s0.gs _ _ hx, rfl, rfl, ho⟩
  refine PySem.W.method_fn (X.keeps S.s0.base) I (PySem.W.plainGet_of a.get).1 (PySem.W.plainGet_of a.get).2 a.fnd a.ty ?_ ⟨p, S, .refl, h⟩
  show (PySem.W.lookIn name (dictOf es n)).map _ = _
  rw [PySem.W.lookIn_dict, hE.getL, hv]; rfl
theorem E_Attr {e : Expr} {pos : Pos} {Q : Value → Pt → Prop} (h : Run C A L (eval e env) p fun o p₁ => Run C A L (getAttr o name true) p₁ Q) (hb : attributeBase e name env (eval e env) = eval e env := by rfl) :
    Run C A L (eval (.Attribute e name pos) env) p Q := by
  refine Run.of_eq (arm_eval_Attribute ..) ?_
  rw [hb]
  exact .bind (h.mono fun o p₁ h₁ => .bind (.standAt (.bind (.holding (h₁.mono fun r p₂ h₂ => .bind (.of fun s S T => wpAny_letTemporaryGo ⟨p₂, S, .refl, Run.pure h₂⟩))))))
/-- a method that is a def of the text -/
structure MethFQ (C : Cx) (A : Around) (L : Addr) (env : Env) (f : Addr) (pos : Pos) (args : List Expr) (Q : Value → Pt → Prop) (fx : Value × List Value) (p₂ : Pt) : Prop where
  e : fx.1 = .ref f
  go : Run C A L (spliced (backTo pos (starEach args env))) p₂ fun vs p₃ => Run C A L (PySem.call (.ref f) (fx.2 ++ vs)) p₃ Q
theorem E_methF {f : Addr} {of : Obj} {fd : FuncData} {o : Expr} {apos pos : Pos} {args : List Expr} {Q : Value → Pt → Prop} {pl : Sem Bool} (ho : C.B.get? f = some of) (hd : of.data = .func fd)
    (h : Run C A L (eval o env) p fun ov p₁ => Run C A L (getMethod ov name pl) p₁ (MethFQ C A L env f pos args Q))
    (hp : (args.all fun e => !PySem.W.isStarred e) = true := by rfl)
    (he : eval (.Call (.Attribute o name apos) args [] pos) env = (do
      let ov ← eval o env
      PySem.standAt apos.atName
      let (f, first) ← PySem.holding [ov] (getMethod ov name pl)
      callWith pos f first (backTo pos (starEach args env)) (backToKw pos (keywordEach [] env))) := by rfl) :
    Run C A L (eval (.Call (.Attribute o name apos) args [] pos) env) p Q := by
  refine Run.of_eq he (.bind (h.mono fun ov p₁ h₁ => .bind (.standAt (.bind (.holding (h₁.mono fun fx p₂ ⟨hf, h₂⟩ => ?_))))))
  obtain ⟨g, first⟩ := fx
  dsimp only at hf h₂ ⊢
  subst hf
  exact R_callF ho hd (plainTrees hp) h₂
/-- an object of a class of the text is made -/
theorem R_make {fI : Addr} {vs : List Value} {Q : Value → Pt → Prop} (X : K.In C.B) (hm : makesIn K Cc = true) (hi : findIn K (.ref Cc) "__init__" = some (some (.ref fI))) (hf : typeIn K (.ref fI) = some (.type "function"))
    (h : ∀ x dx, CallRun C (A.under (.builtin "type.__call__" ⟨.ref Cc :: vs, []⟩)) fI (.ref x :: vs) p.G [(x, slotC Cc dx []), (dx, emptyC)] p.k fun v G' N' k' => v = .none ∧ Q (.ref x) { p with G := G', N := N' ++ p.N, k := k' }) :
    Run C A L (PySem.call (.ref Cc) vs) p Q := .of fun s S T => by
  have X' := X.keeps S.s0.base
  have S1 := S.pushN (o := emptyDict) (c := emptyC) rfl rfl
  have S2 := S1.pushN (o := instObj Cc s.heap.objs.size) (c := slotC Cc s.heap.objs.size []) rfl rfl
  rw [Heap.size_push] at S2
  have x1 : Ext L p s { p with N := (s.heap.objs.size, emptyC) :: p.N } { s with heap := s.heap.push emptyDict } := Ext.pushN
  have x2 : Ext L { p with N := (s.heap.objs.size, emptyC) :: p.N } { s with heap := s.heap.push emptyDict } { p with N := (s.heap.objs.size + 1, slotC Cc s.heap.objs.size []) :: (s.heap.objs.size, emptyC) :: p.N }
      { s with heap := (s.heap.push emptyDict).push (instObj Cc s.heap.objs.size) } := by
    have := Ext.pushN (L := L) (p := { p with N := (s.heap.objs.size, emptyC) :: p.N }) (s := { s with heap := s.heap.push emptyDict }) (o := instObj Cc s.heap.objs.size) (c := slotC Cc s.heap.objs.size []) (tk := s.toks)
    rwa [show ({ s with heap := s.heap.push emptyDict } : Shared).heap.objs.size = s.heap.objs.size + 1 from Heap.size_push ..] at this
  have x12 := x1.trans S S1 x2 (Nat.le_refl _)
  obtain ⟨hh, g, d, t, os⟩ := s
  refine wpAny_with_toks (Nat.le_refl _) ?_
  refine wpAny_call (PySem.W.make_core (PySem.W.makes_of X' hm) (PySem.W.looks_findIn X' hi) (fun self => PySem.W.bind_fn X' self hf) (.inl rfl) ?_)
  have S3 : Sat0 C.B p.G [(hh.objs.size + 1, slotC Cc hh.objs.size []), (hh.objs.size, emptyC)] ((hh.push emptyDict).push (instObj Cc hh.objs.size)) :=
    S2.s0.sub (fun q hq => List.mem_append_left p.N hq) (by simp [dom])
  refine codeAny_mono (h (hh.objs.size + 1) hh.objs.size ⟨(hh.push emptyDict).push (instObj Cc hh.objs.size), g, d, t, os⟩ S3 ⟨T.le⟩) fun r s' hr => ?_
  obtain ⟨v, G', N', k', rfl, S', x', rfl, q⟩ := hr
  obtain ⟨S'', x''⟩ := Sat0.framed (p := { p with N := (hh.objs.size + 1, slotC Cc hh.objs.size []) :: (hh.objs.size, emptyC) :: p.N }) (Nc := [(hh.objs.size + 1, slotC Cc hh.objs.size []), (hh.objs.size, emptyC)]) (Nr := p.N) (s := ⟨(hh.push emptyDict).push (instObj Cc hh.objs.size), g, d, t, os⟩) S2 (List.Perm.refl _) S' x'
  exact ⟨rfl, fun ht => ⟨_, S'', x12.trans S S2 x'' ht, q⟩⟩
theorem Room.under {A : Around} {d : Nat} {Cc : Addr} {vs : List Value} (h : Room A (d + 1)) : Room (A.under (.builtin "type.__call__" ⟨.ref Cc :: vs, []⟩)) d := by
  have e1 : (A.under (.builtin "type.__call__" ⟨.ref Cc :: vs, []⟩)).depth = A.depth + 1 := rfl
  have e2 : (A.under (.builtin "type.__call__" ⟨.ref Cc :: vs, []⟩)).units = A.units + (Code.builtin "type.__call__" ⟨.ref Cc :: vs, []⟩).cUnits := rfl
  have e3 : (Code.builtin "type.__call__" ⟨.ref Cc :: vs, []⟩).cUnits = (Code.builtin "type.__call__" ⟨[], []⟩).cUnits := rfl
  have e4 : (Code.builtin "type.__call__" ⟨[], []⟩).cUnits ≤ 8 := by decide +kernel
  refine ⟨by rw [e1]; have := h.depth; omega, by rw [e2]; have := h.units; omega, h.hd⟩
end
end Mine

open PySem PySem.Calls PyProof.Rows
set_option Elab.async false
set_option linter.unusedVariables false
set_option maxRecDepth 100000
namespace Mine

section
variable {C : Cx} {A : Around} {L : Addr} {α β : Type} {p : Pt} {env : Env}

/-! assignments to attributes, to several targets, in expressions -/
theorem S_Attr {o : Expr} {attr : Str} {pos : Pos} {v : Value} {Q : Unit → Pt → Prop} (h : Run C A L (eval o env) p fun ov p₁ => Run C A L (setAttr ov attr v) p₁ Q) : Run C A L (assign (.Attribute o attr pos) env v) p Q :=
  Run.of_eq (arm_assign_Attribute ..) (.bind (.holding (h.mono fun ov p₁ h₁ => .bind (.standAt (.bind (.holding (h₁.mono fun _ p₂ h₂ => .release h₂)))))))
theorem S_Name {x : Str} {pos : Pos} {v : Value} {Q : Unit → Pt → Prop} (h : Run C A L (bindName env x v) p Q) : Run C A L (assign (.Name x pos) env v) p Q :=
  Run.of_eq (arm_assign_Name ..) (.bind (.standAt h))
theorem S_Sub {o i : Expr} {pos : Pos} {v : Value} {Q : Unit → Pt → Prop} (h : Run C A L (eval o env) p fun ov p₁ => Run C A L (eval i env) p₁ fun iv p₂ => Run C A L (setItem ov iv v) p₂ Q) : Run C A L (assign (.Subscript o i pos) env v) p Q :=
  Run.of_eq (arm_assign_Subscript ..) (.bind (.holding (h.mono fun ov p₁ h₁ => .bind (.holding (h₁.mono fun iv p₂ h₂ => .bind (.standAt (.bind (.holding (h₂.mono fun _ p₃ h₃ => .release h₃)))))))))
theorem X_AssignAttr {o : Expr} {attr : Str} {pos pos' : Pos} {e : Expr} {Q : Flow → Pt → Prop} (h : Run C A L (eval e env) p fun v p₁ => Run C A L (eval o env) p₁ fun ov p₂ => Run C A L (setAttr ov attr v) p₂ fun _ p₃ => Q .next p₃)
    (hs : swapsWith e (some (.Attribute o attr pos')) pos.line env = Pure.pure false := by rfl) : Run C A L (exec (.Assign [.Attribute o attr pos'] e pos) env) p Q :=
  Run.of_eq (plainObj_exec_Assign_Attribute _ _ _ _ _ hs) (.bind (.standAt (.bind (h.mono fun v p₁ h₁ => .bind ((S_Attr h₁).mono fun _ p₂ h₂ => .pure h₂)))))
theorem X_Assign2 {t₁ t₂ e : Expr} {pos : Pos} {Q : Flow → Pt → Prop} (h : Run C A L (eval e env) p fun v p₁ => Run C A L (assign t₁ env v) p₁ fun _ p₂ => Run C A L (assign t₂ env v) p₂ fun _ p₃ => Q .next p₃)
    (he : (assignEach [t₁, t₂] env).map (·.2) = [assign t₁ env, assign t₂ env] := by rfl)
    (hw : swappedStores [t₁, t₂] e env = Pure.pure none := by rfl) : Run C A L (exec (.Assign [t₁, t₂] e pos) env) p Q := .of fun s S T =>
  wpAny_Assign_two (wpAny_mono (wpAny_toks (h.go s S T)) (fun v s₁ ⟨k₁, p₁, S₁, x₁, h₁⟩ => wpAny_mono (wpAny_toks (Run.after S T S₁ x₁ k₁ h₁)) (fun _ s₂ ⟨k₂, p₂, S₂, x₂, h₂⟩ => Run.after S T S₂ x₂ (Nat.le_trans k₁ k₂) h₂) fun _ _ e => e.2) fun _ _ e => e.2) he hw
theorem X_AugAttr {o e : Expr} {attr : Str} {tpos pos : Pos} {op : Operator} {Q : Flow → Pt → Prop}
    (h : Run C A L (eval o env) p fun ov p₁ => Run C A L (getAttr ov attr true) p₁ fun old p₂ => Run C A L (eval e env) p₂ fun v p₃ => Run C A L (inplaceOp op old v) p₃ fun z p₄ => Run C A L (setAttr ov attr z) p₄ fun _ p₅ => Q .next p₅) :
    Run C A L (exec (.AugAssign (.Attribute o attr tpos) op e pos) env) p Q := .of fun s S T =>
  wpAny_AugAssign_AttributeAny (wpAny_mono (wpAny_toks (h.go s S T)) (fun ov s₁ ⟨k₁, p₁, S₁, x₁, h₁⟩ => wpAny_mono (wpAny_toks (Run.after S T S₁ x₁ k₁ h₁)) (fun old s₂ ⟨k₂, p₂, S₂, x₂, h₂⟩ =>
    wpAny_mono (wpAny_toks (Run.after S T S₂ x₂ (Nat.le_trans k₁ k₂) h₂)) (fun v s₃ ⟨k₃, p₃, S₃, x₃, h₃⟩ => wpAny_mono (wpAny_toks (Run.after S T S₃ x₃ (Nat.le_trans (Nat.le_trans k₁ k₂) k₃) h₃)) (fun z s₄ ⟨k₄, p₄, S₄, x₄, h₄⟩ =>
      Run.after S T S₄ x₄ (Nat.le_trans (Nat.le_trans (Nat.le_trans k₁ k₂) k₃) k₄) h₄) fun _ _ e => e.2) fun _ _ e => e.2) fun _ _ e => e.2) fun _ _ e => e.2)
theorem E_Named {x : Str} {px pos : Pos} {e : Expr} {Q : Value → Pt → Prop} (h : Run C A L (eval e env) p fun v p₁ => Run C A L (bindName env x v) p₁ fun _ p₂ => Q v p₂) : Run C A L (eval (.NamedExpr (.Name x px) e pos) env) p Q :=
  Run.of_eq (arm_eval_NamedExpr ..) (.bind (h.mono fun v p₁ h₁ => .bind (.holding ((S_Name h₁).mono fun _ p₂ h₂ => .pure h₂))))
theorem C_isN {v : Value} {Q : Value → Pt → Prop} (h : Q (.bool (v == .none)) p) : Run C A L (compareOp .Is v .none) p Q := .of fun s S T => is_none_gen ⟨p, S, .refl, h⟩
theorem C_isnN {v : Value} {Q : Value → Pt → Prop} (h : Q (.bool (!(v == .none))) p) : Run C A L (compareOp .IsNot v .none) p Q := .of fun s S T => isnot_none_gen ⟨p, S, .refl, h⟩

/-! the order of what is owned -/
theorem Sat0.perm {B : Heap} {G : Addr → Option Obj} {N N' : List (Addr × Cell)} {h : Heap} (S : Sat0 B G N h) (hp : N.Perm N') : Sat0 B G N' h := by
  have hd : (dom N).Perm (dom N') := by unfold dom; exact hp.map _
  exact ⟨S.base, S.gs, fun q hq => S.own q (hp.mem_iff.mpr hq), fun b hb => S.nB b (hd.mem_iff.mpr hb), fun b hb => S.nG b (hd.mem_iff.mpr hb), hd.nodup_iff.mp S.nd⟩
theorem Run.perm {t : Sem α} {N' : List (Addr × Cell)} {Q : α → Pt → Prop} (hp : p.N.Perm N') (h : Run C A L t { p with N := N' } Q) : Run C A L t p Q := .of fun s S T => by
  have hd : (dom p.N).Perm (dom N') := by unfold dom; exact hp.map _
  have S' : Sat C.B L { p with N := N' } s.heap := ⟨S.s0.perm hp, S.ns, S.bL, S.gL, fun hm => S.nL (hd.mem_iff.mpr hm), S.mnd⟩
  have x : Ext L p s { p with N := N' } s := ⟨fun _ _ e _ _ => e, fun _ _ e => e, fun _ h => h.elim .inl fun h => .inr (.inl (hd.mem_iff.mpr h)), fun _ h => .inl (hd.mem_iff.mp h), rfl, rfl, Nat.le_refl _, .inl (Nat.le_refl _)⟩
  exact Run.after S T S' x (Nat.le_refl _) h

/-! a frame that is lent to a callee -/
def frameC (m : List (Str × Option Value)) : Cell := fun o => ∃ es ep, o.data = .dict es ep ∧ StrKeys es ∧ ∀ name, nsFind es name = look m name
theorem Sat.lend {B : Heap} {h : Heap} {Nc Nr : List (Addr × Cell)} (S : Sat B L p h) (hp : p.N.Perm (Nc ++ Nr)) : Sat0 B p.G ((L, frameC p.m) :: Nc) h := by
  have hd : (dom p.N).Perm (dom Nc ++ dom Nr) := by have := hp.map (·.1); simpa [dom] using this
  have nd := hd.nodup_iff.mp S.s0.nd
  have Lc : L ∉ dom Nc := fun h => S.nL (hd.mem_iff.mpr (List.mem_append_left _ h))
  have mcN : ∀ q ∈ Nc, q ∈ p.N := fun q hq => hp.mem_iff.mpr (List.mem_append_left _ hq)
  have Sc : Sat0 B p.G Nc h := S.s0.sub mcN (List.nodup_append.mp nd).1
  refine ⟨S.s0.base, S.s0.gs, fun q hq => ?_, fun b hb => ?_, fun b hb => ?_, List.nodup_cons.mpr ⟨Lc, Sc.nd⟩⟩
  · rcases List.mem_cons.mp hq with e | hq
    · subst e
      obtain ⟨o, es, ep, ho, hd, hk, hl⟩ := S.ns
      exact ⟨o, ho, es, ep, hd, hk, hl⟩
    · exact Sc.own q hq
  · rcases List.mem_cons.mp hb with e | hb
    · exact e ▸ S.bL
    · exact Sc.nB b hb
  · rcases List.mem_cons.mp hb with e | hb
    · exact e ▸ S.gL
    · exact Sc.nG b hb
theorem Sat.unlend {B : Heap} {s s' : Shared} {Nc Nr N'' : List (Addr × Cell)} {G' : Addr → Option Obj} {k' : Nat} (S : Sat B L p s.heap) (hp : p.N.Perm (Nc ++ Nr)) (S' : Sat0 B G' ((L, frameC p.m) :: N'') s'.heap)
    (x : Ext0 (fun _ => False) p.G ((L, frameC p.m) :: Nc) p.k s G' ((L, frameC p.m) :: N'') k' s') : Sat B L { p with G := G', N := N'' ++ Nr, k := k' } s'.heap ∧ Ext L p s { p with G := G', N := N'' ++ Nr, k := k' } s' := by
  have hd : (dom p.N).Perm (dom Nc ++ dom Nr) := by have := hp.map (·.1); simpa [dom] using this
  have nd := hd.nodup_iff.mp S.s0.nd
  have Lc : L ∉ dom Nc := fun h => S.nL (hd.mem_iff.mpr (List.mem_append_left _ h))
  have mr : ∀ b ∈ dom Nr, b ∈ dom p.N := fun b hb => hd.mem_iff.mpr (List.mem_append_right _ hb)
  have notc : ∀ b ∈ dom Nr, b ∉ dom ((L, frameC p.m) :: Nc) := fun b hr hc => by
    rcases List.mem_cons.mp hc with e | hc
    · have e : b = L := e
      subst e
      exact S.nL (mr _ hr)
    · exact (List.nodup_append.mp nd).2.2 b hc b hr rfl
  have alive : ∀ b ∈ dom Nr, s.heap.get? b ≠ none := fun b hb => by
    obtain ⟨q, hq, rfl⟩ := List.mem_map.mp (mr b hb)
    obtain ⟨o, ho, _⟩ := S.s0.own q hq
    rw [ho]; exact fun h => nomatch h
  have offG : ∀ b ∈ dom Nr, G' b = none := fun b hb => by
    cases h : G' b with
    | none => rfl
    | some o =>
      rcases x.fresh b (.inl (by rw [h]; exact fun h => nomatch h)) with e | e | e
      · exact absurd (S.s0.nG b (mr b hb)) e
      · exact absurd e (notc b hb)
      · exact absurd e (alive b hb)
  have offN : ∀ b ∈ dom Nr, b ∉ dom ((L, frameC p.m) :: N'') := fun b hb h => by
    rcases x.fresh b (.inr h) with e | e | e
    · exact e (S.s0.nG b (mr b hb))
    · exact notc b hb e
    · exact alive b hb e
  have nd' := List.nodup_cons.mp S'.nd
  have da : dom (N'' ++ Nr) = dom N'' ++ dom Nr := by simp [dom]
  have gL : G' L = none := S'.nG L (by simp [dom])
  refine ⟨⟨⟨S'.base, S'.gs, fun q hq => ?_, fun b hb => ?_, fun b hb => ?_, ?_⟩, ?_, S.bL, gL, fun hm => ?_, S.mnd⟩, ⟨fun b o e h1 h2 => ?_, x.grow, fun b h => ?_, fun b h => ?_, x.gens, x.os, x.km, x.kk⟩⟩
  · rcases List.mem_append.mp hq with h | h
    · exact S'.own q (List.mem_cons_of_mem _ h)
    · have hm : q.1 ∈ dom Nr := List.mem_map_of_mem (f := (·.1)) h
      obtain ⟨o, ho, hc⟩ := S.s0.own q (hp.mem_iff.mpr (List.mem_append_right _ h))
      exact ⟨o, x.keep _ _ ho id (notc _ hm), hc⟩
  · rw [da] at hb
    rcases List.mem_append.mp hb with h | h
    · exact S'.nB b (List.mem_cons_of_mem _ h)
    · exact S.s0.nB b (mr b h)
  · rw [da] at hb
    rcases List.mem_append.mp hb with h | h
    · exact S'.nG b (List.mem_cons_of_mem _ h)
    · exact offG b h
  · show (dom (N'' ++ Nr)).Nodup
    rw [da]
    refine List.nodup_append.mpr ⟨nd'.2, (List.nodup_append.mp nd).2.1, fun a ha b hb e => ?_⟩
    subst e
    exact offN a hb (List.mem_cons_of_mem _ ha)
  · obtain ⟨o, ho, es, ep, h1, h2, h3⟩ := S'.own (L, frameC p.m) List.mem_cons_self
    exact ⟨o, es, ep, ho, h1, h2, h3⟩
  · rw [da] at hm
    rcases List.mem_append.mp hm with h | h
    · exact nd'.1 h
    · exact S.nL (mr L h)
  · exact x.keep b o e id fun h => by
      rcases List.mem_cons.mp h with h | h
      · exact h1 h
      · exact h2 (hd.mem_iff.mpr (List.mem_append_left _ h))
  · have fix : b ∈ dom ((L, frameC p.m) :: Nc) → G' b ≠ none ∨ b ∈ dom (N'' ++ Nr) → b ∈ dom p.N := fun hb h => by
      rcases List.mem_cons.mp hb with e | hb
      · exfalso
        have e : b = L := e
        rw [e] at h
        rcases h with h | h
        · exact h gL
        · rw [da] at h
          rcases List.mem_append.mp h with h | h
          · exact nd'.1 h
          · exact S.nL (mr _ h)
      · exact hd.mem_iff.mpr (List.mem_append_left _ hb)
    rcases h with h | h
    · rcases x.fresh b (.inl h) with e | e | e
      · exact .inl e
      · exact .inr (.inl (fix e (.inl h)))
      · exact .inr (.inr e)
    · change b ∈ dom (N'' ++ Nr) at h
      have h0 := h
      rw [da] at h
      rcases List.mem_append.mp h with h | h
      · rcases x.fresh b (.inr (List.mem_cons_of_mem _ h)) with e | e | e
        · exact .inl e
        · exact .inr (.inl (fix e (.inr h0)))
        · exact .inr (.inr e)
      · exact .inr (.inl (mr b h))
  · show b ∈ dom (N'' ++ Nr) ∨ _
    rw [da]
    rcases List.mem_append.mp (hd.mem_iff.mp h) with h | h
    · rcases x.noleak b (List.mem_cons_of_mem _ h) with e | e
      · rcases List.mem_cons.mp e with e | e
        · have e : b = L := e
          rw [e] at h
          exact absurd h Lc
        · exact .inl (List.mem_append_left _ e)
      · exact .inr e
    · exact .inl (List.mem_append_right _ h)
theorem R_callL {f : Addr} {vs : List Value} {Nc Nr : List (Addr × Cell)} {Q : Value → Pt → Prop} (hp : p.N.Perm (Nc ++ Nr))
    (h : CallRun C A f vs p.G ((L, frameC p.m) :: Nc) p.k fun v G' N' k' => ∃ N'', N' = (L, frameC p.m) :: N'' ∧ Q v { p with G := G', N := N'' ++ Nr, k := k' }) : Run C A L (PySem.call (.ref f) vs) p Q := .of fun s S T => by
  refine wpAny_call (codeAny_mono (h s (S.lend hp) T) fun r s' hr => ?_)
  obtain ⟨v, G', N', k', rfl, S', x, N'', rfl, q⟩ := hr
  obtain ⟨S'', x'⟩ := S.unlend hp S' x
  exact ⟨_, S'', x', q⟩
end
end Mine

open PySem PySem.Calls PyProof.Rows
set_option Elab.async false
set_option linter.unusedVariables false
set_option maxRecDepth 100000
namespace Mine
open PySem.W (hideAll hideAll_get hideAll_none of_hideAll)

/-- with an exceptional end -/
structure RunE (C : Cx) (A : Around) (L : Addr) {α : Type} (t : Sem α) (p : Pt) (Q : α → Pt → Prop) (E : Value → Pt → Prop) : Prop where
  of :: go : ∀ s, Sat C.B L p s.heap → TokOk p.k s → wpAny (model C.prog C.w) A t (Post C L p s Q) (Post C L p s E) s

section
variable {C : Cx} {A : Around} {L : Addr} {α β : Type} {p : Pt} {env : Env}
theorem Run.toE {t : Sem α} {Q : α → Pt → Prop} {E : Value → Pt → Prop} (h : Run C A L t p Q) : RunE C A L t p Q E := .of fun s S T => wpAny_mono (h.go s S T) (fun _ _ e => e) fun _ _ e => e.elim
theorem RunE.mono {t : Sem α} {Q Q' : α → Pt → Prop} {E E' : Value → Pt → Prop} (h : RunE C A L t p Q E) (hq : ∀ a p', Q a p' → Q' a p') (he : ∀ a p', E a p' → E' a p') : RunE C A L t p Q' E' :=
  .of fun s S T => wpAny_mono (h.go s S T) (fun a _ ⟨p', S', x, q⟩ => ⟨p', S', x, hq a p' q⟩) fun a _ ⟨p', S', x, q⟩ => ⟨p', S', x, he a p' q⟩
theorem RunE.after {t : Sem β} {p₁ : Pt} {Q : β → Pt → Prop} {E : Value → Pt → Prop} {s s₁ : Shared} (S : Sat C.B L p s.heap) (T : TokOk p.k s) (S₁ : Sat C.B L p₁ s₁.heap) (x : Ext L p s p₁ s₁) (ht : s.toks ≤ s₁.toks) (h : RunE C A L t p₁ Q E) :
    wpAny (model C.prog C.w) A t (Post C L p s Q) (Post C L p s E) s₁ :=
  wpAny_mono (wpAny_toks (h.go s₁ S₁ (T.next x ht))) (fun b s₂ ⟨ht₂, p₂, S₂, y, r⟩ => ⟨p₂, S₂, x.trans S S₁ y ht₂, r⟩) fun b s₂ ⟨ht₂, p₂, S₂, y, r⟩ => ⟨p₂, S₂, x.trans S S₁ y ht₂, r⟩
theorem RunE.bind {m : Sem α} {f : α → Sem β} {Q : β → Pt → Prop} {E : Value → Pt → Prop} (h : RunE C A L m p (fun a p₁ => RunE C A L (f a) p₁ Q E) E) : RunE C A L (m >>= f) p Q E :=
  .of fun s S T => wpAny_bind (wpAny_mono (wpAny_toks (h.go s S T)) (fun a s₁ ⟨ht, p₁, S₁, x, q⟩ => RunE.after S T S₁ x ht q) fun _ _ e => e.2)
theorem RunE.of_eq {t t' : Sem α} {Q : α → Pt → Prop} {E : Value → Pt → Prop} (e : t = t') (h : RunE C A L t' p Q E) : RunE C A L t p Q E := e ▸ h
theorem RunE.holding {vs : List Value} {t : Sem α} {Q : α → Pt → Prop} {E : Value → Pt → Prop} (h : RunE C A L t p Q E) : RunE C A L (PySem.holding vs t) p Q E := .of fun s S T => wpAny_holding (h.go s S T)
theorem RunE.pure {a : α} {Q : α → Pt → Prop} {E : Value → Pt → Prop} (h : Q a p) : RunE C A L (Pure.pure a : Sem α) p Q E := (Run.pure h).toE
theorem RunE.standAt {pos : Pos} {Q : Unit → Pt → Prop} {E : Value → Pt → Prop} (h : Q () p) : RunE C A L (PySem.standAt pos) p Q E := (Run.standAt h).toE

theorem XE_cons {st : Stmt} {r : List Stmt} {Q : Flow → Pt → Prop} {E : Value → Pt → Prop} (h : RunE C A L (exec st env) p (fun f p₁ => match f with | .next => RunE C A L (execs r env) p₁ Q E | f => Q f p₁) E) : RunE C A L (execs (st :: r) env) p Q E :=
  RunE.of_eq (execs_cons ..) (.bind (h.mono (fun f p₁ h₁ => by cases f <;> first | exact h₁ | exact .pure h₁) fun _ _ e => e))
theorem XE_one {st : Stmt} {Q : Flow → Pt → Prop} {E : Value → Pt → Prop} (h : RunE C A L (exec st env) p Q E) : RunE C A L (execs [st] env) p Q E :=
  RunE.of_eq (execs_cons ..) (.bind (h.mono (fun f p₁ h₁ => by cases f <;> exact .pure h₁) fun _ _ e => e))
theorem XE_If {t : Expr} {b o : List Stmt} {pos : Pos} {Q : Flow → Pt → Prop} {E : Value → Pt → Prop} (h : RunE C A L (isTrue t env (eval t env)) p (fun c p₁ => if c then RunE C A L (execs b env) p₁ Q E else RunE C A L (execs o env) p₁ Q E) E) :
    RunE C A L (exec (.If t b o pos) env) p Q E :=
  RunE.of_eq (exec_If ..) (.bind (.standAt (.bind (h.mono (fun c p₁ h₁ => by cases c <;> exact h₁) fun _ _ e => e))))
theorem XE_Assign {x : Str} {e : Expr} {pos pos' : Pos} {Q : Flow → Pt → Prop} {E : Value → Pt → Prop} (h : RunE C A L (eval e env) p (fun v p₁ => Run C A L (bindName env x v) p₁ fun _ p₂ => Q .next p₂) E)
    (hs : swapsWith e (some (.Name x pos')) pos.line env = Pure.pure false := by rfl) : RunE C A L (exec (.Assign [.Name x pos'] e pos) env) p Q E :=
  RunE.of_eq (exec_Assign_Name _ _ _ _ _ hs) (.bind (.standAt (.bind (h.mono (fun v p₁ h₁ => .bind (.standAt (.bind ((Run.mono h₁ fun _ p₂ h₂ => RunE.pure h₂).toE)))) fun _ _ e => e))))
theorem XE_Expr {e : Expr} {pos : Pos} {Q : Flow → Pt → Prop} {E : Value → Pt → Prop} (h : RunE C A L (eval e env) p (fun v p₁ => (∀ a, v ≠ .ref a) ∧ Q .next p₁) E)
    (hi : interactive env = false := by rfl) (hs : swapsWith e none pos.line env = Pure.pure false := by rfl) : RunE C A L (exec (.Expr e pos) env) p Q E :=
  RunE.of_eq (exec_Expr _ _ _ hi hs) (.bind (.standAt (.bind (h.mono (fun v p₁ h₁ => RunE.of_eq (dropValue_plain h₁.1) (.pure h₁.2)) fun _ _ e => e))))

/-! exceptions as objects -/
def excC (cls tb : Value) : Cell := fun o => o.cls = cls ∧ ∃ vs a0, o.data = .fields vs ∧ vs[0]? = some a0 ∧ vs[1]? = some tb
def tbC : Cell := fun o => ∃ ts, o.data = .fields ts ∧ ts[3]? = some .none

/-- the frames above are owned -/
def Outer (l : List Env) (N : List (Addr × Cell)) : Prop := ∀ en ∈ l, en.scope.kind ≠ .module ∧ ∃ L' m', en.frame = some L' ∧ (L', frameC m') ∈ N

theorem Outer.fun {B : Heap} {G : Addr → Option Obj} {N : List (Addr × Cell)} {h base : Heap} {l : List Env} (O : Outer l N) (S : Sat0 B G N h) (hb : ∀ a ∈ l.filterMap (·.frame), base.get? a = none) : h.FunFrames base l := by
  induction l with
  | nil => trivial
  | cons en r ih =>
    obtain ⟨hk, L', m', hf, hm⟩ := O en List.mem_cons_self
    obtain ⟨o, ho, es, ep, hd, _⟩ := S.own _ hm
    refine ⟨hk, ⟨L', o, hf, hb L' (by rw [List.filterMap_cons, hf]; exact List.mem_cons_self), ho, fun vs q => by rw [hd] at q; cases q⟩, ih (fun en' h' => O en' (List.mem_cons_of_mem _ h')) fun a ha => hb a ?_⟩
    rw [List.filterMap_cons, hf]; exact List.mem_cons_of_mem _ ha

theorem eq_of_key {N : List (Addr × Cell)} {q : Addr × Cell} {a : Addr} {c : Cell} (hq : q ∈ N) (hm : (a, c) ∈ N) (e : q.1 = a) (hn : (N.map (·.1)).Nodup) : q = (a, c) := by
  induction N with
  | nil => cases hq
  | cons x r ih =>
    have h1 := List.nodup_cons.mp hn
    rcases List.mem_cons.mp hq with rfl | hq
    · rcases List.mem_cons.mp hm with e2 | hm
      · exact e2.symm
      · exact absurd (List.mem_map_of_mem (f := (·.1)) hm) (by rw [← e]; exact h1.1)
    · rcases List.mem_cons.mp hm with e2 | hm
      · exact absurd (List.mem_map_of_mem (f := (·.1)) hq) (by subst e2; have h2 := h1.1; rw [← e] at h2; exact h2)
      · exact ih hq hm h1.2

/-- a traceback entry is made -/
theorem entryE {outer : List Env} {e : Addr} {cls tb head : Value} {hadNext : Bool} {N₀ : List (Addr × Cell)} {s : Shared} {Q : Unit → Shared → Prop} {E : Value → Shared → Prop} (hfr : A.frames = some (env :: outer)) (hf : env.frame = some L) (hk : env.scope.kind ≠ .module)
    (S : Sat C.B L { p with N := (e, excC cls tb) :: N₀ } s.heap) (O : Outer outer N₀)
    (h : ∀ h' T, Sat C.B L { p with N := (T, tbC) :: (e, excC cls (.ref T)) :: N₀ } h' → Ext L { p with N := (e, excC cls tb) :: N₀ } s { p with N := (T, tbC) :: (e, excC cls (.ref T)) :: N₀ } { s with heap := h' } → Q () { s with heap := h' }) :
    wpAny (model C.prog C.w) A (do let a ← frameOf env; let pl ← entryPlaceOf L hadNext; let b ← EntryCells.newEntry head a .none (rawInt L) .none pl; setField (.ref e) 1 b) (fun _ s' => wpAny (model C.prog C.w) A (setFlight (.ref e) none) Q E s') E s := by
  have hid := (env :: outer).filterMap (·.frame)
  obtain ⟨oe, hoe, hcls, vs, a0, hd, h0, h1⟩ := S.s0.own (e, excC cls tb) List.mem_cons_self
  have hfs : ∀ a ∈ (env :: outer).filterMap (·.frame), a = L ∨ ∃ m', (a, frameC m') ∈ N₀ := fun a ha => by
    rw [List.filterMap_cons, hf] at ha
    rcases List.mem_cons.mp ha with rfl | ha
    · exact .inl rfl
    · obtain ⟨en, hen, hfa⟩ := List.mem_filterMap.mp ha
      obtain ⟨_, L', m', hf', hm⟩ := O en hen
      rw [hf'] at hfa; cases hfa
      exact .inr ⟨m', hm⟩
  have O' : Outer outer ((e, excC cls tb) :: N₀) := fun en hen => let ⟨a, L', m', b, c⟩ := O en hen; ⟨a, L', m', b, List.mem_cons_of_mem _ c⟩
  obtain ⟨oL, eL, epL, hoL, hdL, hkL, hlL⟩ := S.ns
  have F : s.heap.FunFrames (hideAll s.heap (e :: (env :: outer).filterMap (·.frame))) (env :: outer) :=
    ⟨hk, ⟨L, oL, hf, hideAll_none _ (by rw [List.filterMap_cons, hf]; simp), hoL, fun vs q => by rw [hdL] at q; cases q⟩,
      O'.fun S.s0 fun a ha => hideAll_none _ (by rw [List.filterMap_cons, hf]; simp only [List.mem_cons]; exact .inr (.inr ha))⟩
  refine wpAny_newEntryW hfr F hf hoe (fun b o q => of_hideAll _ q) (hideAll_none _ List.mem_cons_self) hd (Array.getElem?_eq_some_iff.mp h1).1 h0 fun h' hL => ?_
  obtain ⟨k1, k2, ⟨oe', vs', T, oT, ts, g1, ⟨g2, g3⟩, g4, g5, g6, g7, g8, g9, g10⟩, k4⟩ := hL
  have nd := List.nodup_cons.mp S.s0.nd
  have Tnf : T ∉ (env :: outer).filterMap (·.frame) := fun hm => by
    obtain ⟨_, o, ho, hn⟩ := k2.mem hm
    rw [g8] at ho; cases ho; exact hn ts g9
  have Tn : s.heap.get? T = none := by
    cases q : s.heap.get? T with
    | none => rfl
    | some o =>
      have := hideAll_get (e :: (env :: outer).filterMap (·.frame)) q (by simp only [List.mem_cons]; exact fun h => h.elim g7 Tnf)
      rw [g6] at this; cases this
  have kp : ∀ b o, s.heap.get? b = some o → b ≠ L → b ∉ dom ((e, excC cls tb) :: N₀) → h'.get? b = some o := fun b o hb n1 n2 => k1 b o (hideAll_get _ hb fun hm => by
    rcases List.mem_cons.mp hm with e1 | hm
    · exact n2 (by rw [e1]; simp [dom])
    · rcases hfs b hm with e1 | ⟨m', hm'⟩
      · exact n1 e1
      · exact n2 (List.mem_cons_of_mem _ (List.mem_map_of_mem (f := (·.1)) hm')))
  obtain ⟨tB, tG, tN, tL⟩ := S.none_at Tn
  have tE : T ≠ e := g7
  have tN₀ : T ∉ dom N₀ := fun hm => tN (List.mem_cons_of_mem _ hm)
  have sub : ∀ b ∈ dom N₀, b ∈ dom ((e, excC cls tb) :: N₀) := fun b hb => List.mem_cons_of_mem _ hb
  have S' : Sat C.B L { p with N := (T, tbC) :: (e, excC cls (.ref T)) :: N₀ } h' := by
    refine ⟨⟨fun b o q => kp b o (S.s0.base b o q) (fun z => by rw [z, S.bL] at q; cases q) (fun z => by rw [S.s0.nB b z] at q; cases q),
      fun b o q => kp b o (S.s0.gs b o q) (fun z => by rw [z] at q; have := S.gL; rw [this] at q; cases q) (fun z => by have := S.s0.nG b z; rw [this] at q; cases q), fun q hq => ?_, fun b hb => ?_, fun b hb => ?_, ?_⟩, ?_, S.bL, S.gL, fun hm => ?_, S.mnd⟩
    · rcases List.mem_cons.mp hq with rfl | hq
      · exact ⟨oT, g8, ts, g9, g10⟩
      · rcases List.mem_cons.mp hq with rfl | hq
        · exact ⟨oe', g1, g2.trans hcls, vs', a0, g4, g3, g5⟩
        · obtain ⟨o, ho, hc⟩ := S.s0.own q (List.mem_cons_of_mem _ hq)
          by_cases hm : q.1 ∈ e :: (env :: outer).filterMap (·.frame)
          · rcases List.mem_cons.mp hm with e1 | hm
            · exact absurd (List.mem_map_of_mem (f := (·.1)) hq) (by rw [e1]; exact nd.1)
            · rcases hfs _ hm with e1 | ⟨m', hm'⟩
              · exact absurd (List.mem_cons_of_mem _ (List.mem_map_of_mem (f := (·.1)) hq)) (by rw [e1]; exact S.nL)
              · have : q = (q.1, frameC m') := eq_of_key hq hm' rfl nd.2
                rw [this] at hc ⊢
                obtain ⟨es, ep, d1, d2, d3⟩ := hc
                obtain ⟨sl, hs⟩ := k4 _ _ ho (fun vs z => by rw [d1] at z; cases z)
                exact ⟨_, hs, es, ep, d1, d2, d3⟩
          · exact ⟨o, k1 _ _ (hideAll_get _ ho hm), hc⟩
    · rcases List.mem_cons.mp hb with e1 | hb
      · exact e1 ▸ tB
      · exact S.s0.nB b hb
    · rcases List.mem_cons.mp hb with e1 | hb
      · exact e1 ▸ tG
      · exact S.s0.nG b hb
    · exact List.nodup_cons.mpr ⟨tN, S.s0.nd⟩
    · obtain ⟨sl, hs⟩ := k4 _ _ hoL (fun vs z => by rw [hdL] at z; cases z)
      exact ⟨_, eL, epL, hs, hdL, hkL, hlL⟩
    · rcases List.mem_cons.mp hm with e1 | hm
      · exact tL e1.symm
      · exact S.nL hm
  refine h h' T S' ⟨fun b o hb n1 n2 => kp b o hb n1 n2, fun _ _ z => z, fun b hb => ?_, fun b hb => .inl (List.mem_cons_of_mem _ hb), rfl, rfl, Nat.le_refl _, .inl (Nat.le_refl _)⟩
  rcases hb with hb | hb
  · exact .inl hb
  · rcases List.mem_cons.mp hb with e1 | hb
    · exact .inr (.inr (e1 ▸ Tn))
    · exact .inr (.inl hb)
end
end Mine

open PySem PySem.Calls PyProof.Rows
set_option Elab.async false
set_option linter.unusedVariables false
set_option maxRecDepth 100000
namespace Mine

section
variable {C : Cx} {A : Around} {L : Addr} {α β : Type} {p : Pt} {env : Env}

theorem PutN.mid {a : Addr} {c c' : Cell} {B₀ : List (Addr × Cell)} : ∀ A₀ : List (Addr × Cell), PutN (A₀ ++ (a, c) :: B₀) a c c' (A₀ ++ (a, c') :: B₀)
  | [] => .head
  | q :: r => .tail (PutN.mid r)
theorem note_new {outer : List Env} {e : Addr} {cls : Value} {N₀ : List (Addr × Cell)} {s : Shared} {Q : Unit → Shared → Prop} {E : Value → Shared → Prop} (hfr : A.frames = some (env :: outer)) (hf : env.frame = some L) (hk : env.scope.kind ≠ .module)
    (S : Sat C.B L { p with N := (e, excC cls .none) :: N₀ } s.heap) (O : Outer outer N₀)
    (h : ∀ h' T, Sat C.B L { p with N := (T, tbC) :: (e, excC cls (.ref T)) :: N₀ } h' → Ext L { p with N := (e, excC cls .none) :: N₀ } s { p with N := (T, tbC) :: (e, excC cls (.ref T)) :: N₀ } { s with heap := h' } → Q () { s with heap := h' }) :
    wpAny (model C.prog C.w) A (noteFrame (.ref e) env) (fun _ s' => wpAny (model C.prog C.w) A (setFlight (.ref e) none) Q E s') E s := by
  obtain ⟨oe, hoe, hcls, vs, a0, hd, h0, h1⟩ := S.s0.own (e, excC cls .none) List.mem_cons_self
  unfold noteFrame
  simp only [hf]
  refine wpAny_bind (wpAny_field hoe hd h1 ?_)
  rw [if_neg (by decide)]
  exact entryE hfr hf hk S O h
theorem note_next {outer : List Env} {e T₀ : Addr} {cls : Value} {N₀ : List (Addr × Cell)} {s : Shared} {Q : Unit → Shared → Prop} {E : Value → Shared → Prop} (hfr : A.frames = some (env :: outer)) (hf : env.frame = some L) (hk : env.scope.kind ≠ .module)
    (S : Sat C.B L { p with N := (e, excC cls (.ref T₀)) :: N₀ } s.heap) (O : Outer outer N₀) (hT : (T₀, tbC) ∈ N₀)
    (h : ∀ h' T, Sat C.B L { p with N := (T, tbC) :: (e, excC cls (.ref T)) :: N₀ } h' → Ext L { p with N := (e, excC cls (.ref T₀)) :: N₀ } s { p with N := (T, tbC) :: (e, excC cls (.ref T)) :: N₀ } { s with heap := h' } → Q () { s with heap := h' }) :
    wpAny (model C.prog C.w) A (noteFrame (.ref e) env) (fun _ s' => wpAny (model C.prog C.w) A (setFlight (.ref e) none) Q E s') E s := by
  obtain ⟨oe, hoe, hcls, vs, a0, hd, h0, h1⟩ := S.s0.own (e, excC cls (.ref T₀)) List.mem_cons_self
  have hm : (T₀, tbC) ∈ (e, excC cls (.ref T₀)) :: N₀ := List.mem_cons_of_mem _ hT
  obtain ⟨oT, hoT, ts, hts, h3⟩ := S.s0.own (T₀, tbC) hm
  have hsz := (Array.getElem?_eq_some_iff.mp h3).1
  unfold noteFrame
  simp only [hf]
  refine wpAny_bind (wpAny_field hoe hd h1 ?_)
  rw [if_pos (show (Value.ref T₀ != Value.none) = true from by simp)]
  refine wpAny_bind (wpAny_field hoT hts h3 ?_)
  rw [if_neg (show ¬ ((Value.none == rawInt L) = true) from by simp [rawInt])]
  refine wpAny_bind (wpAny_setField hoT hts hsz ?_)
  have hne : T₀ ≠ e := fun q => (List.nodup_cons.mp S.s0.nd).1 (by rw [← q]; exact List.mem_map_of_mem (f := (·.1)) hT)
  obtain ⟨A₀, B₀, rfl⟩ := List.append_of_mem hT
  have P : PutN ((e, excC cls (.ref T₀)) :: (A₀ ++ (T₀, tbC) :: B₀)) T₀ tbC tbC ((e, excC cls (.ref T₀)) :: (A₀ ++ (T₀, tbC) :: B₀)) := .tail (PutN.mid A₀)
  have dd := Obj.data_mapFields hts (·.setIfInBounds 3 Value.none)
  have S' : Sat C.B L { p with N := (e, excC cls (.ref T₀)) :: (A₀ ++ (T₀, tbC) :: B₀) } (s.heap.update T₀ (Obj.mapFields (·.setIfInBounds 3 Value.none))) :=
    S.putN P (Heap.SameBut.update ..).extBut (Heap.get?_update_self _ hoT (Obj.isFreed_of_fields dd)) ⟨_, dd, by simp [hsz]⟩
  have x' : Ext L { p with N := (e, excC cls (.ref T₀)) :: (A₀ ++ (T₀, tbC) :: B₀) } s { p with N := (e, excC cls (.ref T₀)) :: (A₀ ++ (T₀, tbC) :: B₀) } { s with heap := s.heap.update T₀ (Obj.mapFields (·.setIfInBounds 3 Value.none)) } :=
    Ext.putN P (Heap.SameBut.update ..).extBut
  exact entryE (s := { s with heap := s.heap.update T₀ (Obj.mapFields (·.setIfInBounds 3 Value.none)) }) hfr hf hk S' O fun h' T S'' x'' => h h' T S'' (x'.trans S S' x'' (Nat.le_refl _))
theorem flight_off {e T : Addr} {cls : Value} {N₀ : List (Addr × Cell)} {s : Shared} {Q : Unit → Shared → Prop} {E : Value → Shared → Prop} (S : Sat C.B L { p with N := (T, tbC) :: (e, excC cls (.ref T)) :: N₀ } s.heap)
    (h : ∀ h', Sat C.B L { p with N := (T, tbC) :: (e, excC cls (.ref T)) :: N₀ } h' → Ext L { p with N := (T, tbC) :: (e, excC cls (.ref T)) :: N₀ } s { p with N := (T, tbC) :: (e, excC cls (.ref T)) :: N₀ } { s with heap := h' } → Q () { s with heap := h' }) :
    wpAny (model C.prog C.w) A (setFlight (.ref e) none) Q E s := by
  obtain ⟨oe, hoe, hcls, vs, a0, hd, h0, h1⟩ := S.s0.own (e, excC cls (.ref T)) (.tail _ (.head _))
  obtain ⟨oT, hoT, ts, hts, h3⟩ := S.s0.own (T, tbC) (.head _)
  have hsz := (Array.getElem?_eq_some_iff.mp h3).1
  have dd := Obj.data_mapFields hts (·.setIfInBounds 3 Value.none)
  refine wpAny_setFlight_none hoe hd h1 hoT hts hsz (h _ (S.putN .head (Heap.SameBut.update ..).extBut (Heap.get?_update_self _ hoT (Obj.isFreed_of_fields dd)) ⟨_, dd, by simp [hsz]⟩) (Ext.putN .head (Heap.SameBut.update ..).extBut))

/-- in flight, as a frame's end or a handler finds it -/
inductive Flown (e : Addr) (cls : Value) : List (Addr × Cell) → List (Addr × Cell) → Prop
  | new {N₀ : List (Addr × Cell)} : Flown e cls ((e, excC cls .none) :: N₀) N₀
  | next {T₀ : Addr} {N₀ : List (Addr × Cell)} : (T₀, tbC) ∈ N₀ → Flown e cls ((e, excC cls (.ref T₀)) :: N₀) N₀
theorem note {outer : List Env} {e : Addr} {cls : Value} {N₀ : List (Addr × Cell)} {s : Shared} {Q : Unit → Shared → Prop} {E : Value → Shared → Prop} (hfr : A.frames = some (env :: outer)) (hf : env.frame = some L) (hk : env.scope.kind ≠ .module)
    (S : Sat C.B L p s.heap) (F : Flown e cls p.N N₀) (O : Outer outer N₀)
    (h : ∀ h' T, Sat C.B L { p with N := (T, tbC) :: (e, excC cls (.ref T)) :: N₀ } h' → Ext L p s { p with N := (T, tbC) :: (e, excC cls (.ref T)) :: N₀ } { s with heap := h' } → Q () { s with heap := h' }) :
    wpAny (model C.prog C.w) A (noteFrame (.ref e) env) (fun _ s' => wpAny (model C.prog C.w) A (setFlight (.ref e) none) Q E s') E s := by
  obtain ⟨G, m, N, k⟩ := p
  dsimp only at F
  cases F with
  | new => exact note_new hfr hf hk S O h
  | next hT => exact note_next hfr hf hk S O hT h

/-- the frame's end by an exception -/
theorem leave {outer : List Env} {e : Addr} {cls : Value} {N₀ : List (Addr × Cell)} {s : Shared} {Q : Unit → Shared → Prop} {E : Value → Shared → Prop} (hfr : A.frames = some (env :: outer)) (hf : env.frame = some L) (hk : env.scope.kind ≠ .module)
    (S : Sat C.B L p s.heap) (F : Flown e cls p.N N₀) (O : Outer outer N₀)
    (h : ∀ h' T, Sat C.B L { p with N := (T, tbC) :: (e, excC cls (.ref T)) :: N₀ } h' → Ext L p s { p with N := (T, tbC) :: (e, excC cls (.ref T)) :: N₀ } { s with heap := h' } → Q () { s with heap := h' }) :
    wpAny (model C.prog C.w) A (leaving env (.ref e)) Q E s := by
  unfold leaving
  exact wpAny_bind (note hfr hf hk S F O h)

/-- try with handlers, as far as the search of a clause -/
theorem X_Try {outer : List Env} {body orelse : List Stmt} {h₀ : ExceptHandler} {hs : List ExceptHandler} {pos : Pos} {Q : Flow → Pt → Prop} (hfr : A.frames = some (env :: outer)) (hf : env.frame = some L) (hk : env.scope.kind ≠ .module)
    (h : RunE C A L (execs body env) p (fun f p₁ => match f with | .next => Run C A L (execs orelse env) p₁ Q | f => Q f p₁)
      fun v p₁ => ∃ e cls N₀, v = .ref e ∧ Flown e cls p₁.N N₀ ∧ Outer outer N₀ ∧ ∀ T, Run C A L (handleBy (.ref e) env (h₀ :: hs)) { p₁ with N := (T, tbC) :: (e, excC cls (.ref T)) :: N₀ } Q) :
    Run C A L (exec (.Try body (h₀ :: hs) orelse [] pos) env) p Q := .of fun s S T => by
  refine wpAny_Try_except (wpAny_mono (wpAny_toks (h.go s S T)) (fun f s₁ ⟨t₁, p₁, S₁, x₁, q⟩ => ?_) fun v s₁ ⟨t₁, p₁, S₁, x₁, q⟩ => ?_)
  · cases f with
    | next => exact Run.after S T S₁ x₁ t₁ q
    | _ => exact ⟨p₁, S₁, x₁, q⟩
  · obtain ⟨e, cls, N₀, rfl, F, O, q⟩ := q
    exact note hfr hf hk S₁ F O fun h' T' S₂ x₂ => Run.after S T S₂ (x₁.trans S S₁ x₂ (Nat.le_refl _)) t₁ (q T')

/-- a clause that names a built-in class, without a name for the exception -/
theorem H_builtin {e T₀ : Addr} {X Ty : String} {N₀ : List (Addr × Cell)} {t : Expr} {b₀ : Stmt} {suite : List Stmt} {pos : Pos} {rest : List ExceptHandler} {Q : Flow → Pt → Prop}
    (hexc : isSubtype (.type Ty) (.type "BaseException") = Pure.pure true) (hnt : isSubtype (.type ((Manifest.find? Ty).elim "type" fun x => x.metatype)) (.type "tuple") = Pure.pure false) (hsub : isSubtype (.type X) (.type Ty) = Pure.pure true)
    (ht : ∀ {A' : Around} {p' : Pt} {Q : Value → Pt → Prop}, Q (.type Ty) p' → Run C A' L (eval t env) p' Q) (hN : p.N = (T₀, tbC) :: (e, excC (.type X) (.ref T₀)) :: N₀)
    (h : ∀ G', GLe p.G G' → Run C (A.mark (some (.ref e))) L (execs (b₀ :: suite) env) { p with G := G', N := N₀ } Q) :
    Run C A L (handleBy (.ref e) env (.ExceptHandler (some t) none (b₀ :: suite) pos :: rest)) p Q := .of fun s S T => by
  refine wpAny_handleBy_builtin (b := true) hexc hnt hsub (wpAny_mono (wpAny_toks ((ht (A' := A.mark (some (.ref e))) (p' := p) (Q := fun v p' => v = .type Ty ∧ p' = p) ⟨rfl, rfl⟩).go s S T)) (fun v s₁ ⟨t₁, p₁, S₁, x₁, e1, e2⟩ => ?_) fun _ _ z => z.2.elim)
  subst e1 e2
  obtain ⟨G, m, N, k⟩ := p₁
  dsimp only at hN
  subst hN
  obtain ⟨oe, hoe, hcls, vs, a0, hd, h0, h1⟩ := S₁.s0.own (e, excC (.type X) (.ref T₀)) (.tail _ (.head _))
  refine ⟨rfl, ⟨oe, hoe, hcls⟩, ?_⟩
  rw [if_pos rfl]
  refine flight_off (p := ⟨G, m, [], k⟩) S₁ fun h' S₂ x₂ => ?_
  have x₁₂ := x₁.trans S S₁ x₂ (Nat.le_refl _)
  refine wpAny_mono (Run.after S T S₂ x₁₂ t₁ (Run.freeze (DelN.head) fun o₁ G₁ _ eG₁ n₁ => Run.freeze (DelN.head) fun o₂ G₂ _ eG₂ n₂ => h G₂ ?_)) (fun f s₃ q => q) fun _ _ z => z.elim
  rw [eG₂]
  dsimp only at n₂ eG₁ ⊢
  rw [eG₁] at n₂ ⊢
  exact (GLe.add n₁).trans (GLe.add n₂)
/-- a clause that names a class of the text -/
theorem H_own {e T₀ Cc : Addr} {x : Str} {bmB : List Value} {newId : String} {mg : Str → Option Value} {N₀ : List (Addr × Cell)} {t : Expr} {b₀ : Stmt} {suite : List Stmt} {pos : Pos} {rest : List ExceptHandler} {Q : Flow → Pt → Prop}
    (hbase : bmB.contains (.type "BaseException") = true) (O : OwnClsQ x Cc bmB newId mg C.B)
    (ht : ∀ {A' : Around} {p' : Pt} {Q : Value → Pt → Prop}, Q (.ref Cc) p' → Run C A' L (eval t env) p' Q) (hN : p.N = (T₀, tbC) :: (e, excC (.ref Cc) (.ref T₀)) :: N₀)
    (h : ∀ G', GLe p.G G' → Run C (A.mark (some (.ref e))) L (execs (b₀ :: suite) env) { p with G := G', N := N₀ } Q) :
    Run C A L (handleBy (.ref e) env (.ExceptHandler (some t) none (b₀ :: suite) pos :: rest)) p Q := .of fun s S T => by
  refine handleBy_own (C := Cc) (x := x) (newId := newId) (mg := mg) hbase (wpAny_mono (wpAny_toks ((ht (A' := A.mark (some (.ref e))) (p' := p) (Q := fun v p' => v = .ref Cc ∧ p' = p) ⟨rfl, rfl⟩).go s S T)) (fun v s₁ ⟨t₁, p₁, S₁, x₁, e1, e2⟩ => ?_) fun _ _ z => z.2.elim)
  subst e1 e2
  obtain ⟨G, m, N, k⟩ := p₁
  dsimp only at hN
  subst hN
  obtain ⟨oe, hoe, hcls, vs, a0, hd, h0, h1⟩ := S₁.s0.own (e, excC (.ref Cc) (.ref T₀)) (.tail _ (.head _))
  refine ⟨rfl, O.keeps S₁.s0.base, ⟨oe, hoe, hcls⟩, ?_⟩
  refine flight_off (p := ⟨G, m, [], k⟩) S₁ fun h' S₂ x₂ => ?_
  have x₁₂ := x₁.trans S S₁ x₂ (Nat.le_refl _)
  refine wpAny_mono (Run.after S T S₂ x₁₂ t₁ (Run.freeze (DelN.head) fun o₁ G₁ _ eG₁ n₁ => Run.freeze (DelN.head) fun o₂ G₂ _ eG₂ n₂ => h G₂ ?_)) (fun f s₃ q => q) fun _ _ z => z.elim
  rw [eG₂]
  dsimp only at n₂ eG₁ ⊢
  rw [eG₁] at n₂ ⊢
  exact (GLe.add n₁).trans (GLe.add n₂)
end
end Mine

open PySem PySem.Calls PyProof.Rows
set_option Elab.async false
set_option maxRecDepth 100000
set_option maxHeartbeats 4000000
namespace Mine
namespace LI
theorem ga : Slot "list_iterator" "__getattribute__" "object.__getattribute__" :=
  .of (owner := "object") (n := "__getattribute__") (by rw [typeLookup_type, builtinLookup_eq_fast]; kernel_rfl) (by decide +kernel) (by decide +kernel) (by decide +kernel)
    (by first | exact .inl (by decide +kernel) | exact .inr (by decide +kernel)) (by rw [isSubtype_type]; kernel_rfl)
theorem entry_ga : entryFor table "object.__getattribute__" = some Builtin.«object.__getattribute__» := entryFor_of_tree (by kernel_rfl)
theorem args_ga (a b : Value) : argsOk "object.__getattribute__" ⟨[a, b], []⟩ := by unfold argsOk; kernel_rfl
theorem lk : typeLookup (.type "list_iterator") "__next__" = pure (some (.builtin "list_iterator.__next__")) := by rw [typeLookup_type, builtinLookup_eq_fast]; kernel_rfl
theorem ty : typeOf (.builtin "list_iterator.__next__") = pure (.type "wrapper_descriptor") := by kernel_rfl
theorem get : Slot "wrapper_descriptor" "__get__" "wrapper_descriptor.__get__" :=
  .of (owner := "wrapper_descriptor") (n := "__get__") (by rw [typeLookup_type, builtinLookup_eq_fast]; kernel_rfl) (by decide +kernel) (by decide +kernel) (by decide +kernel)
    (by first | exact .inl (by decide +kernel) | exact .inr (by decide +kernel)) (by rw [isSubtype_type]; kernel_rfl)
theorem entry_get : entryFor table "wrapper_descriptor.__get__" = some Builtin.«wrapper_descriptor.__get__» := entryFor_of_tree (by kernel_rfl)
theorem args_get (a b c : Value) : argsOk "wrapper_descriptor.__get__" ⟨[a, b, c], []⟩ := by unfold argsOk; kernel_rfl
theorem noSet : typeLookup (.type "wrapper_descriptor") "__set__" = pure none := by rw [typeLookup_type, builtinLookup_eq_fast]; kernel_rfl
theorem noDel : typeLookup (.type "wrapper_descriptor") "__delete__" = pure none := by rw [typeLookup_type, builtinLookup_eq_fast]; kernel_rfl
theorem own : (".".intercalate ("list_iterator.__next__".cutAt '.').dropLast) = "list_iterator" := by
  have e0 : "list_iterator.__next__".cutAt '.' = ["list_iterator", "__next__"] := by first | rfl | decide +kernel
  rw [e0]; decide +kernel
theorem sub : isSubtype (.type "list_iterator") (.type "list_iterator") = pure true := by rw [isSubtype_type]; kernel_rfl

section
variable {prog : Program} {w : World} {A : Around} {E : Value → Shared → Prop} {h : Heap} {g : Array GenState} {d : Drawn} {t : Nat} {os : OsState} {a : Addr} {o : Obj}
theorem wget {R : Result → Shared → Prop} (hx : h.get? a = some o) (hc : o.cls = .type "list_iterator")
    (hq : R (.ok (.ret (.ref h.objs.size))) ⟨h.push { cls := .type "method-wrapper", data := .fields #[.builtin "list_iterator.__next__", .ref a] }, g, d, t, os⟩) :
    codeAny (model prog w) A (.call (.builtin "wrapper_descriptor.__get__") ⟨[.builtin "list_iterator.__next__", .ref a, .type "list_iterator"], []⟩) R ⟨h, g, d, t, os⟩ := by
  have hT : (⟨h, g, d, t, os⟩ : Shared).TypeIs (.ref a) "list_iterator" := ⟨_, hx, hc⟩
  have hT5 : (⟨h, g, d, t, os⟩ : Shared).TypeIs (.builtin "list_iterator.__next__") "wrapper_descriptor" := ty
  have f8 : isSubtype (.type "list_iterator") (.type (".".intercalate ("list_iterator.__next__".cutAt '.').dropLast)) = pure true := by rw [own]; exact sub
  refine codeAny_call_builtin get.plain entry_get (get.check _ _ _ _ _ _ _ _ hT5 (args_get _ _ _) ?_)
  repeat (any_goals (first | assumption | wp_step))
theorem entry {tk : Tok} {Q : Fin → Shared → Prop} {fs : Array Value} (hx : h.get? a = some { cls := .type "list_iterator", data := .fields fs })
    (hq : Q (.done (.ret (.ref h.objs.size))) ⟨h.push { cls := .type "method-wrapper", data := .fields #[.builtin "list_iterator.__next__", .ref a] }, g, d, t, os⟩) :
    wpAny (model prog w) A (Builtin.«object.__getattribute__» ⟨[.ref a, .str "__next__" tk], []⟩) Q E ⟨h, g, d, t, os⟩ := by
  have hT : (⟨h, g, d, t, os⟩ : Shared).TypeIs (.ref a) "list_iterator" := ⟨_, hx, rfl⟩
  have hT5 : (⟨h, g, d, t, os⟩ : Shared).TypeIs (.builtin "list_iterator.__next__") "wrapper_descriptor" := ty
  have f4 := lk
  have f5 := ty
  have f6 := get.lookup
  have f7 := noSet
  have f8 := noDel
  repeat (any_goals (first | assumption | wp_step))
  refine wget hx rfl ?_
  repeat (any_goals (first | assumption | wp_step))
theorem attr {fs : Array Value} {expr : Bool} {Q : Value → Shared → Prop} (hx : h.get? a = some { cls := .type "list_iterator", data := .fields fs })
    (hq : Q (.ref h.objs.size) ⟨h.push { cls := .type "method-wrapper", data := .fields #[.builtin "list_iterator.__next__", .ref a] }, g, d, t + 1, os⟩) :
    wpAny (model prog w) A (getAttr (.ref a) "__next__" expr) Q E ⟨h, g, d, t, os⟩ := by
  have hT : ∀ t, (⟨h, g, d, t, os⟩ : Shared).TypeIs (.ref a) "list_iterator" := fun _ => ⟨_, hx, rfl⟩
  have hT1 := hT (t + 1)
  have f2 := ga.lookup
  have f3 := ga.bind (.ref a)
  have hx0 : (expr && onTheHeap (Value.builtin "object.__getattribute__")) = false := by cases expr <;> rfl
  unfold getAttr
  repeat (any_goals (first | assumption | wp_step))
  refine codeAny_call_builtin ga.plain entry_ga (ga.check _ _ _ _ _ _ _ _ hT1 (args_ga _ _) (entry hx ?_))
  repeat (any_goals (first | assumption | wp_step))

theorem bound (v : Value) : checkBoundCall "list_iterator.__next__" ⟨[v], []⟩ = pure () := by unfold checkBoundCall; kernel_rfl
/-- the call of the bound method -/
theorem step {b it : Addr} {s : Shared} {Q : Value → Shared → Prop} (hb : s.heap.get? b = some { cls := .type "method-wrapper", data := .fields #[.builtin "list_iterator.__next__", .ref it] })
    (h : codeAny (model prog w) A (.builtin "list_iterator.__next__" ⟨[.ref it], []⟩) (fun r s' => match r with | .ok (.ret v) => Q v s' | .ok _ => False | .error e => E e s') s) :
    wpAny (model prog w) A (PySem.call (.ref b) []) Q E s := by
  refine wpAny_call (codeAny_of_tree ?_)
  show wpAny _ _ (callAny (.ref b) _) _ _ _
  unfold callAny
  refine wpAny_bind (wpAny_load hb ?_)
  dsimp only
  rw [if_pos (by decide)]
  show wpAny _ _ (if _ then _ else _) _ _ _
  rw [if_pos (by decide)]
  refine wpAny_bind (wpAny_of_eq (bound (.ref it)) ?_)
  refine wpAny_pure ⟨Code.quiet_builtin _ (by decide +kernel), h⟩
/-- the next item -/
theorem next_item {b it l : Addr} {i : Nat} {items : Array Value} {x : Value} {s : Shared} {Q : Value → Shared → Prop} (hb : s.heap.get? b = some { cls := .type "method-wrapper", data := .fields #[.builtin "list_iterator.__next__", .ref it] })
    (hit : s.heap.get? it = some { cls := .type "list_iterator", data := .fields #[.ref l, .int i 0] }) (hl : s.heap.IsList l items) (hx : items[i]? = some x)
    (hQ : ∀ h', h'.get? it = some { cls := .type "list_iterator", data := .fields #[.ref l, .int (i + 1 : Nat) 0] } → Heap.SameBut it s.heap h' → Q x { s with heap := h' }) :
    wpAny (model prog w) A (PySem.call (.ref b) []) Q E s := by
  obtain ⟨ol, hol, _, nl, hdl⟩ := hl
  refine step hb (codeAny_builtin entry_listiter_next ?_)
  show wpAny _ _ (field (.ref it) 0 >>= _) _ _ s
  refine wpAny_bind (wpAny_field hit rfl (x := .ref l) rfl ?_)
  show wpAny _ _ (if (Value.ref l == Value.none) = true then _ else _) _ _ s
  rw [if_neg (show ¬ ((Value.ref l == Value.none) = true) from Bool.false_ne_true)]
  show wpAny _ _ (field (.ref it) 1 >>= _) _ _ s
  refine wpAny_bind (wpAny_field hit rfl (x := .int i 0) rfl ?_)
  show wpAny _ _ (seqItems? (.ref l) >>= _) _ _ s
  refine wpAny_bind (wpAny_seqItems hol hdl ?_)
  simp only [Int.toNat_natCast, hx]
  refine wpAny_bind (wpAny_setField hit rfl (by simp) (wpAny_pure (hQ _ ?_ (Heap.SameBut.update ..))))
  rw [Heap.get?_update_self _ hit (Obj.isFreed_of_fields (Obj.data_mapFields rfl _))]
  rfl
/-- at the end -/
theorem next_end {b it l : Addr} {i : Nat} {items : Array Value} {s : Shared} {Q : Value → Shared → Prop} (hh : A.handled = none) (hb : s.heap.get? b = some { cls := .type "method-wrapper", data := .fields #[.builtin "list_iterator.__next__", .ref it] })
    (hit : s.heap.get? it = some { cls := .type "list_iterator", data := .fields #[.ref l, .int i 0] }) (hl : s.heap.IsList l items) (hx : items[i]? = none)
    (hE : ∀ h' e, Heap.ExtBut it s.heap h' → h'.get? it = some { cls := .type "list_iterator", data := .fields #[.none, .int i 0] } → s.heap.get? e = none →
      (∃ o, h'.get? e = some o ∧ excC (.type "StopIteration") .none o) → E (.ref e) { s with heap := h' }) :
    wpAny (model prog w) A (PySem.call (.ref b) []) Q E s := by
  obtain ⟨ol, hol, _, nl, hdl⟩ := hl
  refine step hb (codeAny_builtin entry_listiter_next ?_)
  show wpAny _ _ (field (.ref it) 0 >>= _) _ _ s
  refine wpAny_bind (wpAny_field hit rfl (x := .ref l) rfl ?_)
  show wpAny _ _ (if (Value.ref l == Value.none) = true then _ else _) _ _ s
  rw [if_neg (show ¬ ((Value.ref l == Value.none) = true) from Bool.false_ne_true)]
  show wpAny _ _ (field (.ref it) 1 >>= _) _ _ s
  refine wpAny_bind (wpAny_field hit rfl (x := .int i 0) rfl ?_)
  show wpAny _ _ (seqItems? (.ref l) >>= _) _ _ s
  refine wpAny_bind (wpAny_seqItems hol hdl ?_)
  simp only [Int.toNat_natCast, hx]
  refine wpAny_bind (wpAny_rule (wpAny_bind (wpAny_setField hit rfl (by simp) ?_)))
  show wpAny _ _ (newExc (.type "StopIteration") [] >>= _) _ _ _
  refine wpAny_bind ?_
  simp only [newExc, newTuple]
  refine wpAny_bind (wpAny_newObj_type ?_ (by size_fits))
  refine wpAny_bind (m := firstArgMember _ _) (wpAny_of_eq (a := Value.none) (by first | rfl | (simp only [firstArgMember]; rfl)) ?_)
  refine wpAny_newObj_type ?_ (by size_fits)
  simp only [raiseNew]
  refine wpAny_bind (wpAny_handled ?_)
  rw [show (A.under (Code.builtin "list_iterator.__next__" ⟨[.ref it], []⟩)).handled = none from hh]
  refine wpAny_bind (wpAny_pure (wpAny_throw ?_))
  have e1 : (s.heap.update it (Obj.mapFields (·.setIfInBounds 0 Value.none))).get? it = some { cls := .type "list_iterator", data := .fields #[.none, .int i 0] } := by
    rw [Heap.get?_update_self _ hit (Obj.isFreed_of_fields (Obj.data_mapFields rfl _))]; rfl
  refine hE _ _ (((Heap.SameBut.update ..).extBut.push _).push _) (Heap.get?_push_of_some _ (Heap.get?_push_of_some _ e1)) (Heap.get?_none_of_le ?_) ⟨_, Heap.get?_push_size _ rfl, rfl, _, _, rfl, rfl, rfl⟩
  simp only [Heap.size_push, Heap.size_after_update]; omega
end
end LI
end Mine

open PySem PySem.Calls PyProof.Rows
set_option Elab.async false
set_option linter.unusedVariables false
set_option maxRecDepth 100000
namespace Mine

/-- a dict, by its pairs -/
def kvC (C : Cx) (kvs : List (Str × Value)) : Cell := fun o => o.IsDictOf (PySem.strKind C.prog C.w) kvs
/-- a set of strings -/
def setC (C : Cx) (S : Str → Bool) (n : Nat) : Cell := fun o => ∃ es ep t, o.ExactSet ∧ o.data = .set es ep t ∧ ElemsOf (PySem.strKind C.prog C.w) es.toList ∧ (∀ k, S k = true ↔ ∃ e ∈ es.toList, (PySem.strKind C.prog C.w).is k e.2 = true)
    ∧ es.size < scanBound ∧ t.fits es.size = true ∧ es.size = n

section
variable {C : Cx} {A : Around} {L : Addr} {α β : Type} {p : Pt} {env : Env}

/-- a cell is known less well -/
theorem Run.weak {t : Sem α} {a : Addr} {c c' : Cell} {N' : List (Addr × Cell)} {Q : α → Pt → Prop} (P : PutN p.N a c c' N') (hc : ∀ o, c o → c' o) (h : Run C A L t { p with N := N' } Q) : Run C A L t p Q := .of fun s S T => by
  obtain ⟨o, ho, hco⟩ := S.s0.own _ P.mem
  have S' := S.putN P (fun b ob hb e => e) ho (hc o hco)
  exact Run.after S T S' (Ext.putN P (fun b ob hb e => e)) (Nat.le_refl _) h

def DictA (C : Cx) (p : Pt) (d : Addr) (es : List Ent) : Prop := (d == sysModules) = false ∧ ((∃ o, p.G d = some o ∧ dictC C.w es o) ∨ (d, dictC C.w es) ∈ p.N)
theorem DictG.a {d : Addr} {es : List Ent} (x : DictG C.w p.G d es) : DictA C p d es := ⟨x.1, .inl x.2⟩
theorem DictA.map {d : Addr} {es : List Ent} {h : Heap} (x : DictA C p d es) (S : Sat C.B L p h) : h.MapOf (PySem.strKind C.prog C.w) d (dget es) := by
  obtain ⟨_, ⟨o, e, ep, hx, hd, hn⟩ | hm⟩ := x
  · exact ⟨o, _, ep, S.s0.gs _ _ e, hx, hd, keysOf_ent es, findBy_dget es⟩
  · obtain ⟨o, ho, ep, hx, hd, hn⟩ := S.s0.own _ hm
    exact ⟨o, _, ep, ho, hx, hd, keysOf_ent es, findBy_dget es⟩
theorem DictA.hasT {d : Addr} {es : List Ent} (x : DictA C p d es) : HasT C L p (.ref d) "dict" := fun s S => by
  obtain ⟨o, es', ep, ho, hx, r⟩ := x.map S
  exact ⟨⟨o, ho, hx.1⟩, fun b q => by cases q; exact ⟨o, ho, hx.2.1⟩⟩
theorem R_dictGet {d : Addr} {es : List Ent} {k : Str} {t : Tok} {Q : Value → Pt → Prop} (x : DictA C p d es) (h : Q ((dget es k).getD .none) p) : Run C A L (PySem.call (.builtin "dict.get") [.ref d, .str k t]) p Q :=
  R_meets F.slot_dict_get F.entry_dict_get (F.args_dict_get_2 _ _) x.hasT fun s S T =>
    ⟨_, meets_dict_get (PySem.strKind C.prog C.w) d (PySem.strKind_is _ _ k t) x.1, dget es, x.map S, Post.same S h⟩

/-! the pairs' dict -/
theorem kv_of {d : Addr} {kvs : List (Str × Value)} {h : Heap} (x : (d, kvC C kvs) ∈ p.N) (S : Sat C.B L p h) : h.DictOf (PySem.strKind C.prog C.w) d kvs := Heap.dictOf_iff.mpr (S.s0.own _ x)
theorem C_inK {d : Addr} {kvs : List (Str × Value)} {k : Str} {t : Tok} {Q : Value → Pt → Prop} (x : (d, kvC C kvs) ∈ p.N) (hd : (d == sysModules) = false) (h : Q (.bool (valueAt kvs k).isSome) p) : Run C A L (compareOp .In (.str k t) (.ref d)) p Q := .of fun s S T =>
  wpAny_in_of (PySem.strKind_is _ _ k t) hd (kv_of x S).mapOf (Post.same S h)
theorem G_kv {d : Addr} {kvs : List (Str × Value)} {k : Str} {t : Tok} {v : Value} {Q : Value → Pt → Prop} (x : (d, kvC C kvs) ∈ p.N) (hv : valueAt kvs k = some v) (h : Q v p) : Run C A L (getItem (.ref d) (.str k t)) p Q := .of fun s S T =>
  wpAny_getItem_of (PySem.strKind_is _ _ k t) (kv_of x S).mapOf hv (Post.same S h)
theorem S_kv {d : Addr} {kvs : List (Str × Value)} {k : Str} {t : Tok} {v : Value} {N' : List (Addr × Cell)} {Q : Unit → Pt → Prop} (P : PutN p.N d (kvC C kvs) (kvC C (stored kvs k v)) N') (hz : kvs.length ≤ sizeLine) (h : Q () { p with N := N' }) :
    Run C A L (setItem (.ref d) (.str k t) v) p Q := .of fun s S T => by
  refine wpAny_setItem_pairs (hsz := hz) (PySem.strKind_is _ _ k t) (kv_of P.mem S) fun h' hd hs => ?_
  obtain ⟨o, ho, hc⟩ := Heap.dictOf_iff.mp hd
  exact ⟨_, S.putN P hs.extBut ho hc, Ext.putN P hs.extBut, h⟩
theorem S_delkv {d : Addr} {kvs : List (Str × Value)} {k : Str} {t : Tok} {v : Value} {N' : List (Addr × Cell)} {Q : Unit → Pt → Prop} (P : PutN p.N d (kvC C kvs) (kvC C (without kvs k)) N') (hz : kvs.length ≤ sizeLine) (hv : valueAt kvs k = some v) (h : Q () { p with N := N' }) :
    Run C A L (delItem (.ref d) (.str k t)) p Q := .of fun s S T => by
  have hD := kv_of P.mem S
  unfold delItem
  try with_reducible refine wpAny_holding ?_
  refine wpAny_bind (wpAny_sequenceKey hD.typeIs (by decide) ?_)
  refine wpAny_bind (wpAny_callSpecial?_slot (name := Str.ofString "__delitem__") hD.typeIs PySem.F.slot_dict_delitem
    (call_meetsIn PySem.F.slot_dict_delitem hD.typeIs PySem.F.entry_dict_delitem (PySem.F.args_dict_delitem_2 _ _) (meets_dict_delitem_pairs (PySem.strKind C.prog C.w) d (PySem.strKind_is _ _ k t)) ⟨kvs, hD, hz, by rw [hv]; rfl, fun h' hmm hs => ?_⟩))
  obtain ⟨o', ho', hd'⟩ := Heap.dictOf_iff.mp hmm
  exact wpAny_pure ⟨_, S.putN P hs.extBut ho' hd', Ext.putN P hs.extBut, h⟩
theorem X_DelSub {o i : Expr} {pos pos' : Pos} {Q : Flow → Pt → Prop} (h : Run C A L (eval o env) p fun ov p₁ => Run C A L (eval i env) p₁ fun iv p₂ => Run C A L (delItem ov iv) p₂ fun _ p₃ => Q .next p₃) :
    Run C A L (exec (.Delete [.Subscript o i pos'] pos) env) p Q := by
  have e : delete (.Subscript o i pos') env = (do
      let ov ← eval o env
      let iv ← PySem.holding [ov] (eval i env)
      PySem.standAt pos'
      PySem.holding [ov, iv] (delItem ov iv)
      release [ov, iv] []) := rfl
  have e2 : exec (.Delete [.Subscript o i pos'] pos) env = (do PySem.standAt pos; deleteEach [.Subscript o i pos'] env; Pure.pure .next) := rfl
  have e3 : deleteEach [.Subscript o i pos'] env = (do delete (.Subscript o i pos') env; deleteEach [] env) := rfl
  rw [e2, e3, e]
  refine .bind (.standAt (.bind (.bind ?_)))
  exact .bind (h.mono fun ov p₁ h₁ => .bind (.holding (h₁.mono fun iv p₂ h₂ => .bind (.standAt (.bind (.holding (h₂.mono fun _ p₃ h₃ => .release (.pure (.pure h₃)))))))))

/-! sets -/
theorem set_of {a : Addr} {Sf : Str → Bool} {n : Nat} {h : Heap} (x : (a, setC C Sf n) ∈ p.N) (S : Sat C.B L p h) : h.SetOf (PySem.strKind C.prog C.w) a Sf n := by
  obtain ⟨o, ho, es, ep, t, r⟩ := S.s0.own _ x
  exact ⟨o, es, ep, t, ho, r⟩
theorem HasT.set {a : Addr} {Sf : Str → Bool} {n : Nat} (x : (a, setC C Sf n) ∈ p.N) : HasT C L p (.ref a) "set" := fun s S => ⟨(set_of x S).typeIs, (set_of x S).noDict⟩
theorem C_inSet {a : Addr} {Sf : Str → Bool} {n : Nat} {k : Str} {t : Tok} {Q : Value → Pt → Prop} (x : (a, setC C Sf n) ∈ p.N) (h : Q (.bool (Sf k)) p) : Run C A L (compareOp .In (.str k t) (.ref a)) p Q := .of fun s S T =>
  wpAny_inSet_of (PySem.strKind_is _ _ k t) rfl (set_of x S) (Post.same S h)
theorem R_setAdd {a : Addr} {Sf : Str → Bool} {n : Nat} {k : Str} {t : Tok} {N' : List (Addr × Cell)} {Q : Value → Pt → Prop} (P : PutN p.N a (setC C Sf n) (setC C (fun k' => Sf k' || decide (k' = k)) (if Sf k then n else n + 1)) N') (hz : n + 1 < scanBound) (h : Q .none { p with N := N' }) :
    Run C A L (PySem.call (.builtin "set.add") [.ref a, .str k t]) p Q := .of fun s S T =>
  call_set_add (PySem.strKind_is _ _ k t) rfl (set_of P.mem S) hz fun h' hs hS => by
    obtain ⟨o, es, ep, tt, ho, r⟩ := hS
    exact ⟨_, S.putN P hs.extBut ho ⟨es, ep, tt, r⟩, Ext.putN P hs.extBut, h⟩
theorem R_setNew {Q : Value → Pt → Prop} (h : ∀ a, Fresh C a → Q (.ref a) { p with N := (a, setC C (fun _ => false) 0) :: p.N }) : Run C A L (PySem.call (.type "set") []) p Q := .of fun s S T =>
  call_set_0 fun led => ⟨_, S.pushN rfl ⟨#[], 0, .fresh 0 0 led, ⟨rfl, rfl, rfl⟩, rfl, (fun e he => by simp at he), (fun k => by simp), by decide, by cases led <;> decide, rfl⟩, Ext.pushN, h _ S.fresh⟩
end
end Mine

open PySem PySem.Calls PyProof.Rows
set_option Elab.async false
set_option linter.unusedVariables false
set_option maxRecDepth 100000
namespace Mine

abbrev CQ := Value → (Addr → Option Obj) → List (Addr × Cell) → Nat → Prop
/-- a call's end -/
def CallPost (C : Cx) (s : Shared) (G : Addr → Option Obj) (N : List (Addr × Cell)) (k : Nat) (Q E : CQ) (r : Result) (s' : Shared) : Prop :=
  ∃ v G' N' k', Sat0 C.B G' N' s'.heap ∧ Ext0 (fun _ => False) G N k s G' N' k' s' ∧ ((r = .ok (.ret v) ∧ Q v G' N' k') ∨ (r = .error v ∧ E v G' N' k'))
/-- a def of the text, called with vs; it may raise -/
def CallX (C : Cx) (A : Around) (f : Addr) (vs : List Value) (G : Addr → Option Obj) (N : List (Addr × Cell)) (k : Nat) (Q E : CQ) : Prop :=
  ∀ s, Sat0 C.B G N s.heap → TokOk k s → codeAny (model C.prog C.w) A (.call (.ref f) ⟨vs, []⟩) (CallPost C s G N k Q E) s

section
variable {C : Cx} {A : Around} {L : Addr} {α β : Type} {p : Pt} {env : Env}
theorem CallX.run {f : Addr} {vs : List Value} {G : Addr → Option Obj} {N : List (Addr × Cell)} {k : Nat} {Q : CQ} (h : CallX C A f vs G N k Q fun _ _ _ _ => False) : CallRun C A f vs G N k Q := fun s S T =>
  codeAny_mono (h s S T) fun r s' hr => by
    obtain ⟨v, G', N', k', S', x, q⟩ := hr
    exact q.elim (fun q => ⟨v, G', N', k', q.1, S', x, q.2⟩) fun q => q.2.elim

/-- what a body's exceptional end must offer -/
def Leaves (outer : List Env) (E : CQ) (v : Value) (p' : Pt) : Prop := ∃ e cls N₀, v = .ref e ∧ Flown e cls p'.N N₀ ∧ Outer outer N₀ ∧ ∀ T, E v p'.G ((T, tbC) :: (e, excC cls (.ref T)) :: N₀) p'.k

theorem call_rest {gl bl : List (Str × Value)} {f : Addr} {fd : FuncData} {body : List Stmt} {binds : List (Str × Value)} {G : Addr → Option Obj} {N : List (Addr × Cell)} {m₀ : List (Str × Option Value)} {k : Nat} {s : Shared} {outer : List Env}
    {Q E : CQ} {d : Nat} {Z : Value → Shared → Prop} (K : Base C gl bl) (hr : Room A (d + 1)) (hA : A.frames = some outer) (S : Sat0 C.B G N s.heap) (T : TokOk k s)
    (hm : m₀ = (m₀.map (·.1)).map fun x => (x, binds.reverse.lookup x)) (hs : (binds.all fun q => (m₀.map (·.1)).contains q.1) = true) (hnd : (m₀.map (·.1)).Nodup)
    (hcell : ∀ x ∈ fd.scope.names, x.2 ≠ .cell) (hloc : ∀ x ∈ binds, fd.scope.names.lookup x.1 = some .local)
    (h : ∀ L, Room (A.deeper (callEnv fd L f)) d → RunE C (A.deeper (callEnv fd L f)) L (execs body (callEnv fd L f)) ⟨G, m₀, N, k⟩ (fun fl p' => Q (retOf fl) p'.G p'.N p'.k) (Leaves outer E))
    (hk : fd.scope.kind = .function) :
    wpAny (model C.prog C.w) A.in1 (newFunctionEnv fd.scope fd.globals fd.closure binds (fd.qualname ++ ".<locals>.") (some f) fd.code none fd.builtins)
        (fun env s₂ => s₂.heap.NoLimit ∧ codeAny (model C.prog C.w) A (.func body env) (CallPost C s G N k Q E) s₂) Z s := by
  refine wpAny_newFunctionEnv hcell hloc (fun h₁ hns hsb => ⟨(K.lim.keeps S.base).fresh _ hsb, codeAny_func ?_⟩) hk
  have hk₁ : ∀ b o, s.heap.get? b = some o → h₁.get? b = some o := fun b o e => hsb.extBut b o (Nat.ne_of_lt (Heap.lt_size e)) (Heap.get?_push_of_some _ e)
  have Lnone : s.heap.get? s.heap.objs.size = none := get_size_none _
  have S1 := S.keep hk₁
  have Sat1 : Sat C.B s.heap.objs.size ⟨G, m₀, N, k⟩ h₁ := ⟨S1, by rw [look_of_binds hm hs]; exact hns, by
      cases e : C.B.get? s.heap.objs.size with
      | none => rfl
      | some o => (have := S.base _ _ e; rw [Lnone] at this; cases this), by
      show G s.heap.objs.size = none
      cases e : G s.heap.objs.size with
      | none => rfl
      | some o => (have := S.gs _ _ e; rw [Lnone] at this; cases this), fun hL => Nat.lt_irrefl _ (S.lt hL), hnd⟩
  have fin : ∀ (p' : Pt) (s' : Shared), Ext s.heap.objs.size ⟨G, m₀, N, k⟩ { s with heap := h₁, toks := s.toks + binds.length } p' s' → Ext0 (fun _ => False) G N k s p'.G p'.N p'.k s' := fun p' s' x =>
    ⟨fun b o e _ hb => x.keep b o (hk₁ b o e) (Nat.ne_of_lt (Heap.lt_size e)) hb, x.grow, fun b hb => (by
      rcases x.fresh b hb with e | e | e
      · exact .inl e
      · exact .inr (.inl e)
      · refine .inr (.inr ?_)
        cases e2 : s.heap.get? b with
        | none => rfl
        | some o => rw [hk₁ b o e2] at e; cases e), x.noleak, x.gens, x.os, x.km, x.kk⟩
  refine wpAny_mono ((h s.heap.objs.size (hr.deeper _)).go _ Sat1 ⟨Nat.le_trans T.le (Nat.le_add_right _ _)⟩) (fun fl s' hq => ?_) fun v s' hq => ?_
  · obtain ⟨p', S', x, q⟩ := hq
    exact ⟨_, p'.G, p'.N, p'.k, S'.s0, fin p' s' x, .inl ⟨by cases fl <;> rfl, q⟩⟩
  · obtain ⟨p', S', x, e, cls, N₀, rfl, F, O, q⟩ := hq
    refine leave (outer := outer) (Around.frames_deeper hA) rfl (by show fd.scope.kind ≠ _; rw [hk]; decide) S' F O fun h' T' S'' x'' => ?_
    have x₁₂ := x.trans Sat1 S' x'' (Nat.le_refl _)
    exact ⟨.ref e, _, _, _, S''.s0, fin _ _ x₁₂, .inr ⟨rfl, q T'⟩⟩

theorem CallX.body {gl bl : List (Str × Value)} {f : Addr} {o : Obj} {fd : FuncData} {body : List Stmt} {vs : List Value} {binds : List (Str × Value)} {G : Addr → Option Obj} {N : List (Addr × Cell)} {m₀ : List (Str × Option Value)} {k : Nat} {outer : List Env}
    {Q E : CQ} {d : Nat} (K : Base C gl bl) (hr : Room A (d + 1)) (hA : A.frames = some outer) (ho : C.B.get? f = some o) (hdata : o.data = .func fd) (hcd : C.B.CodeRec fd.code fd.qualname)
    (hbind : Binds C fd vs binds) (hm : m₀ = (m₀.map (·.1)).map fun x => (x, binds.reverse.lookup x)) (hs : (binds.all fun q => (m₀.map (·.1)).contains q.1) = true) (hnd : (m₀.map (·.1)).Nodup)
    (hbody : fd.body = .stmts body) (hcell : ∀ x ∈ fd.scope.names, x.2 ≠ .cell) (hloc : ∀ x ∈ binds, fd.scope.names.lookup x.1 = some .local)
    (h : ∀ L, Room (A.deeper (callEnv fd L f)) d → RunE C (A.deeper (callEnv fd L f)) L (execs body (callEnv fd L f)) ⟨G, m₀, N, k⟩ (fun fl p' => Q (retOf fl) p'.G p'.N p'.k) (Leaves outer E))
    (hco : fd.scope.isCoroutine = false := by rfl) (hgen : fd.scope.isGenerator = false := by rfl) (hk : fd.scope.kind = .function := by rfl) : CallX C A f vs G N k Q E := fun s S T => by
  obtain ⟨c, oc, x, y, e1, e2, e3⟩ := hcd
  have hroom : A.depth < recursionLimit := by have := hr.depth; omega
  exact codeAny_call_function hroom (S.base _ _ ho) hdata hco hgen hbody ⟨c, oc, x, y, e1, S.base _ _ e2, e3⟩ (hbind s S.base _ _ _ _ (call_rest K hr hA S T hm hs hnd hcell hloc h hk))
/-- with *rest -/
theorem CallX.bodyV {gl bl : List (Str × Value)} {f : Addr} {o : Obj} {fd : FuncData} {body : List Stmt} {vs rest : List Value} {front : List (Str × Value)} {nm : Str} {G : Addr → Option Obj} {N : List (Addr × Cell)} {m₀ : Addr → List (Str × Option Value)} {k : Nat} {outer : List Env}
    {Q E : CQ} {d : Nat} (K : Base C gl bl) (hr : Room A (d + 1)) (hA : A.frames = some outer) (ho : C.B.get? f = some o) (hdata : o.data = .func fd) (hcd : C.B.CodeRec fd.code fd.qualname)
    (hbind : bindArgs fd ⟨vs, []⟩ = (newTuple rest >>= fun t => Pure.pure (front ++ [(nm, t)]))) (hz : rest.length ≤ sizeLine)
    (hm : ∀ t, m₀ t = ((m₀ t).map (·.1)).map fun x => (x, (front ++ [(nm, Value.ref t)]).reverse.lookup x)) (hs : ∀ t, ((front ++ [(nm, Value.ref t)]).all fun q => ((m₀ t).map (·.1)).contains q.1) = true) (hnd : ∀ t, ((m₀ t).map (·.1)).Nodup)
    (hbody : fd.body = .stmts body) (hcell : ∀ x ∈ fd.scope.names, x.2 ≠ .cell) (hloc : ∀ t, ∀ x ∈ front ++ [(nm, Value.ref t)], fd.scope.names.lookup x.1 = some .local)
    (h : ∀ L t G', GLe G G' → TupAt G' t rest → Room (A.deeper (callEnv fd L f)) d → RunE C (A.deeper (callEnv fd L f)) L (execs body (callEnv fd L f)) ⟨G', m₀ t, N, k⟩ (fun fl p' => Q (retOf fl) p'.G p'.N p'.k) (Leaves outer E))
    (hco : fd.scope.isCoroutine = false := by rfl) (hgen : fd.scope.isGenerator = false := by rfl) (hk : fd.scope.kind = .function := by rfl) : CallX C A f vs G N k Q E := fun s S T => by
  obtain ⟨c, oc, x, y, e1, e2, e3⟩ := hcd
  have hroom : A.depth < recursionLimit := by have := hr.depth; omega
  refine codeAny_call_function hroom (S.base _ _ ho) hdata hco hgen hbody ⟨c, oc, x, y, e1, S.base _ _ e2, e3⟩ ?_
  rw [hbind]
  have Tn : s.heap.get? s.heap.objs.size = none := get_size_none _
  have gn : G s.heap.objs.size = none := by
    cases e : G s.heap.objs.size with
    | none => rfl
    | some o => have := S.gs _ _ e; rw [Tn] at this; cases this
  have nn : s.heap.objs.size ∉ dom N := fun hm => Nat.lt_irrefl _ (S.lt hm)
  have hkp : ∀ b ob, s.heap.get? b = some ob → (s.heap.push (tupO rest)).get? b = some ob := fun b ob e => Heap.get?_push_of_some _ e
  have S1 := S.keep hkp
  have S2 : Sat0 C.B (addG G s.heap.objs.size (tupO rest)) N (s.heap.push (tupO rest)) := by
    refine ⟨S1.base, fun b ob e => ?_, S1.own, S.nB, fun b hb => ?_, S.nd⟩
    · simp only [addG] at e
      split at e
      · rename_i q; cases e; rw [q]; exact Heap.get?_push_size _ rfl
      · exact S1.gs b ob e
    · simp only [addG]; rw [if_neg (by rintro rfl; exact nn hb)]; exact S.nG b hb
  have x1 : Ext0 (fun _ => False) G N k s (addG G s.heap.objs.size (tupO rest)) N k { s with heap := s.heap.push (tupO rest) } :=
    ⟨fun b o e _ _ => hkp b o e, fun b ob e => GLe.add gn b ob e, fun b h => h.elim (fun h => by
      simp only [addG] at h
      split at h
      · rename_i q; exact .inr (.inr (q ▸ Tn))
      · exact .inl h) fun h => .inr (.inl h), fun b h => .inl h, rfl, rfl, Nat.le_refl _, .inl (Nat.le_refl _)⟩
  refine wpAny_bind (wpAny_newObj_type (wpAny_pure ?_) (by show rest.toArray.size ≤ sizeLine; rw [List.size_toArray]; exact hz))
  refine wpAny_mono (call_rest (Z := fun _ _ => False) (s := { s with heap := s.heap.push (tupO rest) }) K hr hA S2 ⟨T.le⟩ (hm _) (hs _) (hnd _) hcell (hloc _) (fun L rm => h L _ _ (GLe.add gn) TupAt.new rm) hk) (fun env s₂ ⟨h1, h2⟩ => ⟨h1, codeAny_mono h2 fun r s' hr => ?_⟩) fun _ _ e => e.elim
  obtain ⟨v, G', N', k', S', x', q⟩ := hr
  have y : Ext0 (fun _ => False) (addG G s.heap.objs.size (tupO rest)) N k { s with heap := s.heap.push (tupO rest) } G' N' k { s' with toks := s.toks } := ⟨x'.keep, x'.grow, x'.fresh, x'.noleak, x'.gens, x'.os, Nat.le_refl _, .inl (Nat.le_refl _)⟩
  have z := Ext0.trans S S2 (fun b hb => hb.elim) x1 y (Nat.le_refl _)
  exact ⟨v, G', N', k', S', ⟨z.keep, z.grow, z.fresh, z.noleak, z.gens, z.os, x'.km, x'.kk⟩, q⟩

/-- such a call, its caller's frame lent -/
theorem RE_callL {f : Addr} {vs : List Value} {Nc Nr : List (Addr × Cell)} {Q : Value → Pt → Prop} {E : Value → Pt → Prop} (hp : p.N.Perm (Nc ++ Nr))
    (h : CallX C A f vs p.G ((L, frameC p.m) :: Nc) p.k (fun v G' N' k' => ∃ N'', N' = (L, frameC p.m) :: N'' ∧ Q v { p with G := G', N := N'' ++ Nr, k := k' })
      fun v G' N' k' => ∃ N'', N'.Perm ((L, frameC p.m) :: N'') ∧ E v { p with G := G', N := N'' ++ Nr, k := k' }) : RunE C A L (PySem.call (.ref f) vs) p Q E := .of fun s S T => by
  refine wpAny_call (codeAny_mono (h s (S.lend hp) T) fun r s' hr => ?_)
  obtain ⟨v, G', N', k', S', x, ⟨rfl, N'', rfl, q⟩ | ⟨rfl, N'', hP, q⟩⟩ := hr
  · obtain ⟨S'', x'⟩ := S.unlend hp S' x
    exact ⟨_, S'', x', q⟩
  · have hd : (dom N').Perm (dom ((L, frameC p.m) :: N'')) := by unfold dom; exact hP.map _
    have x2 : Ext0 (fun _ => False) p.G ((L, frameC p.m) :: Nc) p.k s G' ((L, frameC p.m) :: N'') k' s' :=
      ⟨x.keep, x.grow, fun b hb => x.fresh b (hb.imp id fun h => hd.mem_iff.mpr h), fun b hb => (x.noleak b hb).imp (fun h => hd.mem_iff.mp h) id, x.gens, x.os, x.km, x.kk⟩
    obtain ⟨S'', x'⟩ := S.unlend hp (S'.perm hP) x2
    exact ⟨_, S'', x', q⟩
end
end Mine

open PySem PySem.Calls PyProof.Rows
set_option Elab.async false
set_option linter.unusedVariables false
set_option maxRecDepth 100000
namespace Mine

/-- a list's iterator, at place i; and at its end -/
def liC (l : Addr) (i : Nat) : Cell := fun o => o = { cls := .type "list_iterator", data := .fields #[.ref l, .int i 0] }
def liEnd (i : Nat) : Cell := fun o => o = { cls := .type "list_iterator", data := .fields #[.none, .int i 0] }
/-- the bound __next__ -/
def MwG (G : Addr → Option Obj) (b it : Addr) : Prop := G b = some { cls := .type "method-wrapper", data := .fields #[.builtin "list_iterator.__next__", .ref it] }
theorem MwG.mono {G G' : Addr → Option Obj} {b it : Addr} (h : MwG G b it) (x : GLe G G') : MwG G' b it := x _ _ h

section
variable {C : Cx} {A : Around} {L : Addr} {α β : Type} {p : Pt} {env : Env}
theorem R_iter {l : Addr} {vs : List Value} {Q : Value → Pt → Prop} (hl : ListAt p.G l vs ∨ (l, listC vs) ∈ p.N) (h : ∀ it, Q (.ref it) { p with N := (it, liC l 0) :: p.N }) : Run C A L (PySem.call (.builtin "iter") [.ref l]) p Q := .of fun s S T => by
  refine call_function_entry (by decide +kernel) (by decide +kernel) PySem.W.kdk_entry_iter (PySem.W.kdk_args_iter _) ?_
  unfold Builtin.«iter»
  refine wpAny_bind (m := someArgs "iter" 1 2 _) (wpAny_of_eq (a := [Value.ref l]) (by first | rfl | kernel_rfl!) ?_)
  show wpAny _ _ (pyIter (.ref l) >>= _) _ _ _
  refine wpAny_bind (wpAny_pyIter_list (isList_of hl S) ?_)
  exact wpAny_pure ⟨_, rfl, { p with N := (s.heap.objs.size, liC l 0) :: p.N }, S.pushN (c := liC l 0) rfl rfl, Ext.pushN, h _⟩
theorem R_getNext {it l : Addr} {i : Nat} {expr : Bool} {Q : Value → Pt → Prop} (hi : (it, liC l i) ∈ p.N) (h : ∀ b G', GLe p.G G' → MwG G' b it → Q (.ref b) { p with G := G' }) : Run C A L (getAttr (.ref it) "__next__" expr) p Q := .of fun s S T => by
  obtain ⟨o, ho, rfl⟩ := S.s0.own _ hi
  have nn := S.none_at (get_size_none s.heap)
  obtain ⟨hh, g, d, t, os⟩ := s
  exact LI.attr ho ⟨_, S.pushG rfl, Ext.pushG S, h _ _ (GLe.add nn.2.1) addG_self⟩
theorem keeper_mw {b it : Addr} {s : Shared} {Q : Keeper → Shared → Prop} {E : Value → Shared → Prop} {M : Model} (hb : s.heap.get? b = some { cls := .type "method-wrapper", data := .fields #[.builtin "list_iterator.__next__", .ref it] }) (h : Q .machine s) :
    wpAny M A (keeperOf (.ref b)) Q E s := by
  unfold keeperOf
  refine wpAny_bind (wpAny_load hb ?_)
  exact wpAny_pure h
theorem RE_next {pos : Pos} {b it l : Addr} {i : Nat} {vs : List Value} {N' : List (Addr × Cell)} {Q : Value → Pt → Prop} {E : Value → Pt → Prop} (hh : A.handled = none) (hb : MwG p.G b it) (hl : ListAt p.G l vs ∨ (l, listC vs) ∈ p.N) (c' : Cell)
    (hc : c' = if i < vs.length then liC l (i + 1) else liEnd i) (P : PutN p.N it (liC l i) c' N')
    (h : ∀ v, vs[i]? = some v → Q v { p with N := N' }) (he : vs[i]? = none → ∀ e, E (.ref e) { p with N := (e, excC (.type "StopIteration") .none) :: N' }) :
    RunE C A L (callWith pos (.ref b) [] [] []) p Q E := .of fun s S T => by
  have hb' := S.s0.gs _ _ hb
  obtain ⟨o, ho, rfl⟩ := S.s0.own _ P.mem
  unfold callWith
  refine wpAny_bind (wpAny_holding (wpAny_mono (Q := fun a s₁ => a = ⟨[], []⟩ ∧ s₁ = s) (wpAny_pure ⟨rfl, rfl⟩) (fun a s₁ ⟨ea, es⟩ => wpAny_bind (wpAny_standAt ?_)) fun _ _ z => z))
  rw [ea, es]
  simp only [List.any_nil, Bool.or_false]
  refine wpAny_bind (keeper_mw hb' ?_)
  cases hv : vs[i]? with
  | some v =>
    have hi : i < vs.length := (List.getElem?_eq_some_iff.mp hv).1
    rw [if_pos hi] at hc
    subst hc
    refine wpAny_bind (LI.next_item (x := v) hb' ho (isList_of hl S) (by rw [List.getElem?_toArray]; exact hv) fun h' ho' hs => ?_)
    exact wpAny_bind (wpAny_holding (wpAny_point (wpAny_pure ⟨_, S.putN P hs.extBut ho' rfl, Ext.putN P hs.extBut, h v hv⟩)))
  | none =>
    have hi : ¬ i < vs.length := fun hlt => by rw [List.getElem?_eq_getElem hlt] at hv; cases hv
    rw [if_neg hi] at hc
    subst hc
    refine wpAny_bind (LI.next_end hh hb' ho (isList_of hl S) (by rw [List.getElem?_toArray]; exact hv) fun h' e hx hit hen hee => ?_)
    obtain ⟨oe, hoe, hce⟩ := hee
    have S1 := S.putN P hx hit rfl
    have x1 : Ext L p s { p with N := N' } { s with heap := h' } := Ext.putN P hx
    have nn := S.none_at hen
    have eN : e ∉ dom N' := by rw [P.dom]; exact nn.2.2.1
    refine ⟨{ p with N := (e, excC (.type "StopIteration") .none) :: N' }, ⟨⟨S1.s0.base, S1.s0.gs, fun q hq => ?_, fun b hb => ?_, fun b hb => ?_, List.nodup_cons.mpr ⟨eN, S1.s0.nd⟩⟩, S1.ns, S1.bL, S1.gL, fun hm => ?_, S1.mnd⟩,
      ⟨x1.keep, x1.grow, fun b hb => ?_, fun b hb => (x1.noleak b hb).imp (List.mem_cons_of_mem _) id, rfl, rfl, Nat.le_refl _, .inl (Nat.le_refl _)⟩, he hv e⟩
    · rcases List.mem_cons.mp hq with rfl | hq
      · exact ⟨oe, hoe, hce⟩
      · exact S1.s0.own q hq
    · rcases List.mem_cons.mp hb with rfl | hb
      · exact nn.1
      · exact S1.s0.nB b hb
    · rcases List.mem_cons.mp hb with rfl | hb
      · exact nn.2.1
      · exact S1.s0.nG b hb
    · rcases List.mem_cons.mp hm with e1 | hm
      · exact nn.2.2.2 e1.symm
      · exact S1.nL hm
    · rcases hb with hb | hb
      · exact x1.fresh b (.inl hb)
      · rcases List.mem_cons.mp hb with rfl | hb
        · exact .inr (.inr hen)
        · exact x1.fresh b (.inr hb)
end
end Mine

open PySem PySem.Calls PyProof.Rows
set_option Elab.async false
set_option linter.unusedVariables false
set_option maxRecDepth 100000
namespace Mine

section
variable {C : Cx} {A : Around} {L : Addr} {α β : Type} {p : Pt} {env : Env}

/-- a value that * opens -/
def StarRun (C : Cx) (A : Around) (L : Addr) (v : Value) (p : Pt) (Q : List Value → Pt → Prop) : Prop :=
  Run C A L (notIterableAtAll v) p fun b p₁ => b = false ∧ Run C A L (collect v) p₁ Q
theorem StarRun.go {v : Value} {Q : List Value → Pt → Prop} (h : StarRun C A L v p Q) {s : Shared} (S : Sat C.B L p s.heap) (T : TokOk p.k s) : PySem.W.StarOf (model C.prog C.w) A (fun _ _ => False) v (Post C L p s Q) s :=
  wpAny_mono (wpAny_toks (Run.go h s S T)) (fun b s₁ ⟨t, p₁, S₁, x, e, q⟩ => ⟨e, Run.after S T S₁ x t q⟩) fun _ _ z => z.2
theorem StarRun.seq {a : Addr} {ws : List Value} {Q : List Value → Pt → Prop} (ha : (ListAt p.G a ws ∨ (a, listC ws) ∈ p.N) ∨ TupAt p.G a ws) (hz : ws.length ≤ sizeLine) (h : Q ws p) : StarRun C A L (.ref a) p Q := .of fun s S T => by
  have key : ∃ o T n, s.heap.get? a = some o ∧ (T = "list" ∨ T = "tuple") ∧ o.cls = .type T ∧ o.data = .seq ws.toArray n := by
    rcases ha with ha | ha
    · obtain ⟨o, ho, hc, n, hd⟩ := isList_of ha S
      exact ⟨o, _, n, ho, .inl rfl, hc, hd⟩
    · obtain ⟨o, ho, hc, n, hd⟩ := ha.isTup S
      exact ⟨o, _, n, ho, .inr rfl, hc, hd⟩
  obtain ⟨o, T, n, ho, hT, hc, hd⟩ := key
  have hT' : s.TypeIs (.ref a) T := ⟨o, ho, hc⟩
  have fin : Run C A L (collect (.ref a)) p Q := .of fun s₁ S₁ T₁ => by
    have key : ∃ o T n, s₁.heap.get? a = some o ∧ (T = "list" ∨ T = "tuple") ∧ o.cls = .type T ∧ o.data = .seq ws.toArray n := by
      rcases ha with ha | ha
      · obtain ⟨o, ho, hc, n, hd⟩ := isList_of ha S₁
        exact ⟨o, _, n, ho, .inl rfl, hc, hd⟩
      · obtain ⟨o, ho, hc, n, hd⟩ := ha.isTup S₁
        exact ⟨o, _, n, ho, .inr rfl, hc, hd⟩
    obtain ⟨o, T, n, ho, hT, hc, hd⟩ := key
    refine wpAny_collect_seq a hT ho hc hd (fun h' hk => ⟨p, S₁.keep hk, Ext.heap hk, by simpa using h⟩) (by simpa using hz)
  unfold notIterableAtAll
  rcases hT with rfl | rfl
  · exact wpAny_bind (wpAny_specialOf hT' PySem.F.slot_list_iter.lookup (wpAny_pure ⟨p, S, .refl, rfl, fin⟩))
  · exact wpAny_bind (wpAny_specialOf hT' PySem.F.slot_tuple_iter.lookup (wpAny_pure ⟨p, S, .refl, rfl, fin⟩))
/-- * in a row of arguments -/
theorem E_items_star {e : Expr} {sp pos : Pos} {rest : List Expr} {Q : List Value → Pt → Prop} (h : Run C A L (eval e env) p fun v p₁ => StarRun C A L v p₁ fun here p₂ => Run C A L (spliced (backTo pos (starEach rest env))) p₂ fun vs p₃ => Q (here ++ vs) p₃) :
    Run C A L (spliced (backTo pos (starEach (.Starred e sp :: rest) env))) p Q := .of fun s S T => by
  rw [arm_starEach_Starred]
  refine PySem.W.ks_spliced (wpAny_mono (wpAny_toks (h.go s S T)) (fun v s₁ ⟨t₁, p₁, S₁, x₁, q⟩ => ?_) fun _ _ z => z.2)
  refine wpAny_mono (wpAny_toks (q.go S₁ (T.next x₁ t₁))) (fun b s₂ ⟨t₂, e, q₂⟩ => ⟨e, ?_⟩) fun _ _ z => z.2
  refine wpAny_mono (wpAny_toks q₂) (fun here s₃ ⟨t₃, p₃, S₃, x₃, q₃⟩ => ?_) fun _ _ z => z.2
  exact Run.after S T S₃ (x₁.trans S S₁ x₃ (Nat.le_trans t₂ t₃)) (Nat.le_trans t₁ (Nat.le_trans t₂ t₃)) q₃

/-! more of lists -/
theorem R_clear {l : Addr} {vs : List Value} {N' : List (Addr × Cell)} {Q : Value → Pt → Prop} (P : PutN p.N l (listC vs) (listC []) N') (hz : vs.length ≤ sizeLine) (h : Q .none { p with N := N' }) : Run C A L (PySem.call (.builtin "list.clear") [.ref l]) p Q := .of fun s S T => by
  obtain ⟨o, ho, n, rfl⟩ := S.s0.own _ P.mem
  refine call_meets PySem.F.slot_list_clear ⟨_, ho, rfl⟩ PySem.F.entry_list_clear (PySem.F.args_list_clear_1 _) (PySem.AutoSeq1.list_clear_list_0 l vs.toArray n (by simpa using hz)) ⟨ho, ⟨_, S.putN P (Heap.SameBut.update ..).extBut (Heap.get?_update_self _ ho rfl) ?_, Ext.putN P (Heap.SameBut.update ..).extBut, h⟩⟩
  exact ⟨_, rfl⟩
theorem R_tupleL {l : Addr} {vs : List Value} {Q : Value → Pt → Prop} (hl : ListAt p.G l vs ∨ (l, listC vs) ∈ p.N) (hz : vs.length ≤ sizeLine) (h : ∀ t G', GLe p.G G' → G' t = some (tupO vs) → Q (.ref t) { p with G := G' }) : Run C A L (PySem.call (.type "tuple") [.ref l]) p Q := .of fun s S T => by
  refine call_tuple_list (isList_of hl S) (fun h' hk => ?_) (by simpa using hz)
  have S1 := S.keep hk
  have x1 : Ext L p s p { s with heap := h' } := Ext.heap hk
  have nn := S1.none_at (get_size_none h')
  exact ⟨_, S1.pushG (o := tupO vs) rfl, x1.trans S S1 (Ext.pushG (s := { s with heap := h' }) S1) (Nat.le_refl _), h _ _ (GLe.add nn.2.1) addG_self⟩
theorem TupAt.ofX {G : Addr → Option Obj} {t : Addr} {vs : List Value} (h : G t = some (tupO vs)) : TupAt G t vs := ⟨_, 0, h, rfl, rfl⟩
end
end Mine

open PySem PySem.Calls PyProof.Rows
set_option Elab.async false
set_option linter.unusedVariables false
set_option maxRecDepth 100000
namespace Mine

/-- a class of the text that stands straight on ValueError, without an __init__ of its own -/
def ExcOf (C : Cx) (Cc : Addr) : Prop := ∃ nm q N bs hdct sn sub ab col dd k0 k1 k2 k3 k5 mN, C.B.get? Cc = some (excClassObj nm q Cc N bs [.type "ValueError", .type "Exception", .type "BaseException", .type "object"] hdct sn sub ab col dd k0 k1 k2 k3 k5 "ValueError.__new__") ∧ C.B.Ns N mN ∧ mN "__init__" = none

section
variable {C : Cx} {A : Around} {L : Addr} {α β : Type} {p : Pt} {env : Env}
theorem Sat.made {cls : Value} {vs : List Value} {s : Shared} {h' : Heap} {e : Addr} (S : Sat C.B L p s.heap) (hx : Heap.MadeExcOf s.heap h' e cls vs) : Sat C.B L { p with N := (e, excC cls .none) :: p.N } h' ∧ Ext L p s { p with N := (e, excC cls .none) :: p.N } { s with heap := h' } := by
  obtain ⟨t, hoe, -, -⟩ := hx.there
  have nn := S.none_at hx.new
  have S1 := S.keep hx.keeps
  refine ⟨⟨⟨S1.s0.base, S1.s0.gs, fun q hq => ?_, fun b hb => ?_, fun b hb => ?_, List.nodup_cons.mpr ⟨nn.2.2.1, S1.s0.nd⟩⟩, S1.ns, S1.bL, S1.gL, fun hm => ?_, S1.mnd⟩, ?_⟩
  · rcases List.mem_cons.mp hq with rfl | hq
    · exact ⟨_, hoe, rfl, _, _, rfl, rfl, rfl⟩
    · exact S1.s0.own q hq
  · rcases List.mem_cons.mp hb with rfl | hb
    · exact nn.1
    · exact S1.s0.nB b hb
  · rcases List.mem_cons.mp hb with rfl | hb
    · exact nn.2.1
    · exact S1.s0.nG b hb
  · rcases List.mem_cons.mp hm with e1 | hm
    · exact nn.2.2.2 e1.symm
    · exact S1.nL hm
  · refine ⟨fun b o e _ _ => hx.keeps b o e, fun _ _ e => e, fun b hb => ?_, fun b hb => .inl (List.mem_cons_of_mem _ hb), rfl, rfl, Nat.le_refl _, .inl (Nat.le_refl _)⟩
    rcases hb with hb | hb
    · exact .inl hb
    · rcases List.mem_cons.mp hb with rfl | hb
      · exact .inr (.inr hx.new)
      · exact .inr (.inl hb)
theorem XE_Raise {Cc : Addr} {x : Str} {np cpos pos : Pos} {args : List Expr} {Q : Flow → Pt → Prop} {E : Value → Pt → Prop} (X : ExcOf C Cc) (hh : A.handled = none)
    (hn : ∀ {Q : Value → Pt → Prop}, Q (.ref Cc) p → Run C A L (eval (.Name x np) env) p Q)
    (h : Run C A L (spliced (backTo cpos (starEach args env))) p fun vs p₁ => vs.length ≤ sizeLine ∧ ∀ e, E (.ref e) { p₁ with N := (e, excC (.ref Cc) .none) :: p₁.N }) (hp : (args.all fun e => !PySem.W.isStarred e) = true := by rfl) :
    RunE C A L (exec (.Raise (some (.Call (.Name x np) args [] cpos)) none pos) env) p Q E := .of fun s S T => by
  obtain ⟨nm, q, N, bs, hdct, sn, sub, ab, col, dd, k0, k1, k2, k3, k5, mN, hC, hN, hni⟩ := X
  refine wpAny_Raise_call_subU (C := Cc) (N := N) (mN := mN) (nm := nm) (q := q) (bs := bs) (hdct := hdct) (sn := sn) (sub := sub) (ab := ab) (col := col) (dd := dd) (k0 := k0) (k1 := k1) (k2 := k2) (k3 := k3) (k5 := k5) (bm := [.type "ValueError", .type "Exception", .type "BaseException", .type "object"]) F.excBase_ValueError (by decide) F.excBase_ValueError (by decide) hh (plainTrees hp) hni ?_
  refine wpAny_mono (wpAny_toks ((hn (Q := fun v p' => v = .ref Cc ∧ p' = p) ⟨rfl, rfl⟩).go s S T)) (fun v s₁ ⟨t₁, p₁, S₁, x₁, e1, e2⟩ => ⟨e1, ?_⟩) fun _ _ z => z.2.elim
  subst e2
  have hr : Run C A L (PySem.evalArgs (.ref Cc) true (backTo cpos (starEach args env)) []) p₁ fun a p₂ => a.kw = [] ∧ a.pos.length ≤ sizeLine ∧ ∀ e, E (.ref e) { p₂ with N := (e, excC (.ref Cc) .none) :: p₂.N } :=
    R_evalArgs (plainTrees hp) (h.mono fun vs p₂ h₂ => ⟨rfl, h₂⟩)
  refine wpAny_mono (wpAny_toks (hr.go s₁ S₁ (T.next x₁ t₁)))
    (fun a s₂ ⟨t₂, p₂, S₂, x₂, hk, hz, hE⟩ => ⟨hk, hz, S₂.s0.base _ _ hC, hN.keeps S₂.s0.base, .base, fun h' e hm => ?_⟩) fun _ _ z => z.2.elim
  obtain ⟨S₃, x₃⟩ := S₂.made hm
  exact ⟨_, S₃, (x₁.trans S S₁ x₂ t₂).trans S S₂ x₃ (Nat.le_refl _), hE e⟩
end
end Mine

open PySem PySem.Calls PyProof.Rows
set_option Elab.async false
set_option linter.unusedVariables false
set_option maxRecDepth 100000
namespace Mine
section
variable {C : Cx} {A : Around} {L : Addr} {α β : Type} {p : Pt} {env : Env}
theorem R_callK {K : PySem.W.Frag} {f : Value} {first : List Value} {args : List (Bool × Sem Value)} {pos : Pos} {Q : Value → Pt → Prop} (X : K.In C.B) (hk : PySem.W.keepIn K f = true) (hp : args.any (·.1) = false)
    (h : Run C A L (spliced args) p fun vs p₁ => Run C A L (PySem.call f (first ++ vs)) p₁ Q) : Run C A L (callWith pos f first args []) p Q := .of fun s S T => by
  have hr : Run C A L (PySem.evalArgs f true args []) p fun a p₁ => a.kw = [] ∧ Run C A L (PySem.call f (first ++ a.pos)) p₁ Q := R_evalArgs hp (h.mono fun vs p₁ h₁ => ⟨rfl, h₁⟩)
  refine PySem.W.callWith_of (P := fun h => K.In h) (by rw [hp]; rfl) (PySem.W.keeps_K hk) (wpAny_mono (wpAny_toks (hr.go s S T)) (fun a s₁ ⟨t₁, p₁, S₁, x₁, e, q⟩ => ⟨X.keeps S₁.s0.base, ?_⟩) fun _ _ z => z.2)
  rw [e]
  exact Run.after S T S₁ x₁ t₁ q
/-- a name is called: a class of the text -/
theorem E_callC {K : PySem.W.Frag} {id : Str} {np pos : Pos} {args : List Expr} {f : Value} {Q : Value → Pt → Prop} (X : K.In C.B) (hk : PySem.W.keepIn K f = true) (hf : ∀ {Q : Value → Pt → Prop}, Q f p → Run C A L (eval (.Name id np) env) p Q)
    (h : Run C A L (spliced (backTo pos (starEach args env))) p fun vs p₁ => Run C A L (PySem.call f vs) p₁ Q) (hp : (args.all fun e => !PySem.W.isStarred e) = true := by rfl) :
    Run C A L (eval (.Call (.Name id np) args [] pos) env) p Q :=
  Run.of_eq (arm_eval_Call_Name' ..) (.bind (hf (R_callK (first := []) X hk (plainTrees hp) h)))
end
end Mine

open PySem PySem.Calls PyProof.Rows
set_option Elab.async false
set_option linter.unusedVariables false
set_option maxRecDepth 100000
namespace Mine
section
variable {C : Cx} {A : Around} {L : Addr} {p : Pt}
theorem R_len_tup {l : Addr} {vs : List Value} {Q : Value → Pt → Prop} (hl : TupAt p.G l vs) (hz : vs.length < 2 ^ 62) (h : ∀ tk, Q (.int vs.length tk) p) : Run C A L (PySem.call (.builtin "len") [.ref l]) p Q := .of fun s S T => by
  refine PyProof.Rows.len_tuple (hl.isTup S) (by rw [List.size_toArray]; omega) ?_
  rw [List.size_toArray]
  exact Post.same S (h _)
end
end Mine

open PySem PySem.Calls PyProof.Rows
set_option Elab.async false
set_option linter.unusedVariables false
set_option maxRecDepth 100000
namespace Mine
theorem meets_bool_list (prog : Program) (w : World) (l : Addr) (items : Array Value) (hz : (items.size : Int) < 2 ^ 63) :
    Meets (Builtin.«bool.__new__» ⟨[.type "bool", .ref l], []⟩) (fun _ R s => s.heap.IsList l items ∧ R (.ok (.ret (.bool (!items.isEmpty)))) { s with toks := s.toks + 1 + 1 }) :=
  Meets.of_wp fun prog w A R s ⟨hl, hs⟩ => by
    obtain ⟨hp, g, d, tk, os⟩ := s
    have f1 := F.conv_sub_bool
    repeat (any_goals (first | assumption | (with_reducible refine wpAny_truthy_list hl hz ?_) | wp_step))
    all_goals first | exact ⟨_, rfl, hs⟩ | exact hs | skip

theorem Run.abs {C : Cx} {A : Around} {L : Addr} {α : Type} {t : Sem α} {p : Pt} {Q : α → Pt → Prop} (h : ∀ Q' : α → Pt → Prop, (∀ a p, Q a p → Q' a p) → Run C A L t p Q') : Run C A L t p Q := h Q fun _ _ h => h
theorem RunE.abs {C : Cx} {A : Around} {L : Addr} {α : Type} {t : Sem α} {p : Pt} {Q : α → Pt → Prop} {E : Value → Pt → Prop} (h : ∀ (Q' : α → Pt → Prop) (E' : Value → Pt → Prop), (∀ a p, Q a p → Q' a p) → (∀ v p, E v p → E' v p) → RunE C A L t p Q' E') : RunE C A L t p Q E := h Q E (fun _ _ h => h) fun _ _ h => h
/-- a loop over what a value names: the invariant stands once -/
theorem X_ForV {C : Cx} {A : Around} {L : Addr} {p : Pt} {env : Env} {target iter : Expr} {body orelse : List Stmt} {pos : Pos} {Q : Flow → Pt → Prop} (I : Nat → Pt → Prop) {v : Value} {n : Nat} {P : Nat → Value → Heap → Prop}
    (he : ∀ {Q : Value → Pt → Prop}, Q v p → Run C A L (eval iter env) p Q) (it : IterOn C A L p target v n P) (h0 : I 0 p)
    (h : ∀ i p₂, i < n → I i p₂ → AsgRun C A L target env (P i) p₂ fun p₃ => Run C A L (execs body env) p₃ fun f p₄ => match f with
        | .next | .cont => I (i + 1) p₄
        | .brk => Q .next p₄
        | .ret v => Q (.ret v) p₄)
    (hn : ∀ p₂, I n p₂ → Run C A L (execs orelse env) p₂ Q) (hs : ∀ x, foldedSetIterable iter env x = pure x := by intro _; rfl) : Run C A L (exec (.For target iter body orelse pos) env) p Q :=
  X_For I (he ⟨n, P, it, h0, fun i p₂ a b _ => h i p₂ a b, fun p₂ a _ => hn p₂ a⟩) hs
section
variable {C : Cx} {A : Around} {L : Addr} {α β : Type} {p : Pt} {env : Env}
/-- what is called is no name -/
theorem E_callSub {o i : Expr} {spos pos : Pos} {args : List Expr} {Q : Value → Pt → Prop} {E : Value → Pt → Prop} (h : Run C A L (eval (.Subscript o i spos) env) p fun f p₁ => RunE C A L (callWith pos f [] (backTo pos (starEach args env)) []) p₁ Q E) :
    RunE C A L (eval (.Call (.Subscript o i spos) args [] pos) env) p Q E := by
  refine RunE.of_eq (t' := eval (.Subscript o i spos) env >>= fun f => callWith pos f [] (backTo pos (starEach args env)) (backToKw pos (keywordEach [] env))) rfl ?_
  exact .bind (h.toE.mono (fun f p₁ h₁ => h₁) fun _ _ e => e)
theorem E_FStr1 {v : Expr} {pos : Pos} {Q : Value → Pt → Prop} (h : Run C A L (eval v env) p Q) : Run C A L (eval (.JoinedStr [v] pos) env) p Q := Run.of_eq (arm_eval_JoinedStr ..) h
theorem U_neg {a : Int} {t : Tok} {Q : Value → Pt → Prop} (h : ∀ tk, Q (.int (-a) tk) p) : Run C A L (unaryOp .USub (.int a t)) p Q := .of fun s S T => neg_int (Post.same S (h _))
theorem G_listN {l : Addr} {vs : List Value} {i : Int} {u : Tok} {x : Value} {Q : Value → Pt → Prop} (hl : ListAt p.G l vs ∨ (l, listC vs) ∈ p.N) (h0 : i < 0) (h1 : -(vs.length : Int) ≤ i) (h2 : -(2 ^ 63) ≤ i) (hx : vs[(i + vs.length).toNat]? = some x) (h : Q x p) :
    Run C A L (getItem (.ref l) (.int i u)) p Q := .of fun s S T => wpAny_getItem_list_neg (isList_of hl S) h0 (by simpa using h1) h2 (by simpa using hx) ⟨p, S, .refl, h⟩
theorem truthy_list {l : Addr} {vs : List Value} {Q : Bool → Pt → Prop} (hl : ListAt p.G l vs ∨ (l, listC vs) ∈ p.N) (hz : vs.length < 2 ^ 60) (h : Q (!vs.isEmpty) p) : Run C A L (truthy (.ref l)) p Q := .of fun s S T => by
  refine wpAny_truthy_list (isList_of hl S) (by rw [List.size_toArray]; omega) ?_
  rw [List.isEmpty_toArray]
  exact Post.same S h
theorem truthy_N {Q : Bool → Pt → Prop} (h : Q false p) : Run C A L (truthy .none) p Q := Run.pure h
theorem R_boolL {l : Addr} {vs : List Value} {Q : Value → Pt → Prop} (hl : ListAt p.G l vs ∨ (l, listC vs) ∈ p.N) (hz : vs.length < 2 ^ 60) (h : Q (.bool (!vs.isEmpty)) p) : Run C A L (PySem.call (.type "bool") [.ref l]) p Q := .of fun s S T => by
  refine call_bool_1 (meets_bool_list C.prog C.w l vs.toArray (by rw [List.size_toArray]; omega)) ⟨isList_of hl S, ?_⟩
  rw [List.isEmpty_toArray]
  exact ⟨rfl, Post.same S h⟩

/-- a view of a dict's values -/
def ViewV (G : Addr → Option Obj) (v d : Addr) : Prop := ∃ o, G v = some o ∧ o.cls = .type "dict_values" ∧ o.data = .fields #[.ref d]
theorem R_values {d : Addr} {es : List Ent} {Q : Value → Pt → Prop} (x : DictG C.w p.G d es) (h : ∀ v G', GLe p.G G' → ViewV G' v d → Q (.ref v) { p with G := G' }) : Run C A L (PySem.call (.builtin "dict.values") [.ref d]) p Q :=
  R_meets F.slot_dict_values F.entry_dict_values (F.args_dict_values_1 _) (HasT.dict x) fun s S T => by
    obtain ⟨o, ep, e1, e2, e3⟩ := x.dictAt S
    have nn := S.none_at (get_size_none s.heap)
    refine ⟨_, meets_dict_values (PySem.strKind C.prog C.w) d x.1, ⟨_, e3.dictOf⟩, ?_⟩
    exact ⟨_, S.pushG rfl, Ext.pushG S, h _ _ (GLe.add nn.2.1) ⟨_, addG_self, rfl, rfl⟩⟩
theorem IterOn.values {y : Str} {py : Pos} {d v : Addr} {es : List Ent} (hh : A.handled = none) (hv : ViewV p.G v d) (x : DictG C.w p.G d es) : IterOn C A L p (.Name y py) (.ref v) es.length fun i v _ => ∃ q, es[i]? = some q ∧ v = q.2.2 := fun s S T => by
  obtain ⟨od, ep, e1, e2, e3⟩ := x.dictAt S
  obtain ⟨ov, g1, g2, g3⟩ := hv
  have hne : d ≠ s.heap.objs.size := Nat.ne_of_lt (Heap.lt_size e1)
  have hl : (kvOf es).length = es.length := by simp [kvOf]
  refine wpAny_pyIter_values ⟨ov, S.s0.gs _ _ g1, g2, g3⟩ e3 ?_
  have W := Walks.dictValues (knd := PySem.strKind C.prog C.w) hh s.heap.objs.size d hne (kvOf es) ep
  have W' := PySem.W.KTurns.ofWalks (target := .Name y py) W fun i v s Q E st hQ => wpAny_pure hQ
  rw [hl] at W' ⊢
  refine ⟨_, _, _, _, _, _, _, rfl, rfl, { W' with item := fun i s Q E hi st hQ => W'.item i s Q E hi st hQ, go := fun i v s Q E hm hQ => W'.go i v s Q E hm fun h' hP st hk => hQ h' ?_ st hk }, ⟨⟨_, Heap.get?_push_size _ rfl, rfl, rfl⟩, e3.push _⟩,
    fun b o e => Heap.get?_push_of_some _ e, fun b hb => by rw [List.mem_singleton.mp hb]; exact get_size_none _, fun b hb => ?_, fun i h st b hb => ?_, fun i s Q E st hQ => W.self i s Q E (by rw [hl]; exact st) hQ⟩
  · obtain ⟨k, h1⟩ := hP
    simp only [kvOf, List.getElem?_map, Option.map_eq_some_iff] at h1
    obtain ⟨q, h3, h4⟩ := h1
    cases h4
    exact ⟨q, h3, rfl⟩
  · rcases List.mem_cons.mp hb with q | q
    · exact .inl (List.mem_singleton.mpr q)
    · obtain ⟨_, o, e, _⟩ := x
      exact .inr ⟨o, by rw [List.mem_singleton.mp q]; exact e⟩
  · rw [List.mem_singleton.mp hb]
    obtain ⟨_, ho, _⟩ := st.1
    rw [ho]; exact fun h => nomatch h
end
end Mine

open PySem PySem.Calls PyProof.Rows
set_option Elab.async false
set_option linter.unusedVariables false
set_option maxRecDepth 100000
namespace Mine
theorem lt5 {n : Nat} (h : n < 5) : n = 0 ∨ n = 1 ∨ n = 2 ∨ n = 3 ∨ n = 4 := (by decide : ∀ n < 5, n = 0 ∨ n = 1 ∨ n = 2 ∨ n = 3 ∨ n = 4) n h
theorem sub_up {j n : Nat} (h : j < n) : n - j = n - (j + 1) + 1 := by rw [Nat.sub_add_eq, Nat.sub_add_cancel (Nat.sub_pos_of_lt h)]
/-! the abstract graph: a node's name, the number of what it waits for, and whom it goes before -/
abbrev Gr := List (Str × Int × List Str)
def touch (g : Gr) (n : Str) : Gr := if n ∈ g.map (·.1) then g else g ++ [(n, 0, [])]
def addNp (g : Gr) (n : Str) (z : Int) : Gr := g.map fun q => if q.1 = n then (q.1, q.2.1 + z, q.2.2) else q
def setNp (g : Gr) (n : Str) (z : Int) : Gr := g.map fun q => if q.1 = n then (q.1, z, q.2.2) else q
def addSc (g : Gr) (n m : Str) : Gr := g.map fun q => if q.1 = n then (q.1, q.2.1, q.2.2 ++ [m]) else q
def gAdd (g : Gr) (n : Str) (ps : List Str) : Gr := ps.foldl (fun g p => addSc (touch g p) p n) (addNp (touch g n) n ps.length)

theorem map_fst_upd {g : Gr} {n : Str} {f : Str × Int × List Str → Str × Int × List Str} (hf : ∀ q, (f q).1 = q.1) : (g.map fun q => if q.1 = n then f q else q).map (·.1) = g.map (·.1) := by
  rw [List.map_map]
  apply List.map_congr_left
  intro q _
  show (if q.1 = n then f q else q).1 = q.1
  split
  · exact hf q
  · rfl
theorem addNp_names {g : Gr} {n : Str} {z : Int} : (addNp g n z).map (·.1) = g.map (·.1) := map_fst_upd (f := fun q => (q.1, q.2.1 + z, q.2.2)) fun _ => rfl
theorem setNp_names {g : Gr} {n : Str} {z : Int} : (setNp g n z).map (·.1) = g.map (·.1) := map_fst_upd (f := fun q => (q.1, z, q.2.2)) fun _ => rfl
theorem addSc_names {g : Gr} {n m : Str} : (addSc g n m).map (·.1) = g.map (·.1) := map_fst_upd (f := fun q => (q.1, q.2.1, q.2.2 ++ [m])) fun _ => rfl
theorem touch_nodup {g : Gr} {n : Str} (h : (g.map (·.1)).Nodup) : ((touch g n).map (·.1)).Nodup := by
  unfold touch
  split
  · exact h
  · rename_i hn
    rw [List.map_append]
    refine List.nodup_append.mpr ⟨h, by simp, fun a ha b hb => ?_⟩
    simp only [List.map_cons, List.map_nil, List.mem_singleton] at hb
    subst hb
    exact fun e => hn (e ▸ ha)
theorem upd_split {A B : Gr} {q : Str × Int × List Str} {f : Str × Int × List Str → Str × Int × List Str} (h : ((A ++ q :: B).map (·.1)).Nodup) : ((A ++ q :: B).map fun z => if z.1 = q.1 then f z else z) = A ++ f q :: B := by
  rw [List.map_append, List.map_cons] at h
  obtain ⟨hA, hB, hd⟩ := List.nodup_append.mp h
  have hB' := List.nodup_cons.mp hB
  have e1 : (A.map fun z => if z.1 = q.1 then f z else z) = A := by
    conv => rhs; rw [← List.map_id A]
    apply List.map_congr_left
    intro z hz
    rw [if_neg fun e => hd _ (List.mem_map_of_mem (f := (·.1)) hz) _ List.mem_cons_self e]; rfl
  have e2 : (B.map fun z => if z.1 = q.1 then f z else z) = B := by
    conv => rhs; rw [← List.map_id B]
    apply List.map_congr_left
    intro z hz
    rw [if_neg fun e => hB'.1 (by rw [← e]; exact List.mem_map_of_mem (f := (·.1)) hz)]; rfl
  rw [List.map_append, List.map_cons, e1, e2, if_pos rfl]

def Small (g : Gr) (b : Nat) : Prop := ∀ q ∈ g, q.2.2.length ≤ b
theorem Small.touch {g : Gr} {b : Nat} (h : Small g b) (n : Str) : Small (touch g n) b := by
  unfold Mine.touch
  split
  · exact h
  · intro q hq
    rcases List.mem_append.mp hq with hq | hq
    · exact h q hq
    · rw [List.mem_singleton.mp hq]; exact Nat.zero_le _
theorem Small.addSc {g : Gr} {b : Nat} (h : Small g b) (n m : Str) : Small (addSc g n m) (b + 1) := by
  intro q hq
  obtain ⟨z, hz, rfl⟩ := List.mem_map.mp hq
  have := h z hz
  split
  · show (z.2.2 ++ [m]).length ≤ _
    rw [List.length_append]
    exact Nat.succ_le_succ this
  · omega
theorem Small.addNp {g : Gr} {b : Nat} (h : Small g b) (n : Str) (z : Int) : Small (addNp g n z) b := by
  intro q hq
  obtain ⟨z', hz, rfl⟩ := List.mem_map.mp hq
  have := h z' hz
  split
  · exact this
  · exact this
end Mine

open PySem PySem.Calls PyProof.Rows
set_option Elab.async false
set_option linter.unusedVariables false
set_option maxRecDepth 100000
namespace Mine
namespace Dfs
/-! the search for a cycle, without the program: what is finished, the stack (its top first) with the places of its iterators -/
section
variable (sc : Str → List Str)
def Fin (F : List Str) : Prop := ∀ A n B, F = A ++ n :: B → ∀ m ∈ sc n, m ∈ A
def Ch (F : List Str) : List (Str × Nat) → Str → Prop
  | [], _ => True
  | q :: r, m => (∃ j, q.2 = j + 1 ∧ (sc q.1)[j]? = some m ∧ ∀ x ∈ (sc q.1).take j, x ∈ F) ∧ Ch F r q.1
def Op (F : List Str) : List (Str × Nat) → Prop
  | [] => True
  | q :: r => (∀ x ∈ (sc q.1).take q.2, x ∈ F) ∧ Ch sc F r q.1
inductive Reach : Nat → Str → Str → Prop
  | zero {n : Str} : Reach 0 n n
  | step {k : Nat} {n m x : Str} : m ∈ sc n → Reach k m x → Reach (k + 1) n x
end
variable {sc : Str → List Str}
theorem Reach.snoc {k : Nat} {n m x : Str} (h : Reach sc k n m) (hx : x ∈ sc m) : Reach sc (k + 1) n x := by
  induction h with
  | zero => exact .step hx .zero
  | step h _ ih => exact .step h (ih hx)
theorem Ch.mono {F F' : List Str} (hF : ∀ x ∈ F, x ∈ F') : ∀ {st : List (Str × Nat)} {m : Str}, Ch sc F st m → Ch sc F' st m
  | [], _, _ => trivial
  | _ :: _, _, ⟨⟨j, h1, h2, h3⟩, h4⟩ => ⟨⟨j, h1, h2, fun x hx => hF x (h3 x hx)⟩, Ch.mono hF h4⟩
theorem Ch.reach {F : List Str} : ∀ {st : List (Str × Nat)} {p m : Str}, Ch sc F st p → m ∈ st.map (·.1) → ∃ k, Reach sc (k + 1) m p
  | [], _, _, _, h => by simp at h
  | q :: r, p, m, ⟨⟨j, h1, h2, h3⟩, h4⟩, h => by
    have hp : p ∈ sc q.1 := List.mem_of_getElem? h2
    rcases List.mem_cons.mp h with rfl | h
    · exact ⟨0, .step hp .zero⟩
    · obtain ⟨k, hk⟩ := Ch.reach h4 h
      exact ⟨k + 1, hk.snoc hp⟩
theorem Ch.push {F : List Str} {st : List (Str × Nat)} {m : Str} (h : Ch sc F st m) : Op sc F ((m, 0) :: st) := ⟨fun x hx => by simp at hx, h⟩
theorem Ch.pass {F : List Str} {m : Str} (hm : m ∈ F) : ∀ {st : List (Str × Nat)}, Ch sc F st m → Op sc F st
  | [], _ => trivial
  | q :: r, ⟨⟨j, h1, h2, h3⟩, h4⟩ => by
    refine ⟨fun x hx => ?_, h4⟩
    rw [h1, List.take_add_one, h2] at hx
    rcases List.mem_append.mp hx with hx | hx
    · exact h3 x hx
    · simp at hx; rw [hx]; exact hm
theorem Op.read {F : List Str} {n m : Str} {i : Nat} {r : List (Str × Nat)} (h : Op sc F ((n, i) :: r)) (hm : (sc n)[i]? = some m) : Ch sc F ((n, i + 1) :: r) m := ⟨⟨i, rfl, hm, h.1⟩, h.2⟩
theorem Op.all {F : List Str} {n : Str} {i : Nat} {r : List (Str × Nat)} (h : Op sc F ((n, i) :: r)) (hm : (sc n)[i]? = none) : ∀ x ∈ sc n, x ∈ F := fun x hx =>
  h.1 x (by rw [List.take_of_length_le (List.getElem?_eq_none_iff.mp hm)]; exact hx)
theorem Op.pop {F : List Str} {n : Str} {i : Nat} {r : List (Str × Nat)} (h : Op sc F ((n, i) :: r)) : Op sc (F ++ [n]) r :=
  Ch.pass (m := n) (by simp) (h.2.mono fun x hx => List.mem_append_left _ hx)
theorem Fin.snoc {F : List Str} {n : Str} (h : Fin sc F) (hn : ∀ x ∈ sc n, x ∈ F) : Fin sc (F ++ [n]) := fun A n' B e m hm => by
  rcases List.eq_nil_or_concat B with rfl | ⟨B', b, rfl⟩
  · obtain ⟨rfl, e2⟩ := List.append_inj' e rfl
    cases e2; exact hn m hm
  · rw [List.concat_eq_append, ← List.cons_append, ← List.append_assoc] at e
    obtain ⟨e1, e2⟩ := List.append_inj' e rfl
    exact h A n' B' e1 m hm

/-! the measure -/
section
variable (sc : Str → List Str) (nodes : List Str)
def U (S : List Str) : Nat := (nodes.map fun n => if n ∈ S then 0 else (sc n).length + 1).sum
def V (st : List (Str × Nat)) : Nat := (st.map fun q => (sc q.1).length - q.2).sum
def M (F : List Str) (st : List (Str × Nat)) : Nat := U sc nodes (F ++ st.map (·.1)) + V sc st
end
theorem U_congr {nodes S S' : List Str} (h : ∀ x, x ∈ S ↔ x ∈ S') : U sc nodes S = U sc nodes S' := by
  unfold U
  congr 1
  apply List.map_congr_left
  intro x _
  by_cases hx : x ∈ S
  · rw [if_pos hx, if_pos ((h x).mp hx)]
  · rw [if_neg hx, if_neg fun e => hx ((h x).mpr e)]
theorem U_skip : ∀ {nodes S : List Str} {m : Str}, m ∉ nodes → U sc nodes (m :: S) = U sc nodes S
  | [], _, _, _ => rfl
  | a :: r, S, m, h => by
    simp only [List.mem_cons, not_or] at h
    have ih := U_skip (S := S) h.2
    unfold U at ih ⊢
    rw [List.map_cons, List.map_cons, List.sum_cons, List.sum_cons, ih]
    have : (a ∈ m :: S) ↔ a ∈ S := by
      have : ¬ a = m := fun e => h.1 e.symm
      simp [this]
    by_cases ha : a ∈ S
    · rw [if_pos ha, if_pos (this.mpr ha)]
    · rw [if_neg ha, if_neg fun h => ha (this.mp h)]
theorem U_push : ∀ {nodes S : List Str} {m : Str}, nodes.Nodup → m ∈ nodes → m ∉ S → U sc nodes (m :: S) + ((sc m).length + 1) = U sc nodes S
  | [], _, _, _, h, _ => by simp at h
  | a :: r, S, m, nd, h, hS => by
    obtain ⟨n1, n2⟩ := List.nodup_cons.mp nd
    have cons : ∀ S, U sc (a :: r) S = (if a ∈ S then 0 else (sc a).length + 1) + U sc r S := fun S => by unfold U; simp
    rw [cons, cons]
    by_cases e : a = m
    · subst e
      rw [U_skip n1, if_pos (by simp), if_neg hS]; omega
    · have hr : m ∈ r := by
        rcases List.mem_cons.mp h with h | h
        · exact absurd h.symm e
        · exact h
      have ih := U_push n2 hr hS
      have : (a ∈ m :: S) ↔ a ∈ S := by simp [e]
      by_cases ha : a ∈ S
      · rw [if_pos ha, if_pos (this.mpr ha)]; omega
      · rw [if_neg ha, if_neg fun h => ha (this.mp h)]; omega
theorem M_push {nodes F : List Str} {st : List (Str × Nat)} {m : Str} (nd : nodes.Nodup) (hm : m ∈ nodes) (hS : m ∉ F ++ st.map (·.1)) : M sc nodes F ((m, 0) :: st) + 1 = M sc nodes F st := by
  have h := U_push (sc := sc) nd hm hS
  have e : U sc nodes (F ++ ((m, 0) :: st).map (·.1)) = U sc nodes (m :: (F ++ st.map (·.1))) := U_congr fun x => by simp only [List.map_cons, List.mem_append, List.mem_cons]; constructor <;> (intro h; rcases h with h | h | h <;> simp [h])
  have v : V sc ((m, 0) :: st) = (sc m).length + V sc st := by unfold V; simp
  unfold M
  rw [e, v]; omega
theorem M_read {nodes F : List Str} {r : List (Str × Nat)} {n : Str} {i : Nat} (hi : i < (sc n).length) : M sc nodes F ((n, i + 1) :: r) + 1 = M sc nodes F ((n, i) :: r) := by
  unfold M
  simp only [List.map_cons]
  have v : ∀ i, V sc ((n, i) :: r) = ((sc n).length - i) + V sc r := fun i => by unfold V; simp
  rw [v, v, sub_up hi, Nat.add_right_comm ((sc n).length - (i + 1)) 1]; rfl
theorem M_pop {nodes F : List Str} {r : List (Str × Nat)} {n : Str} {i : Nat} (hi : (sc n)[i]? = none) : M sc nodes (F ++ [n]) r = M sc nodes F ((n, i) :: r) := by
  have hi' := List.getElem?_eq_none_iff.mp hi
  unfold M
  have v : V sc ((n, i) :: r) = ((sc n).length - i) + V sc r := by unfold V; simp
  rw [v, show (sc n).length - i = 0 by omega, Nat.zero_add]
  congr 1
  exact U_congr fun x => by simp [List.mem_append]; 

/-! the two places of the loop -/
structure HS (sc : Str → List Str) (nodes : List Str) (s : Str) (F : List Str) (st : List (Str × Nat)) (node : Str) : Prop where
  nd : (F ++ st.map (·.1)).Nodup
  sub : ∀ x ∈ F ++ st.map (·.1), x ∈ nodes
  fin : Fin sc F
  ch : Ch sc F st node
  nin : node ∈ nodes
  start : (st = [] ∧ node = s ∧ s ∉ F) ∨ s ∈ F ++ st.map (·.1)
structure OS (sc : Str → List Str) (nodes : List Str) (s : Str) (F : List Str) (st : List (Str × Nat)) : Prop where
  nd : (F ++ st.map (·.1)).Nodup
  sub : ∀ x ∈ F ++ st.map (·.1), x ∈ nodes
  fin : Fin sc F
  op : Op sc F st
  start : s ∈ F ++ st.map (·.1)
variable {nodes F : List Str} {st r : List (Str × Nat)} {s node : Str}
theorem HS.push (h : HS sc nodes s F st node) (hn : node ∉ F ++ st.map (·.1)) : OS sc nodes s F ((node, 0) :: st) := by
  have hp : (F ++ ((node, 0) :: st).map (·.1)).Perm (node :: (F ++ st.map (·.1))) := by simp only [List.map_cons]; exact List.perm_middle
  refine ⟨hp.nodup_iff.mpr (List.nodup_cons.mpr ⟨hn, h.nd⟩), fun x hx => ?_, h.fin, h.ch.push, hp.mem_iff.mpr ?_⟩
  · rcases List.mem_cons.mp (hp.mem_iff.mp hx) with rfl | hx
    · exact h.nin
    · exact h.sub x hx
  · rcases h.start with ⟨_, e, _⟩ | h
    · rw [e]; exact List.mem_cons_self
    · exact List.mem_cons_of_mem _ h
theorem HS.pass (h : HS sc nodes s F st node) (hn : node ∈ F) : OS sc nodes s F st :=
  ⟨h.nd, h.sub, h.fin, h.ch.pass hn, h.start.elim (fun e => absurd (e.2.1 ▸ hn) e.2.2) id⟩
theorem HS.cyc (h : HS sc nodes s F st node) (hn : node ∈ st.map (·.1)) : ∃ n k, n ∈ nodes ∧ Reach sc (k + 1) n n := by
  obtain ⟨k, hk⟩ := h.ch.reach hn
  exact ⟨node, k, h.nin, hk⟩
theorem OS.read {n m : Str} {i : Nat} (h : OS sc nodes s F ((n, i) :: r)) (hm : (sc n)[i]? = some m) (hc : ∀ n ∈ nodes, ∀ m ∈ sc n, m ∈ nodes) : HS sc nodes s F ((n, i + 1) :: r) m :=
  ⟨h.nd, h.sub, h.fin, h.op.read hm, hc n (h.sub n (by simp)) m (List.mem_of_getElem? hm), .inr h.start⟩
theorem OS.pop {n : Str} {i : Nat} (h : OS sc nodes s F ((n, i) :: r)) (hm : (sc n)[i]? = none) : OS sc nodes s (F ++ [n]) r := by
  have e : F ++ [n] ++ r.map (·.1) = F ++ ((n, i) :: r).map (·.1) := by simp
  exact ⟨by rw [e]; exact h.nd, by rw [e]; exact h.sub, h.fin.snoc (h.op.all hm), h.op.pop, by rw [e]; exact h.start⟩
theorem OS.stop (h : OS sc nodes s F []) : s ∈ F := by simpa using h.start
theorem HS.first (nd : F.Nodup) (sub : ∀ x ∈ F, x ∈ nodes) (fin : Fin sc F) (hs : s ∈ nodes) (hF : s ∉ F) : HS sc nodes s F [] s := ⟨by simpa using nd, by simpa using sub, fin, trivial, hs, .inl ⟨rfl, rfl, hF⟩⟩
end Dfs
end Mine

open PySem PySem.Calls PyProof.Rows
set_option Elab.async false
set_option linter.unusedVariables false
set_option maxRecDepth 100000
namespace Mine
section
variable {C : Cx} {A : Around} {L : Addr} {α β : Type} {p : Pt} {env : Env}
/-- an expression whose value falls -/
theorem X_ExprA {e : Expr} {pos : Pos} {Q : Flow → Pt → Prop} (h : Run C A L (eval e env) p fun v p₁ => Q .next p₁)
    (hi : interactive env = false := by rfl) (hs : swapsWith e none pos.line env = Pure.pure false := by rfl) : Run C A L (exec (.Expr e pos) env) p Q :=
  Run.of_eq (exec_Expr _ _ _ hi hs) (.bind (.standAt (.bind (h.mono fun v p₁ h₁ => .of fun s S T => wpAny_dropValue ⟨p₁, S, .refl, h₁⟩))))
theorem E_partNone {Q : Value → Pt → Prop} (h : Q .none p) : Run C A L (evalPart none env) p Q := Run.pure h
theorem E_partSome {e : Expr} {Q : Value → Pt → Prop} (h : Run C A L (eval e env) p Q) : Run C A L (evalPart (some e) env) p Q := h
theorem HasTy.kv {d : Addr} {kvs : List (Str × Value)} (x : (d, kvC C kvs) ∈ p.N) : HasTy C L p (.ref d) "dict" := fun s S => (kv_of x S).typeIs
end
/-- what is owned may be forgotten -/
theorem CallRun.dropS {C : Cx} {A : Around} {f : Addr} {vs : List Value} {G : Addr → Option Obj} {N : List (Addr × Cell)} {k : Nat} {Q : Value → (Addr → Option Obj) → List (Addr × Cell) → Nat → Prop}
    (h : CallRun C A f vs G N k fun v G' N' k' => ∃ N'', N''.Sublist N' ∧ (∀ b ∈ dom N, b ∈ dom N'' ∨ G' b ≠ none) ∧ Q v G' N'' k') : CallRun C A f vs G N k Q := fun s S T =>
  codeAny_mono (h s S T) fun r s' hr => by
    obtain ⟨v, G', N', k', e, S', x, N'', h1, h3, q⟩ := hr
    exact ⟨v, G', N'', k', e, S'.sub (fun q hq => h1.subset hq) (List.Nodup.sublist (List.Sublist.map (fun q : Addr × Cell => q.1) h1) S'.nd), ⟨x.keep, x.grow, fun b hb => x.fresh b (hb.imp id fun hb => by
      obtain ⟨q, hq, rfl⟩ := List.mem_map.mp hb
      exact List.mem_map_of_mem (f := (·.1)) (h1.subset hq)), h3, x.gens, x.os, x.km, x.kk⟩, q⟩
/-- the frames above, at once -/
theorem Outer.mono {l : List Env} {N N' : List (Addr × Cell)} (O : Outer l N) (h : ∀ q ∈ N, q ∈ N') : Outer l N' := fun en hen => let ⟨h1, L', m', h2, h3⟩ := O en hen; ⟨h1, L', m', h2, h _ h3⟩
theorem stopIter_exc : isSubtype (.type "StopIteration") (.type "BaseException") = Pure.pure true := by kernel_rfl
theorem stopIter_nt : isSubtype (.type ((Manifest.find? "StopIteration").elim "type" fun x => x.metatype)) (.type "tuple") = Pure.pure false := by kernel_rfl
theorem stopIter_self : isSubtype (.type "StopIteration") (.type "StopIteration") = Pure.pure true := by kernel_rfl
/-! the dict of places -/
theorem stored_new {kvs : List (Str × Value)} {k : Str} {v : Value} (h : k ∉ kvs.map (·.1)) : stored kvs k v = kvs ++ [(k, v)] := by
  unfold stored
  rw [if_neg]
  simp only [List.any_eq_true, decide_eq_true_eq, not_exists, not_and]
  exact fun q hq e => h (e ▸ List.mem_map_of_mem (f := (·.1)) hq)
theorem without_last {kvs : List (Str × Value)} {k : Str} {v : Value} (h : k ∉ kvs.map (·.1)) : without (kvs ++ [(k, v)]) k = kvs := by
  have := without_of_not_mem kvs k h
  unfold without at this ⊢
  rw [List.filter_append, this]; simp
theorem valueAt_mem {kvs : List (Str × Value)} {k : Str} : (valueAt kvs k).isSome = decide (k ∈ kvs.map (·.1)) := by
  unfold valueAt
  rw [Option.isSome_map]
  by_cases h : k ∈ kvs.map (·.1)
  · rw [decide_eq_true h, List.find?_isSome]
    obtain ⟨q, hq, e⟩ := List.mem_map.mp h
    exact ⟨q, hq, by simpa using e⟩
  · rw [decide_eq_false h, Bool.eq_false_iff]
    intro hs
    rw [List.find?_isSome] at hs
    obtain ⟨q, hq, e⟩ := hs
    exact h (by simp only [decide_eq_true_eq] at e; exact e ▸ List.mem_map_of_mem (f := (·.1)) hq)
theorem valueAt_last {kvs : List (Str × Value)} {k : Str} {v : Value} (h : k ∉ kvs.map (·.1)) : valueAt (kvs ++ [(k, v)]) k = some v := by
  unfold valueAt
  rw [List.find?_append]
  have : kvs.find? (fun kv => decide (kv.1 = k)) = none := List.find?_eq_none.mpr fun q hq => by
    simp only [decide_eq_true_eq]; exact fun e => h (e ▸ List.mem_map_of_mem (f := (·.1)) hq)
  rw [this]; simp
/-! places in a row -/
section
variable {α : Type} {a b c d e f g h i j : α} {r : List α}
theorem at0 : a ∈ a :: r := .head _
theorem at1 : b ∈ a :: b :: r := .tail _ (.head _)
theorem at2 : c ∈ a :: b :: c :: r := .tail _ at1
theorem at3 : d ∈ a :: b :: c :: d :: r := .tail _ at2
theorem at4 : e ∈ a :: b :: c :: d :: e :: r := .tail _ at3
theorem at5 : f ∈ a :: b :: c :: d :: e :: f :: r := .tail _ at4
theorem at6 : g ∈ a :: b :: c :: d :: e :: f :: g :: r := .tail _ at5
theorem at7 : h ∈ a :: b :: c :: d :: e :: f :: g :: h :: r := .tail _ at6
theorem at8 : i ∈ a :: b :: c :: d :: e :: f :: g :: h :: i :: r := .tail _ at7
theorem at9 : j ∈ a :: b :: c :: d :: e :: f :: g :: h :: i :: j :: r := .tail _ at8
end
end Mine

open PySem PySem.Calls PyProof.Rows
set_option Elab.async false
set_option linter.unusedVariables false
set_option maxRecDepth 100000
namespace Mine
section
variable {C : Cx} {A : Around} {L : Addr} {α β : Type} {p : Pt} {env : Env}
theorem Ext0.permR {Lk : Addr → Prop} {G G' : Addr → Option Obj} {N N' N₁ : List (Addr × Cell)} {k k' : Nat} {s s' : Shared} (x : Ext0 Lk G N k s G' N' k' s') (hp : N'.Perm N₁) : Ext0 Lk G N k s G' N₁ k' s' := by
  have hd : (dom N').Perm (dom N₁) := by unfold dom; exact hp.map _
  exact ⟨x.keep, x.grow, fun b hb => x.fresh b (hb.imp id fun h => hd.mem_iff.mpr h), fun b hb => (x.noleak b hb).imp (fun h => hd.mem_iff.mp h) id, x.gens, x.os, x.km, x.kk⟩
theorem Ext0.permL {Lk : Addr → Prop} {G G' : Addr → Option Obj} {N N' N₁ : List (Addr × Cell)} {k k' : Nat} {s s' : Shared} (x : Ext0 Lk G N₁ k s G' N' k' s') (hp : N.Perm N₁) : Ext0 Lk G N k s G' N' k' s' := by
  have hd : (dom N).Perm (dom N₁) := by unfold dom; exact hp.map _
  exact ⟨fun b o h1 h2 h3 => x.keep b o h1 h2 fun h => h3 (hd.mem_iff.mpr h), x.grow, fun b hb => (x.fresh b hb).imp id fun h => h.imp (fun h => hd.mem_iff.mpr h) id, fun b hb => x.noleak b (hd.mem_iff.mp hb), x.gens, x.os, x.km, x.kk⟩
theorem CallRun.perm {f : Addr} {vs : List Value} {G : Addr → Option Obj} {N N₁ : List (Addr × Cell)} {k : Nat} {Q : CQ} (hp : N.Perm N₁) (h : CallRun C A f vs G N₁ k fun v G' N' k' => ∃ N₂, N'.Perm N₂ ∧ Q v G' N₂ k') : CallRun C A f vs G N k Q := fun s S T =>
  codeAny_mono (h s (S.perm hp) T) fun r s' hr => by
    obtain ⟨v, G', N', k', e, S', x, N₂, hp₂, q⟩ := hr
    exact ⟨v, G', N₂, k', e, S'.perm hp₂, (x.permR hp₂).permL hp, q⟩
theorem CallX.perm {f : Addr} {vs : List Value} {G : Addr → Option Obj} {N N₁ : List (Addr × Cell)} {k : Nat} {Q E : CQ} (hp : N.Perm N₁) (h : CallX C A f vs G N₁ k (fun v G' N' k' => ∃ N₂, N'.Perm N₂ ∧ Q v G' N₂ k') fun v G' N' k' => ∃ N₂, N'.Perm N₂ ∧ E v G' N₂ k') : CallX C A f vs G N k Q E := fun s S T =>
  codeAny_mono (h s (S.perm hp) T) fun r s' hr0 => by
    obtain ⟨v, G', N', k', S', x, hr⟩ := hr0
    rcases hr with ⟨e, N₂, hp₂, q⟩ | ⟨e, N₂, hp₂, q⟩
    · exact ⟨v, G', N₂, k', S'.perm hp₂, (x.permR hp₂).permL hp, .inl ⟨e, q⟩⟩
    · exact ⟨v, G', N₂, k', S'.perm hp₂, (x.permR hp₂).permL hp, .inr ⟨e, q⟩⟩
theorem CallX.mono {f : Addr} {vs : List Value} {G : Addr → Option Obj} {N : List (Addr × Cell)} {k : Nat} {Q Q' E E' : CQ} (h : CallX C A f vs G N k Q E) (hq : ∀ v G' N' k', Q v G' N' k' → Q' v G' N' k') (he : ∀ v G' N' k', E v G' N' k' → E' v G' N' k') : CallX C A f vs G N k Q' E' := fun s S T =>
  codeAny_mono (h s S T) fun r s' hr0 => by
    obtain ⟨v, G', N', k', S', x, hr⟩ := hr0
    exact ⟨v, G', N', k', S', x, hr.imp (fun h => ⟨h.1, hq _ _ _ _ h.2⟩) fun h => ⟨h.1, he _ _ _ _ h.2⟩⟩
/-- a lent frame, the rest in any order -/
theorem R_callLP {f : Addr} {vs : List Value} {Nc Nr : List (Addr × Cell)} {Q : Value → Pt → Prop} (hp : p.N.Perm (Nc ++ Nr))
    (h : CallRun C A f vs p.G ((L, frameC p.m) :: Nc) p.k fun v G' N' k' => ∃ N'', N'.Perm ((L, frameC p.m) :: N'') ∧ Q v { p with G := G', N := N'' ++ Nr, k := k' }) : Run C A L (PySem.call (.ref f) vs) p Q :=
  R_callL hp (CallRun.perm (.refl _) (h.mono fun v G' N' k' ⟨N'', hN, q⟩ => ⟨_, hN, N'', rfl, q⟩))
/-! a call that may raise, in an expression -/
theorem RE_chain {t : Sem α} {k : α → Sem β} {P : α → Shared → Prop} {Q : β → Pt → Prop} {E : Value → Pt → Prop} {s : Shared} (S : Sat C.B L p s.heap) (T : TokOk p.k s) (h : Run C A L t p fun a p₁ => (∀ s₁, Sat C.B L p₁ s₁.heap → P a s₁) ∧ RunE C A L (k a) p₁ Q E) :
    wpAny (model C.prog C.w) A t (fun a s₁ => P a s₁ ∧ wpAny (model C.prog C.w) A (k a) (Post C L p s Q) (Post C L p s E) s₁) (Post C L p s E) s :=
  wpAny_mono (wpAny_toks (h.go s S T)) (fun a s₁ ⟨t₁, p₁, S₁, x₁, h1, h2⟩ => ⟨h1 s₁ S₁, RunE.after S T S₁ x₁ t₁ h2⟩) fun _ _ e => e.2.elim
theorem RE_callF {f : Addr} {o : Obj} {fd : FuncData} {first : List Value} {args : List (Bool × Sem Value)} {pos : Pos} {Q : Value → Pt → Prop} {E : Value → Pt → Prop} (ho : C.B.get? f = some o) (hd : o.data = .func fd) (hp : args.any (·.1) = false)
    (h : Run C A L (spliced args) p fun vs p₁ => RunE C A L (PySem.call (.ref f) (first ++ vs)) p₁ Q E) : RunE C A L (callWith pos (.ref f) first args []) p Q E := .of fun s S T => by
  refine callWith_function (o := o) (fd := fd) (wpAny_mono (RE_chain (P := fun a s₁ => (s₁.heap.get? f = some o ∧ o.data = .func fd) ∧ a.kw = []) (k := fun a => PySem.call (.ref f) (first ++ a.pos)) S T
    (R_evalArgs hp (h.mono fun vs p₁ h₁ => ⟨fun s₁ S₁ => ⟨⟨S₁.s0.base _ _ ho, hd⟩, rfl⟩, h₁⟩))) (fun a s₁ h₁ => ⟨h₁.1.1, ?_⟩) fun _ _ e => e)
  rw [h₁.1.2]; exact h₁.2
theorem E_methFX {f : Addr} {of : Obj} {fd : FuncData} {o : Expr} {name : Str} {apos pos : Pos} {args : List Expr} {Q : Value → Pt → Prop} {E : Value → Pt → Prop} {pl : Sem Bool} (ho : C.B.get? f = some of) (hd : of.data = .func fd)
    (h : Run C A L (eval o env) p fun ov p₁ => Run C A L (getMethod ov name pl) p₁ fun fx p₂ => fx.1 = .ref f ∧ Run C A L (spliced (backTo pos (starEach args env))) p₂ fun vs p₃ => RunE C A L (PySem.call (.ref f) (fx.2 ++ vs)) p₃ Q E)
    (hp : (args.all fun e => !PySem.W.isStarred e) = true := by rfl)
    (he : eval (.Call (.Attribute o name apos) args [] pos) env = (do
      let ov ← eval o env
      PySem.standAt apos.atName
      let (f, first) ← PySem.holding [ov] (getMethod ov name pl)
      callWith pos f first (backTo pos (starEach args env)) (backToKw pos (keywordEach [] env))) := by rfl) :
    RunE C A L (eval (.Call (.Attribute o name apos) args [] pos) env) p Q E := by
  refine RunE.of_eq he (.bind (h.toE.mono (fun ov p₁ h₁ => .bind (.standAt (.bind (.holding (h₁.toE.mono (fun fx p₂ ⟨hf, h₂⟩ => ?_) fun _ _ z => z)))) ) fun _ _ z => z))
  obtain ⟨g, first⟩ := fx
  dsimp only at hf h₂ ⊢
  subst hf
  exact RE_callF ho hd (plainTrees hp) h₂
end
theorem CallX.go {C : Cx} {A : Around} {gl bl : List (Str × Value)} {f : Addr} {o : Obj} {fd : FuncData} {body : List Stmt} {vs : List Value} {binds : List (Str × Value)} {G : Addr → Option Obj} {N : List (Addr × Cell)} (m₀ : List (Str × Option Value)) {k : Nat} {outer : List Env}
    {Q E : CQ} {d : Nat} (K : Base C gl bl) (hr : Room A (d + 1)) (hA : A.frames = some outer) (ho : C.B.get? f = some o) (hdata : o.data = .func fd) (hcd : C.B.CodeRec fd.code fd.qualname)
    (hbind : Binds C fd vs binds) (h : ∀ L, Room (A.deeper (callEnv fd L f)) d → RunE C (A.deeper (callEnv fd L f)) L (execs body (callEnv fd L f)) ⟨G, m₀, N, k⟩ (fun fl p' => Q (retOf fl) p'.G p'.N p'.k) (Leaves outer E))
    (hm : m₀ = (m₀.map (·.1)).map fun x => (x, binds.reverse.lookup x) := by rfl) (hok : okB m₀ binds fd.scope.names = true := by rfl)
    (hbody : fd.body = .stmts body := by rfl) (hcell : ∀ x ∈ fd.scope.names, x.2 ≠ .cell := by decide)
    (hco : fd.scope.isCoroutine = false := by rfl) (hgen : fd.scope.isGenerator = false := by rfl) (hk : fd.scope.kind = .function := by rfl) : CallX C A f vs G N k Q E :=
  CallX.body K hr hA ho hdata hcd hbind hm (okB.split hok).1 (okB.split hok).2.1 hbody hcell (okB.split hok).2.2 h hco hgen hk
/-! what a comprehension made -/
theorem Made.vals {R : Nat → Value → (Addr → Option Obj) → Nat → Prop} {val : Nat → Option Value} {G : Addr → Option Obj} {k : Nat} (hR : ∀ a y, R a y G k → val a = some y) : ∀ {idx : List Nat} {ys : List Value}, Made R idx ys G k → ys = idx.filterMap val
  | [], [], _ => rfl
  | [], _ :: _, h => by have := h.1; simp at this
  | _ :: _, [], h => by have := h.1; simp at this
  | a :: idx, y :: ys, h => by
    have e := hR a y (h.2 0 a y rfl rfl)
    have ih := Made.vals hR (idx := idx) (ys := ys) ⟨by have := h.1; simpa using this, fun j b z hb hz => h.2 (j + 1) b z (by simpa using hb) (by simpa using hz)⟩
    rw [List.filterMap_cons, e, ← ih]
theorem range_sel {α : Type} (f : α → Bool) : ∀ (l : List α), ((List.range l.length).filter fun a => (l[a]?.map f).getD false).filterMap (fun a => l[a]?) = l.filter f
  | [] => rfl
  | x :: l => by
    have ih := range_sel f l
    rw [List.length_cons, List.range_succ_eq_map, List.filter_cons]
    have e : (((List.range l.length).map Nat.succ).filter fun a => ((x :: l)[a]?.map f).getD false).filterMap (fun a => (x :: l)[a]?) = l.filter f := by
      rw [List.filter_map, List.filterMap_map]
      exact ih
    cases hx : f x with
    | true => simp only [List.getElem?_cons_zero, Option.map_some, Option.getD_some, hx, if_true, List.filterMap_cons, List.filter_cons]; rw [e]
    | false => simp only [List.getElem?_cons_zero, Option.map_some, Option.getD_some, hx, Bool.false_eq_true, if_false, List.filter_cons]; rw [e]
end Mine

open PySem PySem.Calls PyProof.Rows
set_option Elab.async false
set_option linter.unusedVariables false
set_option maxRecDepth 100000
namespace Mine
/-! comprehensions with two fors -/
section
variable {C : Cx} {A : Around} {L : Addr} {α β : Type} {p : Pt} {env : Env}
/-- inside a comprehension: the frame Cc, the list D so far, what is hidden besides -/
structure CSt (C : Cx) (Cc D : Addr) (W : List Addr) (p₀ : Pt) (s₁ : Shared) (ys : List Value) (p : Pt) (s : Shared) : Prop where
  S : Sat C.B Cc p s.heap
  x : Ext Cc p₀ s₁ p s
  t : s₁.toks ≤ s.toks
  H : Hid C.B Cc (D :: W) p s.heap
  l : s.heap.PlainList D ys.toArray
/-- what stands fast: the start -/
structure CIn (C : Cx) (Cc D : Addr) (p₀ : Pt) (s₁ : Shared) : Prop where
  S₁ : Sat0 C.B p₀.G p₀.N s₁.heap
  T₁ : TokOk p₀.k s₁
  hC : s₁.heap.get? Cc = none
  hD : s₁.heap.get? D = none
variable {Cc D : Addr} {W : List Addr} {p₀ : Pt} {s₁ : Shared}
theorem CSt.tok {ys : List Value} {s : Shared} (I : CIn C Cc D p₀ s₁) (c : CSt C Cc D W p₀ s₁ ys p s) : TokOk p.k s := I.T₁.next c.x c.t
theorem CIn.tr {s s' : Shared} {p' : Pt} {ys : List Value} (I : CIn C Cc D p₀ s₁) (c : CSt C Cc D W p₀ s₁ ys p s) (y : Ext Cc p s p' s') (t : s.toks ≤ s'.toks) : Ext Cc p₀ s₁ p' s' :=
  Ext0.trans I.S₁ c.S.s0 (fun b hb h => absurd (by rw [hb]; exact I.hC) h) c.x y t
/-- hidden objects and frozen ones stand -/
def Kept (W : List Addr) (G : Addr → Option Obj) (s s' : Shared) : Prop := (∀ b ∈ W, ∀ o, s.heap.get? b = some o → s'.heap.get? b = some o) ∧ ∀ b o, G b = some o → s'.heap.get? b = some o
theorem CSt.post {t : Sem α} {ys : List Value} {s : Shared} {Q : α → Pt → Prop} (I : CIn C Cc D p₀ s₁) (c : CSt C Cc D W p₀ s₁ ys p s) (h : wpAny (model C.prog C.w) A t (Post C Cc p s Q) (fun _ _ => False) s) :
    wpAny (model C.prog C.w) A t (fun a s' => ∃ p', CSt C Cc D W p₀ s₁ ys p' s' ∧ Kept W p.G s s' ∧ (∀ b o, p.G b = some o → p'.G b = some o) ∧ Q a p') (fun _ _ => False) s := by
  refine wpAny_mono (wpAny_toks h) (fun a s' ⟨t', p', S', y, q⟩ => ?_) fun _ _ e => e.2
  obtain ⟨H', hk⟩ := Hid.step c.H y
  exact ⟨p', ⟨S', I.tr c y t', Nat.le_trans c.t t', H', c.l.at fun o e => hk D List.mem_cons_self o e⟩, ⟨fun b hb o e => hk b (List.mem_cons_of_mem _ hb) o e, fun b o e => S'.s0.gs b o (y.grow b o e)⟩, y.grow, q⟩
theorem CSt.run {t : Sem α} {ys : List Value} {s : Shared} {Q : α → Pt → Prop} (I : CIn C Cc D p₀ s₁) (c : CSt C Cc D W p₀ s₁ ys p s) (h : Run C A Cc t p Q) :
    wpAny (model C.prog C.w) A t (fun a s' => ∃ p', CSt C Cc D W p₀ s₁ ys p' s' ∧ Kept W p.G s s' ∧ (∀ b o, p.G b = some o → p'.G b = some o) ∧ Q a p') (fun _ _ => False) s :=
  c.post I (h.go s c.S (c.tok I))
/-- a change to what is hidden -/
theorem CSt.hid {ys ys' : List Value} {s : Shared} {h' : Heap} {tk : Nat} (I : CIn C Cc D p₀ s₁) (c : CSt C Cc D W p₀ s₁ ys p s) (hk : ∀ b o, b ∉ D :: W → s.heap.get? b = some o → h'.get? b = some o) (ha : ∀ b ∈ D :: W, h'.get? b ≠ none) (hl : h'.PlainList D ys'.toArray) (ht : s.toks ≤ tk)
    (hW : ∀ b ∈ D :: W, s₁.heap.get? b = none) : CSt C Cc D W p₀ s₁ ys' p { s with heap := h', toks := tk } :=
  ⟨c.S.hid c.H hk, c.x.hid hW ht hk, Nat.le_trans c.t ht, c.H.only ha, hl⟩
theorem CSt.weak {W' : List Addr} {ys : List Value} {s : Shared} (c : CSt C Cc D W p₀ s₁ ys p s) (h : ∀ b ∈ W', b ∈ W) : CSt C Cc D W' p₀ s₁ ys p s :=
  ⟨c.S, c.x, c.t, fun b hb => c.H b (by rcases List.mem_cons.mp hb with e | hb; exact e ▸ List.mem_cons_self; exact List.mem_cons_of_mem _ (h b hb)), c.l⟩
theorem Kept.trans {W : List Addr} {G G' : Addr → Option Obj} {s s' s'' : Shared} (a : Kept W G s s') (b : Kept W G' s' s'') (hG : ∀ b o, G b = some o → G' b = some o) : Kept W G s s'' := ⟨fun x hx o e => b.1 x hx o (a.1 x hx o e), fun x o e => b.2 x o (hG x o e)⟩
theorem Kept.of {W W' : List Addr} {G : Addr → Option Obj} {s s' : Shared} (a : Kept W G s s') (h : ∀ b ∈ W', b ∈ W) : Kept W' G s s' := ⟨fun x hx o e => a.1 x (h x hx) o e, a.2⟩

/-- one level's loop: emit is what a turn does behind its tests -/
theorem comp_loopG {R : Result → Shared → Prop} {elt : Expr} {gens : List Comprehension} {scope : Scope} {pos : Pos} {dep : Nat} {target iter : Expr} {ifs : List Expr} {cenv : Env} {s : Shared} {Ia : Addr} {fp wr V : List Addr} {n : Nat} {P Md : Nat → Value → Heap → Prop} {St : Nat → Heap → Prop} {emit : Sem Unit}
    (I : Nat → List Value → Pt → Prop) (Em : Nat → List Value → Pt → Prop) {pS : Pt} {yS : List Value} (N : CIn C Cc D p₀ s₁) (KT : PySem.W.KTurns C.prog C.w A target Ia fp wr n P Md St)
    (hturn : compTurn (.ListComp elt gens scope pos) dep (.ref Ia) (.ref D) cenv = (do
      PySem.standAt iter.pos
      match ← pyNext (.ref Ia) with
      | none => Pure.pure (.done .next)
      | some v =>
        letOwnedTupleGo target (.ref Ia) v
        assign target cenv v
        let mut ok := true
        for c in ifs do
          if ok then ok ← isTrue c cenv (eval c cenv)
        if ok then
          emit
        again (.compLoop (.ListComp elt gens scope pos) dep (.ref Ia) (.ref D) cenv)))
    (hW : ∀ b ∈ D :: (wr ++ V), s₁.heap.get? b = none) (hDw : D ∉ wr) (hwV : ∀ b ∈ V, b ∉ wr) (hf : ∀ b ∈ fp, b ∈ wr ∨ ∃ o, pS.G b = some o) (hal : ∀ i h, St i h → ∀ b ∈ wr, h.get? b ≠ none)
    (c₀ : CSt C Cc D (wr ++ V) p₀ s₁ yS pS s) (st0 : St 0 s.heap) (hI : I 0 yS pS)
    (step : ∀ i ys p₂, i < n → I i ys p₂ → (∀ b o, pS.G b = some o → p₂.G b = some o) → AsgRun C A Cc target cenv (P i) p₂ fun p₃ =>
      Run C A Cc (forIn ifs true fun c r => if r = true then do let ok ← isTrue c cenv (eval c cenv); Pure.pure (ForInStep.yield ok) else Pure.pure (ForInStep.yield r)) p₃ fun b p₄ =>
        if b then Em i ys p₄ else I (i + 1) ys p₄)
    (he : ∀ i ys p₄ s', i < n → Em i ys p₄ → CSt C Cc D (wr ++ V) p₀ s₁ ys p₄ s' → wpAny (model C.prog C.w) A emit (fun _ s'' => ∃ ys' p', CSt C Cc D (wr ++ V) p₀ s₁ ys' p' s'' ∧ Kept (wr ++ V) p₄.G s' s'' ∧ (∀ b o, p₄.G b = some o → p'.G b = some o) ∧ I (i + 1) ys' p') (fun _ _ => False) s')
    (fin : ∀ ys p' s', I n ys p' → (∀ b o, pS.G b = some o → p'.G b = some o) → CSt C Cc D V p₀ s₁ ys p' s' → Kept V pS.G s s' → R (.ok .next) s') :
    codeAny (model C.prog C.w) A (.compLoop (.ListComp elt gens scope pos) dep (.ref Ia) (.ref D) cenv) R s := by
  have stK : ∀ {i : Nat} {p₅ : Pt} {s₅ s₆ : Shared}, St i s₅.heap → (∀ b o, pS.G b = some o → p₅.G b = some o) → Sat C.B Cc p₅ s₅.heap → Kept (wr ++ V) p₅.G s₅ s₆ → St i s₆.heap := fun st g S₅ K =>
    KT.frame _ _ _ st fun b hb o e => by
      rcases hf b hb with hb | ⟨o', ho'⟩
      · exact K.1 b (List.mem_append_left _ hb) o e
      · have e1 := S₅.s0.gs b o' (g b o' ho')
        have e2 := K.2 b o' (g b o' ho')
        rw [e1] at e; cases e; exact e2
  have vw : ∀ b ∈ V, b ∈ wr ++ V := fun b hb => List.mem_append_right _ hb
  have Dout : ∀ {h h' : Heap} {ys : List Value}, (∀ b o, b ∉ wr → h.get? b = some o → h'.get? b = some o) → h.PlainList D ys.toArray → h'.PlainList D ys.toArray := fun hk hl => hl.at fun o e => hk D o hDw e
  have al : ∀ {i : Nat} {h h' : Heap} {p₂ : Pt} {ys : List Value}, St i h' → Hid C.B Cc (D :: (wr ++ V)) p₂ h → (∀ b o, b ∉ wr → h.get? b = some o → h'.get? b = some o) → h'.PlainList D ys.toArray → ∀ b ∈ D :: (wr ++ V), h'.get? b ≠ none := fun {i h h' p₂ ys} st H hk hl b hb => by
    rcases List.mem_cons.mp hb with e | hb'
    · obtain ⟨n, e'⟩ := hl; rw [e, e']; exact fun h => nomatch h
    · by_cases hbw : b ∈ wr
      · exact hal _ _ st b hbw
      · have := (H b hb).2.2.2.2
        cases e : h.get? b with
        | none => exact absurd e this
        | some o => rw [hk b o hbw e]; exact fun h => nomatch h
  refine codeAny_loop rfl (fun k s' => ∃ i ys p₂, St i s'.heap ∧ CSt C Cc D (wr ++ V) p₀ s₁ ys p₂ s' ∧ Kept V pS.G s s' ∧ (∀ b o, pS.G b = some o → p₂.G b = some o) ∧ I i ys p₂ ∧ i ≤ n ∧ k = n + 1 - i) (fun k s' hinv => ?_) (n + 1)
    ⟨0, yS, pS, st0, c₀, ⟨fun _ _ _ e => e, fun b o e => c₀.S.s0.gs b o e⟩, fun _ _ e => e, hI, Nat.zero_le _, rfl⟩
  obtain ⟨i, ys, p₂, st, c₂, K₂, g₂, hI₂, hi, rfl⟩ := hinv
  show wpAny _ A ((compTurn (.ListComp elt gens scope pos) dep (.ref Ia) (.ref D) cenv).onRaise (fun x => do noteFrame x cenv; theTreesLotGoes x)) _ _ s'
  refine wpAny_noted ?_
  rw [hturn]
  refine wpAny_bind (wpAny_standAt (wpAny_bind ?_))
  by_cases hlt : i < n
  · refine wpAny_with_toks (Nat.le_refl _) (KT.item i _ _ _ hlt st fun v h₄ tk₄ hMd hk₄ ht₄ => ?_)
    refine wpAny_bind (KT.go i v _ _ _ hMd fun h₅ hP st₅ hk₅ => ?_)
    have hk : ∀ b o, b ∉ wr → s'.heap.get? b = some o → h₅.get? b = some o := fun b o hb e => hk₅ b o hb (hk₄ b o hb e)
    have hl₅ := Dout hk c₂.l
    have c₅ : CSt C Cc D (wr ++ V) p₀ s₁ ys p₂ { s' with heap := h₅, toks := tk₄ } := c₂.hid N (fun b o hb e => hk b o (fun h => hb (List.mem_cons_of_mem _ (List.mem_append_left _ h))) e) (al st₅ c₂.H hk hl₅) hl₅ ht₄ hW
    have K₅ : Kept V pS.G s { s' with heap := h₅, toks := tk₄ } := ⟨fun b hb o e => hk b o (hwV b hb) (K₂.1 b hb o e), fun b o e => c₅.S.s0.gs b o (g₂ b o e)⟩
    refine wpAny_bind (wpAny_mono (c₅.post N (step i ys p₂ hlt hI₂ g₂ v { s' with heap := h₅, toks := tk₄ } hP c₅.S (c₅.tok N))) (fun _ s₆ ⟨p₆, c₆, k₆, g₆, run⟩ => ?_) fun _ _ e => e.elim)
    have st₆ := stK (s₅ := { s' with heap := h₅, toks := tk₄ }) st₅ g₂ c₅.S k₆
    have K₆ := K₅.trans (k₆.of vw) g₂
    have g₆' : ∀ b o, pS.G b = some o → p₆.G b = some o := fun b o e => g₆ b o (g₂ b o e)
    refine wpAny_bind (wpAny_mono (c₆.run N run) (fun ok s₇ ⟨p₇, c₇, k₇, g₇, q⟩ => ?_) fun _ _ e => e.elim)
    have st₇ := stK st₆ g₆' c₆.S k₇
    have K₇ := K₆.trans (k₇.of vw) g₆'
    have g₇' : ∀ b o, pS.G b = some o → p₇.G b = some o := fun b o e => g₇ b o (g₆' b o e)
    cases ok with
    | false =>
      simp only [Bool.false_eq_true, if_false] at q ⊢
      exact wpAny_pure ⟨rfl, n + 1 - (i + 1), by omega, i + 1, ys, p₇, st₇, c₇, K₇, g₇', q, hlt, rfl⟩
    | true =>
      simp only [if_true] at q ⊢
      refine wpAny_bind (wpAny_mono (he i ys p₇ s₇ hlt q c₇) (fun _ s₈ ⟨ys', p₈, c₈, k₈, g₈, q₈⟩ => ?_) fun _ _ e => e.elim)
      exact wpAny_pure ⟨rfl, n + 1 - (i + 1), by omega, i + 1, ys', p₈, stK st₇ g₇' c₇.S k₈, c₈, K₇.trans (k₈.of vw) g₇', fun b o e => g₈ b o (g₇' b o e), q₈, hlt, rfl⟩
  · have hin : i = n := by omega
    subst hin
    refine wpAny_with_toks (Nat.le_refl _) (KT.done _ _ _ st fun h₄ tk₄ hk₄ ht₄ => wpAny_pure ?_)
    have hl₄ := Dout hk₄ c₂.l
    have cV := c₂.weak (W' := V) vw
    have aV : ∀ b ∈ D :: V, h₄.get? b ≠ none := fun b hb => by
      rcases List.mem_cons.mp hb with e | hb'
      · obtain ⟨n, e'⟩ := hl₄; rw [e, e']; exact fun h => nomatch h
      · have := (cV.H b hb).2.2.2.2
        cases e : s'.heap.get? b with
        | none => exact absurd e this
        | some o => rw [hk₄ b o (hwV b hb') e]; exact fun h => nomatch h
    have aW : ∀ b o, b ∉ D :: (wr ++ V) → s'.heap.get? b = some o → h₄.get? b = some o := fun b o hb e => hk₄ b o (fun h => hb (List.mem_cons_of_mem _ (List.mem_append_left _ h))) e
    refine fin ys p₂ _ hI₂ g₂ ⟨c₂.S.hid c₂.H aW, c₂.x.hid hW ht₄ aW, Nat.le_trans c₂.t ht₄, fun b hb => ?_, hl₄⟩ ⟨fun b hb o e => hk₄ b o (hwV b hb) (K₂.1 b hb o e), fun b o e => ?_⟩
    · obtain ⟨h1, h2, h3, h4, _⟩ := cV.H b hb
      exact ⟨h1, h2, h3, h4, aV b hb⟩
    · exact (c₂.S.hid c₂.H aW).s0.gs b o (g₂ b o e)
/-- the last level's element goes to the list -/
theorem emit_last {elt : Expr} {cenv : Env} {ys : List Value} {p₄ : Pt} {s' : Shared} {I : List Value → Pt → Prop} (N : CIn C Cc D p₀ s₁) (hW : ∀ b ∈ D :: W, s₁.heap.get? b = none) (hDW : D ∉ W)
    (c : CSt C Cc D W p₀ s₁ ys p₄ s') (hz : ys.length ≤ sizeLine) (h : Run C A Cc (eval elt cenv) p₄ fun y p₅ => I (ys ++ [y]) p₅) :
    wpAny (model C.prog C.w) A (do let _ ← PySem.call (.builtin "list.append") [.ref D, ← eval elt cenv]) (fun _ s'' => ∃ ys' p', CSt C Cc D W p₀ s₁ ys' p' s'' ∧ Kept W p₄.G s' s'' ∧ (∀ b o, p₄.G b = some o → p'.G b = some o) ∧ I ys' p') (fun _ _ => False) s' := by
  refine wpAny_bind (wpAny_mono (c.run N h) (fun y s₈ ⟨p₈, c₈, k₈, g₈, q⟩ => ?_) fun _ _ e => e)
  refine wpAny_bind (wpAny_list_append_plain (hsz := by rw [List.size_toArray]; exact hz) c₈.l fun h₉ hl₉ hs₉ => wpAny_pure ?_)
  have hl' : h₉.PlainList D (ys ++ [y]).toArray := by rw [show (ys ++ [y]).toArray = ys.toArray.push y by simp]; exact hl₉
  have upD : ∀ b o, b ∉ D :: W → s₈.heap.get? b = some o → h₉.get? b = some o := fun b o hb e => hs₉.extBut b o (fun q => hb (q ▸ List.mem_cons_self)) e
  have kW : ∀ b ∈ W, ∀ o, s₈.heap.get? b = some o → h₉.get? b = some o := fun b hb o e => hs₉.extBut b o (fun q => hDW (q ▸ hb)) e
  have al : ∀ b ∈ D :: W, h₉.get? b ≠ none := fun b hb => by
    rcases List.mem_cons.mp hb with e | hb'
    · obtain ⟨n, e'⟩ := hl'; rw [e, e']; exact fun h => nomatch h
    · have := (c₈.H b hb).2.2.2.2
      cases e : s₈.heap.get? b with
      | none => exact absurd e this
      | some o => rw [kW b hb' o e]; exact fun h => nomatch h
  have c₉ := c₈.hid (tk := s₈.toks) N upD al hl' (Nat.le_refl _) hW
  exact ⟨ys ++ [y], p₈, c₉, k₈.trans (G' := p₈.G) ⟨kW, fun b o e => c₉.S.s0.gs b o e⟩ g₈, g₈, q⟩
end
end Mine

open PySem PySem.Calls PyProof.Rows
set_option Elab.async false
set_option linter.unusedVariables false
set_option maxRecDepth 100000
namespace Mine
section
variable {C : Cx} {A : Around} {L : Addr} {α β : Type} {p : Pt} {env : Env}
/-! lists of texts -/
theorem sv_eqAt {s : Shared} {A : Around} {ls : List (Str × Tok)} {k : Str} {t : Tok} : ∀ y, y ∈ (strValues ls).toArray → SeqAt.EqAt A s y (.str k t) (match y with | .str a _ => a == k | _ => false) := fun y hy => by
  have hy : y ∈ strValues ls := by simpa using hy
  obtain ⟨q, _, rfl⟩ := List.mem_map.mp hy
  exact SeqAt.EqAt.str_str _ _ _ _
theorem sv_any {ls : List (Str × Tok)} {k : Str} : (strValues ls).toArray.any (fun y => match y with | .str a _ => a == k | _ => false) = decide (k ∈ ls.map (·.1)) := by
  rw [List.any_toArray]
  unfold strValues
  rw [List.any_map]
  induction ls with
  | nil => rfl
  | cons q r ih =>
    rw [List.any_cons, ih, List.map_cons]
    by_cases h : q.1 = k
    · subst h; simp
    · have h2 : ¬ k = q.1 := fun e => h e.symm
      have e1 : (q.1 == k) = false := beq_eq_false_iff_ne.mpr h
      show ((q.1 == k) || _) = _
      rw [e1, Bool.false_or]
      simp only [List.mem_cons, h2, false_or]
theorem C_inSL {l : Addr} {ls : List (Str × Tok)} {k : Str} {t : Tok} {Q : Value → Pt → Prop} (hl : ListAt p.G l (strValues ls) ∨ (l, listC (strValues ls)) ∈ p.N) (h : Q (.bool (decide (k ∈ ls.map (·.1)))) p) : Run C A L (compareOp .In (.str k t) (.ref l)) p Q := .of fun s S T =>
  SeqAt.in_listAt _ (isList_of hl S) sv_eqAt (by rw [sv_any]; exact ⟨p, S, .refl, h⟩)
theorem C_notInSL {l : Addr} {ls : List (Str × Tok)} {k : Str} {t : Tok} {Q : Value → Pt → Prop} (hl : ListAt p.G l (strValues ls) ∨ (l, listC (strValues ls)) ∈ p.N) (h : Q (.bool (!decide (k ∈ ls.map (·.1)))) p) : Run C A L (compareOp .NotIn (.str k t) (.ref l)) p Q := .of fun s S T =>
  SeqAt.notIn_listAt _ (isList_of hl S) sv_eqAt (by rw [sv_any]; exact ⟨p, S, .refl, h⟩)
/-! bools, ints -/
theorem B_mul {a b : Int} {t u : Tok} {Q : Value → Pt → Prop} (hm : IntMulOk a b) (h : ∀ tk, Q (.int (a * b) tk) p) : Run C A L (binaryOp .Mult (.int a t) (.int b u)) p Q := .of fun s S T => mul_int (Post.same S (h _)) hm
theorem R_divmod {a b : Int} {t u : Tok} {Q : Value → Pt → Prop} (hb : b ≠ 0) (hs : b.natAbs < 1073741824) (h : ∀ T G' t1 t2, GLe p.G G' → TupAt G' T [.int (a.fdiv b) t1, .int (a.fmod b) t2] → Q (.ref T) { p with G := G' }) : Run C A L (PySem.call (.builtin "divmod") [.int a t, .int b u]) p Q := .of fun s S T => by
  have nn := S.none_at (get_size_none s.heap)
  refine divmod_int hb ⟨_, S.pushG (o := tupO [.int (a.fdiv b) s.toks, .int (a.fmod b) (s.toks + 1)]) rfl, Ext.pushG S, h _ _ _ _ (GLe.add nn.2.1) TupAt.new⟩ (.inl (PyProof.noPylong_small hs))
/-! and, or as values -/
/-! dicts -/
/-! texts -/
theorem B_addSF {x y : Str} {t u : Tok} {Q : Value → Pt → Prop} (hx : x.length ≠ 0) (hy : y.length ≠ 0) (hz : x.length + y.length ≤ sizeLine) (h : ∀ tk, p.k ≤ tk → Q (.str (x ++ y) tk) { p with k := tk + 1 }) : Run C A L (binaryOp .Add (.str x t) (.str y u)) p Q := .of fun s S T => by
  refine PySem.P.add_str ?_
  rw [if_neg (by simpa using hx), if_neg (by simpa using hy)]
  exact ⟨by rw [strLen_append]; exact hz, Post.fresh S T (h _ T.le)⟩
end
end Mine

open PySem PySem.Calls PyProof.Rows
set_option Elab.async false
set_option linter.unusedVariables false
set_option maxRecDepth 100000
namespace Mine
/-- a comprehension's own cells -/
def ownCells (scope : Scope) (Cc : Addr) : List (Addr × Cell) := (cellsFrom (Cc + 1) scope.names []).map fun q => (q.2, cellC none)
abbrev compEnvK (scope : Scope) (cl : List (Str × Addr)) (Cc : Addr) (env : Env) : Env := compEnvC scope (cellsFrom (Cc + 1) scope.names cl) Cc env
theorem wpAny_compEnv {M : Model} {A : Around} {E : Value → Shared → Prop} {s : Shared} {scope : Scope} {cl : List (Str × Addr)} {env : Env} {Q : Env → Shared → Prop}
    (h : Q { scope := scope, locals := s.heap.objs.size, globals := env.globals, cells := cellsFrom (s.heap.objs.size + 1) scope.names cl, qual := env.qual, func := none, code := env.code, frame := env.frame, builtins := env.builtins }
      { s with heap := pushCells (s.heap.push { cls := .type "dict", data := .dict #[] }) scope.names }) :
    wpAny M A (newFunctionEnv scope env.globals cl [] env.qual none .none (some env)) Q E s := by
  simp only [newFunctionEnv, Option.isSome_some, if_true]
  refine wpAny_bind (wpAny_alloc ?_)
  refine wpAny_bind (wpAny_layCells _ (fun name kind cells => by cases hkc : kind == NameKind.cell <;> simp [hkc]) _ _ _ _ ?_)
  rw [show ({ s with heap := s.heap.push { cls := .type "dict", data := .dict #[] } } : Shared).heap.objs.size = s.heap.objs.size + 1 from Heap.size_push ..]
  refine wpAny_bind ?_
  rw [List.forIn_nil]
  exact wpAny_pure (wpAny_pure h)
section
variable {C : Cx} {A : Around} {L : Addr} {α β : Type} {p : Pt} {env : Env}
/-- a comprehension's frame and cells are made, its loop runs -/
theorem comp_blockC {elt target iter : Expr} {ifs : List Expr} {rest : List Comprehension} {scope : Scope} {pos : Pos} {cl : List (Str × Addr)} {s₁ : Shared} {xv : Value} {n : Nat} {P : Nat → Value → Heap → Prop}
    (F : List Value → Pt → Prop) {p₁ : Pt} {mc : List (Str × Option Value)} {RR : Value → Addr → Result → Shared → Prop} (it : IterOn C A L p₁ target xv n P)
    (S₁ : Sat C.B L p₁ s₁.heap) (T₁ : TokOk p₁.k s₁) (hmc : ∀ q ∈ mc, q.2 = none) (hnd : (mc.map (·.1)).Nodup)
    (loop : ∀ (Cc D Ia : Addr) (fp wr : List Addr) (Md : Nat → Value → Heap → Prop) (St : Nat → Heap → Prop) (s₃ : Shared), CIn C Cc D { p₁ with m := mc } s₁ → PySem.W.KTurns C.prog C.w A target Ia fp wr n P Md St →
      (∀ b ∈ D :: wr, s₁.heap.get? b = none) → D ∉ wr → (∀ b ∈ fp, b ∈ wr ∨ ∃ o, p₁.G b = some o) → (∀ i h, St i h → ∀ b ∈ wr, h.get? b ≠ none) → CSt C Cc D wr { p₁ with m := mc } s₁ [] ⟨p₁.G, mc, ownCells scope Cc ++ p₁.N, p₁.k⟩ s₃ → St 0 s₃.heap →
      codeAny (model C.prog C.w) A (.compLoop (.ListComp elt (⟨target, iter, ifs, 0⟩ :: rest) scope pos) 0 (.ref Ia) (.ref D) (compEnvK scope cl Cc env))
        (fun r s' => r = .ok .next ∧ ∃ ys p', F ys p' ∧ (∀ b o, p₁.G b = some o → p'.G b = some o) ∧ CSt C Cc D [] { p₁ with m := mc } s₁ ys p' s') s₃)
    (fin : ∀ D Cc ys p₂ s', F ys p₂ → (∀ b o, p₁.G b = some o → p₂.G b = some o) → s'.heap.Ns Cc (look p₂.m) → s₁.heap.get? Cc = none → D ≠ Cc → Sat C.B L ⟨p₂.G, p₁.m, (D, listC ys) :: p₂.N, p₂.k⟩ s'.heap → Ext L p₁ s₁ ⟨p₂.G, p₁.m, (D, listC ys) :: p₂.N, p₂.k⟩ s' → s₁.toks ≤ s'.toks →
      (∀ h', Heap.SameBut Cc s'.heap h' → Sat C.B L ⟨p₂.G, p₁.m, (D, listC ys) :: p₂.N, p₂.k⟩ h' ∧ Ext L p₁ s₁ ⟨p₂.G, p₁.m, (D, listC ys) :: p₂.N, p₂.k⟩ { s' with heap := h' }) →
      (Cc ∉ dom p₂.N ∧ p₂.G Cc = none ∧ Cc ≠ L) → RR (.ref D) Cc (.ok .next) s') :
    wpAny (model C.prog C.w) A (pyIter xv) (fun it s₂ => wpAny (model C.prog C.w) A (newList []) (fun acc s₃ => wpAny (model C.prog C.w) A (newFunctionEnv scope env.globals cl [] env.qual none .none (some env)) (fun cenv s₄ =>
      codeAny (model C.prog C.w) A (.compStart (.ListComp elt (⟨target, iter, ifs, 0⟩ :: rest) scope pos) 0 it acc { cenv with scope := relabel scope env }) (RR acc cenv.locals) s₄) (fun _ _ => False) s₃) (fun _ _ => False) s₂) (fun _ _ => False) s₁ := by
  refine wpAny_mono (wpAny_toks (it s₁ S₁ T₁)) (fun itv s₂ h₂ => ?_) fun _ _ e => e.2.elim
  obtain ⟨t₂, Ia, fp, wr, Md, St, h', tk, rfl, rfl, W, st0, hk, hw, hf, hal, self⟩ := h₂
  refine wpAny_newObj_type (wpAny_compEnv ?_)
  dsimp only at t₂ ⊢
  generalize hH2 : h'.push { cls := .type "list", dict := none, data := .seq ([] : List Value).toArray } = H2
  generalize hH1 : pushCells (H2.push { cls := .type "dict", data := .dict #[] }) scope.names = h₁
  have hC : H2.objs.size = h'.objs.size + 1 := by rw [← hH2, Heap.size_push]
  have hDC : h'.objs.size ≠ H2.objs.size := by rw [hC]; exact Nat.ne_of_lt (Nat.lt_succ_self _)
  have up2 : ∀ b o, H2.get? b = some o → h₁.get? b = some o := fun b o e => hH1 ▸ pushCells_keeps _ _ _ _ (Heap.get?_push_of_some _ e)
  have old : ∀ b o, h'.get? b = some o → h₁.get? b = some o := fun b o e => up2 b o (hH2 ▸ Heap.get?_push_of_some _ e)
  have hacc : h₁.PlainList h'.objs.size #[] := ⟨0, up2 _ _ (hH2 ▸ Heap.get?_push_size _ rfl)⟩
  have hns₁ : h₁.Ns H2.objs.size (fun _ => none) := by rw [← hH1]; exact (Heap.Ns.new H2 (.type "dict")).keeps (pushCells_keeps _ _)
  have ok := cellsFrom_ok scope.names (H2.push { cls := .type "dict", data := .dict #[] }) (H2.objs.size + 1) [] ⟨fun _ _ hm => (nomatch hm), List.Pairwise.nil⟩ (by rw [Heap.size_push]; exact Nat.le_refl _)
  rw [Heap.size_push, hH1] at ok
  have st₁ : St 0 h₁ := W.frame _ _ _ st0 fun b _ o e => old b o e
  have S₂ : Sat C.B L p₁ h' := S₁.keep hk
  have freshOf : ∀ a, h'.objs.size ≤ a → s₁.heap.get? a = none := fun a ha => by
    cases e : s₁.heap.get? a with
    | none => rfl
    | some o => exact absurd (Heap.lt_size (hk a o e)) (Nat.not_lt.mpr ha)
  have hD1 := freshOf h'.objs.size (Nat.le_refl _)
  have hC1 := freshOf H2.objs.size (by rw [hC]; exact Nat.le_succ _)
  have nC := S₁.none_at hC1
  have nD := S₁.none_at hD1
  have hlive : ∀ b ∈ wr, h'.get? b ≠ none := hal 0 _ st0
  have ltw : ∀ b ∈ wr, b < h'.objs.size := fun b hb => by
    cases e : h'.get? b with
    | none => exact absurd e (hlive b hb)
    | some o => exact Heap.lt_size e
  have memO : ∀ b, b ∈ dom (ownCells scope H2.objs.size) → ∃ nm, (nm, b) ∈ cellsFrom (H2.objs.size + 1) scope.names [] := fun b hb => by
    simp only [dom, ownCells, List.map_map, List.mem_map] at hb
    obtain ⟨q, hq, rfl⟩ := hb
    exact ⟨q.1, hq⟩
  have abv : ∀ b, b ∈ dom (ownCells scope H2.objs.size) → H2.objs.size < b := fun b hb => by
    obtain ⟨nm, hn⟩ := memO b hb
    exact (ok.empty nm b hn).2
  have nn : ∀ b, b ∈ dom (ownCells scope H2.objs.size) → s₁.heap.get? b = none := fun b hb => freshOf b (by have := abv b hb; omega)
  have dapp : dom (ownCells scope H2.objs.size ++ p₁.N) = dom (ownCells scope H2.objs.size) ++ dom p₁.N := by simp [dom]
  have lookmc : look mc = fun _ => none := by funext y; rw [look_none hmc]
  have Sc : Sat C.B H2.objs.size ⟨p₁.G, mc, ownCells scope H2.objs.size ++ p₁.N, p₁.k⟩ h₁ := by
    have S2 := S₂.s0.keep old
    refine ⟨⟨S2.base, S2.gs, fun q hq => ?_, fun b hb => ?_, fun b hb => ?_, ?_⟩, by show h₁.Ns H2.objs.size (look mc); rw [lookmc]; exact hns₁, nC.1, nC.2.1, fun hm => ?_, hnd⟩
    · rcases List.mem_append.mp hq with hq | hq
      · obtain ⟨z, hz, rfl⟩ := List.mem_map.mp hq
        exact (ok.empty z.1 z.2 hz).1
      · exact S2.own q hq
    · change b ∈ dom (ownCells scope H2.objs.size ++ p₁.N) at hb
      rw [dapp] at hb
      rcases List.mem_append.mp hb with hb | hb
      · exact (S₁.none_at (nn b hb)).1
      · exact S2.nB b hb
    · change b ∈ dom (ownCells scope H2.objs.size ++ p₁.N) at hb
      rw [dapp] at hb
      rcases List.mem_append.mp hb with hb | hb
      · exact (S₁.none_at (nn b hb)).2.1
      · exact S2.nG b hb
    · show (dom (ownCells scope H2.objs.size ++ p₁.N)).Nodup
      rw [dapp]
      refine List.nodup_append.mpr ⟨?_, S2.nd, fun a ha b hb e => (S₁.none_at (nn a ha)).2.2.1 (e ▸ hb)⟩
      simp only [dom, ownCells, List.map_map]
      exact List.Pairwise.map _ (fun a b h => h) ok.apart
    · change H2.objs.size ∈ dom (ownCells scope H2.objs.size ++ p₁.N) at hm
      rw [dapp] at hm
      rcases List.mem_append.mp hm with hm | hm
      · exact Nat.lt_irrefl _ (abv _ hm)
      · exact nC.2.2.1 hm
  have N : CIn C H2.objs.size h'.objs.size { p₁ with m := mc } s₁ := ⟨S₁.s0, T₁, hC1, hD1⟩
  have DW : h'.objs.size ∉ wr := fun hb => Nat.lt_irrefl _ (ltw _ hb)
  have hWW : ∀ b ∈ h'.objs.size :: wr, s₁.heap.get? b = none := fun b hb => by
    rcases List.mem_cons.mp hb with e | hb
    · exact e ▸ hD1
    · exact hw b hb
  have c₀ : CSt C H2.objs.size h'.objs.size wr { p₁ with m := mc } s₁ [] ⟨p₁.G, mc, ownCells scope H2.objs.size ++ p₁.N, p₁.k⟩ { s₁ with heap := h₁, toks := tk } := by
    refine ⟨Sc, ⟨fun b o e _ _ => old b o (hk b o e), fun _ _ e => e, fun b hb => ?_, fun b hb => .inl ?_, rfl, rfl, Nat.le_refl _, .inl (Nat.le_refl _)⟩, t₂, fun b hb => ?_, hacc⟩
    · rcases hb with hb | hb
      · exact .inl hb
      · change b ∈ dom (ownCells scope H2.objs.size ++ p₁.N) at hb
        rw [dapp] at hb
        rcases List.mem_append.mp hb with hb | hb
        · exact .inr (.inr (nn b hb))
        · exact .inr (.inl hb)
    · show b ∈ dom (ownCells scope H2.objs.size ++ p₁.N)
      rw [dapp]; exact List.mem_append_right _ hb
    · have n1 := S₁.none_at (hWW b hb)
      have hlt : b < H2.objs.size := by
        rcases List.mem_cons.mp hb with e | hb
        · rw [e, hC]; exact Nat.lt_succ_self _
        · rw [hC]; exact Nat.lt_succ_of_lt (ltw b hb)
      refine ⟨n1.1, n1.2.1, fun hm => ?_, Nat.ne_of_lt hlt, ?_⟩
      · change b ∈ dom (ownCells scope H2.objs.size ++ p₁.N) at hm
        rw [dapp] at hm
        rcases List.mem_append.mp hm with hm | hm
        · exact absurd (abv b hm) (Nat.not_lt.mpr (Nat.le_of_lt hlt))
        · exact n1.2.2.1 hm
      · rcases List.mem_cons.mp hb with e | hb
        · obtain ⟨nl, e'⟩ := hacc; rw [e, e']; exact fun h => nomatch h
        · cases e : h'.get? b with
          | none => exact absurd e (hlive b hb)
          | some o => rw [old b o e]; exact fun h => nomatch h
  have run : ∀ s₃ : Shared, s₃ = { s₁ with heap := h₁, toks := tk } →
      codeAny (model C.prog C.w) A (.compLoop (.ListComp elt (⟨target, iter, ifs, 0⟩ :: rest) scope pos) 0 (.ref Ia) (.ref h'.objs.size) (compEnvK scope cl H2.objs.size env)) (RR (.ref h'.objs.size) H2.objs.size) s₃ := by
    rintro s₃ rfl
    refine codeAny_mono (loop H2.objs.size h'.objs.size Ia fp wr Md St _ N W hWW DW hf hal c₀ st₁) fun r s' hr => ?_
    obtain ⟨rfl, ys, p₂, hF, hG₂, c'⟩ := hr
    have S' := c'.S
    have x' := c'.x
    have t' := c'.t
    have H' := c'.H
    have hl' := c'.l
    obtain ⟨d1, d2, d3, d4, d5⟩ := H' h'.objs.size (List.mem_singleton.mpr rfl)
    have cN : H2.objs.size ∉ dom p₂.N := S'.nL
    have Ls : s₁.heap.get? L ≠ none := by
      obtain ⟨o, _, _, ho, _⟩ := S₁.ns
      rw [ho]; exact fun h => nomatch h
    have LC : L ≠ H2.objs.size := fun e => Ls (e ▸ hC1)
    have LD : L ≠ h'.objs.size := fun e => Ls (e ▸ hD1)
    have LN : L ∉ dom p₂.N := fun hm => by
      rcases x'.fresh L (.inr hm) with q | q | q
      · exact q S₁.gL
      · exact S₁.nL q
      · exact Ls q
    have LG : p₂.G L = none := by
      cases e : p₂.G L with
      | none => rfl
      | some o =>
        rcases x'.fresh L (.inl (by rw [e]; exact fun h => nomatch h)) with q | q | q
        · exact absurd S₁.gL q
        · exact absurd q S₁.nL
        · exact absurd q Ls
    obtain ⟨nl, hl''⟩ := hl'
    have SL : Sat C.B L ⟨p₂.G, p₁.m, (h'.objs.size, listC ys) :: p₂.N, p₂.k⟩ s'.heap := by
      refine ⟨⟨S'.s0.base, S'.s0.gs, fun q hq => ?_, fun b hb => ?_, fun b hb => ?_, List.nodup_cons.mpr ⟨d3, S'.s0.nd⟩⟩, ?_, S₁.bL, LG, fun hm => ?_, S₁.mnd⟩
      · rcases List.mem_cons.mp hq with e | hq
        · subst e; exact ⟨_, hl'', nl, rfl⟩
        · exact S'.s0.own q hq
      · rcases List.mem_cons.mp hb with e | hb
        · exact e ▸ d1
        · exact S'.s0.nB b hb
      · rcases List.mem_cons.mp hb with e | hb
        · exact e ▸ d2
        · exact S'.s0.nG b hb
      · exact S₁.ns.at' fun o e => x'.keep L o e LC S₁.nL
      · rcases List.mem_cons.mp hm with e | hm
        · exact LD e
        · exact LN hm
    have xL : Ext L p₁ s₁ ⟨p₂.G, p₁.m, (h'.objs.size, listC ys) :: p₂.N, p₂.k⟩ s' := by
      refine ⟨fun b o e _ h2 => x'.keep b o e (fun q => by rw [q, hC1] at e; cases e) h2, x'.grow, fun b hb => ?_, fun b hb => (x'.noleak b hb).imp (List.mem_cons_of_mem _) id, x'.gens, x'.os, x'.km, x'.kk⟩
      rcases hb with hb | hb
      · exact x'.fresh b (.inl hb)
      · rcases List.mem_cons.mp hb with e | hb
        · exact .inr (.inr (e ▸ hD1))
        · exact x'.fresh b (.inr hb)
    refine fin _ _ ys p₂ s' hF hG₂ S'.ns hC1 hDC SL xL t' (fun h₉ hs₉ => ⟨?_, ?_⟩) ⟨cN, S'.gL, Ne.symm LC⟩
    · exact SL.extBut hs₉.extBut S'.bL S'.gL (fun hm => by
        rcases List.mem_cons.mp hm with e | hm
        · exact hDC e.symm
        · exact cN hm) (Ne.symm LC)
    · exact xL.hid (W := [H2.objs.size]) (fun b hb => by rw [List.mem_singleton.mp hb]; exact hC1) (Nat.le_refl _) fun b o hb e => hs₉.extBut b o (fun q => hb (List.mem_singleton.mpr q)) e
  exact codeAny_compStart_list (run _ rfl) (self 0 _ _ _ st₁ (run _ rfl))
/-- a comprehension with one for, whose variables may be cells -/
theorem E_ListCompK {elt target iter : Expr} {ifs : List Expr} {scope : Scope} {pos : Pos} {cl : List (Str × Addr)} {Q : Value → Pt → Prop} (mc : List (Str × Option Value))
    (hclos : closureFor scope env = Pure.pure cl) (hnames : ∀ y ∈ scope.names, y.2 = .local → scope.names.lookup y.1 = some .local) (hmc : ∀ q ∈ mc, q.2 = none) (hnd : (mc.map (·.1)).Nodup)
    (h : Run C A L (eval iter env) p fun xv p₁ => ∃ n P, ∃ I : Addr → Nat → List Value → Pt → Prop, IterOn C A L p₁ target xv n P ∧ (∀ Cc i ys p, I Cc i ys p → ys.length ≤ sizeLine) ∧ (∀ Cc, I Cc 0 [] ⟨p₁.G, mc, ownCells scope Cc ++ p₁.N, p₁.k⟩) ∧
      (∀ Cc i ys p₂, i < n → I Cc i ys p₂ → (∀ b o, p₁.G b = some o → p₂.G b = some o) → AsgRun C A Cc target (compEnvK scope cl Cc env) (P i) p₂ fun p₃ =>
        Run C A Cc (forIn ifs true fun c r => if r = true then do let ok ← isTrue c (compEnvK scope cl Cc env) (eval c (compEnvK scope cl Cc env)); Pure.pure (ForInStep.yield ok) else Pure.pure (ForInStep.yield r)) p₃ fun b p₄ =>
          if b then Run C A Cc (eval elt (compEnvK scope cl Cc env)) p₄ (fun y p₅ => I Cc (i + 1) (ys ++ [y]) p₅) else I Cc (i + 1) ys p₄) ∧
      (∀ Cc D ys p₂, I Cc n ys p₂ → (∀ b o, p₁.G b = some o → p₂.G b = some o) → Q (.ref D) ⟨p₂.G, p₁.m, (D, listC ys) :: p₂.N, p₂.k⟩))
    (hkind : scope.kind = .function := by rfl) (hs : ∀ x, foldedSetIterable iter env x = Pure.pure x := by intro _; rfl) :
    Run C A L (eval (.ListComp elt [⟨target, iter, ifs, 0⟩] scope pos) env) p Q := .of fun s S T => by
  rw [eval_ListComp]
  refine wpAny_comprehension_free (use := none) rfl hs hclos hkind hnames (wpAny_mono (wpAny_toks (h.go s S T)) (fun xv s₁ h₁ => ?_) fun _ _ e => e.2)
  obtain ⟨t₁, p₁, S₁, x₁, n, P, I, it, hz, hI0, step, fin⟩ := h₁
  refine comp_blockC (RR := fun acc C' => compPost (model C.prog C.w) A (fun _ _ => False) none (fun a s' => ∃ p', Sat C.B L p' s'.heap ∧ Ext L p s p' s' ∧ Q a p') acc C') (fun ys p' => ∃ Cc, I Cc n ys p') it S₁ (T.next x₁ t₁) hmc hnd ?_ fun D Cc ys p₂ s' ⟨C', hI⟩ hG hns hC hDC SL xL t' up nc => ?_
  · intro Cc D Ia fp wr Md St s₃ N KT hW hDw hf hal c₀ st0
    refine comp_loopG (V := []) (pS := ⟨p₁.G, mc, ownCells scope Cc ++ p₁.N, p₁.k⟩) (I Cc) (fun i ys p => ys.length ≤ sizeLine ∧ Run C A Cc (eval elt (compEnvK scope cl Cc env)) p fun y p₉ => I Cc (i + 1) (ys ++ [y]) p₉) N KT
      (emit := do let _ ← PySem.call (.builtin "list.append") [.ref D, ← eval elt (compEnvK scope cl Cc env)]) rfl (by rw [List.append_nil]; exact hW) hDw (fun b hb => nomatch hb) hf hal (by rw [List.append_nil]; exact c₀) st0 (hI0 Cc)
      (fun i ys p₂ hi hJ g v s hP S T => wpAny_mono (step Cc i ys p₂ hi hJ g v s hP S T) (fun _ s₂ ⟨p₃, S₃, x₃, r⟩ => ⟨p₃, S₃, x₃, r.mono fun b p₄ hb => by
        cases b with
        | false => exact hb
        | true => exact ⟨hz Cc i ys p₂ hJ, hb⟩⟩) fun _ _ e => e)
      (fun i ys p₄ s'' hi ⟨hz', hr⟩ c' => emit_last N (by rw [List.append_nil]; exact hW) (by rw [List.append_nil]; exact hDw) c' hz' hr) fun ys p' s' hJ g c' K => ⟨rfl, ys, p', ⟨Cc, hJ⟩, g, c'⟩
  · exact ⟨_, hns, fun h' hs' => ⟨_, (up h' hs').1, x₁.trans S S₁ (up h' hs').2 t', fin C' D ys p₂ hI hG⟩⟩
end
end Mine

open PySem PySem.Calls PyProof.Rows
set_option Elab.async false
set_option linter.unusedVariables false
set_option maxRecDepth 100000
namespace Mine
section
variable {C : Cx} {A : Around} {L : Addr} {α β : Type} {p : Pt} {env : Env}
/-- a comprehension with cells, its list a name's -/
inductive ALCQ (C : Cx) (A : Around) (L : Addr) (env : Env) (y : Str) (elt target : Expr) (ifs : List Expr) (scope : Scope) (cl : List (Str × Addr)) (mc : List (Str × Option Value)) (Q : Flow → Pt → Prop) (xv : Value) (p₁ : Pt) : Prop
  | mk (n : Nat) (P : Nat → Value → Heap → Prop) (I : Addr → Nat → List Value → Pt → Prop) (it : IterOn C A L p₁ target xv n P) (hz : ∀ Cc i ys p, I Cc i ys p → ys.length ≤ sizeLine) (h0 : ∀ Cc, I Cc 0 [] ⟨p₁.G, mc, ownCells scope Cc ++ p₁.N, p₁.k⟩)
      (step : ∀ Cc i ys p₂, i < n → I Cc i ys p₂ → (∀ b o, p₁.G b = some o → p₂.G b = some o) → AsgRun C A Cc target (compEnvK scope cl Cc env) (P i) p₂ fun p₃ =>
        Run C A Cc (forIn ifs true fun c r => if r = true then do let ok ← isTrue c (compEnvK scope cl Cc env) (eval c (compEnvK scope cl Cc env)); Pure.pure (ForInStep.yield ok) else Pure.pure (ForInStep.yield r)) p₃ fun b p₄ =>
          if b then Run C A Cc (eval elt (compEnvK scope cl Cc env)) p₄ (fun y p₅ => I Cc (i + 1) (ys ++ [y]) p₅) else I Cc (i + 1) ys p₄)
      (fin : ∀ Cc D ys p₂, I Cc n ys p₂ → (∀ b o, p₁.G b = some o → p₂.G b = some o) → Run C A L (bindName env y (.ref D)) ⟨p₂.G, p₁.m, (D, listC ys) :: p₂.N, p₂.k⟩ fun _ p₃ => Q .next p₃) : ALCQ C A L env y elt target ifs scope cl mc Q xv p₁
theorem X_Assign_ListCompK {y : Str} {py spos : Pos} {elt target iter : Expr} {ifs : List Expr} {scope : Scope} {pos : Pos} {cl : List (Str × Addr)} {Q : Flow → Pt → Prop} (mc : List (Str × Option Value))
    (hclos : closureFor scope env = Pure.pure cl) (hnames : ∀ y ∈ scope.names, y.2 = .local → scope.names.lookup y.1 = some .local) (hmc : ∀ q ∈ mc, q.2 = none) (hnd : (mc.map (·.1)).Nodup)
    (h : Run C A L (eval iter env) p (ALCQ C A L env y elt target ifs scope cl mc Q))
    (hsw : swapsWith (.ListComp elt [⟨target, iter, ifs, 0⟩] scope pos) (some (.Name y py)) spos.line env = Pure.pure true := by rfl)
    (hkind : scope.kind = .function := by rfl) (hs : ∀ x, foldedSetIterable iter env x = Pure.pure x := by intro _; rfl) :
    Run C A L (exec (.Assign [.Name y py] (.ListComp elt [⟨target, iter, ifs, 0⟩] scope pos) spos) env) p Q := .of fun s S T => by
  rw [exec_Assign_Name_used _ _ _ _ hsw]
  refine wpAny_bind (wpAny_standAt (wpAny_bind ?_))
  show wpAny _ A (do let _ ← comprehension (.ListComp elt [⟨target, iter, ifs, 0⟩] scope pos) scope env _ (newList []) false (eval iter env) (some (assign (.Name y py) env))) _ _ s
  refine wpAny_bind (wpAny_mono (wpAny_comprehension_free (use := some (assign (.Name y py) env)) (Q := fun _ s' => ∃ p', Sat C.B L p' s'.heap ∧ Ext L p s p' s' ∧ Q .next p') rfl hs hclos hkind hnames
    (wpAny_mono (wpAny_toks (h.go s S T)) (fun xv s₁ h₁ => ?_) fun _ _ e => e.2)) (fun _ s' hq => wpAny_pure (wpAny_pure hq)) fun _ _ e => e)
  obtain ⟨t₁, p₁, S₁, x₁, n, P, I, it, hz, hI0, step, fin⟩ := h₁
  refine comp_blockC (RR := fun acc C' => compPost (model C.prog C.w) A (fun _ _ => False) (some (assign (.Name y py) env)) (fun _ s' => ∃ p', Sat C.B L p' s'.heap ∧ Ext L p s p' s' ∧ Q .next p') acc C') (fun ys p' => ∃ Cc, I Cc n ys p') it S₁ (T.next x₁ t₁) hmc hnd ?_ fun D Cc ys p₂ s' ⟨C', hI⟩ hG hns hC hDC SL xL t' up nc => ?_
  · intro Cc D Ia fp wr Md St s₃ N KT hW hDw hf hal c₀ st0
    refine comp_loopG (V := []) (pS := ⟨p₁.G, mc, ownCells scope Cc ++ p₁.N, p₁.k⟩) (I Cc) (fun i ys p => ys.length ≤ sizeLine ∧ Run C A Cc (eval elt (compEnvK scope cl Cc env)) p fun y p₉ => I Cc (i + 1) (ys ++ [y]) p₉) N KT
      (emit := do let _ ← PySem.call (.builtin "list.append") [.ref D, ← eval elt (compEnvK scope cl Cc env)]) rfl (by rw [List.append_nil]; exact hW) hDw (fun b hb => nomatch hb) hf hal (by rw [List.append_nil]; exact c₀) st0 (hI0 Cc)
      (fun i ys p₂ hi hJ g v s hP S T => wpAny_mono (step Cc i ys p₂ hi hJ g v s hP S T) (fun _ s₂ ⟨p₃, S₃, x₃, r⟩ => ⟨p₃, S₃, x₃, r.mono fun b p₄ hb => by
        cases b with
        | false => exact hb
        | true => exact ⟨hz Cc i ys p₂ hJ, hb⟩⟩) fun _ _ e => e)
      (fun i ys p₄ s'' hi ⟨hz', hr⟩ c' => emit_last N (by rw [List.append_nil]; exact hW) (by rw [List.append_nil]; exact hDw) c' hz' hr) fun ys p' s' hJ g c' K => ⟨rfl, ys, p', ⟨Cc, hJ⟩, g, c'⟩
  show wpAny _ A (assign (.Name y py) env (.ref D)) _ _ s'
  rw [arm_assign_Name]
  have T' := (T.next x₁ t₁).next xL t'
  have Hc : Hid C.B L [Cc] ⟨p₂.G, p₁.m, (D, listC ys) :: p₂.N, p₂.k⟩ s'.heap := fun b hb => by
    rw [List.mem_singleton.mp hb]
    refine ⟨(S₁.none_at hC).1, nc.2.1, fun hm => ?_, nc.2.2, ?_⟩
    · rcases List.mem_cons.mp hm with e | hm
      · exact hDC e.symm
      · exact nc.1 hm
    · obtain ⟨o, _, _, ho, _⟩ := hns
      rw [ho]; exact fun h => nomatch h
  refine wpAny_bind (wpAny_standAt (wpAny_mono (wpAny_toks ((fin C' D ys p₂ hI hG).go s' SL T')) (fun _ s₄ h₄ => ?_) fun _ _ e => e.2))
  obtain ⟨t₄, p₄, S₄, x₄, q⟩ := h₄
  obtain ⟨H₄, k₄⟩ := Hid.step Hc x₄
  refine ⟨_, hns.at' fun o e => k₄ Cc (List.mem_singleton.mpr rfl) o e, fun h' hs' => ?_⟩
  have x₅ := x₁.trans S S₁ (xL.trans S₁ SL x₄ t₄) (Nat.le_trans t' t₄)
  have hsC : s.heap.get? Cc = none := by
    cases e : s.heap.get? Cc with
    | none => rfl
    | some o =>
      exfalso
      by_cases h1 : Cc = L
      · exact nc.2.2 h1
      · by_cases h2 : Cc ∈ dom p.N
        · rcases x₁.noleak Cc h2 with h3 | h3
          · obtain ⟨z, hz, e2⟩ := List.mem_map.mp h3
            obtain ⟨o2, ho2, _⟩ := S₁.s0.own z hz
            rw [e2, hC] at ho2; cases ho2
          · cases hg : p₁.G Cc with
            | none => exact h3 hg
            | some o2 => have := S₁.s0.gs _ _ hg; rw [hC] at this; cases this
        · have := x₁.keep Cc o e h1 h2
          rw [hC] at this; cases this
  refine ⟨p₄, S₄.extBut hs'.extBut (H₄ Cc (List.mem_singleton.mpr rfl)).1 (H₄ Cc (List.mem_singleton.mpr rfl)).2.1 (H₄ Cc (List.mem_singleton.mpr rfl)).2.2.1 (H₄ Cc (List.mem_singleton.mpr rfl)).2.2.2.1, ?_, q⟩
  exact x₅.hid (W := [Cc]) (fun b hb => by rw [List.mem_singleton.mp hb]; exact hsC) (Nat.le_refl _) fun b o hb e => hs'.extBut b o (fun q => hb (List.mem_singleton.mpr q)) e

/-! a def whose parameters may be cells -/
theorem bindL_eq {kd : Str → Option NameKind} : ∀ (bs : List (Str × Value)) (m : Str → Option Value), bindL kd bs m = fun y => if kd y = some .local then (bs.reverse.lookup y).or (m y) else m y
  | [], m => by funext y; simp [bindL]
  | (n, v) :: r, m => by
    unfold bindL
    rw [bindL_eq r]
    funext y
    simp only [List.reverse_cons, List.lookup_append, List.lookup_cons, List.lookup_nil]
    by_cases hy : kd y = some .local
    · rw [if_pos hy, if_pos hy]
      cases r.reverse.lookup y with
      | some w => rfl
      | none =>
        by_cases e : y = n
        · subst e; simp [hy]
        · have : (y == n) = false := by simpa using e
          split <;> simp [this, e]
    · rw [if_neg hy, if_neg hy]
      by_cases e : y = n
      · subst e; rw [if_neg hy]
      · split <;> simp [e]
theorem bindC_eq {kd : Str → Option NameKind} : ∀ (bs : List (Str × Value)) (m : Str → Option Value), bindC kd bs m = fun y => if kd y = some .local then m y else (bs.reverse.lookup y).or (m y)
  | [], m => by funext y; simp [bindC]
  | (n, v) :: r, m => by
    unfold bindC
    rw [bindC_eq r]
    funext y
    simp only [List.reverse_cons, List.lookup_append, List.lookup_cons, List.lookup_nil]
    by_cases hy : kd y = some .local
    · rw [if_pos hy, if_pos hy]
      by_cases e : y = n
      · subst e; rw [if_pos hy]
      · split <;> simp [e]
    · rw [if_neg hy, if_neg hy]
      cases r.reverse.lookup y with
      | some w => rfl
      | none =>
        by_cases e : y = n
        · subst e; simp [hy]
        · have : (y == n) = false := by simpa using e
          split <;> simp [this, e]
def isCellOf (names : List (Str × NameKind)) (x : Str) : Bool := names.lookup x == some .cell && ((cellsFrom 0 names []).map (·.1)).contains x
def okK (m₀ : List (Str × Option Value)) (binds : List (Str × Value)) (names : List (Str × NameKind)) : Bool :=
  (binds.all fun q => (names.lookup q.1 == some .local && (m₀.map (·.1)).contains q.1) || isCellOf names q.1) && nd (m₀.map (·.1)) && (m₀.all fun q => names.lookup q.1 == some .local) && nd ((cellsFrom 0 names []).map (·.1)) && ((cellsFrom 0 names []).all fun q => names.lookup q.1 == some .cell)
theorem lookup_isSome_of {α : Type} {l : List (Str × α)} {x : Str} (h : (l.map (·.1)).contains x = true) : (l.lookup x).isSome = true := by
  induction l with
  | nil => simp at h
  | cons q r ih =>
    obtain ⟨n, v⟩ := q
    rw [List.lookup_cons]
    cases e : x == n with
    | true => rfl
    | false =>
      simp only [List.map_cons, List.contains_cons, e, Bool.false_or] at h
      exact ih h
theorem CallRun.goK {gl bl : List (Str × Value)} {f : Addr} {o : Obj} {fd : FuncData} {body : List Stmt} {vs : List Value} {binds : List (Str × Value)} {G : Addr → Option Obj} {N : List (Addr × Cell)} (m₀ : List (Str × Option Value)) {k : Nat}
    {Q : CQ} {d : Nat} (K : Base C gl bl) (hr : Room A (d + 1)) (ho : C.B.get? f = some o) (hdata : o.data = .func fd) (hcd : C.B.CodeRec fd.code fd.qualname)
    (hbind : Binds C fd vs binds)
    (h : ∀ L, Room (A.deeper (callEnvC fd L f)) d → Run C (A.deeper (callEnvC fd L f)) L (execs body (callEnvC fd L f)) ⟨G, m₀, ((cellsFrom (L + 1) fd.scope.names []).map fun q => (q.2, cellC (binds.reverse.lookup q.1))) ++ N, k⟩ fun fl p' => Q (retOf fl) p'.G p'.N p'.k)
    (hm : m₀ = (m₀.map (·.1)).map fun x => (x, binds.reverse.lookup x) := by rfl) (hok : okK m₀ binds fd.scope.names = true := by rfl)
    (hbody : fd.body = .stmts body := by rfl) (hclo : fd.closure = [] := by rfl)
    (hco : fd.scope.isCoroutine = false := by rfl) (hgen : fd.scope.isGenerator = false := by rfl) (hk : fd.scope.kind = .function := by rfl) : CallRun C A f vs G N k Q := fun s S T => by
  simp only [okK, Bool.and_eq_true] at hok
  obtain ⟨⟨⟨⟨k1, k2⟩, k3⟩, k4⟩, k5⟩ := hok
  have hnd := nodup_of k2
  have hcn := nodup_of k4
  have hroom : A.depth < recursionLimit := by have := hr.depth; omega
  obtain ⟨cc, oc, xx, yy, e1, e2, e3⟩ := hcd
  have cnames : ∀ n, (cellsFrom n fd.scope.names []).map (·.1) = (cellsFrom 0 fd.scope.names []).map (·.1) := fun n => PyProof.Rows.cellsFrom_names fd.scope.names n 0 [] [] rfl
  have kdc : ∀ q ∈ cellsFrom (s.heap.objs.size + 1) fd.scope.names [], fd.scope.names.lookup q.1 = some .cell := fun q hq => by
    have : q.1 ∈ (cellsFrom 0 fd.scope.names []).map (·.1) := by rw [← cnames (s.heap.objs.size + 1)]; exact List.mem_map_of_mem (f := (·.1)) hq
    obtain ⟨z, hz, e⟩ := List.mem_map.mp this
    have := List.all_eq_true.mp k5 z hz
    rw [← e]; exact eq_of_beq this
  have hkind : ∀ x ∈ binds, fd.scope.names.lookup x.1 = some .local ∨ (fd.scope.names.lookup x.1 = some .cell ∧ ((cellsFrom (s.heap.objs.size + 1) fd.scope.names []).lookup x.1).isSome = true) := fun x hx => by
    have := List.all_eq_true.mp k1 x hx
    rw [Bool.or_eq_true] at this
    rcases this with h1 | h1
    · rw [Bool.and_eq_true] at h1
      exact .inl (eq_of_beq h1.1)
    · unfold isCellOf at h1
      rw [Bool.and_eq_true] at h1
      exact .inr ⟨eq_of_beq h1.1, lookup_isSome_of (by rw [cnames]; exact h1.2)⟩
  refine codeAny_call_function hroom (S.base _ _ ho) hdata hco hgen hbody ⟨cc, oc, xx, yy, e1, S.base _ _ e2, e3⟩ (hbind s S.base _ _ _ _ ?_)
  rw [hclo]
  refine wpAny_mono (wpAny_toks (wpAny_newFunctionEnv_cells (E := fun _ _ => False) (Q := fun env s' => env = callEnvC fd s.heap.objs.size f ∧ InCallC s env.locals (bindL env.kindOf binds fun _ => none) env.cells (bindC env.kindOf binds fun _ => none) s') hk
    hkind fun env he s' x => ⟨he, x⟩)) (fun env s₁ ⟨ht, he, x⟩ => ?_) fun _ _ e => e.2.elim
  subst he
  refine ⟨(K.lim.keeps S.base).keeps x.toInCall.keep, codeAny_func ?_⟩
  obtain ⟨h₁, tk, rfl, hk₁⟩ := x.toInCall.done
  have hns := x.toInCall.ns
  rw [bindL_eq] at hns
  have hnone := get_size_none s.heap
  have lowB : ∀ c, s.heap.objs.size ≤ c → s.heap.get? c = none := fun c hc => by
    cases e : s.heap.get? c with
    | none => rfl
    | some o => exact absurd (Heap.lt_size e) (Nat.not_lt.mpr hc)
  have offB : ∀ c, s.heap.get? c = none → C.B.get? c = none := fun c hc => by
    cases e : C.B.get? c with
    | none => rfl
    | some o => rw [S.base _ _ e] at hc; cases hc
  have offG : ∀ c, s.heap.get? c = none → G c = none := fun c hc => by
    cases e : G c with
    | none => rfl
    | some o => rw [S.gs _ _ e] at hc; cases hc
  have offN : ∀ c, s.heap.get? c = none → c ∉ dom N := fun c hc hm => by
    obtain ⟨q, hq, rfl⟩ := List.mem_map.mp hm
    obtain ⟨o, ho, _⟩ := S.own q hq
    rw [ho] at hc; cases hc
  have S1 := S.keep hk₁
  generalize hcs : ((cellsFrom (s.heap.objs.size + 1) fd.scope.names []).map fun q => (q.2, cellC (binds.reverse.lookup q.1))) = Cs
  have memD : ∀ b, b ∈ dom Cs → ∃ n, (n, b) ∈ cellsFrom (s.heap.objs.size + 1) fd.scope.names [] := fun b hb => by
    rw [← hcs] at hb
    simp only [dom, List.map_map, List.mem_map] at hb
    obtain ⟨q, hq, rfl⟩ := hb
    exact ⟨q.1, hq⟩
  have abv : ∀ b, b ∈ dom Cs → s.heap.objs.size < b := fun b hb => by
    obtain ⟨n, hn⟩ := memD b hb
    exact x.above n b hn
  have nn : ∀ b, b ∈ dom Cs → s.heap.get? b = none := fun b hb => lowB b (Nat.le_of_lt (abv b hb))
  have hap := x.apart
  have dapp : dom (Cs ++ N) = dom Cs ++ dom N := by simp [dom]
  have Sat1 : Sat C.B s.heap.objs.size ⟨G, m₀, Cs ++ N, k⟩ h₁ := by
    refine ⟨⟨S1.base, S1.gs, fun q hq => ?_, fun b hb => ?_, fun b hb => ?_, ?_⟩, ?_, offB _ hnone, offG _ hnone, fun hm => ?_, hnd⟩
    · rcases List.mem_append.mp hq with hq | hq
      · rw [← hcs] at hq
        obtain ⟨z, hz, rfl⟩ := List.mem_map.mp hq
        have hl : (cellsFrom (s.heap.objs.size + 1) fd.scope.names []).lookup z.1 = some z.2 := PyProof.Rows.lookup_of_mem_nodup (cnames (s.heap.objs.size + 1) ▸ hcn) hz
        obtain ⟨o', ho', hd'⟩ := x.cell z.1 z.2 hl
        refine ⟨o', ho', ?_⟩
        rw [bindC_eq] at hd'
        dsimp only at hd'
        have hkz : (callEnvC fd s.heap.objs.size f).kindOf z.1 = some .cell := kdc z hz
        rw [hkz, if_neg (by decide), Option.or_none] at hd'
        exact hd'
      · exact S1.own q hq
    · change b ∈ dom (Cs ++ N) at hb
      rw [dapp] at hb
      rcases List.mem_append.mp hb with hb | hb
      · exact offB b (nn b hb)
      · exact S1.nB b hb
    · change b ∈ dom (Cs ++ N) at hb
      rw [dapp] at hb
      rcases List.mem_append.mp hb with hb | hb
      · exact offG b (nn b hb)
      · exact S1.nG b hb
    · show (dom (Cs ++ N)).Nodup
      rw [dapp]
      refine List.nodup_append.mpr ⟨?_, S1.nd, fun a ha b hb e => offN a (nn a ha) (e ▸ hb)⟩
      rw [← hcs]
      simp only [dom, List.map_map]
      have : (cellsFrom (s.heap.objs.size + 1) fd.scope.names []).Pairwise fun x y => x.2 ≠ y.2 := hap
      exact List.Pairwise.map _ (fun a b h => h) this
    · show h₁.Ns s.heap.objs.size (look m₀)
      have e : (fun y => if (callEnvC fd s.heap.objs.size f).kindOf y = some .local then (binds.reverse.lookup y).or none else none) = look m₀ := by
        funext y
        have key : ∀ m : List (Str × Option Value), m = (m.map (·.1)).map (fun x => (x, binds.reverse.lookup x)) → (y ∈ m.map (·.1) → look m y = binds.reverse.lookup y) ∧ (y ∉ m.map (·.1) → look m y = none) := by
          intro m
          induction m with
          | nil => intro _; exact ⟨fun h => by simp at h, fun _ => rfl⟩
          | cons q r ih =>
            intro hq
            simp only [List.map_cons, List.cons.injEq] at hq
            obtain ⟨i1, i2⟩ := ih hq.2
            obtain ⟨z, v⟩ := q
            refine ⟨fun hy => ?_, fun hy => ?_⟩
            · simp only [look]
              by_cases e : y = z
              · subst e; rw [if_pos rfl]; exact congrArg Prod.snd hq.1
              · rw [if_neg e]; exact i1 ((List.mem_cons.mp hy).resolve_left e)
            · simp only [look]
              simp only [List.map_cons, List.mem_cons, not_or] at hy
              rw [if_neg hy.1]; exact i2 hy.2
        obtain ⟨i1, i2⟩ := key m₀ hm
        by_cases hy : y ∈ m₀.map (·.1)
        · obtain ⟨z, hz, ez⟩ := List.mem_map.mp hy
          have hl : (callEnvC fd s.heap.objs.size f).kindOf y = some .local := by
            have := List.all_eq_true.mp k3 z hz
            rw [← ez]; exact eq_of_beq this
          rw [if_pos hl, i1 hy]; simp
        · rw [i2 hy]
          by_cases hl : (callEnvC fd s.heap.objs.size f).kindOf y = some .local
          · rw [if_pos hl]
            cases eb : binds.reverse.lookup y with
            | none => rfl
            | some v =>
              exfalso
              have hm' := List.mem_reverse.mp (PySem.mem_of_lookup eb)
              have := List.all_eq_true.mp k1 _ hm'
              rw [Bool.or_eq_true] at this
              rcases this with h1 | h1
              · rw [Bool.and_eq_true] at h1
                exact hy (List.contains_iff_mem.mp h1.2)
              · unfold isCellOf at h1
                rw [Bool.and_eq_true] at h1
                have h2 := eq_of_beq h1.1
                have h3 : fd.scope.names.lookup y = some .local := hl
                rw [h3] at h2; cases h2
          · rw [if_neg hl]
      rw [← e]; exact hns
    · change s.heap.objs.size ∈ dom (Cs ++ N) at hm
      rw [dapp] at hm
      rcases List.mem_append.mp hm with hm | hm
      · exact Nat.lt_irrefl _ (abv _ hm)
      · exact Nat.lt_irrefl _ (S.lt hm)
  subst hcs
  refine wpAny_mono ((h s.heap.objs.size (hr.deeper _)).go _ Sat1 ⟨Nat.le_trans T.le ht⟩) (fun fl s' hq => ?_) fun _ _ e => e.elim
  obtain ⟨p', S', x', q⟩ := hq
  refine ⟨_, p'.G, p'.N, p'.k, by cases fl <;> rfl, S'.s0, ⟨fun b o e _ hb => x'.keep b o (hk₁ b o e) (Nat.ne_of_lt (Heap.lt_size e)) (fun hb' => ?_), x'.grow, fun b hb => ?_, fun b hb => x'.noleak b ?_, x'.gens, x'.os, x'.km, x'.kk⟩, q⟩
  · change b ∈ dom (_ ++ N) at hb'
    rw [dapp] at hb'
    rcases List.mem_append.mp hb' with hb' | hb'
    · rw [nn b hb'] at e; cases e
    · exact hb hb'
  · rcases x'.fresh b hb with e | e | e
    · exact .inl e
    · change b ∈ dom (_ ++ N) at e
      rw [dapp] at e
      rcases List.mem_append.mp e with e | e
      · exact .inr (.inr (nn b e))
      · exact .inr (.inl e)
    · refine .inr (.inr ?_)
      cases e2 : s.heap.get? b with
      | none => rfl
      | some o => rw [hk₁ b o e2] at e; cases e
  · show b ∈ dom (_ ++ N)
    rw [dapp]; exact List.mem_append_right _ hb
end
end Mine

open PySem PySem.Calls PyProof.Rows
open PySem.W (Frag InstAt findIn typeIn specialIn clsIn plainGet hasDictIn plainOver takerIn noGet handedIn getL putL putN dictOf slotIn takesIn instObj emptyDict isClsIn makesIn isFn methodObj)
set_option Elab.async false
set_option linter.unusedVariables false
set_option maxRecDepth 100000
namespace Mine
/-! bound methods, called with a star -/
structure BoundAttr (K : Frag) (Cc : Addr) (name : Str) (f : Addr) : Prop where
  get : plainGet K Cc name = true
  hd : hasDictIn K Cc = true
  fnd : findIn K (.ref Cc) name = some (some (.ref f))
  fn : typeIn K (.ref f) = some (.type "function")
  gf : specialIn K (.ref f) "__get__" = some (some (.builtin "function.__get__"))
  tk : takesIn K (.ref f) = some false
  cp : PySem.W.copiedNames.contains name = false
section
variable {C : Cx} {A : Around} {L : Addr} {p : Pt} {env : Env} {K : Frag} {x dx Cc : Addr} {name : Str}
theorem R_bound {f : Addr} {kv : List (Str × Value)} {expr : Bool} {Q : Value → Pt → Prop} (X : K.In C.B) (a : BoundAttr K Cc name f) (hx : p.G x = some (instObj Cc dx)) (hd : (dx, attrC kv) ∈ p.N) (hv : kvget kv name = none)
    (h : ∀ q G', GLe p.G G' → G' q = some (methodObj (.ref f) (.ref x)) → Q (.ref q) { p with G := G' }) : Run C A L (getAttr (.ref x) name expr) p Q := .of fun s S T => by
  obtain ⟨o, ho, es, n, rfl, hE⟩ := S.s0.own _ hd
  have I : InstAt s.heap x (instObj Cc dx) Cc (some (dictOf es n)) := ⟨S.s0.gs _ _ hx, rfl, rfl, ho⟩
  have XX := X.keeps S.s0.base
  have nn := S.none_at (get_size_none s.heap)
  refine PySem.W.get_bind XX I (PySem.W.plainGet_of a.get).1 (PySem.W.findObj_fn a.hd a.fnd a.gf a.tk a.cp (by show PySem.W.lookIn name (dictOf es n) = _; rw [PySem.W.lookIn_dict, hE.getL, hv])) (PySem.W.plainGet_of a.get).2 ?_
  refine wpAny_call (PySem.W.fn_get (s := { s with toks := s.toks + 1 }) XX a.fn (PySem.W.handed_on rfl ?_))
  exact ⟨_, S.pushG (o := methodObj (.ref f) (.ref x)) rfl, Ext.pushG S, h _ _ (GLe.add nn.2.1) addG_self⟩
theorem CallRun.bound {q f : Addr} {self : Value} {vs : List Value} {G : Addr → Option Obj} {N : List (Addr × Cell)} {k : Nat} {Q : CQ} (hq : G q = some (methodObj (.ref f) self)) (h : CallRun C A f (self :: vs) G N k Q) : CallRun C A q vs G N k Q := fun s S T =>
  PySem.W.method_call (S.gs _ _ hq) (h s S T)
theorem keeper_bound {q f : Addr} {self : Value} {o : Obj} {fd : FuncData} {M : Model} {h : Heap} (hq : h.get? q = some (methodObj (.ref f) self)) (hf : h.get? f = some o) (hd : o.data = .func fd) : PySem.W.Looks M h (keeperOf (.ref q)) .boundFrame :=
  (PySem.W.Looks.ld (part := none) hq).andThen ((PySem.W.Looks.ld (part := none) hf).andThen (by rw [hd]; exact .now))
/-- with a * behind a plain argument -/
theorem R_callB {q f : Addr} {self : Value} {o : Obj} {fd : FuncData} {e : Expr} {rest : List Expr} {pos : Pos} {Q : Value → Pt → Prop} (hq : p.G q = some (methodObj (.ref f) self)) (ho : C.B.get? f = some o) (hd : o.data = .func fd)
    (h : Run C A L (spliced (backTo pos (starEach (e :: rest) env))) p fun vs p₁ => Run C A L (PySem.call (.ref q) vs) p₁ Q) (hs : PySem.W.isStarred e = false := by rfl) (hst : (backTo pos (starEach rest env)).any (·.1) = true := by rfl) :
    Run C A L (callWith pos (.ref q) [] (backTo pos (starEach (e :: rest) env)) []) p Q := .of fun s S T => by
  have he : starEach (e :: rest) env = (false, eval e env) :: starEach rest env := starEach_cons hs
  refine PySem.W.ks_call (P := fun h => h.get? q = some (methodObj (.ref f) self) ∧ h.get? f = some o) (by rw [he]; show (false || (backTo pos (starEach rest env)).any (·.1)) = true; rw [hst]; rfl) (fun hh e => ⟨.boundFrame, .inr (.inr rfl), keeper_bound e.1 e.2 hd⟩) ?_
  rw [he] at h ⊢
  refine PySem.Calls.evalArgs_plain ?_
  exact wpAny_mono (wpAny_toks (h.go s S T)) (fun vs s₁ ⟨t₁, p₁, S₁, x₁, r⟩ => ⟨⟨S₁.s0.gs _ _ (x₁.grow _ _ hq), S₁.s0.base _ _ ho⟩, Run.after S T S₁ x₁ t₁ r⟩) fun _ _ z => z.2
/-- with a * alone -/
theorem R_callB1 {q f : Addr} {self : Value} {o : Obj} {fd : FuncData} {e : Expr} {sp pos : Pos} {Q : Value → Pt → Prop} (hq : p.G q = some (methodObj (.ref f) self)) (ho : C.B.get? f = some o) (hd : o.data = .func fd)
    (h : Run C A L (eval e env) p fun v p₁ => StarRun C A L v p₁ fun vs p₂ => Run C A L (PySem.call (.ref q) vs) p₂ Q) :
    Run C A L (callWith pos (.ref q) [] (backTo pos (starEach [.Starred e sp] env)) []) p Q := .of fun s S T => by
  have he : starEach [.Starred e sp] env = [(true, eval e env)] := rfl
  rw [he]
  refine PySem.W.ks_call (P := fun h => h.get? q = some (methodObj (.ref f) self) ∧ h.get? f = some o) rfl (fun hh e => ⟨.boundFrame, .inr (.inr rfl), keeper_bound e.1 e.2 hd⟩) ?_
  refine PySem.W.ks_lone (wpAny_mono (wpAny_toks (h.go s S T)) (fun v s₁ ⟨t₁, p₁, S₁, x₁, q₁⟩ => ?_) fun _ _ z => z.2)
  refine wpAny_mono (wpAny_toks (q₁.go S₁ (T.next x₁ t₁))) (fun b s₂ ⟨t₂, e, q₂⟩ => ⟨e, ?_⟩) fun _ _ z => z.2
  refine wpAny_mono (wpAny_toks q₂) (fun here s₃ ⟨t₃, p₃, S₃, x₃, q₃⟩ => ?_) fun _ _ z => z.2
  have t13 := Nat.le_trans t₂ t₃
  have x13 := x₁.trans S S₁ x₃ t13
  exact ⟨⟨S₃.s0.gs _ _ (x13.grow _ _ hq), S₃.s0.base _ _ ho⟩, Run.after S T S₃ x13 (Nat.le_trans t₁ t13) q₃⟩
/-- a method by its attribute, as a call with a * asks for it -/
theorem E_methB {o : Expr} {apos pos : Pos} {args : List Expr} {Q : Value → Pt → Prop}
    (h : Run C A L (eval o env) p fun ov p₁ => Run C A L (getAttr ov name true) p₁ fun f p₂ => Run C A L (callWith pos f [] (backTo pos (starEach args env)) []) p₂ Q)
    (hb : attributeBase o name env (eval o env) = eval o env := by rfl) (hf : methodCallForm (args.length + 0) (backTo pos (starEach args env)) [] = false := by rfl) :
    Run C A L (eval (.Call (.Attribute o name apos) args [] pos) env) p Q := by
  refine Run.of_eq (arm_eval_Call ..) ?_
  rw [hb]
  refine .bind (h.mono fun ov p₁ h₁ => .bind (.standAt ?_))
  show Run C A L (methodCall o name apos pos env ov (args.length + 0) (backTo pos (starEach args env)) []) p₁ Q
  unfold methodCall
  rw [hf]
  refine .bind (.holding ?_)
  show Run C A L (do pure (← getAttr ov name true, [])) p₁ _
  refine .bind (h₁.mono fun f p₂ h₂ => .pure ?_)
  exact .bind (.pure h₂)
end
end Mine

open PySem PySem.Calls PyProof.Rows
set_option Elab.async false
set_option linter.unusedVariables false
set_option maxRecDepth 100000
namespace Mine
section
variable {C : Cx} {A : Around} {L : Addr} {p : Pt} {env : Env}
theorem C_neB {a b : Bool} {Q : Value → Pt → Prop} (h : Q (.bool (!(a == b))) p) : Run C A L (compareOp .NotEq (.bool a) (.bool b)) p Q := .of fun s S T => by
  show wpAny _ A (richCompare .NotEq (.bool a) (.bool b)) _ _ s
  exact SeqAt.RcNeAt.bool_bool a b _ _ _ _ ⟨p, S, .refl, h⟩
theorem at10 {α : Type} {a b c d e f g h i j x : α} {l : List α} : x ∈ a :: b :: c :: d :: e :: f :: g :: h :: i :: j :: x :: l := .tail _ at9
theorem at11 {α : Type} {a b c d e f g h i j k x : α} {l : List α} : x ∈ a :: b :: c :: d :: e :: f :: g :: h :: i :: j :: k :: x :: l := .tail _ at10
theorem at12 {α : Type} {a b c d e f g h i j k m x : α} {l : List α} : x ∈ a :: b :: c :: d :: e :: f :: g :: h :: i :: j :: k :: m :: x :: l := .tail _ at11
theorem at13 {α : Type} {a b c d e f g h i j k m n x : α} {l : List α} : x ∈ a :: b :: c :: d :: e :: f :: g :: h :: i :: j :: k :: m :: n :: x :: l := .tail _ at12
theorem at14 {α : Type} {a b c d e f g h i j k m n o x : α} {l : List α} : x ∈ a :: b :: c :: d :: e :: f :: g :: h :: i :: j :: k :: m :: n :: o :: x :: l := .tail _ at13
end
section
variable {C : Cx} {A : Around} {L : Addr} {env : Env} {G : Addr → Option Obj} {m : List (Str × Option Value)} {N : List (Addr × Cell)} {k : Nat}
theorem E_strQ {x kd pos} {Q : Value → Pt → Prop} (h : ∀ t : Nat, k ≤ t → Q (.str x t) ⟨G, m, N, t + 1⟩) : Run C A L (eval (.Constant (.str x) kd pos) env) ⟨G, m, N, k⟩ Q := E_str h
theorem newList_Q {vs : List Value} {Q : Value → Pt → Prop} (hz : vs.length ≤ sizeLine) (h : ∀ a, Q (.ref a) ⟨G, m, (a, listC vs) :: N, k⟩) : Run C A L (newList vs) ⟨G, m, N, k⟩ Q := newList_N hz h
theorem Run.freezeQ {α : Type} {t : Sem α} {Q : α → Pt → Prop} {a : Addr} {c : Cell} (h : ∀ G', GLe G G' → (∀ R : Obj → Prop, (∀ o, c o → R o) → ∃ o, G' a = some o ∧ R o) → Run C A L t ⟨G', m, N, k⟩ Q) : Run C A L t ⟨G, m, (a, c) :: N, k⟩ Q :=
  Run.freeze .head fun o G' hc hG hne => h G' (by rw [hG]; exact GLe.add hne) fun R hR => ⟨o, by rw [hG]; exact addG_self, hR o hc⟩
theorem ListG.ofQ {G' : Addr → Option Obj} {a : Addr} {vs : List Value} (h : ∀ R : Obj → Prop, (∀ o, listC vs o → R o) → ∃ o, G' a = some o ∧ R o) : ListG G' a vs := h _ fun _ h => h
end
inductive FzQ {α : Type} (Q : α → Pt → Prop) (v : α) (p' : Pt) : Prop
  | mk (a : Addr) (c : Cell) (N' : List (Addr × Cell)) (P : DelN p'.N a c N') (q : ∀ o, c o → p'.G a = none → Q v { p' with G := addG p'.G a o, N := N' }) : FzQ Q v p'
theorem Run.fz {C : Cx} {A : Around} {L : Addr} {α : Type} {t : Sem α} {p : Pt} {Q : α → Pt → Prop}
    (h : Run C A L t p (FzQ Q)) : Run C A L t p Q := .of fun s S T =>
  wpAny_mono (wpAny_toks (h.go s S T)) (fun v s' ⟨ht, p', S', x, a, c, N', P, q⟩ => by
    obtain ⟨o, hc, ho, S''⟩ := S'.freeze P
    exact ⟨_, S'', x.trans S S' (Ext.freeze S' P) (Nat.le_refl _), q o hc (S'.s0.nG a (mem_dom P.mem))⟩) fun _ _ e => e.2
inductive StrEs : List Expr → List Str → Prop
  | nil : StrEs [] []
  | cons {x : Str} {n : Nat} {q : Pos} {es : List Expr} {xs : List Str} (h : StrEs es xs) : StrEs (.Constant (.str x) n q :: es) (x :: xs)
theorem E_strL {C : Cx} {A : Around} {L : Addr} {env : Env} {pos : Pos} {G : Addr → Option Obj} {m : List (Str × Option Value)} {N : List (Addr × Cell)} {es : List Expr} {xs : List Str} (hs : StrEs es xs) :
    ∀ {k : Nat} {Q : List Value → Pt → Prop}, (∀ ts k', k ≤ k' → ts.map (·.1) = xs → (∀ q ∈ ts, k ≤ q.2 ∧ q.2 < k') → Q (strValues ts) ⟨G, m, N, k'⟩) → Run C A L (spliced (backTo pos (starEach es env))) ⟨G, m, N, k⟩ Q := by
  induction hs with
  | nil => exact fun h => E_items_nil (h [] _ (Nat.le_refl _) rfl fun q hq => nomatch hq)
  | @cons x n q es xs _ ih =>
    intro k Q h
    refine E_items_cons (E_strQ fun t ht => ih fun ts k' hk' e1 e2 => h ((x, t) :: ts) k' (by omega) (by rw [List.map_cons, e1]) fun q hq => ?_)
    rcases List.mem_cons.mp hq with rfl | hq
    · exact ⟨ht, hk'⟩
    · exact ⟨Nat.le_trans (Nat.le_succ_of_le ht) (e2 q hq).1, (e2 q hq).2⟩
/-- a list of texts, frozen at once -/
theorem E_listS {C : Cx} {A : Around} {L : Addr} {env : Env} {pos : Pos} {G : Addr → Option Obj} {m : List (Str × Option Value)} {N : List (Addr × Cell)} {es : List Expr} {xs : List Str} {k : Nat} {Q : Value → Pt → Prop}
    (h : ∀ w ts G' k', GLe G G' → k ≤ k' → ts.map (·.1) = xs → (∀ q ∈ ts, k ≤ q.2 ∧ q.2 < k') → ListG G' w (strValues ts) → Q (.ref w) ⟨G', m, N, k'⟩) (hs : StrEs es xs := by repeat (first | exact .nil | refine .cons ?_)) (hz : xs.length ≤ sizeLine := by rw [sizeLine_eq]; decide) :
    Run C A L (eval (.List es pos) env) ⟨G, m, N, k⟩ Q :=
  Run.fz (E_List (E_strL hs fun ts k' hk' e1 e2 => newList_Q (by have := congrArg List.length e1; simp only [List.length_map] at this; simp only [strValues, List.length_map]; omega) fun w => ⟨w, _, _, .head, fun o ho hn => h w ts _ k' (GLe.add hn) hk' e1 e2 (ListG.new ho)⟩))
end Mine

open PySem PySem.Calls PyProof.Rows
set_option Elab.async false
set_option linter.unusedVariables false
set_option maxRecDepth 100000
namespace Mine
section
variable {C : Cx} {A : Around} {L : Addr} {p : Pt} {env : Env}
theorem cellsFrom_no : ∀ {names : List (Str × NameKind)} {a : Addr} {cl : List (Str × Addr)}, (∀ y ∈ names, y.2 ≠ .cell) → cellsFrom a names cl = cl
  | [], _, _, _ => rfl
  | q :: r, a, cl, h => by
    unfold cellsFrom
    have h1 : (q.2 == NameKind.cell) = false := by
      have := h q (List.mem_cons_self ..)
      cases hq : q.2 <;> first | rfl | exact absurd hq this
    simp only [h1, Bool.false_eq_true, if_false]
    exact cellsFrom_no fun y hy => h y (List.mem_cons_of_mem _ hy)
theorem E_Comp1 {R : Nat → Value → (Addr → Option Obj) → Nat → Prop} (sel : Nat → Bool) (cl : List (Str × Addr)) (hm : MonoR R) {elt iter : Expr} {ifs : List Expr} {x : Str} {px : Pos} {scope : Scope} {pos : Pos} {Q : Value → Pt → Prop}
    (h : Run C A L (eval iter env) p (Comp1Q C A env R sel cl elt ifs x px scope L Q))
    (hclos : closureFor scope env = Pure.pure cl := by rfl) (hcell : ∀ y ∈ scope.names, y.2 ≠ .cell := by decide) (hnames : ∀ y ∈ scope.names, y.2 = .local → scope.names.lookup y.1 = some .local := by decide)
    (hx : (compEnvC scope cl 0 env).kindOf x = some .local := by rfl) (hk : (relabel scope env).kind = .function := by rfl)
    (hkind : scope.kind = .function := by rfl) (hs : ∀ x, foldedSetIterable iter env x = Pure.pure x := by intro _; rfl) :
    Run C A L (eval (.ListComp elt [⟨.Name x px, iter, ifs, 0⟩] scope pos) env) p Q := by
  have e : ∀ a, cellsFrom a scope.names cl = cl := fun a => cellsFrom_no hcell
  have e0 : ∀ Cc, ownCells scope Cc = [] := fun Cc => by unfold ownCells; rw [cellsFrom_no hcell]; rfl
  refine E_ListCompK [(x, none)] hclos hnames (by simp) (by simp) (h.mono fun xv p₁ ⟨n, P, it, hn, step, fin⟩ => ⟨n, P, fun _ i ys p₂ => CompI R sel p₁ (OneM x) i ys p₂ ∧ i ≤ n, it, ?_, ?_, ?_, ?_⟩) hkind hs
  · rintro Cc i ys p₂ ⟨⟨_, _, _, _, _, _, _, hM⟩, hi⟩
    rw [hM.1]
    refine Nat.le_trans (List.length_filter_le _ _) ?_
    rw [List.length_range]; omega
  · intro Cc
    rw [e0]
    exact ⟨⟨p₁.G, _, p₁.k, rfl, ⟨_, rfl⟩, GLe.refl _, Nat.le_refl _, Made.nil⟩, Nat.zero_le _⟩
  · intro Cc i ys p₂ hi hI _
    have := comp_step1 (px := px) hm hx hk step Cc i ys p₂ hi hI.1
    unfold compEnvK
    rw [e]
    refine fun v s hP S T => wpAny_mono (this v s hP S T) (fun _ s' ⟨p₃, S₃, x₃, r⟩ => ⟨p₃, S₃, x₃, r.mono fun b p₄ hb => ?_⟩) fun _ _ e => e
    cases b with
    | false => exact ⟨hb, hi⟩
    | true => exact hb.mono fun y p₅ h5 => ⟨h5, hi⟩
  · rintro Cc D ys p₂ ⟨⟨G', m', k', e1, _, hG, hk', hM⟩, _⟩ _
    subst e1
    exact fin D ys G' k' hG hk' hM
end
end Mine

open PySem PySem.Calls PyProof.Rows
open PySem.W (Frag InstAt findIn typeIn specialIn clsIn plainGet hasDictIn plainOver takerIn noGet handedIn getL putL putN dictOf slotIn takesIn instObj emptyDict isClsIn makesIn isFn)
set_option Elab.async false
set_option linter.unusedVariables false
set_option maxRecDepth 100000
namespace Mine
theorem CallRun.go {C : Cx} {A : Around} {gl bl : List (Str × Value)} {f : Addr} {o : Obj} {fd : FuncData} {body : List Stmt} {vs : List Value} {binds : List (Str × Value)} {G : Addr → Option Obj} {N : List (Addr × Cell)} (m₀ : List (Str × Option Value)) {k : Nat}
    {Q : CQ} {d : Nat} (K : Base C gl bl) (hr : Room A (d + 1)) (ho : C.B.get? f = some o) (hdata : o.data = .func fd) (hcd : C.B.CodeRec fd.code fd.qualname)
    (hbind : Binds C fd vs binds) (h : ∀ L, Room (A.deeper (callEnv fd L f)) d → Run C (A.deeper (callEnv fd L f)) L (execs body (callEnv fd L f)) ⟨G, m₀, N, k⟩ fun fl p' => Q (retOf fl) p'.G p'.N p'.k)
    (hm : m₀ = (m₀.map (·.1)).map fun x => (x, binds.reverse.lookup x) := by rfl) (hok : okB m₀ binds fd.scope.names = true := by rfl)
    (hbody : fd.body = .stmts body := by rfl) (hcell : ∀ x ∈ fd.scope.names, x.2 ≠ .cell := by decide)
    (hco : fd.scope.isCoroutine = false := by rfl) (hgen : fd.scope.isGenerator = false := by rfl) (hk : fd.scope.kind = .function := by rfl) : CallRun C A f vs G N k Q :=
  CallRun.body K hr ho hdata hcd hbind hm (okB.split hok).1 (okB.split hok).2.1 hbody hcell (okB.split hok).2.2 h hco hgen hk
namespace Four

abbrev pmG : Value := .str "cpy313.graphlib" 222
/-- method j of the class that is statement i -/
def fdM (i j : Nat) (qn : Str) (dV : Value) (cd : Value) : FuncData :=
  match PySem.Challenge.pw_dn0038_04.main.body[i]? with
  | some (.ClassDef _ _ _ body _ _ _ _ _ _ _) => (match body[j]? with
    | some (.FunctionDef name args body dl ret tp scope ts b pos) => { docDef name args body scope pmG cd .none with qualname := qn, defaults := dV }
    | _ => docDef "" ⟨[], [], none, [], [], none, []⟩ [] ⟨.function, [], false, false, []⟩ pmG cd .none)
  | _ => docDef "" ⟨[], [], none, [], [], none, []⟩ [] ⟨.function, [], false, false, []⟩ pmG cd .none
/-- the module's functions as a run of the top leaves them -/
structure FnAt (B : Heap) (a : Addr) (fd : FuncData) : Prop where
  obj : ∃ o, B.get? a = some o ∧ o.data = .func fd
  code : B.CodeRec fd.code fd.qualname

def glS : List (Str × Value) := [("_NodeInfo", .ref 65), ("CycleError", .ref 80), ("_NODE_OUT", .int (-1) 225), ("_NODE_DONE", .int (-2) 228), ("TopologicalSorter", .ref 162)]
def blS : List (Str × Value) := [("len", .builtin "len"), ("iter", .builtin "iter"), ("tuple", .type "tuple"), ("set", .type "set"), ("bool", .type "bool"), ("StopIteration", .type "StopIteration")]
/-- what the sorter's texts lean on -/
structure SCx (C : Cx) where
  base : Base C glS blS
  hsm : ∃ o, C.B.get? 3 = some o
  K : Frag
  X : K.In C.B
  mk65 : makesIn K 65 = true
  mk162 : makesIn K 162 = true
  kp65 : PySem.W.keepIn K (.ref 65) = true
  kp162 : PySem.W.keepIn K (.ref 162) = true
  in65 : findIn K (.ref 65) "__init__" = some (some (.ref 61))
  in162 : findIn K (.ref 162) "__init__" = some (some (.ref 98))
  ty61 : typeIn K (.ref 61) = some (.type "function")
  ty98 : typeIn K (.ref 98) = some (.type "function")
  s0 : SlotAttr K 65 "node" 66 0
  s1 : SlotAttr K 65 "npredecessors" 67 1
  s2 : SlotAttr K 65 "successors" 68 2
  o0 : OwnAttr K 162 "_node2info"
  o1 : OwnAttr K 162 "_ready_nodes"
  o2 : OwnAttr K 162 "_npassedout"
  o3 : OwnAttr K 162 "_nfinished"
  mGet : MethAttr K 162 "_get_nodeinfo" 105
  mAdd : MethAttr K 162 "add" 112
  mPrep : MethAttr K 162 "prepare" 117
  mReady : MethAttr K 162 "get_ready" 124
  mAct : MethAttr K 162 "is_active" 131
  mDone : MethAttr K 162 "done" 145
  mFind : MethAttr K 162 "_find_cycle" 152
  exc : ExcOf C 80
  f61 : FnAt C.B 61 (fdM 8 1 "_NodeInfo.__init__" .none (.ref 60))
  f98 : FnAt C.B 98 (fdM 10 0 "TopologicalSorter.__init__" (.ref 91) (.ref 97))
  t91 : ∃ o n, C.B.get? 91 = some o ∧ o.data = .seq #[.none] n
  f105 : FnAt C.B 105 (fdM 10 1 "TopologicalSorter._get_nodeinfo" .none (.ref 104))
  f112 : FnAt C.B 112 (fdM 10 2 "TopologicalSorter.add" .none (.ref 111))
  f117 : FnAt C.B 117 (fdM 10 3 "TopologicalSorter.prepare" .none (.ref 116))
  f124 : FnAt C.B 124 (fdM 10 4 "TopologicalSorter.get_ready" .none (.ref 123))
  f131 : FnAt C.B 131 (fdM 10 5 "TopologicalSorter.is_active" .none (.ref 130))
  f145 : FnAt C.B 145 (fdM 10 7 "TopologicalSorter.done" .none (.ref 144))
  f152 : FnAt C.B 152 (fdM 10 8 "TopologicalSorter._find_cycle" .none (.ref 151))

variable {C : Cx} {A : Around}
inductive NodeInitP (G : Addr → Option Obj) (k : Nat) (x dx : Addr) (nm : Str) (t : Tok) : Value → (Addr → Option Obj) → List (Addr × Cell) → Nat → Prop
  | mk {G' : Addr → Option Obj} {k' : Nat} (h1 : GLe G G') (h2 : k ≤ k') (h3 : G' dx = some emptyDict) (l : Addr) (tk : Tok) : NodeInitP G k x dx nm t .none G' [(l, listC []), (x, slotC 65 dx [some (.str nm t), some (.int 0 tk), some (.ref l)])] k'
theorem w_nodeInit (H : SCx C) {d : Nat} (hr : Room A (d + 1)) {x dx : Addr} {nm : Str} {t : Tok} {G : Addr → Option Obj} {k : Nat} :
    CallRun C A 61 [.ref x, .str nm t] G [(x, slotC 65 dx []), (dx, emptyC)] k (NodeInitP G k x dx nm t) := by
  obtain ⟨⟨o, ho, hd⟩, hc⟩ := H.f61
  refine CallRun.go [("self", some (.ref x)), ("node", some (.str nm t))] H.base hr ho hd hc (.of_eq (binds := [("self", .ref x), ("node", .str nm t)]) rfl) fun L hR => Run.abs fun Q0 hQ0 => ?_
  refine Run.freeze (.tail .head) fun oe G₁ hoe eG₁ n₁ => ?_
  have hG : GLe G G₁ := by rw [eG₁]; exact GLe.add n₁
  have hd : G₁ dx = some emptyDict := by rw [eG₁, addG_self, show oe = emptyDict from hoe]
  refine X_cons (X_AssignAttr (E_loc (v := .str nm t) (.tail _ (.head _)) (E_loc (v := .ref x) (.head _) (R_setSlot H.X H.s0 .head hd ?_))))
  refine X_cons (X_AssignAttr (E_int fun tk => (E_loc (v := .ref x) (.head _) (R_setSlot H.X H.s1 .head hd ?_))))
  refine X_one (X_AssignAttr (E_List (E_items_nil (newList_N (by decide) fun l => (E_loc (v := .ref x) (.head _) (R_setSlot H.X H.s2 (.tail .head) hd ?_))))))
  exact hQ0 _ _ ⟨hG, Nat.le_refl _, hd, l, tk⟩
end Four
end Mine

open PySem PySem.Calls PyProof.Rows
open PySem.W (Frag InstAt findIn typeIn specialIn clsIn plainGet hasDictIn plainOver takerIn noGet handedIn getL putL putN dictOf slotIn takesIn instObj emptyDict isClsIn makesIn isFn)
set_option Elab.async false
set_option linter.unusedVariables false
set_option maxRecDepth 100000
namespace Mine
namespace Four

/-- the sorter's own attributes -/
def skv (dn : Addr) (rd : Value) (po fi : Int) (t u : Tok) : List (Str × Value) := [("_node2info", .ref dn), ("_ready_nodes", rd), ("_npassedout", .int po t), ("_nfinished", .int fi u)]
theorem kvput_le {x : Str} {v : Value} : ∀ {kv : List (Str × Value)} {n : Nat}, kv.length ≤ n → (kvput kv x v).length ≤ n + 1
  | [], n, _ => by simp [kvput]
  | q :: r, 0, h => by simp at h
  | q :: r, n + 1, h => by
    unfold kvput
    split
    · exact Nat.le_succ_of_le h
    · exact Nat.succ_le_succ (kvput_le (Nat.le_of_succ_le_succ h))
variable {C : Cx} {A : Around}
inductive InitP (C : Cx) (G : Addr → Option Obj) (k : Nat) (x dx : Addr) : Value → (Addr → Option Obj) → List (Addr × Cell) → Nat → Prop
  | mk {G' : Addr → Option Obj} {k' : Nat} (h1 : GLe G G') (h2 : k ≤ k') (h3 : G' x = some (instObj 162 dx)) (dn : Addr) (t u : Tok) (h4 : (dn == sysModules) = false) : InitP C G k x dx .none G' [(dn, dictC C.w []), (dx, attrC (skv dn .none 0 0 t u))] k'
theorem w_init (H : SCx C) {d : Nat} (hr : Room A (d + 1)) {x dx : Addr} {G : Addr → Option Obj} {k : Nat} :
    CallRun C A 98 [.ref x] G [(x, slotC 162 dx []), (dx, emptyC)] k (InitP C G k x dx) := by
  obtain ⟨⟨o, ho, hd⟩, hc⟩ := H.f98
  obtain ⟨ot, n, hot, hsq⟩ := H.t91
  refine CallRun.go [("self", some (.ref x)), ("graph", some .none), ("node", none), ("predecessors", none)] H.base hr ho hd hc (.of_defaults (binds := [("self", .ref x), ("graph", .none)]) rfl hot hsq rfl rfl) fun L hR => Run.abs fun Q0 hQ0 => ?_
  refine Run.freeze .head fun oe G₁ hoe eG₁ n₁ => ?_
  have hG : GLe G G₁ := by rw [eG₁]; exact GLe.add n₁
  have hx : G₁ x = some (instObj 162 dx) := by rw [eG₁, addG_self, show oe = instObj 162 dx from hoe]
  refine Run.weak (c' := attrC []) .head (fun o e => ⟨[], 0, e, .nil⟩) ?_
  refine X_cons (X_AssignAttr (E_Dict0 fun dn hdn => E_loc (v := .ref x) (.head _) (R_setOwn H.X H.o0 hx (.tail .head) (by decide) ?_)))
  refine X_cons (X_AssignAttr (E_none (E_loc (v := .ref x) (.head _) (R_setOwn H.X H.o1 hx (.tail .head) (Nat.le_trans (kvput_le (Nat.zero_le 0)) (by decide)) ?_))))
  refine X_cons (X_AssignAttr (E_int fun t => (E_loc (v := .ref x) (.head _) (R_setOwn H.X H.o2 hx (.tail .head) (Nat.le_trans (kvput_le (kvput_le (Nat.zero_le 0))) (by decide)) ?_))))
  refine X_cons (X_AssignAttr (E_int fun u => (E_loc (v := .ref x) (.head _) (R_setOwn H.X H.o3 hx (.tail .head) (Nat.le_trans (kvput_le (kvput_le (kvput_le (Nat.zero_le 0)))) (by decide)) ?_))))
  refine X_one (X_If (T_Cmp (E_loc (v := .none) (.tail _ (.head _)) (E_none (C_isnN (truthy_bool ?_))))))
  refine X_nil ?_
  refine hQ0 _ _ ⟨hG, Nat.le_refl _, hx, dn, t, u, ?_⟩
  obtain ⟨o3, ho3⟩ := H.hsm
  have : 3 < dn := hdn 3 o3 ho3
  exact beq_eq_false_iff_ne.mpr fun e => by rw [e] at this; exact absurd this (by decide)
end Four
end Mine

open PySem PySem.Calls PyProof.Rows
open PySem.W (Frag InstAt findIn typeIn specialIn clsIn plainGet hasDictIn plainOver takerIn noGet handedIn getL putL putN dictOf slotIn takesIn instObj emptyDict isClsIn makesIn isFn)
set_option Elab.async false
set_option linter.unusedVariables false
set_option maxRecDepth 100000
namespace Mine
namespace Four

/-- a node of the sorter, and where its objects lie -/
structure NI where
  nm : Str
  t : Tok
  a : Addr
  d : Addr
  l : Addr
  np : Int
  nt : Tok
  sc : List (Str × Tok)
def NI.ent (i : NI) : Ent := (i.nm, i.t, .ref i.a)
def NI.cells (i : NI) : List (Addr × Cell) := [(i.a, slotC 65 i.d [some (.str i.nm i.t), some (.int i.np i.nt), some (.ref i.l)]), (i.l, listC (strValues i.sc))]
/-- the sorter's objects -/
def sN (C : Cx) (dn dx : Addr) (rd : Value) (po fi : Int) (t u : Tok) (is : List NI) : List (Addr × Cell) := (dx, attrC (skv dn rd po fi t u)) :: (dn, dictC C.w (is.map NI.ent)) :: is.flatMap NI.cells
structure Lay (G : Addr → Option Obj) (x dx dn : Addr) (is : List NI) : Prop where
  inst : G x = some (instObj 162 dx)
  sys : (dn == sysModules) = false
  ds : ∀ i ∈ is, G i.d = some emptyDict
theorem Lay.mono {G G' : Addr → Option Obj} {x dx dn : Addr} {is : List NI} (h : Lay G x dx dn is) (g : GLe G G') : Lay G' x dx dn is := ⟨g _ _ h.inst, h.sys, fun i hi => g _ _ (h.ds i hi)⟩

def lookI (is : List NI) (nm : Str) : Option NI := is.find? fun i => decide (i.nm = nm)
theorem dget_ent : ∀ (is : List NI) (nm : Str), dget (is.map NI.ent) nm = (lookI is nm).map fun i => .ref i.a
  | [], _ => rfl
  | i :: r, nm => by
    have ih := dget_ent r nm
    simp only [List.map_cons]
    unfold dget lookI
    by_cases h : i.nm = nm
    · rw [List.find?_cons_of_pos (by simpa using h), if_pos (show i.ent.1 = nm from h)]; rfl
    · rw [List.find?_cons_of_neg (by simpa using h), if_neg (show ¬ i.ent.1 = nm from h)]; exact ih
theorem dput_new : ∀ (is : List NI) (i : NI), lookI is i.nm = none → dput (is.map NI.ent) i.nm i.t (.ref i.a) = (is ++ [i]).map NI.ent
  | [], i, _ => rfl
  | j :: r, i, h => by
    have hj : ¬ j.nm = i.nm := fun e => by
      unfold lookI at h
      rw [List.find?_cons_of_pos (by simpa using e)] at h; cases h
    have hr : lookI r i.nm = none := by
      unfold lookI at h ⊢
      rw [List.find?_cons_of_neg (by simpa using hj)] at h; exact h
    have ih := dput_new r i hr
    simp only [List.map_cons, List.cons_append]
    unfold dput
    rw [if_neg (show ¬ j.ent.1 = i.nm from hj), ih]

variable {C : Cx} {A : Around}
inductive InfoP (C : Cx) (G : Addr → Option Obj) (k : Nat) (x dx dn : Addr) (rd : Value) (po fi : Int) (t u : Tok) (is : List NI) (nm : Str) : Value → (Addr → Option Obj) → List (Addr × Cell) → Nat → Prop
  | mk {G' : Addr → Option Obj} {k' : Nat} (h1 : GLe G G') (h2 : k ≤ k') (is' : List NI) (i : NI) (h3 : i.nm = nm) (h4 : Lay G' x dx dn is') (h5 : (lookI is nm = some i ∧ is' = is) ∨ (lookI is nm = none ∧ is' = is ++ [i] ∧ i.np = 0 ∧ i.sc = [])) :
    InfoP C G k x dx dn rd po fi t u is nm (.ref i.a) G' (sN C dn dx rd po fi t u is') k'
theorem w_info (H : SCx C) {d : Nat} (hr : Room A (d + 3)) {x dx dn : Addr} {rd : Value} {po fi : Int} {t u tn : Tok} {is : List NI} {nm : Str} {G : Addr → Option Obj} {k : Nat} (Y : Lay G x dx dn is) (hz : is.length ≤ 1000) :
    CallRun C A 105 [.ref x, .str nm tn] G (sN C dn dx rd po fi t u is) k (InfoP C G k x dx dn rd po fi t u is nm) := by
  obtain ⟨⟨o, ho, hd⟩, hc⟩ := H.f105
  refine CallRun.go [("self", some (.ref x)), ("node", some (.str nm tn)), ("result", none)] H.base hr ho hd hc (.of_eq (binds := [("self", .ref x), ("node", .str nm tn)]) rfl) fun L hR => Run.abs fun Q0 hQ0 => ?_
  have hDA : DictA C ⟨G, [("self", some (.ref x)), ("node", some (.str nm tn)), ("result", none)], sN C dn dx rd po fi t u is, k⟩ dn (is.map NI.ent) := ⟨Y.sys, .inr (.tail _ (.head _))⟩
  refine X_cons (X_If (T_Cmp (E_Named (E_meth F.slot_dict_get F.plainAttrs_dict F.type_dict_get (E_Attr (E_loc (v := .ref x) (.head _) (R_getOwn H.X H.o0 Y.inst (.head _) (v := .ref dn) rfl rfl
    ⟨hDA.hasT, E_items_cons (E_loc (v := .str nm tn) (.tail _ (.head _)) (E_items_nil (R_dictGet hDA (storeLoc (.tail (.tail .head)) (E_none (C_isN (truthy_bool ?_)))))))⟩)))))))
  rw [dget_ent]
  cases hl : lookI is nm with
  | some i =>
    have hi : i.nm = nm := by
      have := List.find?_some hl
      simpa using this
    show Run C _ L _ ⟨G, [("self", some (.ref x)), ("node", some (.str nm tn)), ("result", some (.ref i.a))], sN C dn dx rd po fi t u is, k⟩ _
    refine X_nil (X_one (X_Return (E_loc (v := .ref i.a) (.tail _ (.tail _ (.head _))) ?_)))
    exact hQ0 _ _ ⟨GLe.refl _, Nat.le_refl _, is, i, hi, Y, .inl ⟨hl, rfl⟩⟩
  | none =>
    show Run C _ L _ ⟨G, [("self", some (.ref x)), ("node", some (.str nm tn)), ("result", some .none)], sN C dn dx rd po fi t u is, k⟩ _
    refine X_one (X_Assign2 (E_callC (f := .ref 65) H.X H.kp65 (fun {Q} h => E_glob H.base (.head _) h) (E_items_cons (E_loc (v := .str nm tn) (.tail _ (.head _)) (E_items_nil
      (R_make H.X H.mk65 H.in65 H.ty61 fun a da => (w_nodeInit H (Room.under (d := d + 1) hR)).mono fun v G' N' k' hv => ?_))))))
    refine hv.casesOn ?_
    intro G' k' hG hk hda l tk
    refine ⟨rfl, ?_⟩
    have Y' := Y.mono hG
    refine S_Sub (E_Attr (E_loc (v := .ref x) (.head _) (R_getOwn H.X H.o0 Y'.inst (.tail _ (.tail _ (.head _))) (v := .ref dn) rfl rfl
      (E_loc (v := .str nm tn) (.tail _ (.head _)) (S_dict (.tail (.tail (.tail .head))) ?_ (S_Name (storeLoc (.tail (.tail .head)) ?_)))))))
    · rw [List.length_map, sizeLine_eq]; omega
    · dsimp only
      refine Run.perm (N' := sN C dn dx rd po fi t u (is ++ [(⟨nm, tn, a, da, l, 0, tk, []⟩ : NI)])) ?_ (X_one (X_Return (E_loc (v := .ref a) (.tail _ (.tail _ (.head _))) ?_)))
      rotate_left
      refine hQ0 _ _ (.mk hG hk (is ++ [⟨nm, tn, a, da, l, 0, tk, []⟩]) ⟨nm, tn, a, da, l, 0, tk, []⟩ rfl ⟨Y'.inst, Y'.sys, fun i hi => ?_⟩ (.inr ⟨hl, rfl, rfl, rfl⟩))
      · rcases List.mem_append.mp hi with hi | hi
        · exact Y'.ds i hi
        · rw [List.mem_singleton.mp hi]; exact hda
      · have e : dput (is.map NI.ent) nm tn (.ref a) = (is ++ [(⟨nm, tn, a, da, l, 0, tk, []⟩ : NI)]).map NI.ent := dput_new is ⟨nm, tn, a, da, l, 0, tk, []⟩ hl
        show List.Perm ((l, listC []) :: (a, slotC 65 da [some (.str nm tn), some (.int 0 tk), some (.ref l)]) :: (dx, attrC (skv dn rd po fi t u)) :: (dn, dictC C.w (dput (is.map NI.ent) nm tn (.ref a))) :: is.flatMap NI.cells) _
        rw [e]
        unfold sN
        rw [List.flatMap_append]
        have h1 : List.Perm [(l, listC []), (a, slotC 65 da [some (.str nm tn), some (.int 0 tk), some (.ref l)])] (List.flatMap NI.cells [(⟨nm, tn, a, da, l, 0, tk, []⟩ : NI)]) := .swap ..
        refine List.Perm.trans (List.Perm.append_right _ h1) ?_
        exact List.perm_append_comm (l₁ := List.flatMap NI.cells [(⟨nm, tn, a, da, l, 0, tk, []⟩ : NI)]) (l₂ := (dx, attrC (skv dn rd po fi t u)) :: (dn, dictC C.w ((is ++ [(⟨nm, tn, a, da, l, 0, tk, []⟩ : NI)]).map NI.ent)) :: is.flatMap NI.cells)
end Four
end Mine

open PySem PySem.Calls PyProof.Rows
open PySem.W (instObj emptyDict)
set_option Elab.async false
set_option linter.unusedVariables false
set_option maxRecDepth 100000
namespace Mine

namespace Four
def NI.abs (i : NI) : Str × Int × List Str := (i.nm, i.np, i.sc.map (·.1))
def absG (is : List NI) : Gr := is.map NI.abs
theorem absG_names (is : List NI) : (absG is).map (·.1) = is.map (·.nm) := by unfold absG; rw [List.map_map]; rfl
theorem lookI_none {is : List NI} {nm : Str} (h : lookI is nm = none) : nm ∉ is.map (·.nm) := fun hm => by
  obtain ⟨i, hi, e⟩ := List.mem_map.mp hm
  have := List.find?_eq_none.mp h i hi
  simp [e] at this
theorem lookI_some {is : List NI} {nm : Str} {i : NI} (h : lookI is nm = some i) : i ∈ is ∧ i.nm = nm := ⟨List.mem_of_find?_eq_some h, by simpa using List.find?_some h⟩
theorem abs_touch {is is' : List NI} {i : NI} {nm : Str} (h : (lookI is nm = some i ∧ is' = is) ∨ (lookI is nm = none ∧ is' = is ++ [i] ∧ i.np = 0 ∧ i.sc = [])) (hi : i.nm = nm) : absG is' = touch (absG is) nm := by
  unfold touch
  rw [absG_names]
  rcases h with ⟨h, rfl⟩ | ⟨h, rfl, h0, hs⟩
  · rw [if_pos (List.mem_map.mpr ⟨i, (lookI_some h).1, hi⟩)]
  · rw [if_neg (lookI_none h)]
    unfold absG
    rw [List.map_append]
    simp only [List.map_cons, List.map_nil]
    unfold NI.abs
    rw [hi, h0, hs]; rfl
end Four
end Mine

open PySem PySem.Calls PyProof.Rows
open PySem.W (instObj emptyDict)
set_option Elab.async false
set_option linter.unusedVariables false
set_option maxRecDepth 100000
namespace Mine
namespace Four
variable {C : Cx} {A : Around}

/-- one node's objects in the row of all -/
theorem put_obj {dn dx : Addr} {rd : Value} {po fi : Int} {t u : Tok} {A₀ B₀ : List NI} {i : NI} {np : Int} {nt : Tok} :
    PutN (sN C dn dx rd po fi t u (A₀ ++ i :: B₀)) i.a (slotC 65 i.d [some (.str i.nm i.t), some (.int i.np i.nt), some (.ref i.l)]) (slotC 65 i.d [some (.str i.nm i.t), some (.int np nt), some (.ref i.l)]) (sN C dn dx rd po fi t u (A₀ ++ { i with np := np, nt := nt } :: B₀)) := by
  have e : (A₀ ++ { i with np := np, nt := nt } :: B₀).map NI.ent = (A₀ ++ i :: B₀).map NI.ent := by simp only [List.map_append, List.map_cons]; rfl
  unfold sN
  rw [e, List.flatMap_append, List.flatMap_append, List.flatMap_cons, List.flatMap_cons]
  exact .tail (.tail (PutN.mid _))
theorem put_suc {dn dx : Addr} {rd : Value} {po fi : Int} {t u : Tok} {A₀ B₀ : List NI} {i : NI} {sc : List (Str × Tok)} :
    PutN (sN C dn dx rd po fi t u (A₀ ++ i :: B₀)) i.l (listC (strValues i.sc)) (listC (strValues sc)) (sN C dn dx rd po fi t u (A₀ ++ { i with sc := sc } :: B₀)) := by
  have e : (A₀ ++ { i with sc := sc } :: B₀).map NI.ent = (A₀ ++ i :: B₀).map NI.ent := by simp only [List.map_append, List.map_cons]; rfl
  unfold sN
  rw [e, List.flatMap_append, List.flatMap_append, List.flatMap_cons, List.flatMap_cons]
  have h : NI.cells i ++ List.flatMap NI.cells B₀ = [(i.a, slotC 65 i.d [some (.str i.nm i.t), some (.int i.np i.nt), some (.ref i.l)])] ++ (i.l, listC (strValues i.sc)) :: List.flatMap NI.cells B₀ := rfl
  have h' : NI.cells { i with sc := sc } ++ List.flatMap NI.cells B₀ = [(i.a, slotC 65 i.d [some (.str i.nm i.t), some (.int i.np i.nt), some (.ref i.l)])] ++ (i.l, listC (strValues sc)) :: List.flatMap NI.cells B₀ := rfl
  rw [h, h', ← List.append_assoc, ← List.append_assoc]
  exact .tail (.tail (PutN.mid _))
theorem mem_obj {dn dx : Addr} {rd : Value} {po fi : Int} {t u : Tok} {is : List NI} {i : NI} (h : i ∈ is) : (i.a, slotC 65 i.d [some (.str i.nm i.t), some (.int i.np i.nt), some (.ref i.l)]) ∈ sN C dn dx rd po fi t u is :=
  .tail _ (.tail _ (List.mem_flatMap.mpr ⟨i, h, .head _⟩))
theorem mem_suc {dn dx : Addr} {rd : Value} {po fi : Int} {t u : Tok} {is : List NI} {i : NI} (h : i ∈ is) : (i.l, listC (strValues i.sc)) ∈ sN C dn dx rd po fi t u is :=
  .tail _ (.tail _ (List.mem_flatMap.mpr ⟨i, h, .tail _ (.head _)⟩))
end Four
end Mine

open PySem PySem.Calls PyProof.Rows
open PySem.W (instObj emptyDict)
set_option Elab.async false
set_option linter.unusedVariables false
set_option maxRecDepth 100000
namespace Mine
namespace Four
variable {C : Cx} {A : Around}
theorem absG_cons (A₀ B₀ : List NI) (i : NI) : absG (A₀ ++ i :: B₀) = absG A₀ ++ i.abs :: absG B₀ := by unfold absG; rw [List.map_append, List.map_cons]
theorem abs_setNp {A₀ B₀ : List NI} {i : NI} {z : Int} {nt : Tok} (nd : ((absG (A₀ ++ i :: B₀)).map (·.1)).Nodup) : absG (A₀ ++ { i with np := z, nt := nt } :: B₀) = setNp (absG (A₀ ++ i :: B₀)) i.nm z := by
  rw [absG_cons, absG_cons]
  rw [absG_cons] at nd
  exact (upd_split (f := fun q => (q.1, z, q.2.2)) nd).symm
theorem abs_addSc {A₀ B₀ : List NI} {i : NI} {m : Str} {t : Tok} (nd : ((absG (A₀ ++ i :: B₀)).map (·.1)).Nodup) : absG (A₀ ++ { i with sc := i.sc ++ [(m, t)] } :: B₀) = addSc (absG (A₀ ++ i :: B₀)) i.nm m := by
  rw [absG_cons, absG_cons]
  rw [absG_cons] at nd
  have := (upd_split (f := fun q => (q.1, q.2.1, q.2.2 ++ [m])) nd).symm
  unfold addSc
  show absG A₀ ++ (i.nm, i.np, (i.sc ++ [(m, t)]).map (·.1)) :: absG B₀ = _
  rw [List.map_append]
  exact this
theorem Lay.put {G : Addr → Option Obj} {x dx dn : Addr} {A₀ B₀ : List NI} {i i' : NI} (h : Lay G x dx dn (A₀ ++ i :: B₀)) (hd : i'.d = i.d) : Lay G x dx dn (A₀ ++ i' :: B₀) := by
  refine ⟨h.inst, h.sys, fun z hz => ?_⟩
  rcases List.mem_append.mp hz with hz | hz
  · exact h.ds z (List.mem_append_left _ hz)
  · rcases List.mem_cons.mp hz with rfl | hz
    · rw [hd]; exact h.ds i (by simp)
    · exact h.ds z (List.mem_append_right _ (List.mem_cons_of_mem _ hz))
inductive AddP (C : Cx) (G : Addr → Option Obj) (k : Nat) (x dx dn : Addr) (po fi : Int) (t u : Tok) (g : Gr) : Value → (Addr → Option Obj) → List (Addr × Cell) → Nat → Prop
  | mk {G' : Addr → Option Obj} {k' : Nat} (h1 : GLe G G') (h2 : k ≤ k') (is' : List NI) (h3 : Lay G' x dx dn is') (h4 : absG is' = g) : AddP C G k x dx dn po fi t u g .none G' (sN C dn dx .none po fi t u is') k'
inductive AddI (C : Cx) (G : Addr → Option Obj) (k : Nat) (x dx dn tt ia : Addr) (po fi : Int) (t u : Tok) (nm : Str) (tn : Tok) (lz b : Nat) (ps : List Str) (g : Gr) (j : Nat) : Pt → Prop
  | mk (G₂ : Addr → Option Obj) (k₂ : Nat) (is₂ : List NI) (o1 o2 : Option Value) (h1 : GLe G G₂) (h2 : k ≤ k₂) (h3 : Lay G₂ x dx dn is₂) (h4 : is₂.length ≤ lz + 1 + j) (h5 : ((absG is₂).map (·.1)).Nodup) (h6 : Small (absG is₂) (b + j))
      (h7 : absG is₂ = (ps.take j).foldl (fun g p => addSc (touch g p) p nm) g) :
    AddI C G k x dx dn tt ia po fi t u nm tn lz b ps g j ⟨G₂, [("self", some (.ref x)), ("node", some (.str nm tn)), ("predecessors", some (.ref tt)), ("nodeinfo", some (.ref ia)), ("pred", o1), ("pred_info", o2)], sN C dn dx .none po fi t u is₂, k₂⟩
theorem w_add (H : SCx C) {d : Nat} (hr : Room A (d + 5)) {outer : List Env} (hA : A.frames = some outer) {x dx dn : Addr} {po fi : Int} {t u tn : Tok} {is : List NI} {nm : Str} {ps : List (Str × Tok)} {G : Addr → Option Obj} {k : Nat} (Y : Lay G x dx dn is)
    (hz : is.length + ps.length ≤ 900) (hn : ((absG is).map (·.1)).Nodup) {b : Nat} (hb : Small (absG is) b) (hb' : b + ps.length ≤ 1000000) :
    CallRun C A 112 (.ref x :: .str nm tn :: strValues ps) G (sN C dn dx .none po fi t u is) k (AddP C G k x dx dn po fi t u (gAdd (absG is) nm (ps.map (·.1)))) := by
  obtain ⟨⟨o, ho, hd⟩, hc⟩ := H.f112
  refine CallX.run (CallX.bodyV (rest := strValues ps) (front := [("self", .ref x), ("node", .str nm tn)]) (nm := "predecessors") (m₀ := fun tt => [("self", some (.ref x)), ("node", some (.str nm tn)), ("predecessors", some (.ref tt)), ("nodeinfo", none), ("pred", none), ("pred_info", none)])
    H.base hr hA ho hd hc ?_ ?_ (fun _ => rfl) (fun _ => rfl) (fun _ => nodup_of rfl) rfl (by decide) ?_ fun L tt G₁ hG₁ htt hR => Run.toE (Run.abs fun Q0 hQ0 => ?_))
  · cases ps <;> rfl
  · rw [show (strValues ps).length = ps.length by simp [strValues], sizeLine_eq]; omega
  · intro tt q hq
    rcases List.mem_cons.mp hq with rfl | hq
    · rfl
    · rcases List.mem_cons.mp hq with rfl | hq
      · rfl
      · rw [List.mem_singleton.mp hq]; rfl
  · have Y₁ := Y.mono hG₁
    obtain ⟨⟨og, hog, hdg⟩, hcg⟩ := H.f105
    refine X_cons (X_If (T_Cmp (E_Attr (E_loc (v := .ref x) (.head _) (R_getOwn H.X H.o1 Y₁.inst (.head _) (v := .none) rfl rfl (E_none (C_isnN (truthy_bool (X_nil ?_)))))))))
    dsimp only
    refine X_cons (X_Assign (E_methF hog hdg (E_loc (v := .ref x) (.head _) (R_method H.X H.mGet Y₁.inst (.head _) rfl ⟨rfl, E_items_cons (E_loc (v := .str nm tn) (.tail _ (.head _)) (E_items_nil
      (R_call (Nr := []) (by rw [List.append_nil]) ((w_info H (d := d + 1) (hR.less (by omega)) Y₁ (by omega)).mono fun v G' N' k' hv => ?_))))⟩))))
    refine hv.casesOn ?_
    intro G' k' hG' hk' is₁ i hi Y₂ hT
    have him : i ∈ is₁ := by
      rcases hT with ⟨h, rfl⟩ | ⟨h, rfl, _, _⟩
      · exact (lookI_some h).1
      · simp
    have ha₁ := abs_touch hT hi
    refine Run.perm (N' := sN C dn dx .none po fi t u is₁) (by rw [List.append_nil]) (storeLoc (.tail (.tail (.tail .head))) ?_)
    dsimp only
    obtain ⟨A₀, B₀, rfl⟩ := List.append_of_mem him
    refine X_cons (X_AugAttr (E_loc (v := .ref i.a) (.tail _ (.tail _ (.tail _ (.head _)))) (R_getSlot H.X H.s1 (.inl (mem_obj him)) (Y₂.ds i him) rfl rfl
      (E_callV (f := .builtin "len") (fun {Q} h => E_blt H.base (.head _) h) (E_items_cons (E_loc (v := .ref tt) (.tail _ (.tail _ (.head _))) (E_items_nil (R_len_tup (htt.mono hG') (by simp [strValues]; omega) fun tk => B_iadd fun tk2 =>
        R_setSlot H.X H.s1 put_obj (Y₂.ds i him) ?_))))))))
    dsimp only
    have hl₁ : (A₀ ++ i :: B₀).length ≤ is.length + 1 := by
      rcases hT with ⟨_, h⟩ | ⟨_, h, _, _⟩
      · rw [h]; omega
      · rw [h]; simp
    refine X_one (X_ForV (AddI C G₁ k x dx dn tt i.a po fi t u nm tn is.length b (ps.map (·.1)) (addNp (touch (absG is) nm) nm ps.length)) (fun h => E_loc (v := .ref tt) (.tail _ (.tail _ (.head _))) h) (IterOn.tuple hR.hd (htt.mono hG')) ?_ ?_ ?_)
    · have nd : ((absG (A₀ ++ i :: B₀)).map (·.1)).Nodup := by rw [ha₁]; exact touch_nodup hn
      have eg : ∀ nt, absG (A₀ ++ { i with np := i.np + ((strValues ps).length : Int), nt := nt } :: B₀) = addNp (touch (absG is) nm) nm ps.length := fun nt => by
        rw [← ha₁, absG_cons, absG_cons]
        rw [absG_cons] at nd
        have := upd_split (f := fun q => (q.1, q.2.1 + (ps.length : Int), q.2.2)) nd
        unfold addNp
        rw [show i.abs.1 = nm from hi] at this
        rw [this]
        simp [NI.abs, strValues, hi]
      refine ⟨G', k', _, none, none, hG', hk', Y₂.put rfl, by simpa using hl₁, ?_, ?_, ?_⟩
      · rw [eg, addNp_names]; exact touch_nodup hn
      · rw [eg]; exact (hb.touch nm).addNp _ _
      · rw [eg]; rfl
    · intro j p₂ hj hI9
      refine hI9.casesOn ?_
      intro G₂ k₂ is₂ o1 o2 hG₂ hk₂ Y₃ hl₂ nd₂ sm₂ ha₂
      refine AsgRun.name fun v ⟨_, hv⟩ => ?_
      have hj' : j < ps.length := by simpa [strValues] using hj
      have ev : v = .str ps[j].1 ps[j].2 := by
        have : (strValues ps)[j]? = some (.str ps[j].1 ps[j].2) := by simp [strValues, hj']
        rw [this] at hv; exact (Option.some.inj hv).symm
      subst ev
      refine storeLoc (.tail (.tail (.tail (.tail .head)))) (Run.abs fun Q1 hQ1 => ?_)
      dsimp only at hQ1 ⊢
      refine X_cons (X_Assign (E_methF hog hdg (E_loc (v := .ref x) (.head _) (R_method H.X H.mGet Y₃.inst (.head _) rfl ⟨rfl, E_items_cons (E_loc (v := .str ps[j].1 ps[j].2) (.tail _ (.tail _ (.tail _ (.tail _ (.head _))))) (E_items_nil
        (R_call (Nr := []) (by rw [List.append_nil]) ((w_info H (d := d + 1) (hR.less (by omega)) Y₃ (by omega)).mono fun v G' N' k' hv => ?_))))⟩))))
      refine hv.casesOn ?_
      intro G' k' hG₄ hk₄ is₄ i₄ hi₄ Y₄ hT₄
      have him₄ : i₄ ∈ is₄ := by
        rcases hT₄ with ⟨h, rfl⟩ | ⟨h, rfl, _, _⟩
        · exact (lookI_some h).1
        · simp
      have ha₄ := abs_touch hT₄ hi₄
      have hl₄ : is₄.length ≤ is₂.length + 1 := by
        rcases hT₄ with ⟨_, h⟩ | ⟨_, h, _, _⟩
        · rw [h]; omega
        · rw [h]; simp
      have sm₄ : Small (absG is₄) (b + j) := by rw [ha₄]; exact sm₂.touch _
      have nd₄ : ((absG is₄).map (·.1)).Nodup := by rw [ha₄]; exact touch_nodup nd₂
      refine Run.perm (N' := sN C dn dx .none po fi t u is₄) (by rw [List.append_nil]) (storeLoc (.tail (.tail (.tail (.tail (.tail .head))))) ?_)
      dsimp only
      obtain ⟨A₄, B₄, rfl⟩ := List.append_of_mem him₄
      refine X_one (X_Expr (E_meth F.slot_list_append F.plainAttrs_list F.type_list_append (E_Attr (E_loc (v := .ref i₄.a) (.tail _ (.tail _ (.tail _ (.tail _ (.tail _ (.head _)))))) (R_getSlot H.X H.s2 (.inl (mem_obj him₄)) (Y₄.ds i₄ him₄) rfl rfl
        ⟨HasT.list (.inr (mem_suc him₄)), E_items_cons (E_loc (v := .str nm tn) (.tail _ (.head _)) (E_items_nil (R_append (vs := strValues i₄.sc) (x := .str nm tn) (N' := sN C dn dx .none po fi t u (A₄ ++ { i₄ with sc := i₄.sc ++ [(nm, tn)] } :: B₄)) ?_ ?_ ⟨(fun _ e => nomatch e), ?_⟩)))⟩)))))
      · have : strValues i₄.sc ++ [.str nm tn] = strValues (i₄.sc ++ [(nm, tn)]) := by simp [strValues]
        rw [this]; exact put_suc
      · have := sm₄ i₄.abs (by rw [absG_cons]; simp)
        simp only [NI.abs, List.length_map] at this
        simp only [strValues, List.length_map]
        rw [sizeLine_eq]; omega
      · have ea : absG (A₄ ++ { i₄ with sc := i₄.sc ++ [(nm, tn)] } :: B₄) = addSc (touch (absG is₂) ps[j].1) ps[j].1 nm := by rw [abs_addSc nd₄, ha₄, hi₄]
        refine hQ1 _ _ ⟨_, _, _, _, _, GLe.trans hG₂ hG₄, Nat.le_trans hk₂ hk₄, Y₄.put rfl, ?_, ?_, ?_, ?_⟩
        · simp only [List.length_append, List.length_cons] at hl₄ ⊢; omega
        · rw [ea, addSc_names]; exact touch_nodup nd₂
        · rw [ea]; exact (sm₂.touch _).addSc _ _
        · rw [ea, ha₂, List.take_add_one, List.getElem?_map, List.getElem?_eq_getElem hj', Option.map_some, Option.toList_some, List.foldl_append]; rfl
    · intro p₂ hI9
      refine hI9.casesOn ?_
      intro G₂ k₂ is₂ o1 o2 hG₂ hk₂ Y₃ hl₂ nd₂ sm₂ ha₂
      refine X_nil (hQ0 _ _ ⟨GLe.trans hG₁ hG₂, hk₂, is₂, Y₃, ?_⟩)
      rw [ha₂, List.take_of_length_le (by simp [strValues])]; unfold gAdd; rw [List.length_map]
end Four
end Mine

open PySem PySem.Calls PyProof.Rows
open PySem.W (instObj emptyDict)
set_option Elab.async false
set_option linter.unusedVariables false
set_option maxRecDepth 100000
namespace Mine
namespace Four
variable {C : Cx} {A : Around}

/-! the sorter when all is added: its dict and the lists of successors are frozen -/
def NI.cell (i : NI) : Addr × Cell := (i.a, slotC 65 i.d [some (.str i.nm i.t), some (.int i.np i.nt), some (.ref i.l)])
def fN (dn dx : Addr) (rd : Value) (po fi : Int) (t u : Tok) (is : List NI) : List (Addr × Cell) := (dx, attrC (skv dn rd po fi t u)) :: is.map NI.cell
structure LayF (C : Cx) (G : Addr → Option Obj) (x dx dn : Addr) (is : List NI) : Prop where
  inst : G x = some (instObj 162 dx)
  dict : DictG C.w G dn (is.map NI.ent)
  ds : ∀ i ∈ is, G i.d = some emptyDict
  sl : ∀ i ∈ is, ListAt G i.l (strValues i.sc)
theorem LayF.mono {G G' : Addr → Option Obj} {x dx dn : Addr} {is : List NI} (h : LayF C G x dx dn is) (g : GLe G G') : LayF C G' x dx dn is :=
  ⟨g _ _ h.inst, h.dict.mono g, fun i hi => g _ _ (h.ds i hi), fun i hi => (h.sl i hi).mono g⟩
theorem freezeAll {α : Type} {L : Addr} {t : Sem α} {Q : α → Pt → Prop} : ∀ (is : List NI) {G : Addr → Option Obj} {m : List (Str × Option Value)} {N : List (Addr × Cell)} {k : Nat},
    (∀ G', GLe G G' → (∀ i ∈ is, ListAt G' i.l (strValues i.sc)) → Run C A L t ⟨G', m, N, k⟩ Q) → Run C A L t ⟨G, m, is.map (fun i => (i.l, listC (strValues i.sc))) ++ N, k⟩ Q
  | [], G, m, N, k, h => h G (GLe.refl _) fun i hi => by simp at hi
  | i :: r, G, m, N, k, h => by
    refine Run.freeze .head fun o G₁ hc hG hn => ?_
    refine freezeAll r fun G₂ hG₂ hr => h G₂ (GLe.trans (by rw [hG]; exact GLe.add hn) hG₂) fun j hj => ?_
    rcases List.mem_cons.mp hj with rfl | hj
    · exact (show ListAt G₁ j.l (strValues j.sc) by rw [hG]; exact ListAt.new hc).mono hG₂
    · exact hr j hj
theorem cells_perm : ∀ is : List NI, List.Perm (is.flatMap NI.cells) (is.map (fun i => (i.l, listC (strValues i.sc))) ++ is.map NI.cell)
  | [] => .nil
  | i :: r => by
    rw [List.flatMap_cons, List.map_cons, List.map_cons]
    show List.Perm (NI.cell i :: (i.l, listC (strValues i.sc)) :: r.flatMap NI.cells) ((i.l, listC (strValues i.sc)) :: (r.map (fun i => (i.l, listC (strValues i.sc))) ++ NI.cell i :: r.map NI.cell))
    refine (List.Perm.swap ..).trans (.cons _ ?_)
    exact (List.Perm.cons _ (cells_perm r)).trans List.perm_middle.symm
theorem toFrozen {α : Type} {L : Addr} {tr : Sem α} {Q : α → Pt → Prop} {G : Addr → Option Obj} {m : List (Str × Option Value)} {R : List (Addr × Cell)} {k : Nat} {x dx dn : Addr} {rd : Value} {po fi : Int} {t u : Tok} {is : List NI} (Y : Lay G x dx dn is)
    (h : ∀ G', GLe G G' → LayF C G' x dx dn is → Run C A L tr ⟨G', m, fN dn dx rd po fi t u is ++ R, k⟩ Q) : Run C A L tr ⟨G, m, sN C dn dx rd po fi t u is ++ R, k⟩ Q := by
  have hp : List.Perm (sN C dn dx rd po fi t u is ++ R) ((dn, dictC C.w (is.map NI.ent)) :: (is.map (fun i => (i.l, listC (strValues i.sc))) ++ (fN dn dx rd po fi t u is ++ R))) := by
    unfold sN fN
    refine (List.Perm.swap ..).trans (.cons _ ?_)
    refine List.Perm.trans (List.Perm.cons _ (List.Perm.append_right _ (cells_perm is))) ?_
    rw [List.append_assoc]
    exact List.perm_middle.symm
  refine Run.perm hp (Run.freeze .head fun o G₁ hc hG hn => ?_)
  have g1 : GLe G G₁ := by rw [hG]; exact GLe.add hn
  refine freezeAll is fun G₂ hG₂ hl => h G₂ (GLe.trans g1 hG₂) ⟨hG₂ _ _ (g1 _ _ Y.inst), ⟨Y.sys, o, hG₂ _ _ (by rw [hG]; exact addG_self), hc⟩, fun i hi => hG₂ _ _ (g1 _ _ (Y.ds i hi)), hl⟩
theorem fput {dn dx : Addr} {rd : Value} {po fi : Int} {t u : Tok} {A₀ B₀ : List NI} {R : List (Addr × Cell)} {i : NI} {np : Int} {nt : Tok} :
    PutN (fN dn dx rd po fi t u (A₀ ++ i :: B₀) ++ R) i.a (slotC 65 i.d [some (.str i.nm i.t), some (.int i.np i.nt), some (.ref i.l)]) (slotC 65 i.d [some (.str i.nm i.t), some (.int np nt), some (.ref i.l)]) (fN dn dx rd po fi t u (A₀ ++ { i with np := np, nt := nt } :: B₀) ++ R) := by
  unfold fN
  rw [List.map_append, List.map_append, List.map_cons, List.map_cons, List.cons_append, List.cons_append, List.append_assoc, List.append_assoc]
  exact .tail (PutN.mid _)
theorem fmem {dn dx : Addr} {rd : Value} {po fi : Int} {t u : Tok} {is : List NI} {R : List (Addr × Cell)} {i : NI} (h : i ∈ is) : (i.a, slotC 65 i.d [some (.str i.nm i.t), some (.int i.np i.nt), some (.ref i.l)]) ∈ fN dn dx rd po fi t u is ++ R :=
  List.mem_append_left _ (.tail _ (List.mem_map_of_mem (f := NI.cell) h))
theorem LayF.put {G : Addr → Option Obj} {x dx dn : Addr} {A₀ B₀ : List NI} {i : NI} {np : Int} {nt : Tok} (h : LayF C G x dx dn (A₀ ++ i :: B₀)) : LayF C G x dx dn (A₀ ++ { i with np := np, nt := nt } :: B₀) := by
  have e : (A₀ ++ { i with np := np, nt := nt } :: B₀).map NI.ent = (A₀ ++ i :: B₀).map NI.ent := by simp only [List.map_append, List.map_cons]; rfl
  refine ⟨h.inst, by rw [e]; exact h.dict, fun z hz => ?_, fun z hz => ?_⟩
  · rcases List.mem_append.mp hz with hz | hz
    · exact h.ds z (List.mem_append_left _ hz)
    · rcases List.mem_cons.mp hz with rfl | hz
      · exact h.ds i (by simp)
      · exact h.ds z (List.mem_append_right _ (List.mem_cons_of_mem _ hz))
  · rcases List.mem_append.mp hz with hz | hz
    · exact h.sl z (List.mem_append_left _ hz)
    · rcases List.mem_cons.mp hz with rfl | hz
      · exact h.sl i (by simp)
      · exact h.sl z (List.mem_append_right _ (List.mem_cons_of_mem _ hz))
def scOf (is : List NI) (n : Str) : List Str := ((lookI is n).map fun i => i.sc.map (·.1)).getD []
def namesOf (is : List NI) : List Str := is.map (·.nm)
theorem lookI_mem {is : List NI} (nd : (namesOf is).Nodup) {i : NI} (h : i ∈ is) : lookI is i.nm = some i := by
  induction is with
  | nil => simp at h
  | cons j r ih =>
    obtain ⟨n1, n2⟩ := List.nodup_cons.mp nd
    unfold lookI
    rcases List.mem_cons.mp h with rfl | h
    · rw [List.find?_cons_of_pos (by simp)]
    · have : ¬ j.nm = i.nm := fun e => n1 (by show j.nm ∈ _; rw [e]; exact List.mem_map_of_mem (f := (·.nm)) h)
      rw [List.find?_cons_of_neg (by simpa using this)]
      exact ih n2 h
theorem scOf_mem {is : List NI} (nd : (namesOf is).Nodup) {i : NI} (h : i ∈ is) : scOf is i.nm = i.sc.map (·.1) := by unfold scOf; rw [lookI_mem nd h]; rfl
end Four
end Mine

open PySem PySem.Calls PyProof.Rows
open PySem.W (instObj emptyDict)
set_option Elab.async false
set_option linter.unusedVariables false
set_option maxRecDepth 100000
namespace Mine
namespace Four
variable {C : Cx} {A : Around}

theorem nodup_len : ∀ {A B : List Str}, A.Nodup → (∀ x ∈ A, x ∈ B) → A.length ≤ B.length
  | [], _, _, _ => Nat.zero_le _
  | a :: A, B, nd, h => by
    obtain ⟨n1, n2⟩ := List.nodup_cons.mp nd
    have hb := h a (by simp)
    have ih := nodup_len n2 (B := B.erase a) fun x hx => (List.mem_erase_of_ne (fun e : x = a => n1 (by rw [← e]; exact hx))).mpr (h x (List.mem_cons_of_mem _ hx))
    rw [List.length_erase_of_mem hb] at ih
    have : 0 < B.length := List.length_pos_of_mem hb
    simp only [List.length_cons]; omega
/-- a place of the stack of _find_cycle -/
structure SE where
  ni : NI
  t : Tok
  jt : Tok
  b : Addr
  it : Addr
  i : Nat
def SE.cell (e : SE) : Addr × Cell := (e.it, liC e.ni.l e.i)
def absK (K : List SE) : List (Str × Nat) := K.map fun e => (e.ni.nm, e.i)
def kvsOf : List SE → List (Str × Value)
  | [] => []
  | e :: r => kvsOf r ++ [(e.ni.nm, .int r.length e.jt)]
def stkOf : List SE → List (Str × Tok)
  | [] => []
  | e :: r => stkOf r ++ [(e.ni.nm, e.t)]
def itsOf : List SE → List Value
  | [] => []
  | e :: r => itsOf r ++ [.ref e.b]
theorem kvsOf_names : ∀ K : List SE, ∀ x, x ∈ (kvsOf K).map (·.1) ↔ x ∈ (absK K).map (·.1)
  | [], x => Iff.rfl
  | e :: r, x => by
    have ih := kvsOf_names r x
    rw [show kvsOf (e :: r) = kvsOf r ++ [(e.ni.nm, .int r.length e.jt)] from rfl, show absK (e :: r) = (e.ni.nm, e.i) :: absK r from rfl]
    simp only [List.map_append, List.map_cons, List.map_nil, List.mem_append, List.mem_cons, List.not_mem_nil, or_false]
    rw [ih]
    exact or_comm
theorem kvsOf_len : ∀ K : List SE, (kvsOf K).length = K.length
  | [] => rfl
  | e :: r => by unfold kvsOf; rw [List.length_append, kvsOf_len r]; rfl
theorem stkOf_len : ∀ K : List SE, (stkOf K).length = K.length
  | [] => rfl
  | e :: r => by unfold stkOf; rw [List.length_append, stkOf_len r]; rfl
theorem itsOf_len : ∀ K : List SE, (itsOf K).length = K.length
  | [] => rfl
  | e :: r => by unfold itsOf; rw [List.length_append, itsOf_len r]; rfl
theorem strValues_snoc (a : List (Str × Tok)) (q : Str × Tok) : strValues (a ++ [q]) = strValues a ++ [.str q.1 q.2] := by unfold strValues; rw [List.map_append]; rfl
/-- a place that stands in the stack -/
theorem valueAt_kvs : ∀ {K : List SE} {n : Str}, ((absK K).map (·.1)).Nodup → n ∈ (absK K).map (·.1) → ∃ j jt, valueAt (kvsOf K) n = some (.int (j : Nat) jt) ∧ j < K.length
  | [], _, _, h => by simp [absK] at h
  | e :: r, n, nd, h => by
    unfold absK at nd h
    rw [List.map_cons, List.map_cons] at nd h
    obtain ⟨n1, n2⟩ := List.nodup_cons.mp nd
    have hn : e.ni.nm ∉ (kvsOf r).map (·.1) := fun hm => n1 ((kvsOf_names r _).mp hm)
    rcases List.mem_cons.mp h with rfl | h
    · exact ⟨r.length, e.jt, valueAt_last hn, by simp⟩
    · obtain ⟨j, jt, h1, h2⟩ := valueAt_kvs n2 h
      refine ⟨j, jt, ?_, by simp; omega⟩
      unfold kvsOf
      unfold valueAt at h1 ⊢
      rw [List.find?_append]
      cases hf : (kvsOf r).find? (fun kv => decide (kv.1 = n)) with
      | none => rw [hf] at h1; cases h1
      | some q => rw [hf] at h1; exact h1

/-- what _find_cycle owns: its dict of places, its set, its two lists, the iterators -/
def cN (C : Cx) (n2s se its ss : Addr) (K : List SE) (Sf : Str → Bool) (n : Nat) (base : List (Addr × Cell)) : List (Addr × Cell) :=
  (n2s, kvC C (kvsOf K)) :: (se, setC C Sf n) :: (its, listC (itsOf K)) :: (ss, listC (strValues (stkOf K))) :: (K.map SE.cell ++ base)
structure KOk (G : Addr → Option Obj) (is : List NI) (K : List SE) : Prop where
  mem : ∀ e ∈ K, e.ni ∈ is
  mw : ∀ e ∈ K, MwG G e.b e.it
abbrev mF (x dn ss its se n2s : Addr) (o : Option Value) : List (Str × Option Value) := [("self", some (.ref x)), ("n2i", some (.ref dn)), ("stack", some (.ref ss)), ("itstack", some (.ref its)), ("seen", some (.ref se)), ("node2stacki", some (.ref n2s)), ("node", o)]
structure SeenOk (F : List Str) (K : List SE) (Sf : Str → Bool) (n : Nat) : Prop where
  s : ∀ x, Sf x = decide (x ∈ F ++ (absK K).map (·.1))
  n : n = (F ++ (absK K).map (·.1)).length
/-- at the head of the inner loop -/
inductive HeadP (x dn ss its se n2s : Addr) (C : Cx) (G₀ : Addr → Option Obj) (k₀ : Nat) (is : List NI) (base : List (Addr × Cell)) (s : Str) (F₀ : List Str) (m : Nat) : Pt → Prop
  | mk (G : Addr → Option Obj) (k : Nat) (F : List Str) (K : List SE) (Sf : Str → Bool) (n : Nat) (node : Str) (tn : Tok) (h1 : GLe G₀ G) (h2 : k₀ ≤ k) (h3 : ∀ z ∈ F₀, z ∈ F) (h4 : KOk G is K) (h5 : SeenOk F K Sf n)
      (h6 : Dfs.HS (scOf is) (namesOf is) s F (absK K) node) (h7 : Dfs.M (scOf is) (namesOf is) F (absK K) = m) : HeadP x dn ss its se n2s C G₀ k₀ is base s F₀ m ⟨G, mF x dn ss its se n2s (some (.str node tn)), cN C n2s se its ss K Sf n base, k⟩
inductive OpenP (x dn ss its se n2s : Addr) (C : Cx) (G₀ : Addr → Option Obj) (k₀ : Nat) (is : List NI) (base : List (Addr × Cell)) (s : Str) (F₀ : List Str) (m : Nat) (c : Nat) : Pt → Prop
  | mk (G : Addr → Option Obj) (k : Nat) (F : List Str) (K : List SE) (Sf : Str → Bool) (n : Nat) (o : Option Value) (h1 : GLe G₀ G) (h2 : k₀ ≤ k) (h3 : ∀ z ∈ F₀, z ∈ F) (h4 : KOk G is K) (h5 : SeenOk F K Sf n)
      (h6 : Dfs.OS (scOf is) (namesOf is) s F (absK K)) (h7 : Dfs.M (scOf is) (namesOf is) F (absK K) ≤ m) (h8 : K.length = c) : OpenP x dn ss its se n2s C G₀ k₀ is base s F₀ m c ⟨G, mF x dn ss its se n2s o, cN C n2s se its ss K Sf n base, k⟩
inductive DoneP (x dn ss its se n2s : Addr) (C : Cx) (G₀ : Addr → Option Obj) (k₀ : Nat) (is : List NI) (base : List (Addr × Cell)) (s : Str) (F₀ : List Str) : Pt → Prop
  | mk (G : Addr → Option Obj) (k : Nat) (F : List Str) (Sf : Str → Bool) (n : Nat) (o : Option Value) (h1 : GLe G₀ G) (h2 : k₀ ≤ k) (h3 : ∀ z ∈ F₀, z ∈ F) (h4 : SeenOk F [] Sf n) (h5 : F.Nodup) (h6 : ∀ y ∈ F, y ∈ namesOf is) (h7 : Dfs.Fin (scOf is) F)
      (h8 : s ∈ F) : DoneP x dn ss its se n2s C G₀ k₀ is base s F₀ ⟨G, mF x dn ss its se n2s o, cN C n2s se its ss [] Sf n base, k⟩
/-- at the head of the outer loop -/
inductive RoundP (x dn ss its se n2s : Addr) (C : Cx) (G₀ : Addr → Option Obj) (k₀ : Nat) (is : List NI) (base : List (Addr × Cell)) (j : Nat) : Pt → Prop
  | mk (G : Addr → Option Obj) (k : Nat) (F : List Str) (Sf : Str → Bool) (n : Nat) (o : Option Value) (h1 : GLe G₀ G) (h2 : k₀ ≤ k) (h3 : SeenOk F [] Sf n) (h4 : F.Nodup) (h5 : ∀ y ∈ F, y ∈ namesOf is) (h6 : Dfs.Fin (scOf is) F)
      (h7 : ∀ z ∈ (namesOf is).take j, z ∈ F) : RoundP x dn ss its se n2s C G₀ k₀ is base j ⟨G, mF x dn ss its se n2s o, cN C n2s se its ss [] Sf n base, k⟩
/-- a cycle is handed back -/
inductive CycP (C : Cx) (G₀ : Addr → Option Obj) (k₀ : Nat) (is : List NI) (base : List (Addr × Cell)) : Flow → Pt → Prop
  | mk (l : Addr) (vs : List Value) (junk : List (Addr × Cell)) (h1 : vs ≠ []) (h2 : vs.length ≤ 100000) {G : Addr → Option Obj} {m : List (Str × Option Value)} {k : Nat} (h3 : GLe G₀ G) (h4 : k₀ ≤ k) (n : Str) (j : Nat) (h5 : n ∈ namesOf is) (h6 : Dfs.Reach (scOf is) (j + 1) n n) :
      CycP C G₀ k₀ is base (.ret (.ref l)) ⟨G, m, (l, listC vs) :: (junk ++ base), k⟩
/-- the inner loop's end -/
inductive EndP (D : Pt → Prop) (Y : Flow → Pt → Prop) : Flow → Pt → Prop
  | on {p : Pt} (h : D p) : EndP D Y .next p
  | cyc {f : Flow} {p : Pt} (h : Y f p) : EndP D Y f p
/-- what _find_cycle hands back -/
inductive FindP (G : Addr → Option Obj) (k : Nat) (is : List NI) (N : List (Addr × Cell)) : Value → (Addr → Option Obj) → List (Addr × Cell) → Nat → Prop
  | none {G' : Addr → Option Obj} {k' : Nat} (h1 : GLe G G') (h2 : k ≤ k') (F : List Str) (h3 : Dfs.Fin (scOf is) F) (h4 : ∀ y ∈ F, y ∈ namesOf is) (h5 : ∀ n ∈ namesOf is, n ∈ F) : FindP G k is N .none G' N k'
  | some {G' : Addr → Option Obj} {k' : Nat} (h1 : GLe G G') (h2 : k ≤ k') (l : Addr) (vs : List Value) (h3 : vs ≠ []) (h4 : vs.length ≤ 100000) (n : Str) (j : Nat) (h5 : n ∈ namesOf is) (h6 : Dfs.Reach (scOf is) (j + 1) n n) : FindP G k is N (.ref l) G' ((l, listC vs) :: N) k'
end Four
end Mine

open PySem PySem.Calls PyProof.Rows
open PySem.W (instObj emptyDict)
set_option Elab.async false
set_option linter.unusedVariables false
set_option maxRecDepth 100000
namespace Mine
namespace Four
variable {C : Cx} {A : Around}
theorem w_find (H : SCx C) {d : Nat} (hr : Room A (d + 1)) {outer : List Env} (hA : A.frames = some outer) {x dx dn : Addr} {rd : Value} {po fi : Int} {t u : Tok} {is : List NI} {R : List (Addr × Cell)} (hO : Outer outer R) {G : Addr → Option Obj} {k : Nat}
    (Y : LayF C G x dx dn is) (nd : (namesOf is).Nodup) (hc : ∀ n ∈ namesOf is, ∀ m ∈ scOf is n, m ∈ namesOf is) (hz : is.length ≤ 900) (hs : ∀ i ∈ is, i.sc.length ≤ 1000000) :
    CallRun C A 152 [.ref x] G (fN dn dx rd po fi t u is ++ R) k (FindP G k is (fN dn dx rd po fi t u is ++ R)) := by
  obtain ⟨⟨o, ho, hd⟩, hcd⟩ := H.f152
  refine CallRun.dropS (CallRun.go [("self", some (.ref x)), ("n2i", none), ("stack", none), ("itstack", none), ("seen", none), ("node2stacki", none), ("node", none)] H.base hr ho hd hcd (.of_eq (binds := [("self", .ref x)]) rfl) fun L hR => Run.abs fun Q0 hQ0 => ?_)
  refine X_cons (X_Assign (E_Attr (E_loc (v := .ref x) (.head _) (R_getOwn H.X H.o0 Y.inst (.head _) (v := .ref dn) rfl rfl (storeLoc (.tail .head) ?_)))))
  dsimp only
  refine X_cons (X_Assign (E_List (E_items_nil (newList_N (by decide) fun ss => storeLoc (.tail (.tail .head)) ?_))))
  dsimp only
  refine X_cons (X_Assign (E_List (E_items_nil (newList_N (by decide) fun its => storeLoc (.tail (.tail (.tail .head))) ?_))))
  dsimp only
  refine X_cons (X_Assign (E_callV (f := .type "set") (fun {Q} h => E_blt H.base (.tail _ (.tail _ (.tail _ (.head _)))) h) (E_items_nil (R_setNew fun se hse => storeLoc (.tail (.tail (.tail (.tail .head)))) ?_))))
  dsimp only
  refine X_cons (X_Assign (E_Dict0 fun n2s hn2 => Run.weak (c' := kvC C []) .head (fun o h => h.isDictOf) (storeLoc (.tail (.tail (.tail (.tail (.tail .head))))) ?_)))
  dsimp only
  have hsm : (n2s == sysModules) = false := by
    obtain ⟨o3, ho3⟩ := H.hsm
    have : 3 < n2s := hn2 3 o3 ho3
    exact beq_eq_false_iff_ne.mpr fun e => by rw [e] at this; exact absurd this (by decide)
  generalize hb : fN dn dx rd po fi t u is ++ R = base at hQ0 ⊢
  have hOb : Outer outer base := hO.mono fun q hq => by rw [← hb]; exact List.mem_append_right _ hq
  have bmem : ∀ i ∈ is, (i.a, slotC 65 i.d [some (.str i.nm i.t), some (.int i.np i.nt), some (.ref i.l)]) ∈ base := fun i hi => by rw [← hb]; exact fmem hi
  have hlen : ∀ {F : List Str} {K : List SE}, (F ++ (absK K).map (·.1)).Nodup → (∀ y ∈ F ++ (absK K).map (·.1), y ∈ namesOf is) → F.length + K.length ≤ 900 := fun {F K} h1 h2 => by
    have h3 : (F ++ (absK K).map (·.1)).length ≤ (namesOf is).length := nodup_len h1 h2
    unfold absK namesOf at h3
    simp only [List.length_append, List.length_map] at h3
    omega
  refine X_cons (X_ForV (RoundP x dn ss its se n2s C G k is base) (fun h => E_loc (v := .ref dn) at1 h) (IterOn.keys hR.hd Y.dict) ?_ ?_ ?_)
  · refine ⟨G, k, [], fun _ => false, 0, none, GLe.refl _, Nat.le_refl _, ⟨fun x => by simp [absK], rfl⟩, List.nodup_nil, fun y hy => by simp at hy, fun A n B e => ?_, fun z hz => by simp at hz⟩
    have := congrArg List.length e
    simp at this
  · intro j p₂ hj hI9
    refine hI9.casesOn ?_
    intro G' k' Fd Sf n o hG' hk' hSe hnd hsub hfin hdone
    refine AsgRun.name fun v ⟨_, q, tn, hq, hv⟩ => ?_
    subst hv
    have hqi : ∃ i ∈ is, i.nm = q.1 ∧ (namesOf is)[j]? = some q.1 := by
      rw [List.getElem?_map, Option.map_eq_some_iff] at hq
      obtain ⟨i, hi, rfl⟩ := hq
      exact ⟨i, List.mem_of_getElem? hi, rfl, by unfold namesOf; rw [List.getElem?_map, hi]; rfl⟩
    obtain ⟨i₀, hi₀, hi₀n, hjn⟩ := hqi
    have hqn : q.1 ∈ namesOf is := List.mem_of_getElem? hjn
    have htake : ∀ F' : List Str, (∀ z ∈ Fd, z ∈ F') → q.1 ∈ F' → ∀ z ∈ (namesOf is).take (j + 1), z ∈ F' := fun F' h1 h2 z hz => by
      rw [List.take_add_one, hjn] at hz
      rcases List.mem_append.mp hz with hz | hz
      · exact h1 z (hdone z hz)
      · simp at hz; rw [hz]; exact h2
    refine storeLoc (.tail (.tail (.tail (.tail (.tail (.tail .head)))))) (Run.abs fun Q1 hQ1 => ?_)
    dsimp only at hQ1 ⊢
    refine X_cons (X_If (T_Cmp (E_loc (v := .str q.1 tn) (.tail _ (.tail _ (.tail _ (.tail _ (.tail _ (.tail _ (.head _))))))) (E_loc (v := .ref se) (.tail _ (.tail _ (.tail _ (.tail _ (.head _))))) (C_inSet (.tail _ (.head _)) (truthy_bool ?_))))))
    by_cases hq1 : q.1 ∈ Fd
    · rw [show Sf q.1 = true by rw [hSe.s]; simp [absK, hq1], if_pos rfl]
      refine X_one (X_Continue (hQ1 _ _ ⟨G', k', Fd, Sf, n, _, hG', hk', hSe, hnd, hsub, hfin, htake Fd (fun z h => h) hq1⟩)) (fun _ h => h)
    · rw [show Sf q.1 = false by rw [hSe.s]; simp [absK, hq1], if_neg (by decide)]
      refine X_nil ?_
      dsimp only
      refine X_one (Run.mono (Q := EndP (DoneP x dn ss its se n2s C G k is base q.1 Fd) (CycP C G k is base)) (X_While (HeadP x dn ss its se n2s C G k is base q.1 Fd) (Dfs.M (scOf is) (namesOf is) Fd []) ?_ ?_) ?_)
      · exact ⟨G', k', Fd, [], Sf, n, q.1, tn, hG', hk', fun z h => h, ⟨fun _ h => by simp at h, fun _ h => by simp at h⟩, hSe, Dfs.HS.first hnd hsub hfin hqn hq1, rfl⟩
      · intro m p₁ hI9
        refine hI9.casesOn ?_
        intro G₁ k₁ F₁ K Sf₁ n₁ node t₁ hG₁ hk₁ hF₁ hK hSe₁ hS hM
        have Y₁ := Y.mono hG₁
        have hl₁ := hlen hS.nd hS.sub
        obtain ⟨nn₁, nn₂, nn₃⟩ := List.nodup_append.mp hS.nd
        refine T_val (E_bool (truthy_bool ?_))
        rw [if_pos rfl]
        refine Run.abs fun Q2 hQ2 => ?_
        refine X_cons (Run.mono (Q := EndP (fun p => ∃ c, OpenP x dn ss its se n2s C G k is base q.1 Fd m c p) (CycP C G k is base)) (Run.abs fun Q3 hQ3 => X_If (T_Cmp (E_loc (v := .str node t₁) at6 (E_loc (v := .ref se) at4 (C_inSet at1 (truthy_bool ?_)))))) ?_)
        · rw [hSe₁.s]
          by_cases hn : node ∈ F₁ ++ (absK K).map (·.1)
          · rw [decide_eq_true hn, if_pos rfl]
            refine X_one (X_If (T_Cmp (E_loc (v := .str node t₁) at6 (E_loc (v := .ref n2s) at5 (C_inK at0 hsm (truthy_bool ?_))))))
            rw [valueAt_mem]
            by_cases hk : node ∈ (kvsOf K).map (·.1)
            · rw [decide_eq_true hk, if_pos rfl]
              have hk' := (kvsOf_names K node).mp hk
              obtain ⟨j', jt, hj1, hj2⟩ := valueAt_kvs nn₂ hk'
              refine X_one (X_Return (E_BinOp (E_Sb F.slot_list_getitem.lookup (E_loc (v := .ref ss) at2 (E_Slice (E_partSome (E_Sb F.slot_dict_getitem.lookup (E_loc (v := .ref n2s) at5 (E_loc (v := .str node t₁) at6 ⟨HasTy.kv at0, G_kv at0 hj1 (E_partNone (E_partNone fun a G₂ hG₂ hsl => ?_))⟩)))))))))
              refine ⟨HasTy.list (.inr at3), G_listS (.inr at3) hsl (.int _ _) .none .none (by simp) (by simp only [strValues, List.length_map, stkOf_len]; rw [sizeLine_eq]; omega) fun b => Run.freeze .head fun ob G₃ hcb hGe hne => ?_⟩
              have g3 : GLe G₁ G₃ := GLe.trans hG₂ (by rw [hGe]; exact GLe.add hne)
              have lb : ListG G₃ b (slicePick (strValues (stkOf K)).toArray (some (j' : Int)) none none).toList := by rw [hGe]; exact ListG.new hcb
              have lz : (slicePick (strValues (stkOf K)).toArray (some (j' : Int)) none none).toList.length ≤ 900 := by
                have := slicePick_size_le (strValues (stkOf K)).toArray (some (j' : Int)) none none
                simp only [strValues, List.size_toArray, List.length_map, stkOf_len] at this
                rw [Array.length_toList]
                simp only [strValues] at *
                omega
              generalize (slicePick (strValues (stkOf K)).toArray (some (j' : Int)) none none).toList = vs at lb lz
              clear hGe
              refine E_List (E_items_cons (E_loc (v := .str node t₁) at6 (E_items_nil (newList_N (by simp [sizeLine_eq]) fun c => Run.freeze .head fun oc G₄ hcc hGe' hne' => ?_))))
              have g4 : GLe G₃ G₄ := by rw [hGe']; exact GLe.add hne'
              have lc : ListG G₄ c [.str node t₁] := by rw [hGe']; exact ListG.new hcc
              refine B_addL (lb.mono g4) lc (by rw [sizeLine_eq]; simp; omega) fun a' => hQ3 _ _ (.cyc ?_)
              obtain ⟨nc, jc, hc1, hc2⟩ := hS.cyc hk'
              refine CycP.mk (base := base) a' (vs ++ [.str node t₁]) ([(n2s, kvC C (kvsOf K)), (se, setC C Sf₁ n₁), (its, listC (itsOf K)), (ss, listC (strValues (stkOf K)))] ++ K.map SE.cell) (by simp) (by simp; omega) (GLe.trans hG₁ (GLe.trans g3 g4)) hk₁ nc jc hc1 hc2
            · rw [decide_eq_false hk, if_neg (by decide)]
              have hnF : node ∈ F₁ := (List.mem_append.mp hn).resolve_right fun h => hk ((kvsOf_names K node).mpr h)
              exact X_nil (hQ3 _ _ (.on ⟨K.length, G₁, k₁, F₁, K, Sf₁, n₁, _, hG₁, hk₁, hF₁, hK, hSe₁, hS.pass hnF, Nat.le_of_eq hM, rfl⟩))
          · rw [decide_eq_false hn, if_neg (by decide)]
            have hnK : node ∉ (absK K).map (·.1) := fun h => hn (List.mem_append_right _ h)
            obtain ⟨i, hi, rfl⟩ : ∃ i ∈ is, i.nm = node := by
              have := hS.nin
              unfold namesOf at this
              obtain ⟨i, hi, e⟩ := List.mem_map.mp this
              exact ⟨i, hi, e⟩
            have hget : dget (is.map NI.ent) i.nm = some (.ref i.a) := by rw [dget_ent, lookI_mem nd hi]; rfl
            refine X_cons (X_Expr (E_meth F.slot_set_add F.plainAttrs_set F.type_set_add (E_loc (v := .ref se) at4 ⟨HasT.set at1, E_items_cons (E_loc (v := .str i.nm t₁) at6 (E_items_nil (R_setAdd (.tail .head) ?_ ⟨(fun _ e => nomatch e), ?_⟩)))⟩)))
            · rw [hSe₁.n, List.length_append]
              have : ((absK K).map (·.1)).length = K.length := by simp [absK]
              rw [this]
              unfold scanBound; omega
            dsimp only
            refine X_cons (X_Expr (E_meth F.slot_list_append F.plainAttrs_list F.type_list_append (E_loc (v := .ref its) at3 ⟨HasT.list (.inr at2), E_items_cons ?_⟩)))
            refine E_Attr (E_callV (f := .builtin "iter") (fun {Q} h => E_blt H.base at1 h) (E_items_cons ?_))
            refine E_Attr (E_Sb F.slot_dict_getitem.lookup (E_loc (v := .ref dn) at1 (E_loc (v := .str i.nm t₁) at6 ⟨HasTy.dict Y₁.dict, G_dict Y₁.dict hget ?_⟩)))
            refine R_getSlot H.X H.s2 (.inl (.tail _ (.tail _ (.tail _ (.tail _ (List.mem_append_right _ (bmem i hi))))))) (Y₁.ds i hi) rfl rfl (E_items_nil ?_)
            refine R_iter (.inl (Y₁.sl i hi)) fun it => R_getNext (.head _) fun b G₂ hG₂ hmw => E_items_nil ?_
            refine R_append (.tail (.tail (.tail .head))) ?_ ⟨(fun _ e => nomatch e), ?_⟩
            · rw [itsOf_len, sizeLine_eq]; omega
            have Y₂ := Y₁.mono hG₂
            dsimp only
            refine X_cons (X_AssignSub (E_callV (f := .builtin "len") (fun {Q} h => E_blt H.base at0 h) (E_items_cons (E_loc (v := .ref ss) at2 (E_items_nil (R_len_list (.inr at4) (by simp only [strValues, List.length_map, stkOf_len]; omega) fun tk =>
              E_loc (v := .ref n2s) at5 (E_loc (v := .str i.nm t₁) at6 (S_kv (.tail .head) (by rw [kvsOf_len, sizeLine_eq]; omega) ?_))))))))
            dsimp only
            refine X_cons (X_Expr (E_meth F.slot_list_append F.plainAttrs_list F.type_list_append (E_loc (v := .ref ss) at2 ⟨HasT.list (.inr at4), E_items_cons (E_loc (v := .str i.nm t₁) at6 (E_items_nil (R_append (.tail (.tail (.tail (.tail .head)))) ?_ ⟨(fun _ e => nomatch e), ?_⟩)))⟩)))
            · simp only [strValues, List.length_map, stkOf_len]; rw [sizeLine_eq]; omega
            dsimp only
            have hkn : i.nm ∉ (kvsOf K).map (·.1) := fun h => hnK ((kvsOf_names K _).mp h)
            have e1 : stored (kvsOf K) i.nm (.int ((strValues (stkOf K)).length : Nat) tk) = kvsOf (⟨i, t₁, tk, b, it, 0⟩ :: K) := by
              rw [stored_new hkn]
              simp only [strValues, List.length_map, stkOf_len]; rfl
            have e2 : strValues (stkOf K) ++ [.str i.nm t₁] = strValues (stkOf (⟨i, t₁, tk, b, it, 0⟩ :: K)) := (strValues_snoc (stkOf K) (i.nm, t₁)).symm
            rw [e1, e2]
            refine Run.perm (N' := cN C n2s se its ss (⟨i, t₁, tk, b, it, 0⟩ :: K) (fun k' => Sf₁ k' || decide (k' = i.nm)) (if Sf₁ i.nm = true then n₁ else n₁ + 1) base) ?_ (X_nil ?_)
            · exact (List.perm_middle (l₁ := [(n2s, kvC C (kvsOf (⟨i, t₁, tk, b, it, 0⟩ :: K))), (se, setC C (fun k' => Sf₁ k' || decide (k' = i.nm)) (if Sf₁ i.nm = true then n₁ else n₁ + 1)), (its, listC (itsOf (⟨i, t₁, tk, b, it, 0⟩ :: K))), (ss, listC (strValues (stkOf (⟨i, t₁, tk, b, it, 0⟩ :: K))))])).symm
            refine hQ3 _ _ (.on ⟨K.length + 1, G₂, k₁, F₁, ⟨i, t₁, tk, b, it, 0⟩ :: K, _, _, _, GLe.trans hG₁ hG₂, hk₁, hF₁, ⟨fun e he => ?_, fun e he => ?_⟩, ⟨fun z => ?_, ?_⟩, hS.push hn, ?_, rfl⟩)
            · rcases List.mem_cons.mp he with rfl | he
              · exact hi
              · exact hK.mem e he
            · rcases List.mem_cons.mp he with rfl | he
              · exact hmw
              · exact (hK.mw e he).mono hG₂
            · rw [hSe₁.s]
              show (_ || _) = decide (z ∈ F₁ ++ i.nm :: (absK K).map (·.1))
              by_cases h1 : z = i.nm
              · simp [h1]
              · simp [h1]
            · rw [hSe₁.s, decide_eq_false hn, if_neg (by decide), hSe₁.n]
              show _ = (F₁ ++ i.nm :: (absK K).map (·.1)).length
              simp only [List.length_append, List.length_cons]; omega
            · have := Dfs.M_push (sc := scOf is) (nodes := namesOf is) (F := F₁) (st := absK K) nd hS.nin hn
              show Dfs.M (scOf is) (namesOf is) F₁ ((i.nm, 0) :: absK K) ≤ m
              omega
        · intro f p hE
          refine hE.casesOn ?_ ?_
          · rintro p ⟨c, hop⟩
            show Run C _ L _ p _
            refine X_one (X_While (OpenP x dn ss its se n2s C G k is base q.1 Fd m) c hop ?_)
            intro c p₂ hI9
            refine hI9.casesOn ?_
            intro G₂ k₂ F₂ K₂ Sf₂ n₂ o₂ hG₂ hk₂ hF₂ hK₂ hSe₂ hS₂ hM₂ hc₂
            have Y₂ := Y.mono hG₂
            have hl₂ := hlen hS₂.nd hS₂.sub
            refine T_val (E_loc (v := .ref ss) at2 (truthy_list (.inr at3) (by simp only [strValues, List.length_map, stkOf_len]; omega) ?_))
            cases K₂ with
            | nil =>
              rw [if_neg (by simp [stkOf, strValues])]
              refine X_one (X_Break (hQ2 _ _ ?_))
              exact .on ⟨G₂, k₂, F₂, Sf₂, n₂, o₂, hG₂, hk₂, hF₂, hSe₂, by simpa [absK] using hS₂.nd, fun y hy => hS₂.sub y (List.mem_append_left _ hy), hS₂.fin, hS₂.stop⟩
            | cons e r =>
              rw [if_pos (by simp [stkOf, strValues])]
              have hei := hK₂.mem e (by simp)
              have hmw := hK₂.mw e (by simp)
              have hsc := scOf_mem nd hei
              have hrl : (e :: r).length = r.length + 1 := rfl
              have eN : cN C n2s se its ss (e :: r) Sf₂ n₂ base = (n2s, kvC C (kvsOf r ++ [(e.ni.nm, .int r.length e.jt)])) :: (se, setC C Sf₂ n₂) :: (its, listC (itsOf r ++ [.ref e.b])) :: (ss, listC (strValues (stkOf r) ++ [.str e.ni.nm e.t])) :: (e.it, liC e.ni.l e.i) :: (r.map SE.cell ++ base) := by
                unfold cN
                rw [show strValues (stkOf (e :: r)) = strValues (stkOf r) ++ [.str e.ni.nm e.t] from strValues_snoc (stkOf r) (e.ni.nm, e.t)]
                rfl
              rw [eN]
              refine Run.abs fun Q4 hQ4 => ?_
              refine X_one (X_Try (outer := outer) (Around.frames_deeper hA) rfl (show ScopeKind.function ≠ ScopeKind.module from by decide) ?_)
              refine XE_cons (XE_Assign (E_callSub (E_Sb F.slot_list_getitem.lookup (E_loc (v := .ref its) at3 (E_Unary (E_int fun ta => U_neg fun tb => ⟨HasTy.list (.inr at2), G_listN (x := .ref e.b) (.inr at2) (by decide) ?_ (by decide) ?_ ?_⟩))))))
              · rw [List.length_append]; simp; omega
              · have : (-1 + ((itsOf r ++ [Value.ref e.b]).length : Int)).toNat = (itsOf r).length := by rw [List.length_append]; simp; omega
                rw [this]; simp
              refine RE_next hR.hd hmw (.inl (Y₂.sl e.ni hei)) _ rfl (.tail (.tail (.tail (.tail .head)))) (fun v hv => ?_) fun hv ex => ⟨ex, _, _, rfl, .new, hOb.mono (fun z hz => ?_), fun T => ?_⟩
              · cases hq : e.ni.sc[e.i]? with
                | none => rw [show (strValues e.ni.sc)[e.i]? = none by simp [strValues, hq]] at hv; cases hv
                | some qm =>
                  have hvv : v = .str qm.1 qm.2 := by
                    rw [show (strValues e.ni.sc)[e.i]? = some (.str qm.1 qm.2) by simp [strValues, hq]] at hv
                    exact (Option.some.inj hv).symm
                  subst hvv
                  have hilt : e.i < (strValues e.ni.sc).length := (List.getElem?_eq_some_iff.mp hv).1
                  have hms : (scOf is e.ni.nm)[e.i]? = some qm.1 := by rw [hsc, List.getElem?_map, hq]; rfl
                  have hilt2 : e.i < (scOf is e.ni.nm).length := (List.getElem?_eq_some_iff.mp hms).1
                  rw [if_pos hilt]
                  refine storeLoc (.tail (.tail (.tail (.tail (.tail (.tail .head)))))) ?_
                  show RunE C _ L _ _ _ _
                  refine XE_one (X_Break ?_).toE
                  have hr := Dfs.M_read (sc := scOf is) (nodes := namesOf is) (F := F₂) (r := absK r) (n := e.ni.nm) (i := e.i) hilt2
                  refine hQ4 _ _ (hQ2 _ _ ⟨Dfs.M (scOf is) (namesOf is) F₂ ((e.ni.nm, e.i + 1) :: absK r), ?_, ?_⟩)
                  · have : Dfs.M (scOf is) (namesOf is) F₂ ((e.ni.nm, e.i) :: absK r) ≤ m := hM₂
                    omega
                  have hI := HeadP.mk (x := x) (dn := dn) (ss := ss) (its := its) (se := se) (n2s := n2s) (C := C) (base := base) G₂ k₂ F₂ ({ e with i := e.i + 1 } :: r) Sf₂ n₂ qm.1 qm.2 hG₂ hk₂ hF₂ ⟨fun z hz => ?_, fun z hz => ?_⟩ ⟨fun z => hSe₂.s z, hSe₂.n⟩ (hS₂.read hms hc) rfl
                  · unfold cN at hI
                    rw [show strValues (stkOf ({ e with i := e.i + 1 } :: r)) = strValues (stkOf r) ++ [.str e.ni.nm e.t] from strValues_snoc (stkOf r) (e.ni.nm, e.t)] at hI
                    exact hI
                  · rcases List.mem_cons.mp hz with rfl | hz
                    · exact hei
                    · exact hK₂.mem z (List.mem_cons_of_mem _ hz)
                  · rcases List.mem_cons.mp hz with rfl | hz
                    · exact hmw
                    · exact hK₂.mw z (List.mem_cons_of_mem _ hz)
              · exact .tail _ (.tail _ (.tail _ (.tail _ (.tail _ (List.mem_append_right _ hz)))))
              · have hq : e.ni.sc[e.i]? = none := by
                  cases hq : e.ni.sc[e.i]? with
                  | none => rfl
                  | some qm => rw [show (strValues e.ni.sc)[e.i]? = some (.str qm.1 qm.2) by simp [strValues, hq]] at hv; cases hv
                have hms : (scOf is e.ni.nm)[e.i]? = none := by rw [hsc, List.getElem?_map, hq]; rfl
                obtain ⟨m₁, m₂, m₃⟩ := List.nodup_append.mp hS₂.nd
                have hnr : e.ni.nm ∉ (kvsOf r).map (·.1) := fun h => (List.nodup_cons.mp m₂).1 ((kvsOf_names r _).mp h)
                refine H_builtin stopIter_exc stopIter_nt stopIter_self (fun {A' p' Q} h => E_blt H.base at5 h) rfl fun G₃ hG₃ => ?_
                refine Run.freeze (.tail (.tail (.tail (.tail .head)))) fun oe G₄ _ hGe hne => ?_
                have g4 : GLe G₂ G₄ := GLe.trans hG₃ (by rw [hGe]; exact GLe.add hne)
                clear hGe
                refine X_cons (X_DelSub (E_loc (v := .ref n2s) at5 (E_meth F.slot_list_pop F.plainAttrs_list F.type_list_pop (E_loc (v := .ref ss) at2 ⟨HasT.list (.inr at3), E_items_nil (R_pop (.tail (.tail (.tail .head))) ?_ (S_delkv .head ?_ (valueAt_last hnr) ?_))⟩))))
                · simp only [strValues, List.length_map, stkOf_len]; rw [sizeLine_eq]; omega
                · rw [List.length_append, kvsOf_len, sizeLine_eq]; simp; omega
                rw [without_last hnr]
                refine X_one (X_ExprA (E_meth F.slot_list_pop F.plainAttrs_list F.type_list_pop (E_loc (v := .ref its) at3 ⟨HasT.list (.inr at2), E_items_nil (R_pop (.tail (.tail .head)) ?_ ?_)⟩)))
                · rw [itsOf_len, sizeLine_eq]; omega
                have hp := Dfs.M_pop (sc := scOf is) (nodes := namesOf is) (F := F₂) (r := absK r) hms
                refine hQ4 _ _ ⟨r.length, by rw [← hc₂]; exact Nat.lt_succ_self _, G₄, k₂, F₂ ++ [e.ni.nm], r, Sf₂, n₂, o₂, GLe.trans hG₂ g4, hk₂, fun z hz => List.mem_append_left _ (hF₂ z hz), ⟨fun z hz => hK₂.mem z (List.mem_cons_of_mem _ hz), fun z hz => (hK₂.mw z (List.mem_cons_of_mem _ hz)).mono g4⟩, ⟨fun z => ?_, ?_⟩, hS₂.pop hms, ?_, rfl⟩
                · rw [hSe₂.s, show F₂ ++ [e.ni.nm] ++ (absK r).map (·.1) = F₂ ++ (absK (e :: r)).map (·.1) by simp [absK]]
                · rw [hSe₂.n, show F₂ ++ [e.ni.nm] ++ (absK r).map (·.1) = F₂ ++ (absK (e :: r)).map (·.1) by simp [absK]]
                · rw [hp]; exact hM₂
          · intro f p hcy
            refine hcy.casesOn ?_
            exact fun l vs junk h1 h2 G₂ m₂ k₂ h3 h4 nc jc h5 h6 => hQ2 _ _ (.cyc ⟨l, vs, junk, h1, h2, h3, h4, nc, jc, h5, h6⟩)
      · intro f p hE
        refine hE.casesOn ?_ ?_
        · intro p hD
          refine hD.casesOn ?_
          intro G₂ k₂ F₂ Sf₂ n₂ o₂ hG₂ hk₂ hF₂ hSe₂ hnd₂ hsub₂ hfin₂ hs₂
          exact hQ1 _ _ ⟨G₂, k₂, F₂, Sf₂, n₂, o₂, hG₂, hk₂, hSe₂, hnd₂, hsub₂, hfin₂, htake F₂ hF₂ hs₂⟩
        · intro f p hcy
          refine hcy.casesOn ?_
          intro l vs junk hvs hvl G₂ m₂ k₂ hG₂ hk₂ nc jc hc1 hc2
          exact hQ1 _ _ (hQ0 _ _ ⟨(l, listC vs) :: base, List.Sublist.cons_cons _ (List.sublist_append_right _ _), fun b hb => .inl (List.mem_cons_of_mem _ hb), .some hG₂ hk₂ l vs hvs hvl nc jc hc1 hc2⟩)
  · intro p₂ hI9
    refine hI9.casesOn ?_
    intro G' k' Fd Sf n o hG' hk' hSe hnd hsub hfin hdone
    refine X_nil (X_one (X_Return (E_none ?_)))
    refine hQ0 _ _ ⟨base, List.sublist_append_right (l₁ := [(n2s, kvC C (kvsOf [])), (se, setC C Sf n), (its, listC (itsOf [])), (ss, listC (strValues (stkOf [])))]) _, fun b hb => .inl hb, .none hG' hk' Fd hfin hsub fun z hz => hdone z ?_⟩
    rw [List.take_of_length_le (by simp [namesOf])]; exact hz
end Four
end Mine

open PySem PySem.Calls PyProof.Rows
open PySem.W (instObj emptyDict)
set_option Elab.async false
set_option linter.unusedVariables false
set_option maxRecDepth 100000
namespace Mine
namespace Four
variable {C : Cx} {A : Around}
def readyOf (is : List NI) : List (Str × Tok) := (is.filter fun i => i.np == 0).map fun i => (i.nm, i.t)
def Acyc (is : List NI) : Prop := ∃ F, Dfs.Fin (scOf is) F ∧ (∀ y ∈ F, y ∈ namesOf is) ∧ ∀ n ∈ namesOf is, n ∈ F
def Cyc (is : List NI) : Prop := ∃ n j, n ∈ namesOf is ∧ Dfs.Reach (scOf is) (j + 1) n n
/-- the i-th node's name -/
def NodeR (is : List NI) (a : Nat) (y : Value) (G : Addr → Option Obj) (k : Nat) : Prop := ∃ i, is[a]? = some i ∧ y = .str i.nm i.t
theorem NodeR.monoR {is : List NI} : MonoR (NodeR is) := fun a y G G' k k' h _ _ => h
theorem NodeR.vals {is : List NI} {ys : List Value} {G : Addr → Option Obj} {k : Nat} (h : Made (NodeR is) ((List.range is.length).filter fun a => (is[a]?.map fun i => i.np == 0).getD false) ys G k) : ys = strValues (readyOf is) := by
  have e := h.vals (val := fun a => is[a]?.map fun i => Value.str i.nm i.t) fun a y ⟨i, h1, h2⟩ => by rw [h1, h2]; rfl
  rw [e]
  unfold readyOf strValues
  rw [← range_sel (fun i : NI => i.np == 0) is, List.map_map, List.map_filterMap]
  rfl
inductive PrepP (G : Addr → Option Obj) (k : Nat) (dn dx : Addr) (po fi : Int) (t u : Tok) (is : List NI) (R : List (Addr × Cell)) : Value → (Addr → Option Obj) → List (Addr × Cell) → Nat → Prop
  | mk {G' : Addr → Option Obj} {k' : Nat} (h1 : GLe G G') (h2 : k ≤ k') (rl : Addr) (h3 : Acyc is) : PrepP G k dn dx po fi t u is R .none G' ((rl, listC (strValues (readyOf is))) :: (fN dn dx (.ref rl) po fi t u is ++ R)) k'
inductive PrepE (G : Addr → Option Obj) (k : Nat) (dn dx : Addr) (po fi : Int) (t u : Tok) (is : List NI) (R : List (Addr × Cell)) : Value → (Addr → Option Obj) → List (Addr × Cell) → Nat → Prop
  | mk {G' : Addr → Option Obj} {k' : Nat} (h1 : GLe G G') (h2 : k ≤ k') (rl T e : Addr) (h3 : Cyc is) : PrepE G k dn dx po fi t u is R (.ref e) G' ((T, tbC) :: (e, excC (.ref 80) (.ref T)) :: (rl, listC (strValues (readyOf is))) :: (fN dn dx (.ref rl) po fi t u is ++ R)) k'
theorem w_prepare (H : SCx C) {d : Nat} (hr : Room A (d + 3)) {outer : List Env} (hA : A.frames = some outer) {x dx dn : Addr} {po fi : Int} {t u : Tok} {is : List NI} {R : List (Addr × Cell)} (hO : Outer outer R) {G : Addr → Option Obj} {k : Nat}
    (Y : LayF C G x dx dn is) (nd : (namesOf is).Nodup) (hc : ∀ n ∈ namesOf is, ∀ m ∈ scOf is n, m ∈ namesOf is) (hz : is.length ≤ 900) (hs : ∀ i ∈ is, i.sc.length ≤ 1000000) :
    CallX C A 117 [.ref x] G (fN dn dx .none po fi t u is ++ R) k (PrepP G k dn dx po fi t u is R) (PrepE G k dn dx po fi t u is R) := by
  obtain ⟨⟨o, ho, hd⟩, hcd⟩ := H.f117
  refine CallX.go [("self", some (.ref x)), ("cycle", none)] H.base hr hA ho hd hcd (.of_eq (binds := [("self", .ref x)]) rfl) fun L hR => RunE.abs fun Q0 E0 hQ0 hE0 => ?_
  refine XE_cons (X_If (T_Cmp (E_Attr (E_loc (v := .ref x) at0 (R_getOwn H.X H.o1 Y.inst (.head _) (v := .none) rfl rfl (E_none (C_isnN (truthy_bool ?_)))))))).toE
  rw [if_neg (by decide)]
  refine X_nil ?_
  dsimp only
  refine XE_cons (X_AssignAttr (E_Comp1 (R := NodeR is) (fun a => (is[a]?.map fun i => i.np == 0).getD false) [] NodeR.monoR ?_)).toE
  refine E_meth F.slot_dict_values F.plainAttrs_dict F.type_dict_values (E_Attr (E_loc (v := .ref x) at0 (R_getOwn H.X H.o0 Y.inst (.head _) (v := .ref dn) rfl rfl ⟨HasT.dict Y.dict, E_items_nil (R_values Y.dict fun v G₁ hG₁ hv => ?_)⟩)))
  have Y₁ := Y.mono hG₁
  refine ⟨_, _, IterOn.values hR.hd hv Y₁.dict, by rw [List.length_map, sizeLine_eq]; omega, fun Cc i v G₂ k₂ hi ⟨_, q, hq, hvq⟩ hG₂ hk₂ => ?_, fun D ys G₂ k₂ hG₂ hk₂ hM => ?_⟩
  · rw [List.getElem?_map, Option.map_eq_some_iff] at hq
    obtain ⟨ii, hii, rfl⟩ := hq
    have him : ii ∈ is := List.mem_of_getElem? hii
    have Y₂ := Y₁.mono hG₂
    subst hvq
    refine R_tests_one (T_Cmp (E_Attr (E_loc (v := .ref ii.a) at0 (R_getSlot H.X H.s1 (.inl (fmem him)) (Y₂.ds ii him) rfl rfl (E_int fun t0 => C_eqI (truthy_bool ⟨?_, G₂, k₂, rfl, GLe.refl _, Nat.le_refl _, fun hsel => ?_⟩))))))
    · rw [hii]; rfl
    · exact E_Attr (E_loc (v := .ref ii.a) at0 (R_getSlot H.X H.s0 (.inl (fmem him)) (Y₂.ds ii him) rfl rfl ⟨G₂, k₂, rfl, GLe.refl _, Nat.le_refl _, ii, hii, rfl⟩))
  · rw [List.length_map] at hM
    have hys := NodeR.vals hM
    subst hys
    have Y₂ := Y₁.mono hG₂
    have g2 : GLe G G₂ := GLe.trans hG₁ hG₂
    refine E_loc (v := .ref x) at0 (R_setOwn H.X H.o1 Y₂.inst (.tail .head) (show 4 ≤ 900 by decide) ?_)
    show RunE C _ L (execs _ _) ⟨G₂, [("self", some (.ref x)), ("cycle", none)], (D, listC (strValues (readyOf is))) :: (fN dn dx (.ref D) po fi t u is ++ R), k₂⟩ _ _
    obtain ⟨⟨of, hof, hdf⟩, hcf⟩ := H.f152
    refine XE_cons (X_Assign (E_methF hof hdf (E_loc (v := .ref x) at0 (R_method H.X H.mFind Y₂.inst (.tail _ (.head _)) rfl ⟨rfl, E_items_nil ?_⟩)))).toE
    refine R_callLP (Nc := fN dn dx (.ref D) po fi t u is ++ R) (Nr := [(D, listC (strValues (readyOf is)))]) (List.perm_append_comm (l₁ := [_])) ?_
    refine CallRun.perm (N₁ := fN dn dx (.ref D) po fi t u is ++ (L, frameC [("self", some (.ref x)), ("cycle", none)]) :: R) List.perm_middle.symm ?_
    refine (w_find H (d := d + 1) (hR.less (by omega)) (Around.frames_deeper hA) ?_ Y₂ nd hc hz hs).mono fun v G₃ N₃ k₃ hv => ?_
    · intro en hen
      rcases List.mem_cons.mp hen with rfl | hen
      · exact ⟨show ScopeKind.function ≠ ScopeKind.module from by decide, L, _, rfl, .head _⟩
      · exact hO.mono (fun z hz => List.mem_cons_of_mem _ hz) en hen
    refine hv.casesOn ?_ ?_
    · intro G₃ k₃ hG₃ hk₃ F f1 f2 f3
      have g3 : GLe G G₃ := GLe.trans g2 hG₃
      have k3 : k ≤ k₃ := Nat.le_trans hk₂ hk₃
      refine ⟨_, .refl _, fN dn dx (.ref D) po fi t u is ++ R, List.perm_middle, ?_⟩
      refine Run.perm (N' := (D, listC (strValues (readyOf is))) :: (fN dn dx (.ref D) po fi t u is ++ R)) (List.perm_append_comm (l₂ := [_])) (storeLoc (.tail .head) ?_)
      dsimp only
      refine XE_one (X_If (T_val (E_loc (v := .none) at1 (truthy_N ?_)))).toE
      rw [if_neg (by decide)]
      exact X_nil (hQ0 _ _ ⟨g3, k3, D, F, f1, f2, f3⟩)
    · intro G₃ k₃ hG₃ hk₃ l vs hvs hvl nc jc f1 f2
      have g3 : GLe G G₃ := GLe.trans g2 hG₃
      have k3 : k ≤ k₃ := Nat.le_trans hk₂ hk₃
      refine ⟨_, .refl _, (l, listC vs) :: (fN dn dx (.ref D) po fi t u is ++ R), (List.Perm.cons _ List.perm_middle).trans (.swap ..), ?_⟩
      refine Run.freeze .head fun ol G₄ hl hGe hne => ?_
      have g4 : GLe G₃ G₄ := by rw [hGe]; exact GLe.add hne
      have hll : ListAt G₄ l vs := by rw [hGe]; exact ListAt.new hl
      clear hGe
      refine Run.perm (N' := (D, listC (strValues (readyOf is))) :: (fN dn dx (.ref D) po fi t u is ++ R)) (List.perm_append_comm (l₂ := [_])) (storeLoc (.tail .head) ?_)
      dsimp only
      refine XE_one (XE_If (T_val (E_loc (v := .ref l) at1 (truthy_list (.inl hll) (by omega) ?_))).toE)
      rw [if_pos (by simpa using hvs)]
      refine XE_one (XE_Raise H.exc hR.hd (fun {Q} h => E_glob H.base at1 h) (E_items_cons (E_FStr1 (E_str fun ts hts => E_items_cons (E_loc (v := .ref l) at1 (E_items_nil ⟨by simp [sizeLine_eq], fun e => ?_⟩))))))
      exact hE0 _ _ ⟨e, _, _, rfl, .new, hO.mono fun z hz => .tail _ (List.mem_append_right _ hz), fun T => ⟨GLe.trans g3 g4, Nat.le_succ_of_le (Nat.le_trans k3 hts), D, T, e, nc, jc, f1, f2⟩⟩
end Four
end Mine

open PySem PySem.Calls PyProof.Rows
open PySem.W (instObj emptyDict)
set_option Elab.async false
set_option linter.unusedVariables false
set_option maxRecDepth 100000
namespace Mine
def npOf (g : Gr) (n : Str) : Option Int := (g.find? fun q => decide (q.1 = n)).map (·.2.1)
def scG (g : Gr) (n : Str) : List Str := ((g.find? fun q => decide (q.1 = n)).map (·.2.2)).getD []
def outAll (g : Gr) (rs : List Str) : Gr := rs.foldl (fun g n => setNp g n (-1)) g
theorem outAll_names : ∀ (rs : List Str) (g : Gr), (outAll g rs).map (·.1) = g.map (·.1)
  | [], _ => rfl
  | r :: rs, g => by show (outAll (setNp g r (-1)) rs).map (·.1) = _; rw [outAll_names rs, setNp_names]
namespace Four
variable {C : Cx} {A : Around}
theorem abs_names (is : List NI) : (absG is).map (·.1) = namesOf is := by unfold absG namesOf; rw [List.map_map]; rfl
theorem find_abs (is : List NI) (n : Str) : (absG is).find? (fun q => decide (q.1 = n)) = (lookI is n).map NI.abs := by
  unfold absG lookI
  rw [List.find?_map]; rfl
theorem npOf_abs {is : List NI} (nd : (namesOf is).Nodup) {i : NI} (h : i ∈ is) : npOf (absG is) i.nm = some i.np := by unfold npOf; rw [find_abs, lookI_mem nd h]; rfl
theorem scG_abs (is : List NI) (n : Str) : scG (absG is) n = scOf is n := by
  unfold scG scOf
  rw [find_abs]
  cases lookI is n <;> rfl
theorem node_of {is : List NI} {n : Str} (h : n ∈ namesOf is) : ∃ A₀ i B₀, is = A₀ ++ i :: B₀ ∧ i.nm = n := by
  obtain ⟨i, hi, e⟩ := List.mem_map.mp h
  obtain ⟨A₀, B₀, rfl⟩ := List.append_of_mem hi
  exact ⟨A₀, i, B₀, rfl, e⟩
theorem get_of {A₀ B₀ : List NI} {i : NI} (nd : (namesOf (A₀ ++ i :: B₀)).Nodup) : dget ((A₀ ++ i :: B₀).map NI.ent) i.nm = some (.ref i.a) := by rw [dget_ent, lookI_mem nd (by simp)]; rfl

inductive ReadyP (C : Cx) (G : Addr → Option Obj) (k : Nat) (x dx dn rl : Addr) (po fi : Int) (u : Tok) (rs : List (Str × Tok)) (R : List (Addr × Cell)) (g : Gr) : Value → (Addr → Option Obj) → List (Addr × Cell) → Nat → Prop
  | mk {G' : Addr → Option Obj} {k' : Nat} (h1 : GLe G G') (h2 : k ≤ k') (tt : Addr) (is' : List NI) (t' : Tok) (h3 : G' tt = some (tupO (strValues rs))) (h4 : LayF C G' x dx dn is') (h5 : absG is' = g) :
    ReadyP C G k x dx dn rl po fi u rs R g (.ref tt) G' ((rl, listC []) :: (fN dn dx (.ref rl) (po + rs.length) fi t' u is' ++ R)) k'
inductive ReadyI (C : Cx) (G : Addr → Option Obj) (k : Nat) (x dx dn rl tt : Addr) (po fi : Int) (t u : Tok) (rs : List (Str × Tok)) (R : List (Addr × Cell)) (g : Gr) (j : Nat) : Pt → Prop
  | mk (G₂ : Addr → Option Obj) (k₂ : Nat) (is₂ : List NI) (o1 : Option Value) (h1 : GLe G G₂) (h2 : k ≤ k₂) (h3 : LayF C G₂ x dx dn is₂) (h4 : absG is₂ = outAll g ((rs.map (·.1)).take j)) :
    ReadyI C G k x dx dn rl tt po fi t u rs R g j ⟨G₂, [("self", some (.ref x)), ("result", some (.ref tt)), ("n2i", some (.ref dn)), ("node", o1)], (rl, listC (strValues rs)) :: (fN dn dx (.ref rl) po fi t u is₂ ++ R), k₂⟩
theorem w_ready (H : SCx C) {d : Nat} (hr : Room A (d + 2)) {x dx dn rl : Addr} {po fi : Int} {t u : Tok} {is : List NI} {rs : List (Str × Tok)} {R : List (Addr × Cell)} {G : Addr → Option Obj} {k : Nat}
    (Y : LayF C G x dx dn is) (nd : (namesOf is).Nodup) (hin : ∀ q ∈ rs, q.1 ∈ namesOf is) (hz : rs.length ≤ 1000000) :
    CallRun C A 124 [.ref x] G ((rl, listC (strValues rs)) :: (fN dn dx (.ref rl) po fi t u is ++ R)) k (ReadyP C G k x dx dn rl po fi u rs R (outAll (absG is) (rs.map (·.1)))) := by
  obtain ⟨⟨o, ho, hd⟩, hcd⟩ := H.f124
  refine CallRun.go [("self", some (.ref x)), ("result", none), ("n2i", none), ("node", none)] H.base hr ho hd hcd (.of_eq (binds := [("self", .ref x)]) rfl) fun L hR => Run.abs fun Q0 hQ0 => ?_
  refine X_cons (X_If (T_Cmp (E_Attr (E_loc (v := .ref x) at0 (R_getOwn H.X H.o1 Y.inst (.tail _ (.head _)) (v := .ref rl) rfl rfl (E_none (C_isN (truthy_bool ?_))))))))
  rw [if_neg (show ¬ ((Value.ref rl == Value.none) = true) from Bool.false_ne_true)]
  refine X_nil ?_
  dsimp only
  have hzv : (strValues rs).length = rs.length := by simp [strValues]
  refine X_cons (X_Assign (E_callV (f := .type "tuple") (fun {Q} h => E_blt H.base at2 h) (E_items_cons (E_Attr (E_loc (v := .ref x) at0 (R_getOwn H.X H.o1 Y.inst (.tail _ (.head _)) (v := .ref rl) rfl rfl (E_items_nil
    (R_tupleL (.inr (.head _)) (by rw [hzv, sizeLine_eq]; omega) fun tt G₁ hG₁ htx => storeLoc (.tail .head) ?_))))))))
  have htt := TupAt.ofX htx
  have Y₁ := Y.mono hG₁
  dsimp only
  refine X_cons (X_Assign (E_Attr (E_loc (v := .ref x) at0 (R_getOwn H.X H.o0 Y₁.inst (.tail _ (.head _)) (v := .ref dn) rfl rfl (storeLoc (.tail (.tail .head)) ?_)))))
  dsimp only
  refine X_cons (X_ForV (ReadyI C G₁ k x dx dn rl tt po fi t u rs R (absG is)) (fun h => E_loc (v := .ref tt) at1 h) (IterOn.tuple hR.hd htt) ?_ ?_ ?_)
  · exact ⟨G₁, k, is, none, GLe.refl _, Nat.le_refl _, Y₁, rfl⟩
  · intro j p₂ hj hI9
    refine hI9.casesOn ?_
    intro G₂ k₂ is₂ o1 hG₂ hk₂ Y₂ ha₂
    refine AsgRun.name fun v ⟨_, hv⟩ => ?_
    have hj' : j < rs.length := by simpa [strValues] using hj
    have ev : v = .str rs[j].1 rs[j].2 := by
      have : (strValues rs)[j]? = some (.str rs[j].1 rs[j].2) := by simp [strValues, hj']
      rw [this] at hv; exact (Option.some.inj hv).symm
    subst ev
    have hn₂ : namesOf is₂ = namesOf is := by rw [← abs_names, ha₂, outAll_names, abs_names]
    have nd₂ : (namesOf is₂).Nodup := by rw [hn₂]; exact nd
    have hmem : rs[j].1 ∈ namesOf is₂ := by rw [hn₂]; exact hin _ (List.getElem_mem hj')
    obtain ⟨A₂, i, B₂, rfl, hi⟩ := node_of hmem
    refine storeLoc (.tail (.tail (.tail .head))) ?_
    dsimp only
    refine X_one (X_AssignAttr (E_glob H.base at2 (E_Sb F.slot_dict_getitem.lookup (E_loc (v := .ref dn) at2 (E_loc (v := .str rs[j].1 rs[j].2) at3 ⟨HasTy.dict Y₂.dict, G_dict Y₂.dict (hi ▸ get_of nd₂)
      (R_setSlot H.X H.s1 (.tail fput) (Y₂.ds i (by simp)) ?_)⟩)))))
    refine ⟨G₂, k₂, _, _, hG₂, hk₂, Y₂.put, ?_⟩
    rw [abs_setNp (by rw [abs_names]; exact nd₂), ha₂, hi, List.take_add_one, List.getElem?_map, List.getElem?_eq_getElem hj', Option.map_some, Option.toList_some]
    unfold outAll
    rw [List.foldl_append]; rfl
  · intro p₂ hI9
    refine hI9.casesOn ?_
    intro G₂ k₂ is₂ o1 hG₂ hk₂ Y₂ ha₂
    refine X_nil ?_
    dsimp only
    refine X_cons (X_Expr (E_meth F.slot_list_clear F.plainAttrs_list F.type_list_clear (E_Attr (E_loc (v := .ref x) at0 (R_getOwn H.X H.o1 Y₂.inst (.tail _ (.head _)) (v := .ref rl) rfl rfl
      ⟨HasT.list (.inr (.head _)), E_items_nil (R_clear .head (by rw [hzv, sizeLine_eq]; omega) ⟨(fun _ e => nomatch e), ?_⟩)⟩)))))
    dsimp only
    refine X_cons (X_AugAttr (E_loc (v := .ref x) at0 (R_getOwn H.X H.o2 Y₂.inst (.tail _ (.head _)) (v := .int po t) rfl rfl (E_callV (f := .builtin "len") (fun {Q} h => E_blt H.base at0 h) (E_items_cons (E_loc (v := .ref tt) at1 (E_items_nil
      (R_len_tup (htt.mono hG₂) (by rw [hzv]; omega) fun tk => B_iadd fun t' => R_setOwn H.X H.o2 Y₂.inst (.tail .head) (show 4 ≤ 900 by decide) ?_))))))))
    refine X_one (X_Return (E_loc (v := .ref tt) at1 ?_))
    have hP := ReadyP.mk (C := C) (x := x) (dx := dx) (dn := dn) (rl := rl) (po := po) (fi := fi) (u := u) (R := R) (GLe.trans hG₁ hG₂) hk₂ tt is₂ t' (hG₂ _ _ htx) Y₂ (g := outAll (absG is) (rs.map (·.1))) ?_
    · rw [← hzv] at hP; exact hQ0 _ _ hP
    · rw [ha₂, List.take_of_length_le (by simp [strValues])]
end Four
end Mine

open PySem PySem.Calls PyProof.Rows
open PySem.W (instObj emptyDict)
set_option Elab.async false
set_option linter.unusedVariables false
set_option maxRecDepth 100000
namespace Mine
section
variable {C : Cx} {A : Around} {L : Addr} {p : Pt} {env : Env}
theorem E_Or2 {x y : Expr} {pos : Pos} {Q : Value → Pt → Prop} (h : Run C A L (eval x env) p fun v p₁ => Run C A L (truthy v) p₁ fun b p₂ => if b then Q v p₂ else Run C A L (eval y env) p₂ Q) : Run C A L (eval (.BoolOp .Or [x, y] pos) env) p Q := by
  refine Run.of_eq (arm_eval_BoolOp ..) ?_
  show Run C A L (do
    let v ← eval x env
    PySem.standAt pos
    let t ← PySem.holding [v] (truthy v)
    match BoolOp.Or, t with
    | .And, false | .Or, true => Pure.pure v
    | _, _ => boolOp pos .Or [eval y env]) p Q
  refine .bind (h.mono fun v p₁ h₁ => .bind (.standAt (.bind (.holding (h₁.mono fun b p₂ h₂ => ?_)))))
  cases b with
  | true => exact Run.pure h₂
  | false => exact h₂
end
/-- one successor hears that a node is done -/
def relax (s : Gr × List Str) (n : Str) : Gr × List Str := (addNp s.1 n (-1), if npOf s.1 n = some 1 then s.2 ++ [n] else s.2)
def gDone (s : Gr × List Str) (n : Str) : Gr × List Str := (scG s.1 n).foldl relax (setNp s.1 n (-2), s.2)
def DoneOk : List Str → Gr × List Str → Prop
  | [], _ => True
  | n :: r, s => npOf s.1 n = some (-1) ∧ DoneOk r (gDone s n)
/-- names and successors, which do not change -/
def shape (g : Gr) : List (Str × List Str) := g.map fun q => (q.1, q.2.2)
theorem shape_upd {g : Gr} {n : Str} {f : Str × Int × List Str → Str × Int × List Str} (hf : ∀ q, (f q).1 = q.1 ∧ (f q).2.2 = q.2.2) : shape (g.map fun q => if q.1 = n then f q else q) = shape g := by
  unfold shape
  rw [List.map_map]
  apply List.map_congr_left
  intro q _
  show ((if q.1 = n then f q else q).1, (if q.1 = n then f q else q).2.2) = _
  split
  · rw [(hf q).1, (hf q).2]
  · rfl
theorem shape_addNp {g : Gr} {n : Str} {z : Int} : shape (addNp g n z) = shape g := shape_upd (f := fun q => (q.1, q.2.1 + z, q.2.2)) fun _ => ⟨rfl, rfl⟩
theorem shape_setNp {g : Gr} {n : Str} {z : Int} : shape (setNp g n z) = shape g := shape_upd (f := fun q => (q.1, z, q.2.2)) fun _ => ⟨rfl, rfl⟩
theorem shape_outAll : ∀ (rs : List Str) (g : Gr), shape (outAll g rs) = shape g
  | [], _ => rfl
  | r :: rs, g => by show shape (outAll (setNp g r (-1)) rs) = _; rw [shape_outAll rs, shape_setNp]
theorem shape_relaxs : ∀ (l : List Str) (s : Gr × List Str), shape (l.foldl relax s).1 = shape s.1
  | [], _ => rfl
  | n :: l, s => by rw [List.foldl_cons, shape_relaxs l]; exact shape_addNp
theorem shape_gDone (s : Gr × List Str) (n : Str) : shape (gDone s n).1 = shape s.1 := by unfold gDone; rw [shape_relaxs]; exact shape_setNp
theorem shape_gDones : ∀ (l : List Str) (s : Gr × List Str), shape (l.foldl gDone s).1 = shape s.1
  | [], _ => rfl
  | n :: l, s => by rw [List.foldl_cons, shape_gDones l, shape_gDone]
theorem names_shape (g : Gr) : (shape g).map (·.1) = g.map (·.1) := by unfold shape; rw [List.map_map]; rfl
theorem scG_shape (g : Gr) (n : Str) : scG g n = (((shape g).find? fun q => decide (q.1 = n)).map (·.2)).getD [] := by
  unfold scG shape
  rw [List.find?_map]
  show _ = ((Option.map _ (List.find? (fun q => decide (q.1 = n)) g)).map _).getD []
  rw [Option.map_map]; rfl
theorem scG_congr {g g' : Gr} (h : shape g = shape g') (n : Str) : scG g n = scG g' n := by rw [scG_shape, scG_shape, h]
theorem names_congr {g g' : Gr} (h : shape g = shape g') : g.map (·.1) = g'.map (·.1) := by rw [← names_shape, ← names_shape, h]
theorem Small.congr {g g' : Gr} {b : Nat} (h : shape g = shape g') (hs : Small g b) : Small g' b := fun q hq => by
  have : (q.1, q.2.2) ∈ shape g := by rw [h]; exact List.mem_map_of_mem (f := fun q : Str × Int × List Str => (q.1, q.2.2)) hq
  obtain ⟨z, hz, e⟩ := List.mem_map.mp this
  have e2 : z.2.2 = q.2.2 := congrArg (fun w : Str × List Str => w.2) e
  rw [← e2]; exact hs z hz
theorem relaxs_names : ∀ (l : List Str) (s : Gr × List Str), ((l.foldl relax s).1).map (·.1) = s.1.map (·.1)
  | [], _ => rfl
  | n :: l, s => by rw [List.foldl_cons, relaxs_names l]; exact addNp_names
theorem gDone_names (s : Gr × List Str) (n : Str) : (gDone s n).1.map (·.1) = s.1.map (·.1) := by unfold gDone; rw [relaxs_names]; exact setNp_names
namespace Four
variable {C : Cx} {A : Around}
inductive ActiveP (G : Addr → Option Obj) (k : Nat) (b : Bool) (N : List (Addr × Cell)) : Value → (Addr → Option Obj) → List (Addr × Cell) → Nat → Prop
  | mk {k' : Nat} (h : k ≤ k') : ActiveP G k b N (.bool b) G N k'
theorem w_active (H : SCx C) {d : Nat} (hr : Room A (d + 2)) {x dx dn rl : Addr} {po fi : Int} {t u : Tok} {is : List NI} {vs : List Value} {R : List (Addr × Cell)} {G : Addr → Option Obj} {k : Nat}
    (Y : LayF C G x dx dn is) (hz : vs.length ≤ 1000000) :
    CallRun C A 131 [.ref x] G ((rl, listC vs) :: (fN dn dx (.ref rl) po fi t u is ++ R)) k (ActiveP G k (decide (fi < po) || !vs.isEmpty) ((rl, listC vs) :: (fN dn dx (.ref rl) po fi t u is ++ R))) := by
  obtain ⟨⟨o, ho, hd⟩, hcd⟩ := H.f131
  refine CallRun.go [("self", some (.ref x))] H.base hr ho hd hcd (.of_eq (binds := [("self", .ref x)]) rfl) fun L hR => Run.abs fun Q0 hQ0 => ?_
  refine X_cons (X_If (T_Cmp (E_Attr (E_loc (v := .ref x) at0 (R_getOwn H.X H.o1 Y.inst (.tail _ (.head _)) (v := .ref rl) rfl rfl (E_none (C_isN (truthy_bool ?_))))))))
  rw [if_neg (show ¬ ((Value.ref rl == Value.none) = true) from Bool.false_ne_true)]
  refine X_nil ?_
  dsimp only
  refine X_one (X_Return (E_Or2 (E_Cmp (E_Attr (E_loc (v := .ref x) at0 (R_getOwn H.X H.o3 Y.inst (.tail _ (.head _)) (v := .int fi u) rfl rfl (E_Attr (E_loc (v := .ref x) at0 (R_getOwn H.X H.o2 Y.inst (.tail _ (.head _)) (v := .int po t) rfl rfl (C_ltI (truthy_bool ?_)))))))))))
  by_cases h : fi < po
  · rw [decide_eq_true h] at hQ0 ⊢
    rw [if_pos rfl]
    exact hQ0 _ _ ⟨Nat.le_refl _⟩
  · rw [decide_eq_false h] at hQ0 ⊢
    rw [Bool.false_or] at hQ0
    rw [if_neg Bool.false_ne_true]
    refine E_callV (f := .type "bool") (fun {Q} h => E_blt H.base at4 h) (E_items_cons (E_Attr (E_loc (v := .ref x) at0 (R_getOwn H.X H.o1 Y.inst (.tail _ (.head _)) (v := .ref rl) rfl rfl (E_items_nil (R_boolL (.inr (.head _)) (by omega) ?_))))))
    exact hQ0 _ _ ⟨Nat.le_refl _⟩
theorem abs_addNp {A₀ B₀ : List NI} {i : NI} {z : Int} {nt : Tok} (nd : ((absG (A₀ ++ i :: B₀)).map (·.1)).Nodup) : absG (A₀ ++ { i with np := i.np + z, nt := nt } :: B₀) = addNp (absG (A₀ ++ i :: B₀)) i.nm z := by
  rw [absG_cons, absG_cons]
  rw [absG_cons] at nd
  exact (upd_split (f := fun q => (q.1, q.2.1 + z, q.2.2)) nd).symm
end Four
end Mine

open PySem PySem.Calls PyProof.Rows
open PySem.W (instObj emptyDict)
set_option Elab.async false
set_option linter.unusedVariables false
set_option maxRecDepth 100000
namespace Mine
namespace Four
variable {C : Cx} {A : Around}
inductive DonePost (C : Cx) (G : Addr → Option Obj) (k : Nat) (x dx dn rl : Addr) (po fi : Int) (t : Tok) (R : List (Addr × Cell)) (g : Gr × List Str) : Value → (Addr → Option Obj) → List (Addr × Cell) → Nat → Prop
  | mk {G' : Addr → Option Obj} {k' : Nat} (h1 : GLe G G') (h2 : k ≤ k') (is' : List NI) (rd' : List (Str × Tok)) (u' : Tok) (h3 : LayF C G' x dx dn is') (h4 : (absG is', rd'.map (·.1)) = g) :
    DonePost C G k x dx dn rl po fi t R g .none G' ((rl, listC (strValues rd')) :: (fN dn dx (.ref rl) po fi t u' is' ++ R)) k'
inductive DoneI (C : Cx) (G : Addr → Option Obj) (k : Nat) (x dx dn rl tt : Addr) (po fi : Int) (t : Tok) (ns : List Str) (R : List (Addr × Cell)) (g : Gr × List Str) (j : Nat) : Pt → Prop
  | mk (G₂ : Addr → Option Obj) (k₂ : Nat) (is₂ : List NI) (rd₂ : List (Str × Tok)) (u₂ : Tok) (o1 o2 o3 o4 o5 : Option Value) (fj : Int) (hf : fj = fi + (j : Int)) (h1 : GLe G G₂) (h2 : k ≤ k₂) (h3 : LayF C G₂ x dx dn is₂) (h4 : rd₂.length ≤ 1000 + j * 1000)
      (h5 : (absG is₂, rd₂.map (·.1)) = (ns.take j).foldl gDone g) (h6 : DoneOk (ns.drop j) (absG is₂, rd₂.map (·.1))) :
    DoneI C G k x dx dn rl tt po fi t ns R g j ⟨G₂, [("self", some (.ref x)), ("nodes", some (.ref tt)), ("n2i", some (.ref dn)), ("node", o1), ("nodeinfo", o2), ("stat", o3), ("successor", o4), ("successor_info", o5)],
        (rl, listC (strValues rd₂)) :: (fN dn dx (.ref rl) po fj t u₂ is₂ ++ R), k₂⟩
inductive DoneJ (C : Cx) (G : Addr → Option Obj) (k : Nat) (x dx dn rl tt : Addr) (po fj : Int) (t u : Tok) (o1 o2 o3 : Option Value) (R : List (Addr × Cell)) (sc : List Str) (lz : Nat) (g : Gr × List Str) (jj : Nat) : Pt → Prop
  | mk (G₃ : Addr → Option Obj) (k₃ : Nat) (is₃ : List NI) (rd₃ : List (Str × Tok)) (o4 o5 : Option Value) (h1 : GLe G G₃) (h2 : k ≤ k₃) (h3 : LayF C G₃ x dx dn is₃) (h4 : rd₃.length ≤ lz + jj) (h5 : (absG is₃, rd₃.map (·.1)) = (sc.take jj).foldl relax g) :
    DoneJ C G k x dx dn rl tt po fj t u o1 o2 o3 R sc lz g jj ⟨G₃, [("self", some (.ref x)), ("nodes", some (.ref tt)), ("n2i", some (.ref dn)), ("node", o1), ("nodeinfo", o2), ("stat", o3), ("successor", o4), ("successor_info", o5)],
          (rl, listC (strValues rd₃)) :: (fN dn dx (.ref rl) po fj t u is₃ ++ R), k₃⟩
theorem w_done (H : SCx C) {d : Nat} (hr : Room A (d + 2)) {outer : List Env} (hA : A.frames = some outer) {x dx dn rl : Addr} {po fi : Int} {t u : Tok} {is : List NI} {rd ns : List (Str × Tok)} {R : List (Addr × Cell)} {G : Addr → Option Obj} {k : Nat}
    (Y : LayF C G x dx dn is) (nd : ((absG is).map (·.1)).Nodup) (hc : ∀ n ∈ (absG is).map (·.1), ∀ m ∈ scG (absG is) n, m ∈ (absG is).map (·.1)) (hb : Small (absG is) 1000) (hns : ns.length ≤ 100) (hrd : rd.length ≤ 1000)
    (hok : DoneOk (ns.map (·.1)) (absG is, rd.map (·.1))) :
    CallRun C A 145 (.ref x :: strValues ns) G ((rl, listC (strValues rd)) :: (fN dn dx (.ref rl) po fi t u is ++ R)) k (DonePost C G k x dx dn rl po (fi + ns.length) t R ((ns.map (·.1)).foldl gDone (absG is, rd.map (·.1)))) := by
  obtain ⟨⟨o, ho, hd⟩, hcd⟩ := H.f145
  refine CallX.run (CallX.bodyV (rest := strValues ns) (front := [("self", .ref x)]) (nm := "nodes") (m₀ := fun tt => [("self", some (.ref x)), ("nodes", some (.ref tt)), ("n2i", none), ("node", none), ("nodeinfo", none), ("stat", none), ("successor", none), ("successor_info", none)])
    H.base hr hA ho hd hcd ?_ ?_ (fun _ => rfl) (fun _ => rfl) (fun _ => nodup_of rfl) rfl (by decide) ?_ fun L tt G₁ hG₁ htt hR => Run.toE (Run.abs fun Q0 hQ0 => ?_))
  · cases ns <;> rfl
  · rw [show (strValues ns).length = ns.length by simp [strValues], sizeLine_eq]; omega
  · intro tt q hq
    rcases List.mem_cons.mp hq with rfl | hq
    · rfl
    · rw [List.mem_singleton.mp hq]; rfl
  have Y₁ := Y.mono hG₁
  refine X_cons (X_If (T_Cmp (E_Attr (E_loc (v := .ref x) at0 (R_getOwn H.X H.o1 Y₁.inst (.tail _ (.head _)) (v := .ref rl) rfl rfl (E_none (C_isN (truthy_bool ?_))))))))
  rw [if_neg (show ¬ ((Value.ref rl == Value.none) = true) from Bool.false_ne_true)]
  refine X_nil ?_
  dsimp only
  refine X_cons (X_Assign (E_Attr (E_loc (v := .ref x) at0 (R_getOwn H.X H.o0 Y₁.inst (.tail _ (.head _)) (v := .ref dn) rfl rfl (storeLoc (.tail (.tail .head)) ?_)))))
  dsimp only
  refine X_one (X_ForV (DoneI C G₁ k x dx dn rl tt po fi t (ns.map (·.1)) R (absG is, rd.map (·.1))) (fun h => E_loc (v := .ref tt) at1 h) (IterOn.tuple hR.hd htt) ?_ ?_ ?_)
  · exact ⟨G₁, k, is, rd, u, none, none, none, none, none, fi, (Int.add_zero fi).symm, GLe.refl _, Nat.le_refl _, Y₁, by omega, rfl, hok⟩
  · intro j p₂ hj hI9
    refine hI9.casesOn ?_
    intro G₂ k₂ is₂ rd₂ u₂ o1 o2 o3 o4 o5 fj hfj hG₂ hk₂ Y₂ hrd₂ hab₂ hok₂
    refine AsgRun.name fun v ⟨_, hv⟩ => ?_
    have hj' : j < ns.length := by simpa [strValues] using hj
    have ev : v = .str ns[j].1 ns[j].2 := by
      have : (strValues ns)[j]? = some (.str ns[j].1 ns[j].2) := by simp [strValues, hj']
      rw [this] at hv; exact (Option.some.inj hv).symm
    subst ev
    have hsh : shape (absG is₂) = shape (absG is) := by
      have := shape_gDones ((ns.map (·.1)).take j) (absG is, rd.map (·.1))
      rw [← hab₂] at this; exact this
    have nd₂ : (namesOf is₂).Nodup := by rw [← abs_names, names_congr hsh]; exact nd
    have hdrop : (ns.map (·.1)).drop j = ns[j].1 :: (ns.map (·.1)).drop (j + 1) := by
      rw [List.drop_eq_getElem_cons (by simpa using hj'), List.getElem_map]
    rw [hdrop] at hok₂
    obtain ⟨hnp, hok₃⟩ := hok₂
    have hex : ∃ i, lookI is₂ ns[j].1 = some i ∧ i.np = -1 := by
      unfold npOf at hnp
      rw [find_abs] at hnp
      cases hl : lookI is₂ ns[j].1 with
      | none => rw [hl] at hnp; cases hnp
      | some i => rw [hl] at hnp; exact ⟨i, rfl, by simpa [NI.abs] using hnp⟩
    obtain ⟨i, hl, hinp⟩ := hex
    obtain ⟨him, hi⟩ := lookI_some hl
    obtain ⟨A₂, B₂, rfl⟩ := List.append_of_mem him
    refine storeLoc (.tail (.tail (.tail .head))) (Run.abs fun Q1 hQ1 => ?_)
    dsimp only at hQ1 ⊢
    refine X_cons (X_If (T_Cmp (E_Named (E_meth F.slot_dict_get F.plainAttrs_dict F.type_dict_get (E_loc (v := .ref dn) at2 ⟨HasT.dict Y₂.dict, E_items_cons (E_loc (v := .str ns[j].1 ns[j].2) at3 (E_items_nil (R_dictGet Y₂.dict.a ?_)))⟩)))))
    rw [dget_ent, hl, show (Option.map (fun i : NI => Value.ref i.a) (some i)).getD Value.none = Value.ref i.a from rfl]
    refine storeLoc (.tail (.tail (.tail (.tail .head)))) (E_none (C_isN (truthy_bool ?_)))
    rw [if_neg (show ¬ ((Value.ref i.a == Value.none) = true) from Bool.false_ne_true)]
    refine X_nil ?_
    dsimp only
    refine X_cons (X_Assign (E_Attr (E_loc (v := .ref i.a) at4 (R_getSlot H.X H.s1 (.inl (.tail _ (fmem him))) (Y₂.ds i him) rfl rfl (storeLoc (.tail (.tail (.tail (.tail (.tail .head))))) ?_)))))
    dsimp only
    refine X_cons (X_If (T_Cmp (E_loc (v := .int i.np i.nt) at5 (E_glob H.base at2 (C_neI (truthy_bool ?_))))))
    rw [hinp, if_neg (by decide)]
    refine X_nil ?_
    dsimp only
    refine X_cons (X_AssignAttr (E_glob H.base at3 (E_loc (v := .ref i.a) at4 (R_setSlot H.X H.s1 (.tail fput) (Y₂.ds i him) ?_))))
    dsimp only
    have e₃ : ∀ nt, absG (A₂ ++ { i with np := -2, nt := nt } :: B₂) = setNp (absG (A₂ ++ i :: B₂)) ns[j].1 (-2) := fun nt => by rw [abs_setNp (by rw [abs_names]; exact nd₂), hi]
    have hscl : i.sc.map (·.1) = scG (absG (A₂ ++ i :: B₂)) ns[j].1 := by rw [scG_abs, ← hi, scOf_mem nd₂ him]
    have hsm₂ : Small (absG (A₂ ++ i :: B₂)) 1000 := Small.congr hsh.symm hb
    have hscz : i.sc.length ≤ 1000 := by
      have := hsm₂ i.abs (by rw [absG_cons]; simp)
      simpa [NI.abs] using this
    have Y₃ := Y₂.put (np := -2) (nt := 228)
    refine X_cons (X_ForV (DoneJ C G₂ k₂ x dx dn rl tt po fj t u₂ (some (.str ns[j].1 ns[j].2)) (some (.ref i.a)) (some (.int (-1) i.nt)) R (i.sc.map (·.1)) rd₂.length (setNp (absG (A₂ ++ i :: B₂)) ns[j].1 (-2), rd₂.map (·.1)))
        (fun h => E_Attr (E_loc (v := .ref i.a) at4 (R_getSlot H.X H.s2 (.inl (.tail _ (fmem (i := { i with np := -2, nt := 228 }) (by simp)))) (Y₂.ds i him) rfl rfl h))) (IterOn.list hR.hd (Y₂.sl i him)) ?_ ?_ ?_)
    · exact ⟨G₂, k₂, _, rd₂, o4, o5, GLe.refl _, Nat.le_refl _, Y₃, by omega, by rw [e₃, List.take_zero]; rfl⟩
    · intro jj p₃ hjj hI9
      refine hI9.casesOn ?_
      intro G₃ k₃ is₃ rd₃ o4 o5 hG₃ hk₃ Y₃ hrd₃ hab₃
      refine AsgRun.name fun v ⟨_, hv⟩ => ?_
      have hjj' : jj < i.sc.length := by simpa [strValues] using hjj
      have ev : v = .str i.sc[jj].1 i.sc[jj].2 := by
        have : (strValues i.sc)[jj]? = some (.str i.sc[jj].1 i.sc[jj].2) := by simp [strValues, hjj']
        rw [this] at hv; exact (Option.some.inj hv).symm
      subst ev
      have hsh₃ : shape (absG is₃) = shape (absG is) := by
        have := shape_relaxs ((i.sc.map (·.1)).take jj) (setNp (absG (A₂ ++ i :: B₂)) ns[j].1 (-2), rd₂.map (·.1))
        rw [← hab₃] at this
        rw [this]
        show shape (setNp _ _ _) = _
        rw [shape_setNp, hsh]
      have nd₃ : (namesOf is₃).Nodup := by rw [← abs_names, names_congr hsh₃]; exact nd
      have hmem : i.sc[jj].1 ∈ namesOf is₃ := by
        rw [← abs_names, names_congr hsh₃]
        refine hc ns[j].1 ?_ _ ?_
        · rw [← names_congr hsh, abs_names, ← hi]; exact List.mem_map_of_mem (f := (·.nm)) him
        · rw [← scG_congr hsh, ← hscl]; exact List.mem_map_of_mem (f := (·.1)) (List.getElem_mem hjj')
      obtain ⟨A₃, i₃, B₃, rfl, hi₃⟩ := node_of hmem
      refine storeLoc (.tail (.tail (.tail (.tail (.tail (.tail .head)))))) (Run.abs fun Q2 hQ2 => ?_)
      dsimp only at hQ2 ⊢
      refine X_cons (X_Assign (E_Sb F.slot_dict_getitem.lookup (E_loc (v := .ref dn) at2 (E_loc (v := .str i.sc[jj].1 i.sc[jj].2) at6 ⟨HasTy.dict Y₃.dict, G_dict Y₃.dict (hi₃ ▸ get_of nd₃) (storeLoc (.tail (.tail (.tail (.tail (.tail (.tail (.tail .head))))))) ?_)⟩))))
      dsimp only
      have him₃ : i₃ ∈ A₃ ++ i₃ :: B₃ := by simp
      refine X_cons (X_AugAttr (E_loc (v := .ref i₃.a) at7 (R_getSlot H.X H.s1 (.inl (.tail _ (fmem him₃))) (Y₃.ds i₃ him₃) rfl rfl (E_int fun t1 => B_isub fun t2 => R_setSlot H.X H.s1 (.tail fput) (Y₃.ds i₃ him₃) ?_))))
      dsimp only
      have e₄ : absG (A₃ ++ { i₃ with np := i₃.np - 1, nt := t2 } :: B₃) = addNp (absG (A₃ ++ i₃ :: B₃)) i.sc[jj].1 (-1) := by
        rw [← hi₃]
        exact abs_addNp (by rw [abs_names]; exact nd₃)
      have Y₄ := Y₃.put (np := i₃.np - 1) (nt := t2)
      have him₄ : ({ i₃ with np := i₃.np - 1, nt := t2 } : NI) ∈ A₃ ++ { i₃ with np := i₃.np - 1, nt := t2 } :: B₃ := by simp
      have hnp₃ : npOf (absG (A₃ ++ i₃ :: B₃)) i.sc[jj].1 = some i₃.np := by rw [← hi₃]; exact npOf_abs nd₃ him₃
      have hstep : ((i.sc.map (·.1)).take (jj + 1)).foldl relax (setNp (absG (A₂ ++ i :: B₂)) ns[j].1 (-2), rd₂.map (·.1)) = relax (absG (A₃ ++ i₃ :: B₃), rd₃.map (·.1)) i.sc[jj].1 := by
        rw [List.take_add_one, List.getElem?_map, List.getElem?_eq_getElem hjj', Option.map_some, Option.toList_some, List.foldl_append, ← hab₃]; rfl
      refine X_one (X_If (T_Cmp (E_Attr (E_loc (v := .ref i₃.a) at7 (R_getSlot H.X H.s1 (.inl (.tail _ (fmem (i := { i₃ with np := i₃.np - 1, nt := t2 }) him₄))) (Y₄.ds { i₃ with np := i₃.np - 1, nt := t2 } him₄) rfl rfl (E_int fun t3 => C_eqI (truthy_bool ?_)))))))
      by_cases h1 : i₃.np = 1
      · rw [show ((i₃.np - 1 : Int) == 0) = true by rw [h1]; rfl, if_pos rfl]
        refine X_one (X_Expr (E_meth F.slot_list_append F.plainAttrs_list F.type_list_append (E_Attr (E_loc (v := .ref x) at0 (R_getOwn H.X H.o1 Y₄.inst (.tail _ (.head _)) (v := .ref rl) rfl rfl
          ⟨HasT.list (.inr (.head _)), E_items_cons (E_loc (v := .str i.sc[jj].1 i.sc[jj].2) at6 (E_items_nil (R_append .head ?_ ⟨(fun _ e => nomatch e), ?_⟩)))⟩)))))
        · simp only [strValues, List.length_map]; rw [sizeLine_eq]; omega
        · rw [← strValues_snoc rd₃ i.sc[jj]]
          refine hQ2 _ _ ⟨G₃, k₃, A₃ ++ { i₃ with np := i₃.np - 1, nt := t2 } :: B₃, rd₃ ++ [i.sc[jj]], some (.str i.sc[jj].1 i.sc[jj].2), some (.ref i₃.a), hG₃, hk₃, Y₄, by rw [List.length_append]; simp; omega, ?_⟩
          · rw [hstep, e₄]
            unfold relax
            rw [if_pos (by rw [hnp₃, h1])]; simp
      · rw [show ((i₃.np - 1 : Int) == 0) = false from beq_eq_false_iff_ne.mpr (by omega), if_neg Bool.false_ne_true]
        refine X_nil (hQ2 _ _ ⟨G₃, k₃, _, rd₃, _, _, hG₃, hk₃, Y₄, by omega, ?_⟩)
        rw [hstep, e₄]
        unfold relax
        rw [if_neg (by rw [hnp₃]; exact fun e => h1 (Option.some.inj e))]
    · intro p₃ hI9
      refine hI9.casesOn ?_
      intro G₃ k₃ is₃ rd₃ o4 o5 hG₃ hk₃ Y₃ hrd₃ hab₃
      refine X_nil ?_
      dsimp only
      have hst : ((ns.map (·.1)).take (j + 1)).foldl gDone (absG is, rd.map (·.1)) = (absG is₃, rd₃.map (·.1)) := by
        rw [List.take_add_one, List.getElem?_map, List.getElem?_eq_getElem hj', Option.map_some, Option.toList_some, List.foldl_append, ← hab₂, hab₃, List.take_of_length_le (by simp [strValues]), hscl]; rfl
      refine X_one (X_AugAttr (E_loc (v := .ref x) at0 (R_getOwn H.X H.o3 Y₃.inst (.tail _ (.head _)) (v := .int fj u₂) rfl rfl (E_int fun t1 => B_iadd fun t2 => R_setOwn H.X H.o3 Y₃.inst (.tail .head) (show 4 ≤ 900 by decide) ?_))))
      refine hQ1 _ _ ⟨G₃, k₃, is₃, rd₃, t2, some (.str ns[j].1 ns[j].2), some (.ref i.a), some (.int (-1) i.nt), o4, o5, fj + 1, by omega, GLe.trans hG₂ hG₃, Nat.le_trans hk₂ hk₃, Y₃, ?_, hst.symm, ?_⟩
      · have : (strValues i.sc).length = i.sc.length := by simp [strValues]
        rw [this] at hrd₃
        omega
      · have : gDone (absG (A₂ ++ i :: B₂), rd₂.map (·.1)) ns[j].1 = (absG is₃, rd₃.map (·.1)) := by
          rw [← hst, List.take_add_one, List.getElem?_map, List.getElem?_eq_getElem hj', Option.map_some, Option.toList_some, List.foldl_append, ← hab₂]; rfl
        rw [← this]; exact hok₃
  · intro p₂ hI9
    refine hI9.casesOn ?_
    intro G₂ k₂ is₂ rd₂ u₂ o1 o2 o3 o4 o5 fj hfj hG₂ hk₂ Y₂ hrd₂ hab₂ hok₂
    obtain rfl : fj = fi + (ns.length : Int) := by rw [hfj, show (strValues ns).length = ns.length by simp [strValues]]
    refine X_nil (hQ0 _ _ ⟨GLe.trans hG₁ hG₂, hk₂, is₂, rd₂, u₂, Y₂, ?_⟩)
    · rw [hab₂, List.take_of_length_le (by simp [strValues])]
end Four
end Mine

open PySem PySem.Calls PyProof.Rows
set_option Elab.async false
set_option linter.unusedVariables false
set_option maxRecDepth 100000
namespace Mine
/-! the sorter's graph, as a bookkeeping of what each node waits for -/
def fnd (g : Gr) (n : Str) : Option (Str × Int × List Str) := g.find? fun q => decide (q.1 = n)
theorem npOf_fnd (g : Gr) (n : Str) : npOf g n = (fnd g n).map (·.2.1) := rfl
theorem scG_fnd (g : Gr) (n : Str) : scG g n = ((fnd g n).map (·.2.2)).getD [] := rfl
theorem fnd_name {g : Gr} {n : Str} {q : Str × Int × List Str} (h : fnd g n = some q) : q.1 = n := by
  have := List.find?_some h
  simpa using this
theorem fnd_none {g : Gr} {n : Str} : fnd g n = none ↔ n ∉ g.map (·.1) := by
  unfold fnd
  rw [List.find?_eq_none]
  constructor
  · intro h hm
    obtain ⟨q, hq, e⟩ := List.mem_map.mp hm
    exact h q hq (by simpa using e)
  · intro h q hq e
    exact h (by simp only [decide_eq_true_eq] at e; exact e ▸ List.mem_map_of_mem (f := (·.1)) hq)
theorem fnd_upd {g : Gr} {n m : Str} {f : Str × Int × List Str → Str × Int × List Str} (hf : ∀ q, (f q).1 = q.1) : fnd (g.map fun q => if q.1 = n then f q else q) m = (fnd g m).map fun q => if q.1 = n then f q else q := by
  unfold fnd
  rw [List.find?_map]
  have : ((fun q : Str × Int × List Str => decide (q.1 = m)) ∘ fun q => if q.1 = n then f q else q) = fun q => decide (q.1 = m) := by
    funext q
    show decide ((if q.1 = n then f q else q).1 = m) = _
    split
    · rw [hf]
    · rfl
  rw [this]
theorem npOf_addNp {g : Gr} {n m : Str} {z : Int} : npOf (addNp g n z) m = (npOf g m).map fun i => if m = n then i + z else i := by
  rw [npOf_fnd, npOf_fnd, show fnd (addNp g n z) m = _ from fnd_upd (f := fun q => (q.1, q.2.1 + z, q.2.2)) fun _ => rfl]
  cases e : fnd g m with
  | none => rfl
  | some q =>
    have := fnd_name e
    simp only [Option.map_some, this]
    split <;> rfl
theorem npOf_setNp {g : Gr} {n m : Str} {z : Int} : npOf (setNp g n z) m = (npOf g m).map fun i => if m = n then z else i := by
  rw [npOf_fnd, npOf_fnd, show fnd (setNp g n z) m = _ from fnd_upd (f := fun q => (q.1, z, q.2.2)) fun _ => rfl]
  cases e : fnd g m with
  | none => rfl
  | some q =>
    have := fnd_name e
    simp only [Option.map_some, this]
    split <;> rfl
theorem npOf_addSc {g : Gr} {n m x : Str} : npOf (addSc g n x) m = npOf g m := by
  rw [npOf_fnd, npOf_fnd, show fnd (addSc g n x) m = _ from fnd_upd (f := fun q => (q.1, q.2.1, q.2.2 ++ [x])) fun _ => rfl]
  cases e : fnd g m with
  | none => rfl
  | some q => simp only [Option.map_some]; split <;> rfl
theorem scG_addSc {g : Gr} {n m x : Str} (hn : n ∈ g.map (·.1)) : scG (addSc g n x) m = if m = n then scG g m ++ [x] else scG g m := by
  rw [scG_fnd, scG_fnd, show fnd (addSc g n x) m = _ from fnd_upd (f := fun q => (q.1, q.2.1, q.2.2 ++ [x])) fun _ => rfl]
  cases e : fnd g m with
  | none =>
    have : ¬ m = n := fun h => fnd_none.mp e (h ▸ hn)
    rw [if_neg this]; rfl
  | some q =>
    have := fnd_name e
    simp only [Option.map_some, Option.getD_some, this]
    split <;> rfl
theorem fnd_touch {g : Gr} {n m : Str} : fnd (touch g n) m = if m = n ∧ m ∉ g.map (·.1) then some (n, 0, []) else fnd g m := by
  unfold touch
  by_cases hn : n ∈ g.map (·.1)
  · rw [if_pos hn, if_neg fun h => h.2 (h.1 ▸ hn)]
  · rw [if_neg hn]
    unfold fnd
    rw [List.find?_append]
    by_cases hm : m = n
    · subst hm
      have : g.find? (fun q => decide (q.1 = m)) = none := fnd_none.mpr hn
      rw [this, if_pos ⟨rfl, hn⟩]; simp
    · rw [if_neg fun h => hm h.1]
      have : ([(n, (0 : Int), ([] : List Str))].find? fun q => decide (q.1 = m)) = none := by
        rw [List.find?_eq_none]; intro q hq; rw [List.mem_singleton.mp hq]; simpa using fun e : n = m => hm e.symm
      rw [this]; simp
theorem npOf_touch {g : Gr} {n m : Str} : npOf (touch g n) m = if m = n ∧ m ∉ g.map (·.1) then some 0 else npOf g m := by
  rw [npOf_fnd, fnd_touch]; split <;> rfl
theorem scG_touch {g : Gr} {n m : Str} : scG (touch g n) m = scG g m := by
  rw [scG_fnd, scG_fnd, fnd_touch]
  split
  · rename_i h
    rw [fnd_none.mpr h.2]; rfl
  · rfl
theorem touch_mem {g : Gr} {n x : Str} : x ∈ (touch g n).map (·.1) ↔ x ∈ g.map (·.1) ∨ x = n := by
  unfold touch
  split
  · rename_i h
    constructor
    · exact .inl
    · rintro (h' | rfl)
      · exact h'
      · exact h
  · simp
theorem shape_scG_addNp {g : Gr} {n m : Str} {z : Int} : scG (addNp g n z) m = scG g m := scG_congr shape_addNp m
/-- built: each node waits for its list, and stands with those that it waits for -/
structure GB (pr : Str → List Str) (g : Gr) : Prop where
  nd : (g.map (·.1)).Nodup
  np : ∀ n ∈ g.map (·.1), npOf g n = some ((pr n).length : Int)
  sc : ∀ m n, (scG g m).count n = (pr n).count m
  pin : ∀ n m, m ∈ pr n → n ∈ g.map (·.1) ∧ m ∈ g.map (·.1)
theorem GB.empty : GB (fun _ => []) [] := ⟨List.nodup_nil, fun n h => by simp at h, fun m n => rfl, fun n m h => by simp at h⟩
def addPr (pr : Str → List Str) (n : Str) (ps : List Str) : Str → List Str := fun x => if x = n then pr x ++ ps else pr x
theorem gAdd_loop (n : Str) : ∀ (ps : List Str) (g : Gr), (g.map (·.1)).Nodup → n ∈ g.map (·.1) →
    let g' := ps.foldl (fun g p => addSc (touch g p) p n) g
    (g'.map (·.1)).Nodup ∧ (∀ x, x ∈ g'.map (·.1) ↔ x ∈ g.map (·.1) ∨ x ∈ ps) ∧ (∀ m, m ∈ g.map (·.1) → npOf g' m = npOf g m) ∧ (∀ m, m ∈ ps → m ∉ g.map (·.1) → npOf g' m = some 0) ∧
      (∀ m x, (scG g' m).count x = (scG g m).count x + if x = n then ps.count m else 0)
  | [], g, nd, hn => ⟨nd, fun x => by simp, fun m _ => rfl, fun m h => by simp at h, fun m x => by simp⟩
  | p :: ps, g, nd, hn => by
    have nd1 : ((addSc (touch g p) p n).map (·.1)).Nodup := by rw [addSc_names]; exact touch_nodup nd
    have hp : p ∈ (touch g p).map (·.1) := touch_mem.mpr (.inr rfl)
    have mem1 : ∀ x, x ∈ (addSc (touch g p) p n).map (·.1) ↔ x ∈ g.map (·.1) ∨ x = p := fun x => by rw [addSc_names]; exact touch_mem
    obtain ⟨h1, h2, h3, h4, h5⟩ := gAdd_loop n ps (addSc (touch g p) p n) nd1 ((mem1 n).mpr (.inl hn))
    have np1 : ∀ m, npOf (addSc (touch g p) p n) m = if m = p ∧ m ∉ g.map (·.1) then some 0 else npOf g m := fun m => by rw [npOf_addSc, npOf_touch]
    refine ⟨h1, fun x => ?_, fun m hm => ?_, fun m hm hg => ?_, fun m x => ?_⟩
    · rw [List.foldl_cons, h2 x, mem1 x, List.mem_cons, or_assoc]
    · rw [List.foldl_cons, h3 m ((mem1 m).mpr (.inl hm)), np1, if_neg fun h => h.2 hm]
    · rw [List.foldl_cons]
      by_cases e : m = p
      · rw [h3 m ((mem1 m).mpr (.inr e)), np1, if_pos ⟨e, hg⟩]
      · exact h4 m ((List.mem_cons.mp hm).resolve_left e) fun h => ((mem1 m).mp h).elim hg e
    · rw [List.foldl_cons, h5 m x, scG_addSc hp, List.count_cons]
      by_cases e : m = p
      · subst e
        rw [if_pos rfl, scG_touch, List.count_append]
        by_cases ex : x = n
        · subst ex; simp; omega
        · have : ¬ n = x := fun h => ex h.symm
          simp [ex, this]
      · have e' : ¬ p = m := fun h => e h.symm
        rw [if_neg e, scG_touch]
        simp [e']
theorem GB.add {pr : Str → List Str} {g : Gr} (h : GB pr g) (n : Str) (ps : List Str) : GB (addPr pr n ps) (gAdd g n ps) := by
  have prnil : ∀ x, x ∉ g.map (·.1) → pr x = [] := fun x hx => by
    cases e : pr x with
    | nil => rfl
    | cons a r => exact absurd (h.pin x a (by rw [e]; simp)).1 hx
  have ndt := touch_nodup (n := n) h.nd
  have hn : n ∈ (addNp (touch g n) n ps.length).map (·.1) := by rw [addNp_names]; exact touch_mem.mpr (.inr rfl)
  obtain ⟨h1, h2, h3, h4, h5⟩ := gAdd_loop n ps (addNp (touch g n) n ps.length) (by rw [addNp_names]; exact ndt) hn
  have mem : ∀ x, x ∈ (gAdd g n ps).map (·.1) ↔ (x ∈ g.map (·.1) ∨ x = n) ∨ x ∈ ps := fun x => by
    unfold gAdd
    rw [h2 x, addNp_names, touch_mem]
  have np0 : ∀ m, npOf (addNp (touch g n) n ps.length) m = (if m = n ∧ m ∉ g.map (·.1) then some 0 else npOf g m).map fun i => if m = n then i + (ps.length : Int) else i := fun m => by rw [npOf_addNp, npOf_touch]
  refine ⟨h1, fun m hm => ?_, fun m x => ?_, fun x m hm => ?_⟩
  · unfold gAdd
    by_cases hm' : m ∈ (addNp (touch g n) n ps.length).map (·.1)
    · rw [h3 m hm', np0]
      unfold addPr
      by_cases e : m = n
      · subst e
        by_cases hg : m ∈ g.map (·.1)
        · rw [if_neg fun h => h.2 hg, h.np m hg]; simp
        · rw [if_pos ⟨rfl, hg⟩, prnil m hg]; simp
      · have hg : m ∈ g.map (·.1) := by
          rw [addNp_names] at hm'
          exact (touch_mem.mp hm').resolve_right e
        rw [if_neg fun h => e h.1, h.np m hg]; simp [e]
    · have hmp : m ∈ ps := by
        rcases (mem m).mp hm with h | h
        · rw [addNp_names] at hm'; exact absurd (touch_mem.mpr h) hm'
        · exact h
      rw [h4 m hmp hm']
      rw [addNp_names] at hm'
      have hg : m ∉ g.map (·.1) := fun h => hm' (touch_mem.mpr (.inl h))
      have e : ¬ m = n := fun h => hm' (touch_mem.mpr (.inr h))
      unfold addPr
      rw [if_neg e, prnil m hg]; rfl
  · unfold gAdd
    rw [h5 m x, shape_scG_addNp, scG_touch, h.sc m x]
    unfold addPr
    by_cases e : x = n
    · rw [if_pos e, if_pos e, List.count_append]
    · rw [if_neg e, if_neg e]; omega
  · rw [mem, mem]
    unfold addPr at hm
    by_cases e : x = n
    · rw [if_pos e] at hm
      refine ⟨.inl (.inr e), ?_⟩
      rcases List.mem_append.mp hm with hm | hm
      · exact .inl (.inl (h.pin x m hm).2)
      · exact .inr hm
    · rw [if_neg e] at hm
      exact ⟨.inl (.inl (h.pin x m hm).1), .inl (.inl (h.pin x m hm).2)⟩
theorem gAdd_mem {g : Gr} {n : Str} {ps : List Str} (nd : (g.map (·.1)).Nodup) (x : Str) : x ∈ (gAdd g n ps).map (·.1) ↔ (x ∈ g.map (·.1) ∨ x = n) ∨ x ∈ ps := by
  have ndt := touch_nodup (n := n) nd
  obtain ⟨h1, h2, _⟩ := gAdd_loop n ps (addNp (touch g n) n ps.length) (by rw [addNp_names]; exact ndt) (by rw [addNp_names]; exact touch_mem.mpr (.inr rfl))
  unfold gAdd
  rw [h2 x, addNp_names, touch_mem]
theorem Small.gAdd {g : Gr} {b : Nat} (h : Small g b) (n : Str) (ps : List Str) : Small (gAdd g n ps) (b + ps.length) := by
  have key : ∀ (l : List Str) (g : Gr) (b : Nat), Small g b → Small (l.foldl (fun g p => Mine.addSc (Mine.touch g p) p n) g) (b + l.length) := by
    intro l
    induction l with
    | nil => intro g b h; exact h
    | cons p l ih =>
      intro g b h
      have := ih _ _ ((h.touch p).addSc p n)
      rw [List.foldl_cons, List.length_cons, show b + (l.length + 1) = b + 1 + l.length by omega]
      exact this
  exact key ps _ b ((h.touch n).addNp n ps.length)
theorem Small.mono {g : Gr} {b b' : Nat} (h : Small g b) (hb : b ≤ b') : Small g b' := fun q hq => Nat.le_trans (h q hq) hb
end Mine

open PySem PySem.Calls PyProof.Rows
set_option Elab.async false
set_option linter.unusedVariables false
set_option maxRecDepth 100000
namespace Mine
def waits (pr : Str → List Str) (D : List Str) (n : Str) : Nat := (pr n).countP fun m => decide (m ∉ D)
/-- D is done, O is handed out, rd stands ready -/
structure KInv (pr : Str → List Str) (D O rd : List Str) (g : Gr) : Prop where
  nd : (g.map (·.1)).Nodup
  sc : ∀ m n, (scG g m).count n = (pr n).count m
  pin : ∀ n m, m ∈ pr n → n ∈ g.map (·.1) ∧ m ∈ g.map (·.1)
  npD : ∀ n ∈ D, npOf g n = some (-2)
  npO : ∀ n ∈ O, n ∉ D → npOf g n = some (-1)
  npR : ∀ n ∈ g.map (·.1), n ∉ O → npOf g n = some (waits pr D n : Int)
  rdn : rd.Nodup
  rdm : ∀ n, n ∈ rd ↔ n ∈ g.map (·.1) ∧ n ∉ O ∧ ∀ m ∈ pr n, m ∈ D
  On : O.Nodup
  Dn : D.Nodup
  DO : ∀ n ∈ D, n ∈ O
  Om : ∀ n ∈ O, n ∈ g.map (·.1) ∧ ∀ m ∈ pr n, m ∈ D
theorem waits_nil (pr : Str → List Str) (n : Str) : waits pr [] n = (pr n).length := by
  unfold waits
  rw [List.countP_eq_length]
  intro m _; simp
theorem waits_zero {pr : Str → List Str} {D : List Str} {n : Str} : waits pr D n = 0 ↔ ∀ m ∈ pr n, m ∈ D := by
  unfold waits
  rw [List.countP_eq_zero]
  constructor
  · intro h m hm; have := h m hm; simpa using this
  · intro h m hm; simpa using h m hm
theorem waits_add {pr : Str → List Str} {D : List Str} {n m : Str} (hn : n ∉ D) : waits pr (D ++ [n]) m + (pr m).count n = waits pr D m := by
  unfold waits
  generalize pr m = l
  induction l with
  | nil => rfl
  | cons a l ih =>
    rw [List.countP_cons, List.countP_cons, List.count_cons, ← ih]
    by_cases e : a = n
    · subst e; simp [hn]; omega
    · by_cases ha : a ∈ D
      · simp [ha, e]
      · simp [ha, e]; omega
def readyG (g : Gr) : List Str := (g.filter fun q => q.2.1 == 0).map (·.1)
theorem readyG_mem {g : Gr} (nd : (g.map (·.1)).Nodup) {n : Str} : n ∈ readyG g ↔ npOf g n = some 0 := by
  unfold readyG npOf
  induction g with
  | nil => simp
  | cons q g ih =>
    obtain ⟨n1, n2⟩ := List.nodup_cons.mp nd
    have ih := ih n2
    by_cases h : q.1 = n
    · subst h
      rw [List.find?_cons_of_pos (by simp)]
      have : q.1 ∉ (g.filter fun q => q.2.1 == 0).map (·.1) := fun hm => by
        obtain ⟨z, hz, e⟩ := List.mem_map.mp hm
        exact n1 (by show q.1 ∈ _; rw [← e]; exact List.mem_map_of_mem (f := (·.1)) (List.mem_filter.mp hz).1)
      rw [List.filter_cons]
      by_cases h0 : q.2.1 = 0
      · simp [h0]
      · simp only [beq_iff_eq, h0, if_false]
        constructor
        · intro hm; exact absurd (by simpa using hm) (by simpa using this)
        · intro e; exact absurd (by simpa using e) h0
    · rw [List.find?_cons_of_neg (by simpa using h), ← ih, List.filter_cons]
      split
      · rw [List.map_cons, List.mem_cons]
        constructor
        · rintro (e | e)
          · exact absurd e.symm h
          · exact e
        · exact .inr
      · rfl
theorem KInv.start {pr : Str → List Str} {g : Gr} (h : GB pr g) : KInv pr [] [] (readyG g) g := by
  refine ⟨h.nd, h.sc, h.pin, fun n hn => by simp at hn, fun n hn => by simp at hn, fun n hn _ => by rw [h.np n hn, waits_nil], ?_, fun n => ?_, List.nodup_nil, List.nodup_nil, fun n hn => by simp at hn, fun n hn => by simp at hn⟩
  · exact List.Nodup.sublist (List.Sublist.map (fun q : Str × Int × List Str => q.1) List.filter_sublist) h.nd
  · rw [readyG_mem h.nd]
    constructor
    · intro e
      have hn : n ∈ g.map (·.1) := by
        rcases Classical.em (n ∈ g.map (·.1)) with hn | hn
        · exact hn
        · rw [npOf_fnd, fnd_none.mpr hn] at e; cases e
      rw [h.np n hn] at e
      have : (pr n).length = 0 := by have := Option.some.inj e; omega
      rw [List.length_eq_zero_iff.mp this]
      exact ⟨hn, by simp, fun m hm => by simp at hm⟩
    · rintro ⟨hn, _, hm⟩
      rw [h.np n hn]
      have : pr n = [] := List.eq_nil_iff_forall_not_mem.mpr fun m hm' => by have := hm m hm'; simp at this
      rw [this]; rfl
theorem npOf_outAll : ∀ (rs : List Str) (g : Gr) (m : Str), npOf (outAll g rs) m = if m ∈ rs then (npOf g m).map fun _ => -1 else npOf g m
  | [], g, m => by simp [outAll]
  | r :: rs, g, m => by
    show npOf (outAll (setNp g r (-1)) rs) m = _
    rw [npOf_outAll rs, npOf_setNp]
    by_cases e : m = r
    · subst e
      simp only [List.mem_cons, true_or, if_true]
      cases npOf g m <;> simp
    · by_cases h : m ∈ rs
      · simp only [h, if_true, e, if_false, List.mem_cons, or_true, Option.map_id']
      · simp [h, e]
theorem KInv.ready {pr : Str → List Str} {D O rd : List Str} {g : Gr} (h : KInv pr D O rd g) : KInv pr D (O ++ rd) [] (outAll g rd) := by
  have names := outAll_names rd g
  have rdO : ∀ n ∈ rd, n ∉ O := fun n hn => ((h.rdm n).mp hn).2.1
  refine ⟨by rw [names]; exact h.nd, fun m n => by rw [scG_congr (shape_outAll rd g)]; exact h.sc m n, fun n m hm => by rw [names]; exact h.pin n m hm, fun n hn => ?_, fun n hn hD => ?_, fun n hn hO => ?_, List.nodup_nil, fun n => ?_, ?_, h.Dn, fun n hn => List.mem_append_left _ (h.DO n hn), fun n hn => ?_⟩
  · rw [npOf_outAll, if_neg fun hr => rdO n hr (h.DO n hn)]; exact h.npD n hn
  · rw [npOf_outAll]
    by_cases hr : n ∈ rd
    · rw [if_pos hr]
      have := h.npR n ((h.rdm n).mp hr).1 (rdO n hr)
      rw [this]; rfl
    · rw [if_neg hr]
      exact h.npO n ((List.mem_append.mp hn).resolve_right hr) hD
  · rw [names] at hn
    have hr : n ∉ rd := fun hr => hO (List.mem_append_right _ hr)
    rw [npOf_outAll, if_neg hr]
    exact h.npR n hn fun h' => hO (List.mem_append_left _ h')
  · rw [names]
    constructor
    · intro hn; simp at hn
    · rintro ⟨h1, h2, h3⟩
      exact absurd (List.mem_append_right _ ((h.rdm n).mpr ⟨h1, fun h' => h2 (List.mem_append_left _ h'), h3⟩)) h2
  · exact List.nodup_append.mpr ⟨h.On, h.rdn, fun a ha b hb e => rdO b hb (e ▸ ha)⟩
  · rw [names]
    rcases List.mem_append.mp hn with hn | hn
    · exact h.Om n hn
    · have := (h.rdm n).mp hn
      exact ⟨this.1, this.2.2⟩
theorem relaxs : ∀ (l : List Str) (g : Gr) (rd : List Str), (∀ m ∈ l, ∃ z : Nat, npOf g m = some (z : Int) ∧ l.count m ≤ z) →
    (∀ m, npOf (l.foldl relax (g, rd)).1 m = (npOf g m).map fun i => i - (l.count m : Int)) ∧ (∀ m, m ∈ (l.foldl relax (g, rd)).2 ↔ m ∈ rd ∨ (m ∈ l ∧ npOf g m = some (l.count m : Int))) ∧
      (rd.Nodup → (∀ m ∈ rd, m ∉ l) → (l.foldl relax (g, rd)).2.Nodup)
  | [], g, rd, h => ⟨fun m => by simp, fun m => by simp, fun h _ => h⟩
  | a :: l, g, rd, h => by
    obtain ⟨z, hz, hc⟩ := h a (by simp)
    rw [List.count_cons_self] at hc
    have np1 : ∀ m, npOf (addNp g a (-1)) m = (npOf g m).map fun i => if m = a then i + -1 else i := fun m => npOf_addNp
    have pre : ∀ m ∈ l, ∃ z : Nat, npOf (addNp g a (-1)) m = some (z : Int) ∧ l.count m ≤ z := fun m hm => by
      rw [np1]
      by_cases e : m = a
      · subst e
        refine ⟨z - 1, ?_, by omega⟩
        rw [hz]; simp; omega
      · obtain ⟨z', hz', hc'⟩ := h m (List.mem_cons_of_mem _ hm)
        rw [List.count_cons_of_ne (fun h => e h.symm)] at hc'
        exact ⟨z', by rw [hz']; simp [e], hc'⟩
    obtain ⟨h1, h2, h3⟩ := relaxs l (addNp g a (-1)) (if npOf g a = some 1 then rd ++ [a] else rd) pre
    have hf : (a :: l).foldl relax (g, rd) = l.foldl relax (addNp g a (-1), if npOf g a = some 1 then rd ++ [a] else rd) := rfl
    rw [hf]
    refine ⟨fun m => ?_, fun m => ?_, fun nr hr => h3 ?_ ?_⟩
    · rw [h1, np1, Option.map_map]
      congr 1
      funext i
      show (if m = a then i + -1 else i) - _ = _
      by_cases e : m = a
      · subst e; rw [if_pos rfl, List.count_cons_self]; omega
      · rw [if_neg e, List.count_cons_of_ne (fun h => e h.symm)]
    · rw [h2, np1]
      by_cases e : m = a
      · subst e
        rw [hz, List.count_cons_self]
        by_cases e1 : z = 1
        · subst e1
          have c0 : l.count m = 0 := by omega
          rw [c0]; simp
        · have : ¬ (some (z : Int) = some 1) := fun e => e1 (by have := Option.some.inj e; omega)
          rw [if_neg this]
          have e2 : ((some (z : Int)).map fun i => if m = m then i + -1 else i) = some ((z : Int) - 1) := by simp; omega
          rw [e2]
          constructor
          · rintro (h | ⟨h, e⟩)
            · exact .inl h
            · refine .inr ⟨by simp, ?_⟩
              have := Option.some.inj e
              congr 1; omega
          · rintro (h | ⟨_, e⟩)
            · exact .inl h
            · have e := Option.some.inj e
              have hpos : 0 < l.count m := by omega
              exact .inr ⟨List.count_pos_iff.mp hpos, by congr 1; omega⟩
      · rw [List.count_cons_of_ne (fun h => e h.symm)]
        have : m ∈ (if npOf g a = some 1 then rd ++ [a] else rd) ↔ m ∈ rd := by split <;> simp [e]
        rw [this]
        simp [e]
    · split
      · exact List.nodup_append.mpr ⟨nr, by simp, fun x hx y hy e => hr x hx (by rw [e, List.mem_singleton.mp hy]; simp)⟩
      · exact nr
    · intro m hm hml
      have key : m ∈ rd ∨ (m = a ∧ npOf g a = some 1) := by
        split at hm
        · rename_i h1
          rcases List.mem_append.mp hm with hm | hm
          · exact .inl hm
          · exact .inr ⟨List.mem_singleton.mp hm, h1⟩
        · exact .inl hm
      rcases key with hm | ⟨rfl, h1⟩
      · exact hr m hm (List.mem_cons_of_mem _ hml)
      · rw [hz] at h1
        have := Option.some.inj h1
        have := List.count_pos_iff.mpr hml
        omega
theorem KInv.done {pr : Str → List Str} {D O rd : List Str} {g : Gr} (h : KInv pr D O rd g) {n : Str} (hn : n ∈ O) (hD : n ∉ D) : npOf g n = some (-1) ∧ KInv pr (D ++ [n]) O (gDone (g, rd) n).2 (gDone (g, rd) n).1 := by
  have np0 := h.npO n hn hD
  refine ⟨np0, ?_⟩
  have hself : n ∉ scG g n := fun hm => by
    have := List.count_pos_iff.mpr hm
    rw [h.sc] at this
    exact hD ((h.Om n hn).2 n (List.count_pos_iff.mp this))
  have hl : ∀ m ∈ scG g n, n ∈ pr m ∧ m ∉ O := fun m hm => by
    have := List.count_pos_iff.mpr hm
    rw [h.sc] at this
    have hp := List.count_pos_iff.mp this
    exact ⟨hp, fun hO => hD ((h.Om m hO).2 n hp)⟩
  have np1 : ∀ m, npOf (setNp g n (-2)) m = if m = n then some (-2) else npOf g m := fun m => by
    rw [npOf_setNp]
    by_cases e : m = n
    · subst e; rw [np0]; simp
    · simp [e]
  have npl : ∀ m ∈ scG g n, npOf (setNp g n (-2)) m = some (waits pr D m : Int) ∧ (scG g n).count m ≤ waits pr D m := fun m hm => by
    obtain ⟨h1, h2⟩ := hl m hm
    rw [np1, if_neg (fun e : m = n => hself (by rw [e] at hm; exact hm))]
    refine ⟨h.npR m (h.pin m n h1).1 h2, ?_⟩
    rw [h.sc]
    have := waits_add (pr := pr) (m := m) hD
    omega
  obtain ⟨r1, r2, r3⟩ := relaxs (scG g n) (setNp g n (-2)) rd fun m hm => ⟨_, npl m hm⟩
  have hg : gDone (g, rd) n = (scG g n).foldl relax (setNp g n (-2), rd) := rfl
  have names : (gDone (g, rd) n).1.map (·.1) = g.map (·.1) := gDone_names (g, rd) n
  have cz : ∀ m, m ∉ scG g n → (scG g n).count m = 0 := fun m hm => List.count_eq_zero.mpr hm
  have npN : ∀ m, npOf (gDone (g, rd) n).1 m = (if m = n then some (-2) else npOf g m).map fun i => i - ((pr m).count n : Int) := fun m => by rw [hg, r1, np1, h.sc]
  have cO : ∀ m ∈ O, (pr m).count n = 0 := fun m hm => by
    rw [← h.sc]; exact cz m fun hs => (hl m hs).2 hm
  have rdl : ∀ m ∈ rd, m ∉ scG g n := fun m hm hs => hD (((h.rdm m).mp hm).2.2 n (hl m hs).1)
  refine ⟨by rw [names]; exact h.nd, fun m x => by rw [scG_congr (shape_gDone (g, rd) n)]; exact h.sc m x, fun x m hm => by rw [names]; exact h.pin x m hm, fun m hm => ?_, fun m hm hmD => ?_, fun m hm hmO => ?_, ?_, fun m => ?_, h.On, ?_, fun m hm => ?_, fun m hm => ?_⟩
  · rw [npN]
    rcases List.mem_append.mp hm with hm | hm
    · have e : ¬ m = n := fun e => hD (e ▸ hm)
      rw [if_neg e, h.npD m hm, cO m (h.DO m hm)]; rfl
    · have e := List.mem_singleton.mp hm
      subst e
      rw [if_pos rfl, cO m hn]; rfl
  · have hm1 : m ∉ D := fun h' => hmD (List.mem_append_left _ h')
    have e : ¬ m = n := fun e => hmD (List.mem_append_right _ (by rw [e]; simp))
    rw [npN, if_neg e, h.npO m hm hm1, cO m hm]; rfl
  · rw [names] at hm
    have e : ¬ m = n := fun e => hmO (e ▸ hn)
    rw [npN, if_neg e, h.npR m hm hmO]
    have := waits_add (pr := pr) (m := m) hD
    simp only [Option.map_some]
    congr 1; omega
  · rw [hg]; exact r3 h.rdn rdl
  · rw [names, hg, r2]
    constructor
    · rintro (hm | ⟨hm, e⟩)
      · obtain ⟨a, b, c⟩ := (h.rdm m).mp hm
        exact ⟨a, b, fun x hx => List.mem_append_left _ (c x hx)⟩
      · obtain ⟨h1, h2⟩ := hl m hm
        refine ⟨(h.pin m n h1).1, h2, waits_zero.mp ?_⟩
        rw [(npl m hm).1] at e
        have e := Option.some.inj e
        have := waits_add (pr := pr) (m := m) hD
        rw [h.sc] at e
        omega
    · rintro ⟨h1, h2, h3⟩
      by_cases hs : m ∈ scG g n
      · refine .inr ⟨hs, ?_⟩
        rw [(npl m hs).1]
        have e0 := waits_zero.mpr h3
        have := waits_add (pr := pr) (m := m) hD
        rw [h.sc]
        congr 1; omega
      · refine .inl ((h.rdm m).mpr ⟨h1, h2, fun x hx => ?_⟩)
        rcases List.mem_append.mp (h3 x hx) with hx' | hx'
        · exact hx'
        · rw [List.mem_singleton.mp hx'] at hx
          have := List.count_pos_iff.mpr hx
          rw [← h.sc] at this
          exact absurd (List.count_pos_iff.mp this) hs
  · exact List.nodup_append.mpr ⟨h.Dn, by simp, fun a ha b hb e => hD (by rw [List.mem_singleton.mp hb] at e; exact e ▸ ha)⟩
  · rcases List.mem_append.mp hm with hm | hm
    · exact h.DO m hm
    · rw [List.mem_singleton.mp hm]; exact hn
  · rw [names]
    exact ⟨(h.Om m hm).1, fun x hx => List.mem_append_left _ ((h.Om m hm).2 x hx)⟩
end Mine

open PySem PySem.Calls PyProof.Rows
set_option Elab.async false
set_option linter.unusedVariables false
set_option maxRecDepth 100000
namespace Mine
def tx (l : List Nat) : Str := ⟨l.toArray⟩
def one (c : Nat) : Str := ⟨#[c]⟩
theorem tx_len (l : List Nat) : (tx l).length = l.length := by simp [tx, Str.length]
theorem tx_list (l : List Nat) : (tx l).cps.toList = l := by simp [tx]
theorem tx_of (x : Str) : tx x.cps.toList = x := by cases x; simp [tx]
theorem tx_append (a b : List Nat) : tx a ++ tx b = tx (a ++ b) := Str.ext' (by simp [Str.cps_append, tx])

/-! one sign's text for another -/
def rp (c : Nat) (z : List Nat) (l : List Nat) : List Nat := l.flatMap fun k => if k = c then z else [k]
theorem rp_append (c : Nat) (z a b : List Nat) : rp c z (a ++ b) = rp c z a ++ rp c z b := by simp [rp]
theorem rp_free (c : Nat) (z : List Nat) : ∀ l : List Nat, c ∉ l → rp c z l = l
  | [], _ => rfl
  | k :: r, h => by
    have h1 : ¬ k = c := fun e => h (e ▸ List.mem_cons_self ..)
    have ih := rp_free c z r fun m => h (List.mem_cons_of_mem _ m)
    simp only [rp, List.flatMap_cons] at ih ⊢
    rw [ih, if_neg h1]; rfl
theorem rp_one (c : Nat) (z : List Nat) : rp c z [c] = z := by simp [rp]
theorem rp_join (c : Nat) (z : List Nat) : ∀ parts : List Str, (∀ p ∈ parts, c ∉ p.cps.toList) → rp c z (Str.join (one c) parts).cps.toList = (Str.join (tx z) parts).cps.toList
  | [], _ => rfl
  | [p], h => rp_free c z _ (h p (List.mem_singleton.mpr rfl))
  | p :: q :: r, h => by
    have ih := rp_join c z (q :: r) fun a ha => h a (List.mem_cons_of_mem _ ha)
    show rp c z (p ++ one c ++ Str.join (one c) (q :: r)).cps.toList = (p ++ tx z ++ Str.join (tx z) (q :: r)).cps.toList
    simp only [Str.cps_append, Array.toList_append]
    rw [rp_append, rp_append, ih, rp_free c z _ (h p (List.mem_cons_self ..)), tx_list]
    show p.cps.toList ++ rp c z [c] ++ _ = _
    rw [rp_one]
theorem replace_tx (x : List Nat) (c : Nat) (z : List Nat) : Txt.replace (tx x) (one c) (tx z) = tx (rp c z x) := by
  have h1 := StrLaws.replace_one (tx x) (tx z) c
  have h2 := rp_join c z (Txt.split (tx x) (one c)) fun p hp => StrLaws.split_free (tx x) c p hp
  have h3 : Str.join (one c) (Txt.split (tx x) (one c)) = tx x := StrLaws.join_split (tx x) (one c)
  rw [h3, tx_list] at h2
  show Txt.replace (tx x) ⟨#[c]⟩ (tx z) = _
  rw [h1, h2]
  exact (tx_of _).symm
/-! a table's way with a sign -/
theorem rp_len (c : Nat) (z : List Nat) : ∀ l : List Nat, (rp c z l).length ≤ l.length * max 1 z.length
  | [] => by simp [rp]
  | k :: r => by
    have ih := rp_len c z r
    simp only [rp, List.flatMap_cons, List.length_append, List.length_cons] at ih ⊢
    have : (if k = c then z else [k]).length ≤ max 1 z.length := by
      split
      · exact Nat.le_max_right ..
      · exact Nat.le_max_left ..
    rw [Nat.add_mul]; omega
section
variable {C : Cx} {A : Around} {L : Addr} {env : Env}
end
def IntsAt (vs : List Value) (ns : List Int) : Prop := vs.length = ns.length ∧ ∀ (i : Nat) (n : Int), ns[i]? = some n → ∃ t, vs[i]? = some (Value.int n t)

section
variable {C : Cx} {A : Around} {L : Addr} {p : Pt} {env : Env}
theorem R_replaceT {x z : List Nat} {c : Nat} {t : Tok} {u v : Nat} {Y Z : Str} {Q : Value → Pt → Prop} (hnb : NoneBooked C.B) (hu : 0 < u) (hv : 0 < v) (huv : u ≠ v) (hb : x.length + (x.length + 1) * z.length ≤ 16777216) (hY : Y = one c) (hZ : Z = tx z) (h : ∀ tk, Q (.str (tx (rp c z x)) tk) p) :
    Run C A L (PySem.call (.builtin "str.replace") [.str (tx x) t, .str Y u, .str Z v]) p Q := by
  subst hY hZ
  refine R_replace hnb (Nat.ne_of_gt hu) (Nat.ne_of_gt hv) huv (by rw [tx_len, tx_len]; exact hb) fun tk => ?_
  rw [replace_tx]; exact h tk
end

def amp : List Nat := [38, 97, 109, 112, 59]
def lts : List Nat := [38, 108, 116, 59]
def gts : List Nat := [38, 103, 116, 59]
def esc3 (x : List Nat) : List Nat := rp 60 lts (rp 62 gts (rp 38 amp x))
theorem rp_len5 (c : Nat) (z : List Nat) (l : List Nat) {n m : Nat} (h : l.length ≤ n) (hz : z.length ≤ 5) (hm : n * 5 = m) : (rp c z l).length ≤ m := by
  have h1 := rp_len c z l
  have h2 : l.length * max 1 z.length ≤ n * 5 := Nat.mul_le_mul h (by omega)
  omega

section
variable {C : Cx} {A : Around} {L : Addr} {p : Pt} {env : Env}
theorem R_thenAt {e : Expr} {pos : Pos} {Q : Value → Pt → Prop} (h : Run C A L (eval e env) p Q) : Run C A L (do let x ← eval e env; PySem.standAt pos; Pure.pure x) p Q := .bind (h.mono fun v p₁ h₁ => .bind (.standAt (.pure h₁)))
theorem dput_none {es : List Ent} {k : Str} {t : Tok} {v : Value} : k ∉ es.map (·.1) → dput es k t v = es ++ [(k, t, v)] := by
  induction es with
  | nil => exact fun _ => rfl
  | cons q r ih =>
    intro h
    have h1 : ¬ q.1 = k := fun e => h (by simp [e])
    unfold dput
    rw [if_neg h1, ih (fun m => h (by simp at m ⊢; exact .inr m))]; rfl
theorem dputs_app : ∀ (more acc : List Ent), ((acc ++ more).map (·.1)).Nodup → dputs acc more = acc ++ more
  | [], acc, _ => by simp [dputs]
  | q :: r, acc, h => by
    show dputs (dput acc q.1 q.2.1 q.2.2) r = _
    have hn : q.1 ∉ acc.map (·.1) := fun hm => by
      simp only [List.map_append, List.map_cons] at h
      exact (List.nodup_append.mp h).2.2 q.1 hm q.1 List.mem_cons_self rfl
    rw [dput_none hn, dputs_app r _ (by simpa using h)]
    simp
theorem dputs_nil {es : List Ent} (h : (es.map (·.1)).Nodup) : dputs [] es = es := dputs_app es [] h

end
section
variable {C : Cx} {A : Around} {L : Addr} {p : Pt} {env : Env}
end
theorem ints_at : ∀ {vs : List Value} {ns : List Int}, IntsAre vs ns → IntsAt vs ns := by
  intro vs ns h
  induction h with
  | nil => exact ⟨rfl, fun i n e => by simp at e⟩
  | cons n t _ ih =>
    refine ⟨by simp [ih.1], fun i m e => ?_⟩
    cases i with
    | zero => simp at e; subst e; exact ⟨t, rfl⟩
    | succ i => exact ih.2 i m (by simpa using e)
end Mine

open PySem PySem.Calls PyProof.Rows
set_option Elab.async false
set_option linter.unusedVariables false
set_option maxRecDepth 100000
namespace Mine
/-! one text for another, of any length -/
def stw (y l : List Nat) : Bool := decide (l.take y.length = y)
def rplS (y z : List Nat) : Nat → List Nat → List Nat
  | _, [] => []
  | s + 1, _ :: r => rplS y z s r
  | 0, c :: r => if stw y (c :: r) then z ++ rplS y z (y.length - 1) r else c :: rplS y z 0 r
def rpl (y z l : List Nat) : List Nat := rplS y z 0 l
theorem rplS_drop (y z : List Nat) : ∀ (s : Nat) (l : List Nat), rplS y z s l = rpl y z (l.drop s)
  | 0, l => rfl
  | s + 1, [] => rfl
  | s + 1, c :: r => rplS_drop y z s r
theorem stw_ne {y l : List Nat} (hy : y ≠ []) (h : stw y l = true) : l ≠ [] := fun e => by
  subst e
  have := of_decide_eq_true h
  simp at this; exact hy this
theorem rpl_hit {y z l : List Nat} (hy : y ≠ []) (h : stw y l = true) : rpl y z l = z ++ rpl y z (l.drop y.length) := by
  cases l with
  | nil => exact absurd rfl (stw_ne hy h)
  | cons c r =>
    show (if stw y (c :: r) then z ++ rplS y z (y.length - 1) r else c :: rplS y z 0 r) = _
    rw [if_pos h, rplS_drop]
    have : y.length = y.length - 1 + 1 := by
      have : 0 < y.length := List.length_pos_iff.mpr hy
      omega
    conv => rhs; rw [this, List.drop_succ_cons]
theorem rpl_miss {y z r : List Nat} {c : Nat} (h : stw y (c :: r) = false) : rpl y z (c :: r) = c :: rpl y z r := by
  show (if stw y (c :: r) then z ++ rplS y z (y.length - 1) r else c :: rplS y z 0 r) = _
  rw [h]; rfl
theorem rpl_none {y z : List Nat} : ∀ {l : List Nat}, (∀ k, stw y (l.drop k) = false) → rpl y z l = l
  | [], _ => rfl
  | c :: r, h => by
    rw [rpl_miss (h 0), rpl_none fun k => h (k + 1)]
theorem rpl_upto {y z : List Nat} : ∀ {n : Nat} {l : List Nat}, n ≤ l.length → (∀ k, k < n → stw y (l.drop k) = false) → rpl y z l = l.take n ++ rpl y z (l.drop n)
  | 0, l, _, _ => by simp
  | n + 1, [], hn, _ => by simp at hn
  | n + 1, c :: r, hn, h => by
    rw [rpl_miss (h 0 (by omega)), rpl_upto (n := n) (by simpa using hn) fun k hk => h (k + 1) (by omega)]
    simp
theorem at_iff {x y : Str} (hy : y.cps.toList ≠ []) (i : Nat) : StrLaws.At x y x.length i ↔ stw y.cps.toList (x.cps.toList.drop i) = true := by
  unfold StrLaws.At stw
  rw [StrLaws.subAt_eq, beq_iff_eq, decide_eq_true_iff]
  have e : y.cps.toList.length = y.length := by simp [Str.length]
  rw [e]
  constructor
  · exact fun h => h.2
  · intro h
    refine ⟨?_, h⟩
    have h1 := congrArg List.length h
    have hl : 0 < y.cps.toList.length := List.length_pos_iff.mpr hy
    simp only [List.length_take, List.length_drop, e] at h1 hl
    have : x.cps.toList.length = x.length := by simp [Str.length]
    omega
theorem join_parts_rpl {x y z : Str} (hy : y.cps.toList ≠ []) : ∀ (cuts : List Nat) (a f : Nat), StrLaws.ChainG x y x.length a cuts f → (∀ k, f ≤ k → ¬ StrLaws.At x y x.length k) →
    (Str.join z (StrLaws.partsFrom x y.length a cuts)).cps.toList = rpl y.cps.toList z.cps.toList (x.cps.toList.drop a)
  | [], a, f, hc, hf => by
    have e : f = a := hc
    subst e
    show (Builtin.Str.strSub x f x.length).cps.toList = _
    rw [StrLaws.strSub_toList, rpl_none]
    · rw [List.take_of_length_le]; simp [Str.length]
    · intro k
      rw [List.drop_drop]
      cases h : stw y.cps.toList (x.cps.toList.drop (f + k)) with
      | false => rfl
      | true => exact absurd ((at_iff hy _).mpr h) (hf (f + k) (by omega))
  | c :: r, a, f, hc, hf => by
    obtain ⟨hac, hA, hno, hr⟩ := hc
    obtain ⟨p, q, hp⟩ := StrLaws.partsFrom_ne x y.length (c + y.length) r
    have ih := join_parts_rpl (z := z) hy r (c + y.length) f hr hf
    show (Str.join z (Builtin.Str.strSub x a c :: StrLaws.partsFrom x y.length (c + y.length) r)).cps.toList = _
    rw [hp] at ih ⊢
    show (Builtin.Str.strSub x a c ++ z ++ Str.join z (p :: q)).cps.toList = _
    rw [Str.cps_append, Str.cps_append, Array.toList_append, Array.toList_append, ih, StrLaws.strSub_toList]
    have hcl : c ≤ x.cps.toList.length := by
      have := hA.1
      have e : x.cps.toList.length = x.length := by simp [Str.length]
      omega
    rw [rpl_upto (n := c - a) (l := x.cps.toList.drop a) (by rw [List.length_drop]; omega) fun k hk => ?_]
    · rw [List.drop_drop, show a + (c - a) = c by omega, rpl_hit hy ((at_iff hy c).mp hA), List.drop_drop]
      simp [Str.length]
    · rw [List.drop_drop]
      cases h : stw y.cps.toList (x.cps.toList.drop (a + k)) with
      | false => rfl
      | true => exact absurd ((at_iff hy _).mpr h) (hno (a + k) (by omega) (by omega))
theorem replace_rpl (x y z : List Nat) (hy : y ≠ []) : Txt.replace (tx x) (tx y) (tx z) = tx (rpl y z x) := by
  have hy' : (tx y).cps.toList ≠ [] := by rw [tx_list]; exact hy
  have hy1 : 1 ≤ (tx y).length := by rw [tx_len]; exact List.length_pos_iff.mpr hy
  obtain ⟨f, hc, hf⟩ := StrLaws.occ_tight (tx x) (tx y) hy1
  have key := join_parts_rpl (z := tx z) hy' _ 0 f hc hf
  rw [tx_list, tx_list, List.drop_zero, tx_list] at key
  have hz0 : ((tx y).length == 0) = false := by simpa using (by omega : (tx y).length ≠ 0)
  unfold Txt.replace
  rw [hz0, Bool.false_and, Bool.or_false]
  cases he : (Builtin.Str.occurrences (tx x) (tx y) 0 (tx x).length ((tx x).length + 1)).isEmpty
  · rw [if_neg Bool.false_ne_true, StrLaws.glued_eq_join, StrLaws.partsBetween_eq]
    rw [← key, tx_of]
  · rw [if_pos rfl]
    have h0 : Builtin.Str.occurrences (tx x) (tx y) 0 (tx x).length ((tx x).length + 1) = [] := by simpa using he
    rw [h0] at key
    have : StrLaws.partsFrom (tx x) (tx y).length 0 [] = [Builtin.Str.strSub (tx x) 0 (tx x).length] := rfl
    rw [this, StrLaws.sub_whole] at key
    rw [← key]
    exact (tx_of _).symm
end Mine

open PySem PySem.Calls PyProof.Rows
set_option Elab.async false
set_option linter.unusedVariables false
set_option maxRecDepth 100000
namespace Mine
/-! texts of references: one text for another, piece by piece -/
inductive Pc
  | lit (l : List Nat)
  | ref (w t : Nat)
  deriving DecidableEq
namespace Pc
def amps : Nat → List Nat
  | 0 => []
  | t + 1 => [97, 109, 112, 59] ++ amps t
def wds : List (List Nat) := [[97], [98], [99], [100], [46], [108, 116], [103, 116], [113, 117, 111, 116]]
def wd (w : Nat) : List Nat := wds[w]?.getD []
def body (w t : Nat) : List Nat := amps t ++ (wd w ++ [59])
def key (w : Nat) : List Nat := 38 :: (wd w ++ [59])
def flat : Pc → List Nat
  | .lit l => l
  | .ref w t => 38 :: body w t
def flats (T : List Pc) : List Nat := T.flatMap flat
def Ok : Pc → Prop
  | .lit l => 38 ∉ l ∧ l.length ≤ 2
  | .ref w t => w < 8 ∧ t ≤ 3
def dec : Pc → Pc
  | .ref w (t + 1) => .ref w t
  | p => p
theorem wd_free : ∀ w < 8, 38 ∉ wd w ∧ 59 ∉ wd w ∧ wd w ≠ [97, 109, 112] ∧ (wd w).length ≤ 4 := by decide
theorem wd_inj : ∀ w < 8, ∀ v < 8, wd w = wd v → w = v := by decide
theorem amps_free : ∀ t, 38 ∉ amps t
  | 0 => by simp [amps]
  | t + 1 => by
    have := amps_free t
    simp only [amps, List.cons_append, List.nil_append, List.mem_cons, not_or]
    exact ⟨by decide, by decide, by decide, by decide, this⟩
theorem amps_len : ∀ t, (amps t).length = 4 * t
  | 0 => rfl
  | t + 1 => by simp only [amps, List.length_append, amps_len t, List.length_cons, List.length_nil]; omega
theorem body_free {w : Nat} (t : Nat) (hw : w < 8) : 38 ∉ body w t := by
  simp only [body, List.mem_append, List.mem_singleton, not_or]
  exact ⟨amps_free t, (wd_free w hw).1, by decide⟩
theorem stw_head {c : Nat} {y l : List Nat} : stw (c :: y) (c :: l) = stw y l := by
  unfold stw
  simp [List.length_cons, List.take_succ_cons]
theorem rpl_free {y z : List Nat} : ∀ (x r : List Nat), 38 ∉ x → rpl (38 :: y) z (x ++ r) = x ++ rpl (38 :: y) z r
  | [], r, _ => rfl
  | c :: x, r, h => by
    have hc : ¬ c = 38 := fun e => h (e ▸ List.mem_cons_self ..)
    rw [List.cons_append, rpl_miss, rpl_free x r fun hm => h (List.mem_cons_of_mem _ hm), List.cons_append]
    unfold stw
    refine decide_eq_false fun e => hc ?_
    rw [List.length_cons, List.take_succ_cons] at e
    exact (List.cons.inj e).1
theorem pre59 {r : List Nat} : ∀ {u v : List Nat}, 59 ∉ u → 59 ∉ v → stw (u ++ [59]) (v ++ 59 :: r) = decide (u = v)
  | [], [], _, _ => by simp [stw]
  | [], b :: v, _, hv => by
    have hb : ¬ b = 59 := fun e => hv (e ▸ List.mem_cons_self ..)
    simp [stw, hb]
  | a :: u, [], hu, _ => by
    have ha : ¬ a = 59 := fun e => hu (e ▸ List.mem_cons_self ..)
    have ha' : ¬ 59 = a := fun e => ha e.symm
    simp [stw, ha']
  | a :: u, b :: v, hu, hv => by
    have ih := pre59 (r := r) (u := u) (v := v) (fun h => hu (List.mem_cons_of_mem _ h)) fun h => hv (List.mem_cons_of_mem _ h)
    by_cases e : a = b
    · subst e
      rw [List.cons_append, List.cons_append, stw_head, ih]
      simp
    · have : stw (a :: u ++ [59]) (b :: v ++ 59 :: r) = false := by
        unfold stw
        refine decide_eq_false fun h => e ?_
        rw [List.cons_append, List.cons_append, List.length_cons, List.take_succ_cons] at h
        exact (List.cons.inj h).1.symm
      rw [this]
      simp [e]
theorem rpl_pass {y z b r : List Nat} (hb : 38 ∉ b) (h : stw y (b ++ r) = false) : rpl (38 :: y) z (38 :: b ++ r) = 38 :: b ++ rpl (38 :: y) z r := by
  rw [List.cons_append, rpl_miss (by rw [stw_head]; exact h), rpl_free _ _ hb, List.cons_append]
theorem key_at {w v t : Nat} {r : List Nat} (hw : w < 8) (hv : v < 8) : stw (wd w ++ [59]) (body v t ++ r) = decide (w = v ∧ t = 0) := by
  have fw := wd_free w hw
  have fv := wd_free v hv
  cases t with
  | zero =>
    show stw (wd w ++ [59]) ((wd v ++ [59]) ++ r) = _
    rw [List.append_assoc]
    refine (pre59 fw.2.1 fv.2.1).trans (decide_eq_decide.mpr ⟨fun e => ⟨wd_inj w hw v hv e, rfl⟩, fun e => by rw [e.1]⟩)
  | succ t =>
    show stw (wd w ++ [59]) (([97, 109, 112] ++ 59 :: (amps t ++ (wd v ++ [59]))) ++ r) = _
    rw [List.append_assoc]
    refine (pre59 fw.2.1 (by decide)).trans (decide_eq_decide.mpr ⟨fun e => absurd e fw.2.2.1, fun e => nomatch e.2⟩)
theorem amp_at {v t : Nat} {r : List Nat} (hv : v < 8) : stw ([97, 109, 112] ++ [59]) (body v t ++ r) = decide (t ≠ 0) := by
  have fv := wd_free v hv
  cases t with
  | zero =>
    show stw ([97, 109, 112] ++ [59]) ((wd v ++ [59]) ++ r) = _
    rw [List.append_assoc]
    refine (pre59 (by decide) fv.2.1).trans (decide_eq_decide.mpr ⟨fun e => absurd e.symm fv.2.2.1, fun e => absurd rfl e⟩)
  | succ t =>
    show stw ([97, 109, 112] ++ [59]) (([97, 109, 112] ++ 59 :: (amps t ++ (wd v ++ [59]))) ++ r) = _
    rw [List.append_assoc]
    exact (pre59 (by decide) (by decide)).trans (decide_eq_decide.mpr ⟨fun _ => (by simp), fun _ => rfl⟩)
/-- one piece for some -/
def sub (w : Nat) (Y : List Pc) (T : List Pc) : List Pc := T.flatMap fun p => if p = .ref w 0 then Y else [p]
theorem rpl_sub {w : Nat} (hw : w < 8) (Y : List Pc) : ∀ T : List Pc, (∀ p ∈ T, Ok p) → rpl (key w) (flats Y) (flats T) = flats (sub w Y T)
  | [], _ => rfl
  | p :: T, h => by
    have ih := rpl_sub hw Y T fun q hq => h q (List.mem_cons_of_mem _ hq)
    have hp := h p (List.mem_cons_self ..)
    show rpl (key w) (flats Y) (flat p ++ flats T) = flats ((if p = .ref w 0 then Y else [p]) ++ sub w Y T)
    unfold flats at ih ⊢
    rw [List.flatMap_append, ← ih]
    cases p with
    | lit l =>
      rw [if_neg (by simp)]
      show rpl (key w) _ (l ++ _) = [Pc.lit l].flatMap flat ++ _
      rw [show [Pc.lit l].flatMap flat = l by simp [flat]]
      exact rpl_free _ _ hp.1
    | ref v t =>
      by_cases e : w = v ∧ t = 0
      · obtain ⟨rfl, rfl⟩ := e
        rw [if_pos rfl]
        show rpl (key w) _ (key w ++ _) = _
        rw [rpl_hit (by simp [key]), List.drop_left]
        unfold stw
        exact decide_eq_true (by rw [List.take_left])
      · rw [if_neg (fun e' => e (by cases e'; exact ⟨rfl, rfl⟩))]
        show rpl (key w) _ (38 :: body v t ++ _) = [Pc.ref v t].flatMap flat ++ _
        rw [show [Pc.ref v t].flatMap flat = 38 :: body v t by simp [flat]]
        exact rpl_pass (body_free t hp.1) (by rw [key_at hw hp.1]; exact decide_eq_false e)
theorem rpl_dec : ∀ T : List Pc, (∀ p ∈ T, Ok p) → rpl amp [38] (flats T) = flats (T.map dec)
  | [], _ => rfl
  | p :: T, h => by
    have ih := rpl_dec T fun q hq => h q (List.mem_cons_of_mem _ hq)
    have hp := h p (List.mem_cons_self ..)
    show rpl amp [38] (flat p ++ flats T) = flat (dec p) ++ flats (T.map dec)
    rw [← ih]
    cases p with
    | lit l => exact rpl_free _ _ hp.1
    | ref v t =>
      cases t with
      | zero => exact rpl_pass (y := [97, 109, 112, 59]) (body_free 0 hp.1) (by rw [show ([97, 109, 112, 59] : List Nat) = [97, 109, 112] ++ [59] from rfl, amp_at hp.1]; rfl)
      | succ t =>
        show rpl amp [38] (amp ++ body v t ++ flats T) = 38 :: body v t ++ rpl amp [38] (flats T)
        rw [List.append_assoc, rpl_hit (by decide), List.drop_left]
        · exact congrArg (38 :: ·) (rpl_free (y := [97, 109, 112, 59]) _ _ (body_free t hp.1))
        · unfold stw
          exact decide_eq_true (by rw [List.take_left])
end Pc
end Mine

open PySem PySem.Calls PyProof.Rows
set_option Elab.async false
set_option linter.unusedVariables false
set_option maxRecDepth 100000
namespace Mine
namespace Pc
/-- what unescape makes of pieces, with a table of pieces -/
def table (rows : List (Nat × List Pc)) (T : List Pc) : List Pc := rows.foldl (fun T q => sub q.1 q.2 T) T
def unesc (rows : List (Nat × List Pc)) (T : List Pc) : List Pc := (table rows (sub 6 [.lit [62]] (sub 5 [.lit [60]] T))).map dec
/-- one round for one piece -/
def step (R : List Nat) (Y : Nat → List Pc) : Pc → List Pc
  | .lit l => [.lit l]
  | .ref w (t + 1) => [.ref w t]
  | .ref w 0 => if w = 5 then [.lit [60]] else if w = 6 then [.lit [62]] else if w ∈ R then (Y w).map dec else [.ref w 0]
def hit (R : List Nat) (Y : Nat → List Pc) : Pc → List Pc
  | .lit l => [.lit l]
  | .ref w (t + 1) => [.ref w (t + 1)]
  | .ref w 0 => if w ∈ R then Y w else [.ref w 0]
theorem flatMap_one {Y : List Pc} {f : Pc → List Pc} (h : ∀ p ∈ Y, f p = [p]) : Y.flatMap f = Y := by
  induction Y with
  | nil => rfl
  | cons p Y ih => rw [List.flatMap_cons, h p (List.mem_cons_self ..), ih fun q hq => h q (List.mem_cons_of_mem _ hq)]; rfl
theorem hit_no {R : List Nat} {Y : Nat → List Pc} {p : Pc} (h : ∀ j ∈ R, p ≠ .ref j 0) : hit R Y p = [p] := by
  cases p with
  | lit l => rfl
  | ref w t =>
    cases t with
    | zero => exact if_neg fun hm => h w hm rfl
    | succ t => rfl
theorem table_hit {Y : Nat → List Pc} : ∀ {R : List Nat}, (∀ i ∈ R, ∀ j ∈ R, .ref j 0 ∉ Y i) → ∀ T, table (R.map fun i => (i, Y i)) T = T.flatMap (hit R Y)
  | [], _, T => (flatMap_one (f := hit [] Y) fun p _ => hit_no fun j hj => absurd hj List.not_mem_nil).symm
  | i :: R, h, T => by
    have ih := table_hit (R := R) fun a ha b hb => h a (List.mem_cons_of_mem _ ha) b (List.mem_cons_of_mem _ hb)
    show table (R.map fun i => (i, Y i)) (sub i (Y i) T) = _
    rw [ih]
    unfold sub
    rw [List.flatMap_assoc]
    congr 1
    funext p
    by_cases e : p = .ref i 0
    · subst e
      rw [if_pos rfl]
      show _ = if i ∈ i :: R then Y i else _
      rw [if_pos (List.mem_cons_self ..)]
      exact flatMap_one fun q hq => hit_no fun j hj e => h i (List.mem_cons_self ..) j (List.mem_cons_of_mem _ hj) (e ▸ hq)
    · rw [if_neg e, List.flatMap_cons, List.flatMap_nil, List.append_nil]
      cases p with
      | lit l => rfl
      | ref w t =>
        cases t with
        | succ t => rfl
        | zero =>
          have hw : w ≠ i := fun e' => e (by rw [e'])
          show (if w ∈ R then Y w else [.ref w 0]) = if w ∈ i :: R then Y w else [.ref w 0]
          by_cases hm : w ∈ R
          · rw [if_pos hm, if_pos (List.mem_cons_of_mem _ hm)]
          · rw [if_neg hm, if_neg fun h => (List.mem_cons.mp h).elim hw hm]
theorem unesc_step {R : List Nat} {Y : Nat → List Pc} (hR : ∀ i ∈ R, i < 5) (hY : ∀ i ∈ R, ∀ j ∈ R, .ref j 0 ∉ Y i) (T : List Pc) : unesc (R.map fun i => (i, Y i)) T = T.flatMap (step R Y) := by
  unfold unesc
  rw [table_hit hY]
  unfold sub
  rw [List.flatMap_assoc, List.flatMap_assoc, List.map_flatMap]
  congr 1
  funext p
  have h5 : 5 ∉ R := fun h => absurd (hR 5 h) (by decide)
  have h6 : 6 ∉ R := fun h => absurd (hR 6 h) (by decide)
  cases p with
  | lit l => simp [step, hit, dec]
  | ref w t =>
    cases t with
    | succ t => simp [step, hit, dec]
    | zero =>
      by_cases e5 : w = 5
      · subst e5; simp [step, hit, dec]
      · by_cases e6 : w = 6
        · subst e6; simp [step, hit, dec]
        · by_cases hm : w ∈ R
          · simp [step, hit, dec, e5, e6, hm]
          · simp [step, hit, dec, e5, e6, hm]
/-- what all rounds make of one piece -/
def ev (Y : Nat → List Pc) : List (List Nat) → Pc → List Nat
  | [], p => flat p
  | R :: L, p => (step R Y p).flatMap (ev Y L)
def run (Y : Nat → List Pc) (L : List (List Nat)) (T : List Pc) : List Pc := L.foldl (fun T R => T.flatMap (step R Y)) T
theorem run_ev (Y : Nat → List Pc) : ∀ (L : List (List Nat)) (T : List Pc), flats (run Y L T) = T.flatMap (ev Y L)
  | [], _ => rfl
  | R :: L, T => by
    show flats (run Y L (T.flatMap (step R Y))) = _
    rw [run_ev Y L, List.flatMap_assoc]; rfl
def whenL (Rs : List (List Nat)) (o w : Nat) : List Nat := (List.range' o (Rs.length + 1 - o)).filter fun k => decide (w ∈ Rs[k - 1]?.getD [])
theorem when_end {Rs : List (List Nat)} {o w : Nat} (h : Rs.length < o) : whenL Rs o w = [] := by
  unfold whenL
  rw [show Rs.length + 1 - o = 0 by omega]; rfl
theorem when_next {Rs : List (List Nat)} {j w : Nat} (h : j < Rs.length) : whenL Rs (j + 1) w = if w ∈ Rs[j] then (j + 1) :: whenL Rs (j + 2) w else whenL Rs (j + 2) w := by
  unfold whenL
  rw [show Rs.length + 1 - (j + 1) = (Rs.length + 1 - (j + 2)) + 1 from sub_up (Nat.succ_lt_succ h), List.range'_succ, List.filter_cons]
  rw [show j + 1 - 1 = j by omega, List.getElem?_eq_getElem h, Option.getD_some]
  by_cases hm : w ∈ Rs[j]
  · rw [if_pos (decide_eq_true hm), if_pos hm]
  · rw [if_neg (by simpa using hm), if_neg hm]
theorem when_no {Rs : List (List Nat)} {o w : Nat} (h : ∀ R ∈ Rs, w ∉ R) : whenL Rs o w = [] := by
  unfold whenL
  refine List.filter_eq_nil_iff.mpr fun k _ hk => ?_
  have hk := of_decide_eq_true hk
  cases e : Rs[k - 1]? with
  | none => rw [e] at hk; cases hk
  | some R => rw [e] at hk; exact h R (List.mem_of_getElem? e) hk
theorem when_mem {Rs : List (List Nat)} {o w k : Nat} {l : List Nat} (h : whenL Rs o w = k :: l) : o ≤ k ∧ k ≤ Rs.length := by
  have hk : k ∈ whenL Rs o w := by rw [h]; exact List.mem_cons_self ..
  have := List.mem_range'_1.mp (List.mem_filter.mp hk).1
  omega
/-- the sign that lt or gt stands for -/
def sign (w : Nat) : List Nat := if w = 5 then [60] else [62]
/-- what becomes of a reference of level t behind j rounds -/
def fate (Y : Nat → List Pc) (Rs : List (List Nat)) (f : Nat → Pc → List Nat) (o w t : Nat) : List Nat := match whenL Rs o w with
  | k :: _ => (Y w).flatMap (f k)
  | [] => if (w = 5 ∨ w = 6) ∧ o ≤ Rs.length then sign w else flat (.ref w t)
theorem ev_ref {Y : Nat → List Pc} {Rs : List (List Nat)} (h5 : ∀ R ∈ Rs, ∀ i ∈ R, i < 5) : ∀ (m j : Nat), j + m = Rs.length → ∀ w t, ev Y (Rs.drop j) (.ref w t) = fate Y Rs (fun k p => ev Y (Rs.drop k) (dec p)) (j + t + 1) w (t - (Rs.length - j))
  | 0, j, hj, w, t => by
    rw [List.drop_of_length_le (by omega)]
    unfold fate
    rw [when_end (by omega)]
    show flat _ = if _ then _ else _
    rw [if_neg (by omega), show Rs.length - j = 0 by omega]; rfl
  | m + 1, j, hj, w, t => by
    have hlt : j < Rs.length := hj ▸ Nat.lt_add_of_pos_right (Nat.succ_pos m)
    have ih := ev_ref (Y := Y) h5 m (j + 1) (by omega)
    have n5 : ∀ R ∈ Rs, 5 ∉ R := fun R hR h => absurd (h5 R hR 5 h) (by decide)
    have n6 : ∀ R ∈ Rs, 6 ∉ R := fun R hR h => absurd (h5 R hR 6 h) (by decide)
    rw [List.drop_eq_getElem_cons hlt]
    show (step Rs[j] Y (.ref w t)).flatMap (ev Y (Rs.drop (j + 1))) = _
    cases t with
    | succ t =>
      show ev Y (Rs.drop (j + 1)) (.ref w t) ++ [] = _
      rw [List.append_nil, ih, show j + 1 + t + 1 = j + (t + 1) + 1 by omega, show t - (Rs.length - (j + 1)) = t + 1 - (Rs.length - j) from by rw [sub_up hlt, Nat.add_sub_add_right]]
    | zero =>
      show (if w = 5 then [Pc.lit [60]] else if w = 6 then [.lit [62]] else if w ∈ Rs[j] then (Y w).map dec else [.ref w 0]).flatMap (ev Y (Rs.drop (j + 1))) = _
      by_cases e5 : w = 5
      · subst e5
        rw [if_pos rfl]
        unfold fate
        rw [when_no n5]
        show ev Y _ (.lit [60]) ++ [] = if _ then _ else _
        rw [if_pos ⟨.inl rfl, by omega⟩, List.append_nil]
        exact ev_lit Y _ _
      · rw [if_neg e5]
        by_cases e6 : w = 6
        · subst e6
          rw [if_pos rfl]
          unfold fate
          rw [when_no n6]
          show ev Y _ (.lit [62]) ++ [] = if _ then _ else _
          rw [if_pos ⟨.inr rfl, by omega⟩, List.append_nil]
          exact ev_lit Y _ _
        · rw [if_neg e6]
          unfold fate
          rw [show j + 0 + 1 = j + 1 by omega, when_next hlt]
          by_cases hm : w ∈ Rs[j]
          · rw [if_pos hm, if_pos hm]
            show ((Y w).map dec).flatMap _ = (Y w).flatMap _
            rw [List.flatMap_map]
          · rw [if_neg hm, if_neg hm]
            show ev Y (Rs.drop (j + 1)) (.ref w 0) ++ [] = _
            rw [List.append_nil, ih]
            unfold fate
            rw [show j + 1 + 0 + 1 = j + 2 by omega, Nat.zero_sub, Nat.zero_sub]
            cases whenL Rs (j + 2) w with
            | cons k l => rfl
            | nil =>
              show (if _ then _ else _) = if _ then _ else _
              rw [if_neg (fun h => h.1.elim e5 e6), if_neg (fun h => h.1.elim e5 e6)]
where
  ev_lit (Y : Nat → List Pc) : ∀ (L : List (List Nat)) (l : List Nat), ev Y L (.lit l) = l
    | [], _ => rfl
    | R :: L, l => by
      show ev Y L (.lit l) ++ [] = l
      rw [List.append_nil]; exact ev_lit Y L l
end Pc
end Mine

open PySem PySem.Calls PyProof.Rows
set_option Elab.async false
set_option linter.unusedVariables false
set_option maxRecDepth 100000
namespace Mine
namespace Pc
theorem open_lt {s t : Nat} : s < if 0 < s then s + max t 1 else t + 1 := by
  by_cases h : 0 < s
  · rw [if_pos h]; exact Nat.lt_add_of_pos_right (Nat.lt_of_lt_of_le Nat.zero_lt_one (Nat.le_max_right ..))
  · rw [if_neg h]; exact Nat.lt_of_le_of_lt (Nat.le_of_not_lt h) (Nat.succ_pos t)
theorem left_lt {n s k f : Nat} (h : s < k) (h2 : k ≤ n) (hf : n - s < f + 1) : n - k < f := Nat.lt_of_lt_of_le (Nat.sub_lt_sub_left (Nat.lt_of_lt_of_le h h2) h) (Nat.le_of_lt_succ hf)
theorem max_one (t : Nat) : ((max t 1 : Nat) : Int) = max (t : Int) 1 := by
  cases t with
  | zero => rfl
  | succ t =>
    rw [Nat.max_eq_left (Nat.succ_le_succ (Nat.zero_le t))]
    exact (Int.max_eq_left (Int.ofNat_le.mpr (Nat.succ_le_succ (Nat.zero_le t)) : ((1 : Nat) : Int) ≤ ((t + 1 : Nat) : Int))).symm
theorem idx_lt {o i n : Nat} (h1 : 1 ≤ o) (h : i < n + 1 - o) : o + i - 1 < n := by
  obtain ⟨o, rfl⟩ : ∃ k, o = k + 1 := ⟨o - 1, (Nat.sub_add_cancel h1).symm⟩
  rw [Nat.add_sub_add_right] at h
  rw [Nat.add_right_comm]
  exact Nat.add_lt_of_lt_sub' h
theorem left_int {t n s : Nat} (h : s ≤ n) : max ((t : Int) - ((n : Int) + 1 - max (s : Int) 1)) 0 = ((t - (n + 1 - max s 1) : Nat) : Int) := by
  have h1 : max s 1 ≤ n + 1 := Nat.max_le.mpr ⟨Nat.le_succ_of_le h, Nat.succ_le_succ (Nat.zero_le n)⟩
  rw [← max_one, show (n : Int) + 1 - ((max s 1 : Nat) : Int) = ((n + 1 - max s 1 : Nat) : Int) from (Int.natCast_sub h1).symm, ← Int.ofNat_toNat, Int.toNat_sub]
/-- what _law_read makes of one piece -/
def rd (Y : Nat → List Pc) (Rs : List (List Nat)) : Nat → Nat → Pc → List Nat
  | _, _, .lit l => l
  | 0, _, .ref w t => []
  | f + 1, s, .ref w t => fate Y Rs (fun k p => rd Y Rs f k p) (if 0 < s then s + max t 1 else t + 1) w (t - (Rs.length + 1 - max s 1))
theorem fate_congr {Y : Nat → List Pc} {Rs : List (List Nat)} {f g : Nat → Pc → List Nat} {o w t : Nat} (h : ∀ k p, o ≤ k → k ≤ Rs.length → f k p = g k p) : fate Y Rs f o w t = fate Y Rs g o w t := by
  unfold fate
  cases e : whenL Rs o w with
  | nil => rfl
  | cons k l =>
    obtain ⟨h1, h2⟩ := when_mem e
    show (Y w).flatMap (f k) = (Y w).flatMap (g k)
    rw [funext fun p => h k p h1 h2]
theorem rd_ev {Y : Nat → List Pc} {Rs : List (List Nat)} (h5 : ∀ R ∈ Rs, ∀ i ∈ R, i < 5) : ∀ (f s : Nat), s ≤ Rs.length → Rs.length - s < f → ∀ p, rd Y Rs f s p = ev Y (Rs.drop s) (if s = 0 then p else dec p)
  | f, s, hs, hf, .lit l => by
    have e : (if s = 0 then Pc.lit l else dec (.lit l)) = .lit l := by split <;> rfl
    rw [e, ev_ref.ev_lit]
    cases f <;> rfl
  | 0, s, hs, hf, .ref w t => absurd hf (Nat.not_lt_zero _)
  | f + 1, s, hs, hf, .ref w t => by
    have ih := fun k hk hk' => rd_ev (Y := Y) h5 f k hk hk'
    show fate Y Rs (fun k p => rd Y Rs f k p) _ w _ = _
    have go : ∀ o t', s < o → fate Y Rs (fun k p => rd Y Rs f k p) o w t' = fate Y Rs (fun k p => ev Y (Rs.drop k) (dec p)) o w t' := fun o t' ho =>
      fate_congr fun k p h1 h2 => by
        have := ih k h2 (Nat.lt_of_lt_of_le (Nat.sub_lt_sub_left (Nat.lt_of_lt_of_le (Nat.lt_of_lt_of_le ho h1) h2) (Nat.lt_of_lt_of_le ho h1)) (Nat.le_of_lt_succ hf)) p
        rw [if_neg (show ¬ k = 0 by omega)] at this
        exact this
    by_cases h0 : s = 0
    · subst h0
      rw [if_pos rfl, if_neg (Nat.lt_irrefl 0), go _ _ (Nat.succ_pos _), ev_ref h5 Rs.length 0 (Nat.zero_add _)]
      rw [Nat.zero_add, show Rs.length + 1 - max 0 1 = Rs.length - 0 from rfl]
    · have hp : 0 < s := Nat.pos_of_ne_zero h0
      have e : dec (.ref w t) = .ref w (t - 1) := by cases t <;> rfl
      rw [if_neg h0, if_pos hp, e, go _ _ (by omega), ev_ref h5 (Rs.length - s) s (by omega)]
      rw [show s + (t - 1) + 1 = s + max t 1 from by cases t with
        | zero => rfl
        | succ t => rw [Nat.max_eq_left (Nat.succ_le_succ (Nat.zero_le t))]; rfl, show t - 1 - (Rs.length - s) = t - (Rs.length + 1 - max s 1) from by rw [Nat.max_eq_left hp, Nat.sub_sub, Nat.sub_add_comm hs, Nat.add_comm]]
/-- the whole: what all rounds make of the data is what is read -/
theorem run_read {Y : Nat → List Pc} {Rs : List (List Nat)} (h5 : ∀ R ∈ Rs, ∀ i ∈ R, i < 5) (T : List Pc) : flats (run Y Rs T) = T.flatMap (rd Y Rs (Rs.length + 1) 0) := by
  rw [run_ev]
  congr 1
  funext p
  rw [rd_ev h5 _ 0 (Nat.zero_le _) (by omega), if_pos rfl, List.drop_zero]
/-! sizes -/
theorem flat_len {p : Pc} (h : Ok p) : (flat p).length ≤ 18 := by
  cases p with
  | lit l => exact Nat.le_trans h.2 (by decide)
  | ref w t =>
    have h1 := (wd_free w h.1).2.2.2
    have h2 := h.2
    simp only [flat, body, List.length_cons, List.length_append, amps_len, List.length_nil]
    omega
theorem flats_len {n : Nat} {f : Pc → List Nat} : ∀ {T : List Pc}, (∀ p ∈ T, (f p).length ≤ n) → (T.flatMap f).length ≤ T.length * n
  | [], _ => by simp
  | p :: T, h => by
    have ih := flats_len (n := n) (f := f) (T := T) fun q hq => h q (List.mem_cons_of_mem _ hq)
    have hp := h p (List.mem_cons_self ..)
    rw [List.flatMap_cons, List.length_append, List.length_cons, Nat.add_mul]; omega
theorem flatP_len {n : Nat} {f : Pc → List Pc} : ∀ {T : List Pc}, (∀ p ∈ T, (f p).length ≤ n) → (T.flatMap f).length ≤ T.length * n
  | [], _ => by simp
  | p :: T, h => by
    have ih := flatP_len (n := n) (f := f) (T := T) fun q hq => h q (List.mem_cons_of_mem _ hq)
    have hp := h p (List.mem_cons_self ..)
    rw [List.flatMap_cons, List.length_append, List.length_cons, Nat.add_mul]; omega
theorem count_flat {p : Pc} (h : Ok p) : (flat p).count 38 ≤ 1 := by
  cases p with
  | lit l => rw [flat, List.count_eq_zero_of_not_mem h.1]; exact Nat.zero_le _
  | ref w t => rw [flat, List.count_cons_self, List.count_eq_zero_of_not_mem (body_free t h.1)]; exact Nat.le_refl _
theorem count_flats : ∀ {T : List Pc}, (∀ p ∈ T, Ok p) → (flats T).count 38 ≤ T.length
  | [], _ => Nat.le_refl _
  | p :: T, h => by
    have ih := count_flats (T := T) fun q hq => h q (List.mem_cons_of_mem _ hq)
    have hp := count_flat (h p (List.mem_cons_self ..))
    show (flat p ++ flats T).count 38 ≤ _
    rw [List.count_append, List.length_cons]; omega
theorem dec_ok {p : Pc} (h : Ok p) : Ok (dec p) := by
  cases p with
  | lit l => exact h
  | ref w t => cases t with
    | zero => exact h
    | succ t => exact ⟨h.1, Nat.le_of_succ_le h.2⟩
theorem sub_ok {w : Nat} {Y T : List Pc} (hY : ∀ p ∈ Y, Ok p) (hT : ∀ p ∈ T, Ok p) : ∀ p ∈ sub w Y T, Ok p := fun p hp => by
  obtain ⟨q, hq, hp⟩ := List.mem_flatMap.mp hp
  split at hp
  · exact hY p hp
  · exact List.mem_singleton.mp hp ▸ hT q hq
theorem sub_len {w n : Nat} {Y T : List Pc} (hn : 1 ≤ n) (hY : Y.length ≤ n) : (sub w Y T).length ≤ T.length * n := flatP_len fun p _ => by
  split
  · exact hY
  · exact hn
end Pc
end Mine

open PySem PySem.Calls PyProof.Rows PySem.Builtin PySem.Builtin.Str
set_option Elab.async false
set_option linter.unusedVariables false
set_option maxRecDepth 100000
namespace Mine
/-! str.replace, asked for the occurrences that there are -/
theorem count_drop {c : Nat} {l : List Nat} {a b : Nat} (h : a ≤ b) : (l.drop b).count c ≤ (l.drop a).count c := by
  have : l.drop b = (l.drop a).drop (b - a) := by rw [List.drop_drop, show a + (b - a) = b by omega]
  rw [this]
  exact (List.drop_sublist _ _).count_le _
theorem chain_count {x : PySem.Str} {c : Nat} {y : List Nat} : ∀ {cuts : List Nat} {a f : Nat}, StrLaws.ChainG x (tx (c :: y)) x.length a cuts f → cuts.length ≤ (x.cps.toList.drop a).count c
  | [], _, _, _ => Nat.zero_le _
  | i :: r, a, f, h => by
    obtain ⟨h1, h2, _, h4⟩ := h
    have ih := chain_count h4
    have e := of_decide_eq_true ((at_iff (x := x) (y := tx (c :: y)) (by rw [tx_list]; simp) i).mp h2)
    rw [tx_list] at e
    rw [tx_len] at ih
    have hs : x.cps.toList.drop i = (c :: y) ++ x.cps.toList.drop (i + (c :: y).length) := by
      conv => lhs; rw [← List.take_append_drop (c :: y).length (x.cps.toList.drop i), e, List.drop_drop]
    have h5 : (x.cps.toList.drop i).count c ≤ (x.cps.toList.drop a).count c := count_drop h1
    rw [hs, List.count_append, List.count_cons_self] at h5
    rw [List.length_cons]; omega
theorem occ_count (x y : List Nat) (c : Nat) : (occurrences (tx x) (tx (c :: y)) 0 (tx x).length ((tx x).length + 1)).length ≤ x.count c := by
  obtain ⟨f, hc, _⟩ := StrLaws.occ_tight (tx x) (tx (c :: y)) (by rw [tx_len]; simp)
  have := chain_count hc
  rw [tx_list, List.drop_zero] at this
  exact this
theorem fits_occ {x z : PySem.Str} (y : PySem.Str) (hb : x.length + (occurrences x y 0 x.length (x.length + 1)).length * z.length ≤ 16777216) :
    (glued z (partsBetween x (occurrences x y 0 x.length (x.length + 1)) y.length)).length ≤ sizeLine := by
  have hy : (glued y (partsBetween x (occurrences x y 0 x.length (x.length + 1)) y.length)).length = x.length := by rw [StrLaws.glued_between_self]
  rw [size_glued, length_partsBetween, Nat.add_sub_cancel] at hy
  rw [size_glued, length_partsBetween, Nat.add_sub_cancel, sizeLine_eq]
  omega
theorem wp_replaceO {prog : Program} {w : World} {A : Around} {E : Value → Shared → Prop} {s : Shared} {x y z : PySem.Str} {t u v : Tok} {Q : Value → Shared → Prop} (hu : u ≠ 0) (hv : v ≠ 0) (huv : u ≠ v)
    (hb : x.length + (occurrences x y 0 x.length (x.length + 1)).length * z.length ≤ 16777216) (hnb : NoneBooked s.heap) (hq : ∀ t' k, Q (.str (Txt.replace x y z) t') { s with toks := k }) :
    wpAny (model prog w) A (call (.builtin "str.replace") [.str x t, .str y u, .str z v]) Q E s := by
  have hl : tooLong (x.length + (occurrences x y 0 x.length (x.length + 1)).length * z.length) = false := decide_eq_false (by rw [sizeLine_eq]; omega)
  refine call_givesAt F.slot_str_replace (typeIs_str _ _ _) F.entry_str_replace (F.args_str_replace_3 _ _ _) (gives_str_replace2 x y z t u v fun _ => ⟨by simp [hu, hv], by simp [huv], hl⟩) hnb ?_
  unfold Txt.replace at hq
  by_cases hc : ((occurrences x y 0 x.length (x.length + 1)).isEmpty || (y.length == 0 && z.length == 0)) = true
  · rw [if_pos hc]
    rw [if_pos hc] at hq
    exact hq t s.toks
  · rw [if_neg hc]
    rw [if_neg hc] at hq
    have ft := fits_occ (z := z) y hb
    by_cases e : (y == z) = true
    · rw [if_pos e]
      have e' : glued z (partsBetween x (occurrences x y 0 x.length (x.length + 1)) y.length) = x := by rw [← eq_of_beq e, StrLaws.glued_between_self]
      rw [e'] at hq ft ⊢
      exact ⟨hq t s.toks, ft, hq _ _⟩
    · rw [if_neg e]
      exact ⟨ft, hq _ _⟩
section
variable {C : Cx} {A : Around} {L : Addr} {p : Pt}
/-- one piece for some, in a text of pieces -/
theorem R_replaceP {T Y : List Pc} {w : Nat} {t : Tok} {u v : Nat} {K Z : PySem.Str} {n m : Nat} {Q : Value → Pt → Prop} (hnb : NoneBooked C.B) (hu : u ≠ 0) (hv : v ≠ 0) (huv : u ≠ v) (hw : w < 8) (hT : ∀ q ∈ T, q.Ok) (hn : T.length ≤ n) (hm : (Pc.flats Y).length ≤ m) (hb : n * 18 + n * m ≤ 16777216)
    (hK : K = tx (Pc.key w)) (hZ : Z = tx (Pc.flats Y)) (h : ∀ tk, Q (.str (tx (Pc.flats (Pc.sub w Y T))) tk) p) :
    Run C A L (PySem.call (.builtin "str.replace") [.str (tx (Pc.flats T)) t, .str K u, .str Z v]) p Q := .of fun s S TK => by
  subst hK hZ
  have h1 := occ_count (Pc.flats T) (Pc.wd w ++ [59]) 38
  have h2 := Pc.count_flats hT
  have h3 : (Pc.flats T).length ≤ T.length * 18 := Pc.flats_len fun q hq => Pc.flat_len (hT q hq)
  refine wp_replaceO hu hv huv ?_ (booked_keep hnb S.s0.base) fun t' k => ?_
  · rw [tx_len (Pc.flats T), tx_len (Pc.flats Y)]
    rw [tx_len (Pc.flats T)] at h1
    have h4 : (occurrences (tx (Pc.flats T)) (tx (Pc.key w)) 0 (Pc.flats T).length ((Pc.flats T).length + 1)).length * (Pc.flats Y).length ≤ n * m := Nat.mul_le_mul (Nat.le_trans h1 (Nat.le_trans h2 hn)) hm
    have h5 : T.length * 18 ≤ n * 18 := Nat.mul_le_mul_right _ hn
    omega
  · rw [replace_rpl _ _ _ (by simp [Pc.key]), Pc.rpl_sub hw Y T hT]
    exact Post.same S (h t')
/-- one escape less for all -/
theorem R_replaceA {T : List Pc} {t : Tok} {u v : Nat} {K Z : PySem.Str} {n : Nat} {Q : Value → Pt → Prop} (hnb : NoneBooked C.B) (hu : u ≠ 0) (hv : v ≠ 0) (huv : u ≠ v) (hT : ∀ q ∈ T, q.Ok) (hn : T.length ≤ n) (hb : n * 18 + n ≤ 16777216)
    (hK : K = tx amp) (hZ : Z = tx [38]) (h : ∀ tk, Q (.str (tx (Pc.flats (T.map Pc.dec))) tk) p) :
    Run C A L (PySem.call (.builtin "str.replace") [.str (tx (Pc.flats T)) t, .str K u, .str Z v]) p Q := .of fun s S TK => by
  subst hK hZ
  have h1 := occ_count (Pc.flats T) [97, 109, 112, 59] 38
  have h2 := Pc.count_flats hT
  have h3 : (Pc.flats T).length ≤ T.length * 18 := Pc.flats_len fun q hq => Pc.flat_len (hT q hq)
  refine wp_replaceO hu hv huv ?_ (booked_keep hnb S.s0.base) fun t' k => ?_
  · rw [tx_len (Pc.flats T), tx_len [38]]
    rw [tx_len (Pc.flats T)] at h1
    have h5 : T.length * 18 ≤ n * 18 := Nat.mul_le_mul_right _ hn
    have h6 : (occurrences (tx (Pc.flats T)) (tx amp) 0 (Pc.flats T).length ((Pc.flats T).length + 1)).length ≤ n := Nat.le_trans h1 (Nat.le_trans h2 hn)
    simp only [List.length_cons, List.length_nil]; omega
  · rw [replace_rpl _ _ _ (by decide), Pc.rpl_dec T hT]
    exact Post.same S (h t')
end
end Mine

open PySem PySem.Calls PyProof.Rows
set_option Elab.async false
set_option linter.unusedVariables false
set_option maxRecDepth 100000
namespace Mine
theorem tx_inj {a b : List Nat} : tx a = tx b ↔ a = b := by
  constructor
  · intro h; rw [← tx_list a, ← tx_list b, h]
  · intro h; rw [h]
section
variable {C : Cx} {A : Around} {L : Addr} {p : Pt}
theorem B_addT {X Y : Str} {x y : List Nat} {t u : Tok} {Q : Value → Pt → Prop} (hX : X = tx x) (hY : Y = tx y) (hz : x.length + y.length ≤ 16777216) (h : ∀ tk, Q (.str (tx (x ++ y)) tk) p) : Run C A L (binaryOp .Add (.str X t) (.str Y u)) p Q := by
  subst hX hY
  exact B_addS (by rw [tx_len, tx_len, sizeLine_eq]; exact hz) fun tk => by rw [tx_append]; exact h tk
theorem C_eqT {X Y : Str} {x y : List Nat} {t u : Tok} {Q : Value → Pt → Prop} (hX : X = tx x) (hY : Y = tx y) (h : Q (.bool (decide (x = y))) p) : Run C A L (compareOp .Eq (.str X t) (.str Y u)) p Q := by
  subst hX hY
  refine C_eqS ?_
  rw [show decide (tx x = tx y) = decide (x = y) from by simp only [tx_inj]]; exact h
theorem C_neT {X Y : Str} {x y : List Nat} {t u : Tok} {Q : Value → Pt → Prop} (hX : X = tx x) (hY : Y = tx y) (h : Q (.bool (!decide (x = y))) p) : Run C A L (compareOp .NotEq (.str X t) (.str Y u)) p Q := by
  subst hX hY
  refine C_neS ?_
  rw [show decide (tx x = tx y) = decide (x = y) from by simp only [tx_inj]]; exact h
end
end Mine

open PySem PySem.Calls PyProof.Rows
set_option Elab.async false
set_option linter.unusedVariables false
set_option maxRecDepth 100000
namespace Mine
namespace Pc
theorem amps_mem : ∀ t, ∀ c ∈ amps t, c ∈ [97, 109, 112, 59]
  | 0, c, h => nomatch h
  | t + 1, c, h => (List.mem_append.mp h).elim id (amps_mem t c)
theorem body_mem {w : Nat} (t : Nat) (hw : w < 8) {c : Nat} (h : c ∈ body w t) : c ≠ 38 ∧ c ≠ 60 ∧ c ≠ 62 := by
  rcases List.mem_append.mp h with h | h
  · exact (show ∀ c ∈ [97, 109, 112, 59], c ≠ 38 ∧ c ≠ 60 ∧ c ≠ 62 by decide) c (amps_mem t c h)
  · exact (show ∀ w < 8, ∀ c ∈ wd w ++ [59], c ≠ 38 ∧ c ≠ 60 ∧ c ≠ 62 by decide) w hw c h
theorem esc3_ref {w : Nat} (t : Nat) (hw : w < 8) : esc3 (flat (.ref w t)) = flat (.ref w (t + 1)) := by
  have h : rp 38 amp (flat (.ref w t)) = flat (.ref w (t + 1)) := by
    show rp 38 amp ([38] ++ body w t) = _
    rw [rp_append, rp_one, rp_free _ _ _ fun h => (body_mem t hw h).1 rfl]; rfl
  have n : ∀ c ∈ flat (.ref w (t + 1)), c ≠ 60 ∧ c ≠ 62 := fun c hc => by
    rcases List.mem_cons.mp hc with rfl | hc
    · decide
    · exact (body_mem (t + 1) hw hc).2
  unfold esc3
  rw [h, rp_free 62 _ _ fun h => (n _ h).2 rfl, rp_free 60 _ _ fun h => (n _ h).1 rfl]
theorem flat_ref_len {w t : Nat} (hw : w < 8) : (flat (.ref w t)).length ≤ 6 + 4 * t := by
  have := (wd_free w hw).2.2.2
  simp only [flat, body, List.length_cons, List.length_append, amps_len, List.length_nil]; omega
theorem table_succ {rows : List (Nat × List Pc)} {T : List Pc} {i : Nat} {q : Nat × List Pc} (h : rows[i]? = some q) : table (rows.take (i + 1)) T = sub q.1 q.2 (table (rows.take i) T) := by
  unfold table
  rw [List.take_add_one, h, Option.toList_some, List.foldl_append]; rfl
end Pc
/-- a table of pieces, as a dict's rows -/
def EntsP (es : List Ent) (rows : List (Nat × List Pc)) : Prop :=
  es.length = rows.length ∧ ∀ (i : Nat) (e : Ent), es[i]? = some e → ∃ w Y t u, rows[i]? = some (w, Y) ∧ e = (tx (Pc.key w), t, Value.str (tx (Pc.flats Y)) u) ∧ 0 < t ∧ 0 < u ∧ t ≠ u
namespace Four
def fdF (i : Nat) (dV : Value) (pm cd : Value) : FuncData :=
  match PySem.Challenge.pw_dn0038_04.main.body[i]? with
  | some (.FunctionDef name args body dl ret tp scope ts b pos) => { docDef name args body scope pm cd .none with defaults := dV }
  | _ => docDef "" ⟨[], [], none, [], [], none, []⟩ [] ⟨.function, [], false, false, []⟩ pm cd .none
abbrev pmL : Value := .str "law_dn0038_04" 404
abbrev pmX : Value := .str "cpy313.xml.sax.saxutils" 194
def gl4 : List (Str × Value) := [("dict_replace_saxutils", .ref 28), ("escape", .ref 37), ("unescape", .ref 46), ("CycleError", .ref 80), ("TopologicalSorter", .ref 162), ("_law_written", .ref 173), ("_law_read", .ref 178)]
def bl4 : List (Str × Value) := [("divmod", .builtin "divmod"), ("max", .builtin "max"), ("len", .builtin "len"), ("range", .type "range"), ("list", .type "list"), ("sorted", .builtin "sorted")]
structure Cx4 (C : Cx) where
  base : Base C gl4 bl4
  nb : NoneBooked C.B
  hsm : ∃ o, C.B.get? 3 = some o
  S : SCx C
  own : ∃ x bmB newId mg, bmB.contains (.type "BaseException") = true ∧ OwnClsQ x 80 bmB newId mg C.B
  bAdd : BoundAttr S.K 162 "add" 112
  bDone : BoundAttr S.K 162 "done" 145
  f28 : FnAt C.B 28 (fdF 2 .none pmX (.ref 27))
  f37 : FnAt C.B 37 (fdF 3 (.ref 30) pmX (.ref 36))
  f46 : FnAt C.B 46 (fdF 4 (.ref 39) pmX (.ref 45))
  f173 : FnAt C.B 173 (fdF 12 .none pmL (.ref 172))
  f178 : FnAt C.B 178 (fdF 13 .none pmL (.ref 177))
  f183 : FnAt C.B 183 (fdF 14 .none pmL (.ref 182))
  t30 : ∃ o n, C.B.get? 30 = some o ∧ o.data = .seq #[.ref 29] n
  t39 : ∃ o n, C.B.get? 39 = some o ∧ o.data = .seq #[.ref 38] n
  e29 : ∃ o, C.B.get? 29 = some o ∧ dictC C.w [] o
variable {C : Cx} {A : Around}
theorem ne_sys (H : Cx4 C) {a : Addr} (h : Fresh C a) : (a == sysModules) = false := by
  obtain ⟨o, ho⟩ := H.hsm
  have : 3 < a := h 3 o ho
  refine beq_eq_false_iff_ne.mpr fun e => ?_
  rw [e] at this
  exact absurd this (by decide)
inductive StrI (y : List Nat) : Value → (Addr → Option Obj) → Nat → Prop
  | mk (u : Tok) {G' : Addr → Option Obj} {k' : Nat} : StrI y (.str (tx y) u) G' k'
inductive DictI (G : Addr → Option Obj) (T : List Pc) (rows : List (Nat × List Pc)) (dd : Addr) (i : Nat) : Pt → Prop
  | mk (G' : Addr → Option Obj) (k' : Nat) (u : Tok) (o1 o2 : Option Value) (h : GLe G G') : DictI G T rows dd i ⟨G', [("s", some (.str (tx (Pc.flats (Pc.table (rows.take i) T))) u)), ("d", some (.ref dd)), ("key", o1), ("value", o2)], [], k'⟩
theorem w_dict (H : Cx4 C) {d : Nat} (hr : Room A (d + 1)) {T : List Pc} {t : Tok} {dd : Addr} {es : List Ent} {rows : List (Nat × List Pc)} {G : Addr → Option Obj} {k n m : Nat} (hd : DictG C.w G dd es) (hE : EntsP es rows)
    (hw : ∀ q ∈ rows, q.1 < 8) (hok : ∀ i, ∀ p ∈ Pc.table (rows.take i) T, p.Ok) (hz : ∀ i, i < rows.length → (Pc.table (rows.take i) T).length ≤ n) (hm : ∀ q ∈ rows, (Pc.flats q.2).length ≤ m) (hb : n * 18 + n * m ≤ 16777216) :
    PureCall C A 28 [.str (tx (Pc.flats T)) t, .ref dd] G k (StrI (Pc.flats (Pc.table rows T))) := by
  obtain ⟨⟨o, ho, hdd⟩, hc⟩ := H.f28
  refine PureCall.go [("s", some (.str (tx (Pc.flats T)) t)), ("d", some (.ref dd)), ("key", none), ("value", none)] H.base hr ho hdd hc (.of_eq (binds := [("s", .str (tx (Pc.flats T)) t), ("d", .ref dd)]) rfl) fun L hR => Run.abs fun Q0 hQ0 => ?_
  refine X_cons (X_For (DictI G T rows dd)
    (E_meth F.slot_dict_items F.plainAttrs_dict F.type_dict_items (E_loc (v := .ref dd) at1 ⟨HasT.dict hd, E_items_nil (R_items hd fun v G₁ hG₁ hv => ⟨es.length, _, IterOn.items hR.hd hv (hd.mono hG₁), ⟨G₁, k, t, none, none, hG₁⟩, ?_, ?_⟩)⟩)))
  · intro i p₂ hi hI9 _
    refine hI9.casesOn ?_
    intro G' k' u o1 o2 hG
    refine AsgRun.pair hR.hd fun v h' ⟨Tu, q, e, hq, ht⟩ => ⟨Tu, _, _, e, .inr ht, ?_⟩
    obtain ⟨w, Y, t1, u1, hrow, rfl, ht0, hu0, hne⟩ := hE.2 i q hq
    have hmem := List.mem_of_getElem? hrow
    have hil : i < rows.length := hE.1 ▸ hi
    refine storeLoc (.tail (.tail .head)) (storeLoc (.tail (.tail (.tail .head))) ?_)
    refine X_one (X_Assign (E_meth F.slot_str_replace F.plainAttrs_str F.type_str_replace (E_loc (v := .str (tx (Pc.flats (Pc.table (rows.take i) T))) u) at0 ⟨HasT.str, E_items_cons (E_loc (v := .str (tx (Pc.key w)) t1) at2
      (E_items_cons (E_loc (v := .str (tx (Pc.flats Y)) u1) at3 (E_items_nil (R_replaceP H.nb (Nat.ne_of_gt ht0) (Nat.ne_of_gt hu0) hne (hw _ hmem) (hok i) (hz i hil) (hm _ hmem) hb rfl rfl fun tk => storeLoc .head ?_)))))⟩)))
    rw [← Pc.table_succ (q := (w, Y)) hrow]
    exact ⟨G', k', tk, _, _, hG⟩
  · intro p₂ hI9 _
    refine hI9.casesOn ?_
    intro G' k' u o1 o2 hG
    rw [hE.1, List.take_length]
    exact X_nil (X_one (X_Return (E_loc (v := .str (tx (Pc.flats (Pc.table rows T))) u) at0 (hQ0 _ _ ⟨u⟩))))
theorem w_esc (H : Cx4 C) {d : Nat} (hr : Room A (d + 2)) {w t : Nat} {u : Tok} {G : Addr → Option Obj} {k : Nat} (hk0 : 0 < k) (hd : DictG C.w G 29 []) (hw : w < 8) (ht : t ≤ 10) :
    PureCall C A 37 [.str (tx (Pc.flat (.ref w t))) u] G k (StrI (Pc.flat (.ref w (t + 1)))) := by
  obtain ⟨⟨o, ho, hdd⟩, hc⟩ := H.f37
  obtain ⟨o23, n23, e23, d23⟩ := H.t30
  have hx : (Pc.flat (.ref w t)).length ≤ 63 := Nat.le_trans (Pc.flat_ref_len hw) (by omega)
  rw [← Pc.esc3_ref t hw]
  generalize Pc.flat (.ref w t) = x at hx ⊢
  refine PureCall.go [("data", some (.str (tx x) u)), ("entities", some (.ref 29))] H.base hr ho hdd hc (.of_defaults (binds := [("data", .str (tx x) u), ("entities", .ref 29)]) (T := 30) rfl e23 d23 rfl rfl) fun L hR => Run.abs fun Q0 hQ0 => ?_
  refine X_cons (X_Assign (E_meth F.slot_str_replace F.plainAttrs_str F.type_str_replace (E_loc (v := .str (tx x) u) at0 ⟨HasT.str, E_items_cons (E_str fun t1 h1 => E_items_cons (E_str fun t2 h2 => E_items_nil ?_))⟩)))
  replace h1 : k ≤ t1 := h1
  replace h2 : t1 + 1 ≤ t2 := h2
  have p1 : 0 < t1 := Nat.lt_of_lt_of_le hk0 h1
  have p2 : 0 < t2 := Nat.lt_trans p1 h2
  refine R_replaceT (z := amp) (c := 38) H.nb p1 p2 (Nat.ne_of_lt h2) ?_ rfl rfl fun t3 => storeLoc .head ?_
  · have : amp.length = 5 := rfl
    rw [this]; omega
  dsimp only
  refine X_cons (X_Assign (E_meth F.slot_str_replace F.plainAttrs_str F.type_str_replace (E_loc (v := .str (tx (rp 38 amp x)) t3) at0 ⟨HasT.str, E_items_cons (E_str fun t4 h4 => E_items_cons (E_str fun t5 h5 => E_items_nil ?_))⟩)))
  replace h4 : t2 + 1 ≤ t4 := h4
  replace h5' : t4 + 1 ≤ t5 := h5
  have p4 : 0 < t4 := Nat.lt_trans p2 h4
  have p5 : 0 < t5 := Nat.lt_trans p4 h5'
  have l1 : (rp 38 amp x).length ≤ 315 := rp_len5 38 amp x hx (by decide) rfl
  refine R_replaceT (z := gts) (c := 62) H.nb p4 p5 (Nat.ne_of_lt h5') ?_ rfl rfl fun t6 => storeLoc .head ?_
  · have : gts.length = 4 := rfl
    rw [this]; omega
  dsimp only
  refine X_cons (X_Assign (E_meth F.slot_str_replace F.plainAttrs_str F.type_str_replace (E_loc (v := .str (tx (rp 62 gts (rp 38 amp x))) t6) at0 ⟨HasT.str, E_items_cons (E_str fun t7 h7 => E_items_cons (E_str fun t8 h8 => E_items_nil ?_))⟩)))
  replace h7 : t5 + 1 ≤ t7 := h7
  replace h8 : t7 + 1 ≤ t8 := h8
  have p7 : 0 < t7 := Nat.lt_trans p5 h7
  have p8 : 0 < t8 := Nat.lt_trans p7 h8
  have l2 : (rp 62 gts (rp 38 amp x)).length ≤ 1575 := rp_len5 62 gts _ l1 (by decide) rfl
  refine R_replaceT (z := lts) (c := 60) H.nb p7 p8 (Nat.ne_of_lt h8) ?_ rfl rfl fun t9 => storeLoc .head ?_
  · have : lts.length = 4 := rfl
    rw [this]; omega
  dsimp only
  show Run C _ L _ ⟨G, [("data", some (.str (tx (esc3 x)) t9)), ("entities", some (.ref 29))], [], t8 + 1⟩ _
  refine X_cons (X_If (T_val (E_loc (v := .ref 29) at1 (truthy_dict hd (by decide) ?_))))
  show Run C _ L _ _ _
  exact X_nil (X_one (X_Return (E_loc (v := .str (tx (esc3 x)) t9) at0 (hQ0 _ _ ⟨t9⟩))))
theorem w_unesc (H : Cx4 C) {d : Nat} (hr : Room A (d + 2)) {T : List Pc} {t : Tok} {dd : Addr} {es : List Ent} {rows : List (Nat × List Pc)} {G : Addr → Option Obj} {k n m : Nat} (hk0 : 0 < k) (hd : DictG C.w G dd es) (hE : EntsP es rows) (hne : rows ≠ []) (h100 : rows.length ≤ 100)
    (hw : ∀ q ∈ rows, q.1 < 8) (hT : ∀ p ∈ T, p.Ok) (hY : ∀ q ∈ rows, ∀ p ∈ q.2, p.Ok)
    (hz : ∀ i, i < rows.length → (Pc.table (rows.take i) (Pc.sub 6 [.lit [62]] (Pc.sub 5 [.lit [60]] T))).length ≤ n) (hm : ∀ q ∈ rows, (Pc.flats q.2).length ≤ m) (hb : n * 18 + n * m ≤ 16777216) (hTl : T.length ≤ 700000)
    (he : (Pc.table rows (Pc.sub 6 [.lit [62]] (Pc.sub 5 [.lit [60]] T))).length ≤ 700000) :
    PureCall C A 46 [.str (tx (Pc.flats T)) t, .ref dd] G k (StrI (Pc.flats (Pc.unesc rows T))) := by
  obtain ⟨⟨o, ho, hdd⟩, hc⟩ := H.f46
  obtain ⟨o23, n23, e23, d23⟩ := H.t39
  refine PureCall.go [("data", some (.str (tx (Pc.flats T)) t)), ("entities", some (.ref dd))] H.base hr ho hdd hc (.of_defaults (binds := [("data", .str (tx (Pc.flats T)) t), ("entities", .ref dd)]) (T := 39) rfl e23 d23 rfl rfl) fun L hR => Run.abs fun Q0 hQ0 => ?_
  have hY5 : ∀ p ∈ [Pc.lit [60]], p.Ok := fun p hp => by rw [List.mem_singleton.mp hp]; exact ⟨by decide, by decide⟩
  have hY6 : ∀ p ∈ [Pc.lit [62]], p.Ok := fun p hp => by rw [List.mem_singleton.mp hp]; exact ⟨by decide, by decide⟩
  have hT5 : ∀ p ∈ Pc.sub 5 [.lit [60]] T, p.Ok := Pc.sub_ok hY5 hT
  have l5 : (Pc.sub 5 [.lit [60]] T).length ≤ 700000 := Nat.le_trans (Pc.sub_len (n := 1) (Nat.le_refl _) (Nat.le_refl _)) (by rw [Nat.mul_one]; exact hTl)
  have hT6 : ∀ p ∈ Pc.sub 6 [.lit [62]] (Pc.sub 5 [.lit [60]] T), p.Ok := Pc.sub_ok hY6 hT5
  refine X_cons (X_Assign (E_meth F.slot_str_replace F.plainAttrs_str F.type_str_replace (E_loc (v := .str (tx (Pc.flats T)) t) at0 ⟨HasT.str, E_items_cons (E_str fun t1 h1 => E_items_cons (E_str fun t2 h2 => E_items_nil ?_))⟩)))
  replace h1 : k ≤ t1 := h1
  replace h2 : t1 + 1 ≤ t2 := h2
  have p1 : 0 < t1 := Nat.lt_of_lt_of_le hk0 h1
  have p2 : 0 < t2 := Nat.lt_trans p1 h2
  refine R_replaceP (w := 5) (Y := [.lit [60]]) (n := 700000) (m := 1) H.nb (Nat.ne_of_gt p1) (Nat.ne_of_gt p2) (Nat.ne_of_lt h2) (by decide) hT hTl (by decide) (by decide) rfl rfl fun t3 => storeLoc .head ?_
  dsimp only
  refine X_cons (X_Assign (E_meth F.slot_str_replace F.plainAttrs_str F.type_str_replace (E_loc (v := .str (tx (Pc.flats (Pc.sub 5 [.lit [60]] T))) t3) at0 ⟨HasT.str, E_items_cons (E_str fun t4 h4 => E_items_cons (E_str fun t5 h5 => E_items_nil ?_))⟩)))
  replace h4 : t2 + 1 ≤ t4 := h4
  replace h5 : t4 + 1 ≤ t5 := h5
  have p4 : 0 < t4 := Nat.lt_trans p2 h4
  have p5 : 0 < t5 := Nat.lt_trans p4 h5
  refine R_replaceP (w := 6) (Y := [.lit [62]]) (n := 700000) (m := 1) H.nb (Nat.ne_of_gt p4) (Nat.ne_of_gt p5) (Nat.ne_of_lt h5) (by decide) hT5 l5 (by decide) (by decide) rfl rfl fun t6 => storeLoc .head ?_
  dsimp only
  have htab : ∀ i, ∀ p ∈ Pc.table (rows.take i) (Pc.sub 6 [.lit [62]] (Pc.sub 5 [.lit [60]] T)), p.Ok := fun i => by
    have go : ∀ (rs : List (Nat × List Pc)) (X : List Pc), (∀ q ∈ rs, ∀ p ∈ q.2, p.Ok) → (∀ p ∈ X, p.Ok) → ∀ p ∈ Pc.table rs X, p.Ok := by
      intro rs
      induction rs with
      | nil => exact fun X _ h => h
      | cons q r ih => exact fun X h1 h2 => ih _ (fun q hq => h1 q (List.mem_cons_of_mem _ hq)) (Pc.sub_ok (h1 q (List.mem_cons_self ..)) h2)
    exact go _ _ (fun q hq => hY q (List.mem_of_mem_take hq)) hT6
  have hlen : es.length = rows.length := hE.1
  refine X_cons (X_If (T_val (E_loc (v := .ref dd) at1 (truthy_dict hd (by rw [hlen, sizeLine_eq]; omega) ?_))))
  rw [show es.isEmpty = false by cases es with
    | nil => exact absurd (List.length_eq_zero_iff.mp hlen.symm) hne
    | cons a b => rfl]
  show Run C _ L _ _ _
  obtain ⟨⟨os, hos, hds⟩, hcs⟩ := H.f28
  refine X_one (X_Assign (E_callF hos hds (E_glob H.base at0) (E_items_cons (E_loc (v := .str (tx (Pc.flats (Pc.sub 6 [.lit [62]] (Pc.sub 5 [.lit [60]] T)))) t6) at0 (E_items_cons (E_loc (v := .ref dd) at1 (E_items_nil ?_)))))))
  refine R_pure ((w_dict H (hR.less (e := d + 1) (by omega)) hd hE hw htab hz hm hb).mono fun v G' k' hG' hk' hv => ?_)
  replace hk' : t5 + 1 ≤ k' := hk'
  obtain ⟨u⟩ := hv
  refine storeLoc .head ?_
  dsimp only
  have hT7 : ∀ p ∈ Pc.table rows (Pc.sub 6 [.lit [62]] (Pc.sub 5 [.lit [60]] T)), p.Ok := by
    have := htab rows.length
    rw [List.take_length] at this; exact this
  unfold Pc.unesc at hQ0
  generalize Pc.table rows (Pc.sub 6 [.lit [62]] (Pc.sub 5 [.lit [60]] T)) = X at hT7 he hQ0 ⊢
  refine X_one (X_Return (E_meth F.slot_str_replace F.plainAttrs_str F.type_str_replace (E_loc (v := .str (tx (Pc.flats X)) u) at0 ⟨HasT.str, E_items_cons (E_str fun t7 h7 => E_items_cons (E_str fun t8 h8 => E_items_nil ?_))⟩)))
  replace h7 : k' ≤ t7 := h7
  replace h8 : t7 + 1 ≤ t8 := h8
  have p7 : 0 < t7 := Nat.lt_of_lt_of_le (Nat.lt_of_lt_of_le (Nat.succ_pos _) hk') h7
  have p8 : 0 < t8 := Nat.lt_trans p7 h8
  exact R_replaceA (n := 700000) H.nb (Nat.ne_of_gt p7) (Nat.ne_of_gt p8) (Nat.ne_of_lt h8) hT7 he (by decide) rfl rfl fun tk => hQ0 _ _ ⟨tk⟩
end Four
end Mine

open PySem PySem.Calls PyProof.Rows
set_option Elab.async false
set_option linter.unusedVariables false
set_option maxRecDepth 100000
namespace Mine
section
variable {C : Cx} {A : Around} {L : Addr} {p : Pt}
/-- range of two numbers -/
def RangeI (G : Addr → Option Obj) (r : Addr) (a b : Int) : Prop := ∃ t u v, G r = some { cls := .type "range", dict := none, data := .fields #[.int a t, .int b u, .int 1 v], slots := #[] }
theorem R_rangeI {n : Int} {t : Tok} {Q : Value → Pt → Prop} (h : ∀ r G', GLe p.G G' → RangeI G' r 0 n → Q (.ref r) { p with G := G' }) : Run C A L (PySem.call (.type "range") [.int n t]) p Q := .of fun s S T => by
  have nn := S.none_at (get_size_none s.heap)
  refine call_range_1 ?_
  exact ⟨_, S.pushG rfl, Ext.pushG S, h _ _ (GLe.add nn.2.1) ⟨_, _, _, addG_self⟩⟩
theorem R_range2 {a b : Int} {t u : Tok} {Q : Value → Pt → Prop} (h : ∀ r G', GLe p.G G' → RangeI G' r a b → Q (.ref r) { p with G := G' }) : Run C A L (PySem.call (.type "range") [.int a t, .int b u]) p Q := .of fun s S T => by
  have nn := S.none_at (get_size_none s.heap)
  refine call_range_2 ?_
  exact ⟨_, S.pushG rfl, Ext.pushG S, h _ _ (GLe.add nn.2.1) ⟨_, _, _, addG_self⟩⟩
theorem IterOn.rangeI {y : Str} {py : Pos} {r : Addr} {a b : Int} (hh : A.handled = none) (x : RangeI p.G r a b) (ha : -1000 ≤ a) (ha' : a ≤ 1000) (hb : -1000 ≤ b) (hb' : b ≤ 1000) : IterOn C A L p (.Name y py) (.ref r) (b - a).toNat fun i v _ => ∃ t, v = .int (a + i) t := fun s S T => by
  obtain ⟨t, u, v, e⟩ := x
  have e' := S.s0.gs _ _ e
  have hsz : Builtin.Range.rangeSize a b 1 = ((b - a).toNat : Int) := by rw [rangeSize_one]; split <;> omega
  refine wpAny_pyIter_range e' (small_one (by omega) (by omega) (by omega) (by omega)) ?_
  have W := Walks.range (prog := C.prog) (w := C.w) hh s.heap.objs.size a 1 (b - a).toNat
  have W' := PySem.W.KTurns.ofWalks (target := .Name y py) W fun i v s Q E st hQ => wpAny_pure hQ
  refine ⟨_, _, _, _, _, _, _, rfl, rfl, { W' with item := fun i s Q E hi st hQ => W'.item i s Q E hi st hQ, go := fun i v s Q E hm hQ => W'.go i v s Q E hm fun h' hP st hk => hQ h' (by simpa using hP) st hk }, ?_,
    fun b o e => Heap.get?_push_of_some _ e, fun b hb => by rw [List.mem_singleton.mp hb]; exact get_size_none _, fun b hb => .inl hb, fun i h st b hb => ?_, fun i s Q E st hQ => W.self i s Q E st hQ⟩
  · show IsRangeIter _ _ _ _ _
    rw [hsz]; simpa using Heap.get?_push_size _ rfl
  · rw [List.mem_singleton.mp hb, st]; exact fun h => nomatch h
theorem B_addSFT {X Y : Str} {x y : List Nat} {t u : Tok} {Q : Value → Pt → Prop} (hX : X = tx x) (hY : Y = tx y) (hx : x ≠ []) (hy : y ≠ []) (hz : x.length + y.length ≤ 16777216) (h : ∀ tk, p.k ≤ tk → Q (.str (tx (x ++ y)) tk) { p with k := tk + 1 }) : Run C A L (binaryOp .Add (.str X t) (.str Y u)) p Q := by
  subst hX hY
  refine B_addSF (by rw [tx_len]; exact fun e => hx (List.length_eq_zero_iff.mp e)) (by rw [tx_len]; exact fun e => hy (List.length_eq_zero_iff.mp e)) (by rw [tx_len, tx_len, sizeLine_eq]; exact hz) fun tk htk => by rw [tx_append]; exact h tk htk
end
/-- a piece, as a pair -/
def PcAt (G : Addr → Option Obj) (T : Addr) : Pc → Prop
  | .lit l => ∃ t u, TupAt G T [.str (tx l) t, .int (-1) u]
  | .ref w n => ∃ t u, TupAt G T [.str (tx (Pc.wd w)) t, .int n u]
def RowAt (G : Addr → Option Obj) (vs : List Value) (ps : List Pc) : Prop := vs.length = ps.length ∧ ∀ (i : Nat) (q : Pc), ps[i]? = some q → ∃ T, vs[i]? = some (Value.ref T) ∧ PcAt G T q
theorem PcAt.mono {G G' : Addr → Option Obj} {T : Addr} (x : GLe G G') : ∀ {q : Pc}, PcAt G T q → PcAt G' T q
  | .lit l, ⟨t, u, h⟩ => ⟨t, u, h.mono x⟩
  | .ref w n, ⟨t, u, h⟩ => ⟨t, u, h.mono x⟩
theorem RowAt.mono {G G' : Addr → Option Obj} {vs : List Value} {ps : List Pc} (h : RowAt G vs ps) (x : GLe G G') : RowAt G' vs ps := ⟨h.1, fun i q hq => let ⟨T, a, b⟩ := h.2 i q hq; ⟨T, a, b.mono x⟩⟩
/-- word and times of a piece -/
def Pc.wordOf : Pc → List Nat
  | .lit l => l
  | .ref w _ => Pc.wd w
def Pc.timesOf : Pc → Int
  | .lit _ => -1
  | .ref _ n => n
theorem PcAt.tup {G : Addr → Option Obj} {T : Addr} : ∀ {q : Pc}, PcAt G T q → ∃ t u, TupAt G T [.str (tx q.wordOf) t, .int q.timesOf u]
  | .lit l, h => h
  | .ref w n, h => h
namespace Pc
def pieceAt : Pc → Nat → List Nat
  | .lit l, _ => l
  | .ref w _, i => flat (.ref w i)
theorem flats_take {ps : List Pc} {j : Nat} (h : j < ps.length) : flats (ps.take (j + 1)) = flats (ps.take j) ++ flat ps[j] := by
  unfold flats
  rw [List.take_add_one, List.getElem?_eq_getElem h, Option.toList_some, List.flatMap_append, List.flatMap_cons, List.flatMap_nil, List.append_nil]
/-- a piece that may stand in a row -/
def Fine (q : Pc) : Prop := q.Ok ∧ q ≠ .lit []
theorem fine_flat {q : Pc} (h : q.Fine) : flat q ≠ [] := by
  cases q with
  | lit l => exact fun e => h.2 (by rw [show l = [] from e])
  | ref w t => exact fun e => nomatch e
theorem flats_ne {ps : List Pc} (h : ∀ q ∈ ps, q.Fine) {j : Nat} (hj : 0 < j) (hl : j ≤ ps.length) : flats (ps.take j) ≠ [] := by
  cases ps with
  | nil => exact absurd hl (by simp; omega)
  | cons q r =>
    obtain ⟨i, rfl⟩ : ∃ i, j = i + 1 := ⟨j - 1, by omega⟩
    rw [List.take_succ_cons]
    intro e
    rw [flats, List.flatMap_cons] at e
    exact fine_flat (h q (List.mem_cons_self ..)) (List.append_eq_nil_iff.mp e).1
end Pc
namespace Four
variable {C : Cx} {A : Around}
inductive WrP (k : Nat) (ps : List Pc) : Value → (Addr → Option Obj) → Nat → Prop
  | mk (u : Tok) {G' : Addr → Option Obj} {k' : Nat} (h : 2 ≤ ps.length → k ≤ u ∧ u < k') : WrP k ps (.str (tx (Pc.flats ps)) u) G' k'
inductive WrI (G : Addr → Option Obj) (k : Nat) (rl : Addr) (ps : List Pc) (j : Nat) : Pt → Prop
  | mk (G' : Addr → Option Obj) (k' : Nat) (u : Tok) (o1 o2 o3 o4 : Option Value) (h : GLe G G') (hk : k ≤ k') (hu : 2 ≤ j → k ≤ u ∧ u < k') :
    WrI G k rl ps j ⟨G', [("row", some (.ref rl)), ("out", some (.str (tx (Pc.flats (ps.take j))) u)), ("word", o1), ("times", o2), ("piece", o3), ("k", o4)], [], k'⟩
inductive WrJ (G : Addr → Option Obj) (k : Nat) (rl : Addr) (m1 m2 m3 : Option Value) (q : Pc) (i : Nat) : Pt → Prop
  | mk (G' : Addr → Option Obj) (k' : Nat) (u : Tok) (o4 : Option Value) (h : GLe G G') (hk : k ≤ k') :
    WrJ G k rl m1 m2 m3 q i ⟨G', [("row", some (.ref rl)), ("out", m1), ("word", m2), ("times", m3), ("piece", some (.str (tx (q.pieceAt i)) u)), ("k", o4)], [], k'⟩
inductive PieceP (q : Pc) (p : Pt) : Value → Pt → Prop
  | mk {k' : Nat} (u : Tok) (h : p.k ≤ k') : PieceP q p (.str (tx (q.pieceAt 0)) u) ⟨p.G, p.m, p.N, k'⟩
theorem w_written (H : Cx4 C) {d : Nat} (hr : Room A (d + 3)) {rl : Addr} {vs : List Value} {ps : List Pc} {G : Addr → Option Obj} {k : Nat} (hk0 : 0 < k) (h29 : DictG C.w G 29 []) (hl : ListAt G rl vs) (hR0 : RowAt G vs ps) (hps : ∀ q ∈ ps, q.Fine) (hz : ps.length ≤ 1000) :
    PureCall C A 173 [.ref rl] G k (WrP k ps) := by
  obtain ⟨⟨o, ho, hdd⟩, hc⟩ := H.f173
  refine PureCall.go [("row", some (.ref rl)), ("out", none), ("word", none), ("times", none), ("piece", none), ("k", none)] H.base hr ho hdd hc (.of_eq (binds := [("row", .ref rl)]) rfl) fun L hR => Run.abs fun Q0 hQ0 => ?_
  refine X_cons (X_Assign (E_str fun t0 h0 => storeLoc (.tail .head) ?_))
  dsimp only
  refine X_cons (X_ForV (WrI G k rl ps) (fun h => E_loc (v := .ref rl) at0 h) (IterOn.list hR.hd hl) ?_ ?_ ?_)
  · exact ⟨G, _, t0, none, none, none, none, GLe.refl _, Nat.le_trans h0 (Nat.le_succ _), fun h => absurd h (by decide)⟩
  · intro j p₂ hj hI9
    refine hI9.casesOn ?_
    intro G' k' u o1 o2 o3 o4 hG hk hu
    refine AsgRun.pair hR.hd fun v h' hv => ?_
    have hjn : j < ps.length := hR0.1 ▸ hj
    obtain ⟨T, hT, hq⟩ := hR0.2 j ps[j] (by simp [hjn])
    rw [hv] at hT
    obtain ⟨tw, tt, tup⟩ := hq.tup
    have hf := hps ps[j] (List.getElem_mem hjn)
    have htk := Pc.flats_take hjn
    have hne := fun h0 => Pc.flats_ne hps (j := j) h0 (Nat.le_of_lt hjn)
    have hlen : (Pc.flats (ps.take j)).length ≤ 18000 := by
      refine Nat.le_trans (Pc.flats_len (n := 18) fun q hq => Pc.flat_len (hps q (List.mem_of_mem_take hq)).1) ?_
      rw [List.length_take]; omega
    generalize ps[j] = q at hf htk tup
    refine ⟨T, _, _, Option.some.inj hT, .inl (tup.mono hG), storeLoc (.tail (.tail .head)) (storeLoc (.tail (.tail (.tail .head))) (Run.abs fun Q1 hQ1 => ?_))⟩
    dsimp only at hQ1 ⊢
    refine X_cons (X_Assign (Run.mono (Q := PieceP q ⟨G', [("row", some (.ref rl)), ("out", some (.str (tx (Pc.flats (ps.take j))) u)), ("word", some (.str (tx q.wordOf) tw)), ("times", some (.int q.timesOf tt)), ("piece", o3), ("k", o4)], [], k'⟩) ?_ fun v p₁ h1 => h1.casesOn ?_))
    · cases q with
      | lit l =>
        refine E_IfExp (T_Cmp (E_loc (v := .int (-1) tt) at3 (E_int fun t1 => C_ltI (truthy_bool ?_))))
        show Run C _ L _ _ _
        exact E_loc (v := .str (tx l) tw) at2 ⟨tw, Nat.le_refl _⟩
      | ref w n =>
        have hw := Pc.wd_free w hf.1.1
        refine E_IfExp (T_Cmp (E_loc (v := .int (n : Int) tt) at3 (E_int fun t1 => C_ltI (truthy_bool ?_))))
        rw [decide_eq_false (show ¬ ((n : Int) < 0) by omega), if_neg Bool.false_ne_true]
        refine E_BinOp (E_BinOp (E_str fun t2 h2 => E_loc (v := .str (tx (Pc.wd w)) tw) at2 (B_addT (x := [38]) rfl rfl (by simp; omega) fun t3 => E_str fun t4 h4 => B_addT (y := [59]) rfl rfl (by simp; omega) fun t5 => ?_)))
        exact ⟨t5, Nat.le_trans (Nat.le_trans h2 (Nat.le_succ _)) (Nat.le_trans h4 (Nat.le_succ _))⟩
    intro k₁ tp hk₁
    replace hk₁ : k' ≤ k₁ := hk₁
    refine storeLoc (.tail (.tail (.tail (.tail .head)))) ?_
    dsimp only
    have htm : -1 ≤ q.timesOf ∧ q.timesOf ≤ 3 := by
      cases q with
      | lit l => exact ⟨Int.le_refl _, (by decide : (-1 : Int) ≤ 3)⟩
      | ref w n => have := hf.1.2; show -1 ≤ (n : Int) ∧ (n : Int) ≤ 3; omega
    refine X_cons (X_For (WrJ G k' rl (some (.str (tx (Pc.flats (ps.take j))) u)) (some (.str (tx q.wordOf) tw)) (some (.int q.timesOf tt)) q)
      (E_callV (f := .type "range") (E_blt H.base at3) (E_items_cons (E_loc (v := .int q.timesOf tt) at3 (E_items_nil (R_rangeI fun rg G₁ hG₁ hrg => ⟨(q.timesOf - 0).toNat, _, IterOn.rangeI hR.hd hrg (by decide) (by decide) (by omega) (by omega), ⟨G₁, k₁, tp, o4, GLe.trans hG hG₁, hk₁⟩, ?_, ?_⟩))))))
    · intro i p₂ hi hI9 _
      refine hI9.casesOn ?_
      intro G₂ k₂ u₂ o5 hG₂ hk₂
      refine AsgRun.name fun v ⟨h', t6, hv6⟩ => ?_
      refine storeLoc (.tail (.tail (.tail (.tail (.tail .head))))) ?_
      dsimp only
      cases q with
      | lit l => exact absurd hi (by show ¬ i < 0; omega)
      | ref w n =>
        have hin : i < n := hi
        have hn3 := hf.1.2
        obtain ⟨⟨os, hos, hds⟩, hcs⟩ := H.f37
        refine X_one (X_Assign (E_callF hos hds (E_glob H.base at1) (E_items_cons (E_loc (v := .str (tx (Pc.flat (.ref w i))) u₂) at4 (E_items_nil ?_)))))
        refine R_pure ((w_esc H (hR.less (e := d + 2) (by omega)) (Nat.lt_of_lt_of_le hk0 (Nat.le_trans hk hk₂)) (h29.mono hG₂) hf.1.1 (by omega)).mono fun v G₃ k₃ hG₃ hk₃ h4 => ?_)
        obtain ⟨u₃⟩ := h4
        exact storeLoc (.tail (.tail (.tail (.tail .head)))) ⟨G₃, k₃, u₃, _, GLe.trans hG₂ hG₃, Nat.le_trans hk₂ hk₃⟩
    · intro p₂ hI9 _
      refine hI9.casesOn ?_
      intro G₂ k₂ u₂ o5 hG₂ hk₂
      have e : q.pieceAt (q.timesOf - 0).toNat = q.flat := by
        cases q with
        | lit l => rfl
        | ref w n => rfl
      rw [e]
      refine X_nil ?_
      have h1 : (Pc.flat q).length ≤ 18 := Pc.flat_len hf.1
      by_cases h0 : j = 0
      · subst h0
        refine X_one (X_Assign (E_BinOp (E_loc (v := .str (tx (Pc.flats (ps.take 0))) u) at1 (E_loc (v := .str (tx (Pc.flat q)) u₂) at4 (B_addT rfl rfl (by omega) fun t7 => storeLoc (.tail .head) (hQ1 _ _ ?_))))))
        rw [← htk]
        exact ⟨G₂, k₂, t7, _, _, _, _, hG₂, Nat.le_trans hk hk₂, fun h => absurd h (by decide)⟩
      · refine X_one (X_Assign (E_BinOp (E_loc (v := .str (tx (Pc.flats (ps.take j))) u) at1 (E_loc (v := .str (tx (Pc.flat q)) u₂) at4 (B_addSFT rfl rfl (hne (Nat.pos_of_ne_zero h0)) (Pc.fine_flat hf) (by omega) fun t7 h7 => storeLoc (.tail .head) (hQ1 _ _ ?_))))))
        rw [← htk]
        exact ⟨G₂, _, t7, _, _, _, _, hG₂, Nat.le_trans (Nat.le_trans hk hk₂) (Nat.le_trans h7 (Nat.le_succ _)), fun _ => ⟨Nat.le_trans (Nat.le_trans hk hk₂) h7, Nat.lt_succ_self _⟩⟩
  · intro p₂ hI9
    refine hI9.casesOn ?_
    intro G' k' u o1 o2 o3 o4 hG hk hu
    rw [hR0.1] at hu ⊢
    rw [List.take_length]
    exact X_nil (X_one (X_Return (E_loc (v := .str (tx (Pc.flats ps)) u) at1 (hQ0 _ _ ⟨u, hu⟩))))
end Four
end Mine

open PySem PySem.Calls PyProof.Rows
set_option Elab.async false
set_option linter.unusedVariables false
set_option maxRecDepth 100000
namespace Mine
section
variable {C : Cx} {A : Around} {L : Addr} {p : Pt} {env : Env}
theorem R_max {a b : Int} {t u : Tok} {Q : Value → Pt → Prop} (hh : A.handled = none) (h : ∀ tk, Q (.int (max a b) tk) p) : Run C A L (PySem.call (.builtin "max") [.int a t, .int b u]) p Q := .of fun s S T => by
  refine max_two_ints hh fun h' tk hk => ?_
  have e : (if b > a then Value.int b u else Value.int a t) = .int (max a b) (if b > a then u else t) := by
    split
    · rw [show max a b = b by omega]
    · rw [show max a b = a by omega]
  rw [e]
  exact ⟨p, S.keep hk, Ext.heap hk, h _⟩
theorem C_inTS {l : Addr} {ls : List (Str × Tok)} {k : Str} {t : Tok} {Q : Value → Pt → Prop} (hl : TupAt p.G l (strValues ls)) (h : Q (.bool (decide (k ∈ ls.map (·.1)))) p) : Run C A L (compareOp .In (.str k t) (.ref l)) p Q := .of fun s S T =>
  SeqAt.in_tupleAt _ (hl.isTup S) sv_eqAt (by rw [sv_any]; exact ⟨p, S, .refl, h⟩)
theorem B_amps {n : Nat} {t u : Tok} {Q : Value → Pt → Prop} (hn : n ≤ 3) (h : ∀ tk, Q (.str (tx (Pc.amps n)) tk) p) : Run C A L (binaryOp .Mult (.str "amp;" t) (.int n u)) p Q := .of fun s S T => by
  have hn : n = 0 ∨ n = 1 ∨ n = 2 ∨ n = 3 := by omega
  rcases hn with rfl | rfl | rfl | rfl
  · exact PySem.P.mul_str (by decide) (by decide) (by decide) ⟨by decide, Post.same S (h _)⟩
  · exact PySem.P.mul_str (by decide) (by decide) (by decide) (Post.same S (h _))
  · exact PySem.P.mul_str (by decide) (by decide) (by decide) ⟨by decide, Post.same S (h _)⟩
  · exact PySem.P.mul_str (by decide) (by decide) (by decide) ⟨by decide, Post.same S (h _)⟩
/-- a comprehension over one name, its list a name's -/
inductive AComp1Q (C : Cx) (A : Around) (env : Env) (R : Nat → Value → (Addr → Option Obj) → Nat → Prop) (sel : Nat → Bool) (cl : List (Str × Addr)) (elt : Expr) (ifs : List Expr) (y x : Str) (px : Pos) (scope : Scope) (L : Addr) (Q : Flow → Pt → Prop) (xv : Value) (p₁ : Pt) : Prop
  | mk (n : Nat) (P : Nat → Value → Heap → Prop) (it : IterOn C A L p₁ (.Name x px) xv n P) (hn : n ≤ sizeLine)
      (step : ∀ Cc i v G' k', i < n → (∃ h', P i v h') → GLe p₁.G G' → p₁.k ≤ k' → Tst C A Cc ifs (compEnvC scope cl Cc env) (sel i) ⟨G', [(x, some v)], p₁.N, k'⟩ fun p₄ => sel i = true → Elt C A Cc elt (compEnvC scope cl Cc env) R i p₄)
      (fin : ∀ D ys G' k', GLe p₁.G G' → p₁.k ≤ k' → Made R ((List.range n).filter sel) ys G' k' → Run C A L (bindName env y (.ref D)) ⟨G', p₁.m, (D, listC ys) :: p₁.N, k'⟩ fun _ p₃ => Q .next p₃) : AComp1Q C A env R sel cl elt ifs y x px scope L Q xv p₁
theorem X_AComp1 {R : Nat → Value → (Addr → Option Obj) → Nat → Prop} (sel : Nat → Bool) (cl : List (Str × Addr)) (hm : MonoR R) {elt iter : Expr} {ifs : List Expr} {x y : Str} {px py spos : Pos} {scope : Scope} {pos : Pos} {Q : Flow → Pt → Prop}
    (h : Run C A L (eval iter env) p (AComp1Q C A env R sel cl elt ifs y x px scope L Q))
    (hclos : closureFor scope env = Pure.pure cl := by rfl) (hcell : ∀ y ∈ scope.names, y.2 ≠ .cell := by decide) (hnames : ∀ y ∈ scope.names, y.2 = .local → scope.names.lookup y.1 = some .local := by decide)
    (hx : (compEnvC scope cl 0 env).kindOf x = some .local := by rfl) (hk : (relabel scope env).kind = .function := by rfl)
    (hsw : swapsWith (.ListComp elt [⟨.Name x px, iter, ifs, 0⟩] scope pos) (some (.Name y py)) spos.line env = Pure.pure true := by rfl)
    (hkind : scope.kind = .function := by rfl) (hs : ∀ x, foldedSetIterable iter env x = Pure.pure x := by intro _; rfl) :
    Run C A L (exec (.Assign [.Name y py] (.ListComp elt [⟨.Name x px, iter, ifs, 0⟩] scope pos) spos) env) p Q := by
  have e : ∀ a, cellsFrom a scope.names cl = cl := fun a => cellsFrom_no hcell
  have e0 : ∀ Cc, ownCells scope Cc = [] := fun Cc => by unfold ownCells; rw [cellsFrom_no hcell]; rfl
  refine X_Assign_ListCompK [(x, none)] hclos hnames (by simp) (by simp) (h.mono fun xv p₁ ⟨n, P, it, hn, step, fin⟩ => ⟨n, P, fun _ i ys p₂ => CompI R sel p₁ (OneM x) i ys p₂ ∧ i ≤ n, it, ?_, ?_, ?_, ?_⟩) hsw hkind hs
  · rintro Cc i ys p₂ ⟨⟨_, _, _, _, _, _, _, hM⟩, hi⟩
    rw [hM.1]
    refine Nat.le_trans (List.length_filter_le _ _) ?_
    rw [List.length_range]; omega
  · intro Cc
    rw [e0]
    exact ⟨⟨p₁.G, _, p₁.k, rfl, ⟨_, rfl⟩, GLe.refl _, Nat.le_refl _, Made.nil⟩, Nat.zero_le _⟩
  · intro Cc i ys p₂ hi hI _
    have := comp_step1 (px := px) hm hx hk step Cc i ys p₂ hi hI.1
    unfold compEnvK
    rw [e]
    refine fun v s hP S T => wpAny_mono (this v s hP S T) (fun _ s' ⟨p₃, S₃, x₃, r⟩ => ⟨p₃, S₃, x₃, r.mono fun b p₄ hb => ?_⟩) fun _ _ e => e
    cases b with
    | false => exact ⟨hb, hi⟩
    | true => exact hb.mono fun y p₅ h5 => ⟨h5, hi⟩
  · rintro Cc D ys p₂ ⟨⟨G', m', k', e1, _, hG, hk', hM⟩, _⟩ _
    subst e1
    exact fin D ys G' k' hG hk' hM
end
end Mine

open PySem PySem.Calls PyProof.Rows
set_option Elab.async false
set_option linter.unusedVariables false
set_option maxRecDepth 100000
namespace Mine
/-- the rounds, frozen -/
def RoundsAt (G : Addr → Option Obj) (rl : Addr) (Rs : List (List Nat)) : Prop := ∃ vs, ListAt G rl vs ∧ vs.length = Rs.length ∧ ∀ (i : Nat) (R : List Nat), Rs[i]? = some R → ∃ a ls, vs[i]? = some (Value.ref a) ∧ ListAt G a (strValues ls) ∧ ls.map (·.1) = R.map fun w => tx (Pc.wd w)
theorem RoundsAt.mono {G G' : Addr → Option Obj} {rl : Addr} {Rs : List (List Nat)} (x : GLe G G') : RoundsAt G rl Rs → RoundsAt G' rl Rs
  | ⟨vs, h1, h2, h3⟩ => ⟨vs, h1.mono x, h2, fun i R h => let ⟨a, ls, e1, e2, e3⟩ := h3 i R h; ⟨a, ls, e1, e2.mono x, e3⟩⟩
/-- the texts, frozen -/
def TextsAt (w : World) (G : Addr → Option Obj) (td : Addr) (Y : Nat → List Pc) : Prop := ∃ es, DictG w G td es ∧ ∀ w < 5, ∃ a vs, dget es (tx (Pc.wd w)) = some (.ref a) ∧ ListAt G a vs ∧ RowAt G vs (Y w)
theorem TextsAt.mono {w : World} {G G' : Addr → Option Obj} {td : Addr} {Y : Nat → List Pc} (x : GLe G G') : TextsAt w G td Y → TextsAt w G' td Y
  | ⟨es, h1, h2⟩ => ⟨es, h1.mono x, fun w hw => let ⟨a, vs, e1, e2, e3⟩ := h2 w hw; ⟨a, vs, e1, e2.mono x, e3.mono x⟩⟩
namespace Pc
/-- the round at which a piece opens -/
def openAt (s : Nat) : Pc → Nat
  | .lit _ => if 0 < s then s + 1 else 0
  | .ref _ t => if 0 < s then s + max t 1 else t + 1
def selQ (Rs : List (List Nat)) (o : Nat) (q : Pc) (i : Nat) : Bool := decide (tx q.wordOf ∈ (Rs[o + i - 1]?.getD []).map fun w => tx (wd w))
theorem rd_len {Y : Nat → List Pc} {Rs : List (List Nat)} (h5 : ∀ R ∈ Rs, ∀ i ∈ R, i < 5) (hY : ∀ w < 5, (Y w).length ≤ 6 ∧ ∀ q ∈ Y w, q.Ok) : ∀ (f s : Nat) (p : Pc), p.Ok → Rs.length - s < f → (rd Y Rs f s p).length ≤ 3 * 6 ^ f
  | 0, s, p, hp, hs => absurd hs (Nat.not_lt_zero _)
  | f + 1, s, .lit l, hp, hs => by
    have := Nat.pow_le_pow_right (show 0 < 6 by decide) (Nat.zero_le f)
    show l.length ≤ _
    have h2 : l.length ≤ 2 := hp.2
    rw [Nat.pow_succ]; omega
  | f + 1, s, .ref w t, hp, hs => by
    have h1 := Nat.pow_le_pow_right (show 0 < 6 by decide) (Nat.zero_le f)
    show (fate _ _ _ _ _ _).length ≤ _
    unfold fate
    cases e : whenL Rs (if 0 < s then s + max t 1 else t + 1) w with
    | nil =>
      have h3 : ∀ (b : Prop) [Decidable b], (if b then sign w else flat (.ref w (t - (Rs.length + 1 - max s 1)))).length ≤ 18 := fun b _ => by
        by_cases hb : b
        · rw [if_pos hb]; unfold sign; split <;> decide
        · rw [if_neg hb]; exact flat_len (p := .ref w (t - (Rs.length + 1 - max s 1))) ⟨hp.1, Nat.le_trans (Nat.sub_le ..) hp.2⟩
      refine Nat.le_trans (h3 _) ?_
      rw [Nat.pow_succ]; omega
    | cons k l =>
      obtain ⟨g1, g2⟩ := when_mem e
      have hw : w < 5 := by
        have hk : k ∈ whenL Rs (if 0 < s then s + max t 1 else t + 1) w := by rw [e]; exact List.mem_cons_self ..
        have := of_decide_eq_true (List.mem_filter.mp hk).2
        cases e2 : Rs[k - 1]? with
        | none => rw [e2] at this; cases this
        | some R => rw [e2] at this; exact h5 R (List.mem_of_getElem? e2) w this
      obtain ⟨y1, y2⟩ := hY w hw
      refine Nat.le_trans (flats_len (n := 3 * 6 ^ f) fun q hq => rd_len h5 hY f k q (y2 q hq) ?_) ?_
      · exact left_lt (Nat.lt_of_lt_of_le open_lt g1) g2 hs
      · rw [Nat.pow_succ]
        have := Nat.mul_le_mul_right (3 * 6 ^ f) y1
        omega
theorem tx_wd {w : Nat} {R : List Nat} (hw : w < 8) (hR : ∀ i ∈ R, i < 5) : tx (wd w) ∈ R.map (fun w => tx (wd w)) ↔ w ∈ R := by
  constructor
  · intro h
    obtain ⟨v, hv, e⟩ := List.mem_map.mp h
    rw [← wd_inj v (Nat.lt_trans (hR v hv) (by decide)) w hw (tx_inj.mp e)]; exact hv
  · exact fun h => List.mem_map_of_mem h
theorem when_idx {Rs : List (List Nat)} (h5 : ∀ R ∈ Rs, ∀ i ∈ R, i < 5) {w : Nat} (t o : Nat) (hw : w < 8) : whenL Rs o w = ((List.range (Rs.length + 1 - o)).filter (selQ Rs o (.ref w t))).map (o + ·) := by
  unfold whenL
  rw [List.range'_eq_map_range, List.filter_map]
  congr 2
  funext i
  show decide (w ∈ Rs[o + i - 1]?.getD []) = decide (tx (wd w) ∈ (Rs[o + i - 1]?.getD []).map fun w => tx (wd w))
  refine decide_eq_decide.mpr (tx_wd hw fun v hv => ?_).symm
  cases e : Rs[o + i - 1]? with
  | none => rw [e] at hv; cases hv
  | some R => rw [e] at hv; exact h5 R (List.mem_of_getElem? e) v hv
end Pc
inductive OpenedP (o : Nat) (p : Pt) : Value → Pt → Prop
  | mk (t : Tok) : OpenedP o p (.int o t) p
def IntR (o : Nat) (i : Nat) (v : Value) (G : Addr → Option Obj) (k : Nat) : Prop := ∃ t, v = .int ((o + i : Nat) : Int) t
theorem IntR.monoR {o : Nat} : MonoR (IntR o) := fun _ _ _ _ _ _ h _ _ => h
inductive BoolP (b : Bool) (p : Pt) : Bool → Pt → Prop
  | mk (G' : Addr → Option Obj) (k' : Nat) (h1 : GLe p.G G') (h2 : p.k ≤ k') : BoolP b p b ⟨G', p.m, p.N, k'⟩
namespace Four
variable {C : Cx} {A : Around}
inductive RdI (G : Addr → Option Obj) (k : Nat) (rw td : Addr) (s : Nat) (st : Tok) (f : Pc → List Nat) (T : List Pc) (N : List (Addr × Cell)) (wc : Addr) (j : Nat) : Pt → Prop
  | mk (G' : Addr → Option Obj) (k' : Nat) (u : Tok) (o1 o2 o3 o4 o5 : Option Value) (h : GLe G G') (hk : k ≤ k') :
    RdI G k rw td s st f T N wc j ⟨G', [("row", some (.ref rw)), ("since", some (.int s st)), ("texts", some (.ref td)), ("out", some (.str (tx ((T.take j).flatMap f)) u)), ("times", o1), ("opened", o2), ("when", o3), ("left", o4)], (wc, cellC o5) :: N, k'⟩
theorem w_read (H : Cx4 C) {Y : Nat → List Pc} {Rs : List (List Nat)} (h5 : ∀ R ∈ Rs, ∀ i ∈ R, i < 5) (hn : Rs.length ≤ 5) (hY : ∀ w < 5, (Y w).length ≤ 6 ∧ ∀ q ∈ Y w, q.Fine) :
    ∀ (f : Nat) {A : Around} (hr : Room A (f + 3)) {rw rl td : Addr} {vs : List Value} {T : List Pc} {s : Nat} {st : Tok} {G : Addr → Option Obj} {k : Nat} (hs : s ≤ Rs.length) (hf : Rs.length - s < f) (hl : ListAt G rw vs) (hR0 : RowAt G vs T) (hT : ∀ q ∈ T, q.Fine) (hT0 : s = 0 → ∀ l, Pc.lit l ∉ T)
      (hz : T.length * 6 ^ f ≤ 3265920) (hrl : RoundsAt G rl Rs) (htd : TextsAt C.w G td Y),
    PureCall C A 178 [.ref rw, .int s st, .ref rl, .ref td] G k (StrI (T.flatMap (Pc.rd Y Rs f s)))
  | 0, A, hr, rw, rl, td, vs, T, s, st, G, k, hs, hf, _, _, _, _, _, _, _ => absurd hf (Nat.not_lt_zero _)
  | f + 1, A, hr, rw, rl, td, vs, T, s, st, G, k, hs, hf, hl, hR0, hT, hT0, hz, hrl, htd => by
    obtain ⟨⟨o, ho, hd⟩, hc⟩ := H.f178
    refine PureCall.of (CallRun.goK [("row", some (.ref rw)), ("since", some (.int s st)), ("texts", some (.ref td)), ("out", none), ("times", none), ("opened", none), ("when", none), ("left", none)] H.base hr ho hd hc (.of_eq (binds := [("row", .ref rw), ("since", .int s st), ("rounds", .ref rl), ("texts", .ref td)]) rfl) fun L hR => Run.abs fun Q0 hQ0 => ?_)
    show Run C _ L _ ⟨G, _, [(L + 2, cellC none), (L + 1, cellC (some (.ref rl)))], k⟩ _
    refine X_cons (X_Assign (E_str fun t0 h0 => storeLoc (.tail (.tail (.tail .head))) ?_))
    dsimp only
    refine X_cons (X_ForV (RdI G k rw td s st (Pc.rd Y Rs (f + 1) s) T [(L + 1, cellC (some (.ref rl)))] (L + 2)) (fun h => E_loc (v := .ref rw) at0 h) (IterOn.list hR.hd hl) ?_ ?_ ?_)
    · exact ⟨G, _, t0, none, none, none, none, none, GLe.refl _, Nat.le_trans h0 (Nat.le_succ _)⟩
    · intro j p₂ hj hI9
      refine hI9.casesOn ?_
      intro G' k' u o1 o2 o3 o4 o5 hG hk
      refine AsgRun.pair hR.hd fun v h' hv => ?_
      have hjn : j < T.length := hR0.1 ▸ hj
      obtain ⟨Tp, hTp, hq⟩ := hR0.2 j T[j] (by simp [hjn])
      rw [hv] at hTp
      obtain ⟨tw, tt, tup⟩ := hq.tup
      have hfi := hT T[j] (List.getElem_mem hjn)
      have htk : (T.take (j + 1)).flatMap (Pc.rd Y Rs (f + 1) s) = (T.take j).flatMap (Pc.rd Y Rs (f + 1) s) ++ Pc.rd Y Rs (f + 1) s T[j] := by
        rw [List.take_add_one, List.getElem?_eq_getElem hjn, Option.toList_some, List.flatMap_append, List.flatMap_cons, List.flatMap_nil, List.append_nil]
      have hlen : ((T.take j).flatMap (Pc.rd Y Rs (f + 1) s)).length + (Pc.rd Y Rs (f + 1) s T[j]).length ≤ 9797760 := by
        rw [← List.length_append, ← htk]
        refine Nat.le_trans (Pc.flats_len (n := 3 * 6 ^ (f + 1)) fun q hq => Pc.rd_len h5 (fun w hw => ⟨(hY w hw).1, fun q hq => ((hY w hw).2 q hq).1⟩) (f + 1) s q (hT q (List.mem_of_mem_take hq)).1 hf) ?_
        have h1 : (T.take (j + 1)).length ≤ T.length := List.length_take_le' ..
        have h2 := Nat.mul_le_mul_right (3 * 6 ^ (f + 1)) h1
        have h3 : T.length * (3 * 6 ^ (f + 1)) = 3 * (T.length * 6 ^ (f + 1)) := by rw [Nat.mul_left_comm]
        omega
      have hz6 : 6 ^ (f + 1) ≤ 3265920 := Nat.le_trans (Nat.le_mul_of_pos_left _ (Nat.lt_of_le_of_lt (Nat.zero_le _) hjn)) hz
      have hl0 : s = 0 → ∀ l, Pc.lit l ≠ T[j] := fun h l e => hT0 h l (e ▸ List.getElem_mem hjn)
      generalize T[j] = q at hfi htk hlen hl0 tup
      refine ⟨Tp, _, _, Option.some.inj hTp, .inl (tup.mono hG), storeCell (c := L + 2) .head rfl (storeLoc (.tail (.tail (.tail (.tail .head)))) (Run.abs fun Q1 hQ1 => ?_))⟩
      dsimp only at hQ1 ⊢
      generalize hX : (T.take j).flatMap (Pc.rd Y Rs (f + 1) s) = X at hlen htk hQ1 ⊢
      refine X_cons (X_Assign (Run.mono (Q := OpenedP (q.openAt s) ⟨G', [("row", some (.ref rw)), ("since", some (.int s st)), ("texts", some (.ref td)), ("out", some (.str (tx X) u)), ("times", some (.int q.timesOf tt)), ("opened", o2), ("when", o3), ("left", o4)], (L + 2, cellC (some (.str (tx q.wordOf) tw))) :: [(L + 1, cellC (some (.ref rl)))], k'⟩) ?_ fun v p₁ h1 => h1.casesOn ?_))
      · refine E_IfExp (T_Cmp (E_loc (v := .int (s : Int) st) at1 (E_int fun t1 => C_gtI (truthy_bool ?_))))
        by_cases h0 : 0 < s
        · rw [decide_eq_true (show (s : Int) > 0 by omega), if_pos rfl]
          refine E_BinOp (E_loc (v := .int (s : Int) st) at1 (E_callV (f := .builtin "max") (E_blt H.base at1) (E_items_cons (E_loc (v := .int q.timesOf tt) at4 (E_items_cons (E_int fun t2 => E_items_nil (R_max hR.hd fun t3 => B_add fun t4 => ?_)))))))
          have e : (s : Int) + max q.timesOf 1 = (q.openAt s : Nat) := by
            cases q with
            | lit l => show (s : Int) + max (-1) 1 = ((if 0 < s then s + 1 else 0 : Nat) : Int); rw [if_pos h0]; omega
            | ref w t => show (s : Int) + max (t : Int) 1 = ((if 0 < s then s + max t 1 else t + 1 : Nat) : Int); rw [if_pos h0, ← Pc.max_one]; rfl
          rw [e]; exact ⟨t4⟩
        · rw [decide_eq_false (show ¬ (s : Int) > 0 by omega), if_neg Bool.false_ne_true]
          refine E_BinOp (E_loc (v := .int q.timesOf tt) at4 (E_int fun t2 => B_add fun t4 => ?_))
          have e : q.timesOf + 1 = (q.openAt s : Nat) := by
            cases q with
            | lit l => show (-1 : Int) + 1 = ((if 0 < s then s + 1 else 0 : Nat) : Int); rw [if_neg h0]; rfl
            | ref w t => show (t : Int) + 1 = ((if 0 < s then s + max t 1 else t + 1 : Nat) : Int); rw [if_neg h0]; omega
          rw [e]; exact ⟨t4⟩
      intro to
      refine storeLoc (.tail (.tail (.tail (.tail (.tail .head))))) ?_
      dsimp only
      have ho1 : 1 ≤ q.openAt s ∧ q.openAt s ≤ 9 := by
        cases q with
        | lit l =>
          have h0 : 0 < s := Nat.pos_of_ne_zero fun e => hl0 e l rfl
          show 1 ≤ (if 0 < s then s + 1 else 0) ∧ (if 0 < s then s + 1 else 0) ≤ 9
          rw [if_pos h0]; omega
        | ref w t =>
          have := hfi.1.2
          show 1 ≤ (if 0 < s then s + max t 1 else t + 1) ∧ (if 0 < s then s + max t 1 else t + 1) ≤ 9
          split <;> omega
      obtain ⟨rvs, r1, r2, r3⟩ := hrl.mono hG
      have hrn : ((Rs.length : Int) + 1 - (q.openAt s : Nat)).toNat = Rs.length + 1 - q.openAt s := Int.toNat_sub (Rs.length + 1) (q.openAt s)
      refine X_cons (X_AComp1 (R := IntR (q.openAt s)) (Pc.selQ Rs (q.openAt s) q) [("word", L + 2), ("rounds", L + 1)] IntR.monoR (E_callV (f := .type "range") (E_blt H.base at3) (E_items_cons (E_loc (v := .int (q.openAt s : Nat) to) at5 (E_items_cons (E_BinOp (E_callV (f := .builtin "len") (E_blt H.base at2) (E_items_cons (E_cell (c := L + 1) at1 rfl (E_items_nil (R_len_list (.inl r1) (by omega) fun t5 => E_int fun t6 => B_add fun t7 => E_items_nil (R_range2 fun rg G₁ hG₁ hrg => ?_))))))))))))
      rw [r2] at hrg
      refine ⟨_, _, IterOn.rangeI hR.hd hrg (by omega) (by omega) (by omega) (by omega), ?_, fun Cc i v G₂ k₂ hi ⟨_, t8, hv8⟩ hG₂ hk₂ => ?_, fun D ys G₂ k₂ hG₂ hk₂ hM => ?_⟩
      · rw [hrn, sizeLine_eq]; omega
      · -- the test
        rw [hrn] at hi
        subst hv8
        have hkl : q.openAt s + i - 1 < Rs.length := Pc.idx_lt ho1.1 hi
        obtain ⟨a, ls, ea, la, lk⟩ := r3 (q.openAt s + i - 1) Rs[q.openAt s + i - 1] (List.getElem?_eq_getElem hkl)
        refine R_tests_one (T_Cmp (E_cell (c := L + 2) (.head _) rfl (E_Sb F.slot_list_getitem.lookup (E_cell (c := L + 1) at1 rfl (E_BinOp (E_loc (v := .int ((q.openAt s : Nat) + (i : Nat) : Int) t8) at0 (E_int fun t9 => B_sub fun t10 => ⟨HasTy.list (.inl ((r1.mono hG₁).mono hG₂)), G_list (.inl ((r1.mono hG₁).mono hG₂)) (by omega) (by omega) (x := .ref a) ?_ (C_inSL (.inl ((la.mono hG₁).mono hG₂)) (truthy_bool ⟨?_, _, _, rfl, GLe.refl _, Nat.le_refl _, fun hsel => ?_⟩))⟩)))))))
        · rw [← ea, show ((q.openAt s : Nat) + (i : Nat) - 1 : Int).toNat = q.openAt s + i - 1 from Int.toNat_sub (q.openAt s + i) 1]
        · rw [lk]; unfold Pc.selQ; rw [List.getElem?_eq_getElem hkl, Option.getD_some]
        · exact E_loc (v := .int ((q.openAt s : Nat) + (i : Nat) : Int) t8) at0 ⟨_, _, rfl, GLe.refl _, Nat.le_refl _, t8, by push_cast; rfl⟩
      · rw [hrn] at hM
        refine storeLoc (.tail (.tail (.tail (.tail (.tail (.tail .head)))))) ?_
        refine Run.freezeQ fun G₃ hG₃ hfz => ?_
        have hD : ListG G₃ D ys := ListG.ofQ hfz
        clear hfz
        have g3 : GLe G' G₃ := GLe.trans (GLe.trans hG₁ hG₂) hG₃
        have gG : GLe G G₃ := GLe.trans hG g3
        have kk : k ≤ k₂ := Nat.le_trans hk hk₂
        clear hG₃ hG₂ hG₁ r3 hrg
        cases q with
        | lit l =>
          refine X_one (X_If (T_Cmp (E_loc (v := .int (-1) tt) at4 (E_int fun t9 => C_ltI (truthy_bool ?_)))))
          show Run C _ L _ _ _
          have hl2 : l.length ≤ 2 := hfi.1.2
          refine X_one (X_Assign (E_BinOp (E_loc (v := .str (tx X) u) at3 (E_cell (c := L + 2) at0 rfl (B_addT (y := l) rfl rfl (by omega) fun t10 => storeLoc (.tail (.tail (.tail .head))) (hQ1 _ _ ?_))))))
          rw [show X ++ l = _ from htk.symm]
          exact ⟨G₃, k₂, t10, _, _, _, _, _, gG, kk⟩
        | ref w t =>
          refine X_one (X_If (T_Cmp (E_loc (v := .int (t : Int) tt) at4 (E_int fun t9 => C_ltI (truthy_bool ?_)))))
          rw [decide_eq_false (show ¬ ((t : Int) < 0) by omega), if_neg Bool.false_ne_true]
          refine X_one (X_If (T_Cmp (E_loc (v := .ref D) at6 (E_List (E_items_nil (newList_Q (by decide) fun b => C_neL hR.u (.inl hD.at) at0 (truthy_bool ?_)))))))
          have hwi := Pc.when_idx h5 t (Pc.openAt s (.ref w t)) hfi.1.1
          have hrd : Pc.rd Y Rs (f + 1) s (.ref w t) = Pc.fate Y Rs (fun k p => Pc.rd Y Rs f k p) (Pc.openAt s (.ref w t)) w (t - (Rs.length + 1 - max s 1)) := rfl
          have hos : s < Pc.openAt s (.ref w t) := by
            exact Pc.open_lt
          rw [hrd] at htk hlen
          have hw8 := hfi.1.1
          have ht3 := hfi.1.2
          generalize Pc.openAt s (.ref w t) = oo at *
          generalize (List.range (Rs.length + 1 - oo)).filter (Pc.selQ Rs oo (.ref w t)) = idx at hM hwi
          cases idx with
          | nil =>
            have hy : ys = [] := List.length_eq_zero_iff.mp hM.1
            subst hy
            show Run C _ L _ _ _
            refine Run.freezeQ fun G₄ hG₄ _ => ?_
            have g4 : GLe G G₄ := GLe.trans gG hG₄
            have r4 := r1.mono (GLe.trans g3 hG₄)
            dsimp only
            have hfate : Pc.fate Y Rs (fun k p => Pc.rd Y Rs f k p) oo w (t - (Rs.length + 1 - max s 1)) = if (w = 5 ∨ w = 6) ∧ oo ≤ Rs.length then Pc.sign w else Pc.flat (.ref w (t - (Rs.length + 1 - max s 1))) := by
              unfold Pc.fate
              rw [hwi]; rfl
            rw [hfate] at htk
            refine X_one (X_If (Run.mono (Q := BoolP (decide ((w = 5 ∨ w = 6) ∧ oo ≤ Rs.length)) ⟨G₄, [("row", some (.ref rw)), ("since", some (.int s st)), ("texts", some (.ref td)), ("out", some (.str (tx X) u)), ("times", some (.int (Pc.ref w t).timesOf tt)), ("opened", some (.int (oo : Nat) to)), ("when", some (.ref D)), ("left", o4)], [(L + 2, cellC (some (.str (tx (Pc.ref w t).wordOf) tw))), (L + 1, cellC (some (.ref rl)))], k₂⟩) ?_ fun b p₁ h1 => h1.casesOn ?_))
            · refine T_BoolOp (T_And_cons (T_Cmp (E_cell (c := L + 2) at0 rfl (E_Tuple (E_items_cons (E_str fun t11 h11 => E_items_cons (E_str fun t12 h12 => E_items_nil (newTuple_G (Nat.le_trans (show 2 ≤ 16777216 by decide) (by rw [sizeLine_eq]; decide)) fun Tl G₅ hG₅ hne => C_inTS (ls := [("lt", t11), ("gt", t12)]) ?_ (truthy_bool ?_)))))))))
              · rw [hG₅]; exact ⟨_, 0, addG_self, rfl, rfl⟩
              have g5 : GLe G₄ G₅ := by rw [hG₅]; exact GLe.add hne
              have hk5 : k₂ ≤ t12 + 1 := Nat.le_trans h11 (Nat.le_trans (Nat.le_succ _) (Nat.le_trans h12 (Nat.le_succ _)))
              have hin : (tx (Pc.ref w t).wordOf ∈ [(("lt" : Str), t11), ("gt", t12)].map (·.1)) ↔ (w = 5 ∨ w = 6) := by
                show tx (Pc.wd w) ∈ [5, 6].map (fun w => tx (Pc.wd w)) ↔ _
                constructor
                · intro h
                  obtain ⟨v, hv, e⟩ := List.mem_map.mp h
                  have hv8 : v < 8 := (show ∀ v ∈ [5, 6], v < 8 by decide) v hv
                  rw [← Pc.wd_inj v hv8 w hw8 (tx_inj.mp e)]
                  simpa using hv
                · intro h
                  exact List.mem_map_of_mem (f := fun w => tx (Pc.wd w)) (by simpa using h)
              by_cases hlg : w = 5 ∨ w = 6
              · rw [decide_eq_true (hin.mpr hlg), if_pos rfl]
                refine T_And_cons (T_Cmp (E_loc (v := .int (oo : Nat) to) at5 (E_callV (f := .builtin "len") (E_blt H.base at2) (E_items_cons (E_cell (c := L + 1) at1 rfl (E_items_nil (R_len_list (.inl (r4.mono g5)) (by omega) fun t13 => C_leI (truthy_bool ?_))))))))
                rw [r2]
                by_cases hle : oo ≤ Rs.length
                · rw [decide_eq_true (show ((oo : Nat) : Int) ≤ Rs.length by omega), if_pos rfl, decide_eq_true ⟨hlg, hle⟩]
                  exact T_And_nil ⟨_, _, g5, hk5⟩
                · rw [decide_eq_false (show ¬ ((oo : Nat) : Int) ≤ Rs.length by omega), if_neg Bool.false_ne_true, decide_eq_false fun h => hle h.2]
                  exact ⟨_, _, g5, hk5⟩
              · rw [decide_eq_false fun h => hlg (hin.mp h), if_neg Bool.false_ne_true, decide_eq_false fun h => hlg h.1]
                exact ⟨_, _, g5, hk5⟩
            intro G₆ k₆ g6 hk6
            replace hk6 : k₂ ≤ k₆ := hk6
            replace g6 : GLe G₄ G₆ := g6
            dsimp only
            by_cases hb : (w = 5 ∨ w = 6) ∧ oo ≤ Rs.length
            · rw [decide_eq_true hb, if_pos rfl]
              rw [if_pos hb] at htk
              refine X_one (X_Assign (E_BinOp (E_loc (v := .str (tx X) u) at3 (E_IfExp (T_Cmp (E_cell (c := L + 2) at0 rfl (E_str fun t14 h14 => C_eqT (x := Pc.wd w) (y := [108, 116]) rfl rfl (truthy_bool ?_))))))))
              by_cases hw5 : w = 5
              · subst hw5
                rw [decide_eq_true (show Pc.wd 5 = [108, 116] from rfl), if_pos rfl]
                refine E_str fun t15 h15 => B_addT (y := [60]) rfl rfl (by simp; omega) fun t16 => storeLoc (.tail (.tail (.tail .head))) (hQ1 _ _ ?_)
                rw [show X ++ [60] = _ from htk.symm]
                exact ⟨_, _, t16, _, _, _, _, _, GLe.trans g4 g6, Nat.le_trans kk (Nat.le_trans hk6 (Nat.le_trans (Nat.le_trans h14 (Nat.le_succ _)) (Nat.le_trans h15 (Nat.le_succ _))))⟩
              · have hw6 : w = 6 := hb.1.resolve_left hw5
                subst hw6
                rw [decide_eq_false (show ¬ Pc.wd 6 = [108, 116] by decide), if_neg Bool.false_ne_true]
                refine E_str fun t15 h15 => B_addT (y := [62]) rfl rfl (by simp; omega) fun t16 => storeLoc (.tail (.tail (.tail .head))) (hQ1 _ _ ?_)
                rw [show X ++ [62] = _ from htk.symm]
                exact ⟨_, _, t16, _, _, _, _, _, GLe.trans g4 g6, Nat.le_trans kk (Nat.le_trans hk6 (Nat.le_trans (Nat.le_trans h14 (Nat.le_succ _)) (Nat.le_trans h15 (Nat.le_succ _))))⟩
            · rw [decide_eq_false hb, if_neg Bool.false_ne_true]
              rw [if_neg hb] at htk
              refine X_cons (X_Assign (E_BinOp (E_loc (v := .int (t : Int) tt) at4 (E_BinOp (E_BinOp (E_callV (f := .builtin "len") (E_blt H.base at2) (E_items_cons (E_cell (c := L + 1) at1 rfl (E_items_nil (R_len_list (.inl (r4.mono g6)) (by omega) fun t13 => E_int fun t14 => B_add fun t15 => E_callV (f := .builtin "max") (E_blt H.base at1) (E_items_cons (E_loc (v := .int (s : Int) st) at1 (E_items_cons (E_int fun t16 => E_items_nil (R_max hR.hd fun t17 => B_sub fun t18 => B_sub fun t19 => storeLoc (.tail (.tail (.tail (.tail (.tail (.tail (.tail .head))))))) ?_)))))))))))))))
              rw [r2]
              dsimp only
              generalize hlv : (t : Int) - ((Rs.length : Int) + 1 - max (s : Int) 1) = lv
              refine X_one (X_Assign (E_BinOp (E_BinOp (E_BinOp (E_BinOp (E_loc (v := .str (tx X) u) at3 (E_str fun t20 h20 => B_addT (y := [38]) rfl rfl (by simp; omega) fun t21 => E_BinOp (E_str fun t22 h22 => E_callV (f := .builtin "max") (E_blt H.base at1) (E_items_cons (E_loc (v := .int lv t19) at7 (E_items_cons (E_int fun t23 => E_items_nil (R_max hR.hd fun t24 => ?_)))))))))))))
              have elv : max lv 0 = ((t - (Rs.length + 1 - max s 1) : Nat) : Int) := hlv ▸ Pc.left_int hs
              rw [elv]
              have hn3 : t - (Rs.length + 1 - max s 1) ≤ 3 := Nat.le_trans (Nat.sub_le ..) ht3
              generalize t - (Rs.length + 1 - max s 1) = nl at htk hn3 ⊢
              have hwl := (Pc.wd_free w hw8).2.2.2
              refine B_amps hn3 fun t25 => B_addT rfl rfl (by simp [Pc.amps_len]; omega) fun t26 => E_cell (c := L + 2) at0 rfl (B_addT (y := Pc.wd w) rfl rfl (by simp [Pc.amps_len]; omega) fun t27 => E_str fun t28 h28 => B_addT (y := [59]) rfl rfl (by simp [Pc.amps_len]; omega) fun t29 => storeLoc (.tail (.tail (.tail .head))) (hQ1 _ _ ?_))
              have eX : X ++ [38] ++ Pc.amps nl ++ Pc.wd w ++ [59] = (T.take (j + 1)).flatMap (Pc.rd Y Rs (f + 1) s) := by
                rw [htk]; simp [Pc.flat, Pc.body]
              rw [eX]
              exact ⟨_, _, t29, _, _, _, _, _, GLe.trans g4 g6, Nat.le_trans kk (Nat.le_trans hk6 (Nat.le_trans (Nat.le_trans h20 (Nat.le_succ _)) (Nat.le_trans (Nat.le_trans h22 (Nat.le_succ _)) (Nat.le_trans h28 (Nat.le_succ _)))))⟩
          | cons i idx =>
            obtain ⟨y0, ys, rfl⟩ : ∃ y0 yr, ys = y0 :: yr := by
              cases ys with
              | nil => exact absurd hM.1 (by simp)
              | cons a b => exact ⟨a, b, rfl⟩
            obtain ⟨ty, rfl⟩ : IntR oo i y0 G₂ k₂ := hM.2 0 i y0 rfl rfl
            show Run C _ L _ _ _
            refine Run.freezeQ fun G₄ hG₄ _ => ?_
            have g4 : GLe G G₄ := GLe.trans gG hG₄
            dsimp only
            have hwc : Pc.whenL Rs oo w = (oo + i) :: idx.map (oo + ·) := hwi
            obtain ⟨m1, m2⟩ := Pc.when_mem hwc
            have hw5 : w < 5 := by
              have hk : oo + i ∈ Pc.whenL Rs oo w := by rw [hwc]; exact List.mem_cons_self ..
              have := of_decide_eq_true (List.mem_filter.mp hk).2
              cases e2 : Rs[oo + i - 1]? with
              | none => rw [e2] at this; cases this
              | some R => rw [e2] at this; exact h5 R (List.mem_of_getElem? e2) w this
            have hfate : Pc.fate Y Rs (fun k p => Pc.rd Y Rs f k p) oo w (t - (Rs.length + 1 - max s 1)) = (Y w).flatMap (Pc.rd Y Rs f (oo + i)) := by
              unfold Pc.fate
              rw [hwc]
            rw [hfate] at htk hlen
            obtain ⟨es, d1, d2⟩ := htd.mono g4
            obtain ⟨ra, rvs', q1, q2, q3⟩ := d2 w hw5
            obtain ⟨y1, y2⟩ := hY w hw5
            refine X_one (X_Assign (E_BinOp (E_loc (v := .str (tx X) u) at3 (E_callF ho hd (E_glob H.base at6) (E_items_cons (E_Sb F.slot_dict_getitem.lookup (E_loc (v := .ref td) at2 (E_cell (c := L + 2) at0 rfl ⟨HasTy.dict d1, G_dict d1 q1 (E_items_cons (E_Sb F.slot_list_getitem.lookup (E_loc (v := .ref D) at6 (E_int fun t9 =>
              ⟨HasTy.listG (hD.mono hG₄), G_list (.inl (hD.mono hG₄).at) (by decide) (by decide) (x := .int ((oo + i : Nat) : Int) ty) rfl (E_items_cons (E_cell (c := L + 1) at1 rfl (E_items_cons (E_loc (v := .ref td) at2 (E_items_nil ?_)))))⟩))))⟩))))))))
            refine R_pure ((w_read H h5 hn hY f (hR.less (e := f + 3) (by omega)) (T := Y w) (vs := rvs') m2 (Pc.left_lt (Nat.lt_of_lt_of_le hos m1) m2 hf) q2 q3 y2 (fun e => absurd e (by omega)) ?_ (hrl.mono g4) (htd.mono g4)).mono fun v G₅ k₅ hG₅ hk₅ h9 => ?_)
            · have := Nat.mul_le_mul_right (6 ^ f) y1
              rw [Nat.pow_succ] at hz6; omega
            obtain ⟨u9⟩ := h9
            refine B_addT rfl rfl (by omega) fun t10 => storeLoc (.tail (.tail (.tail .head))) (hQ1 _ _ ?_)
            rw [← htk]
            exact ⟨_, _, t10, _, _, _, _, _, GLe.trans g4 hG₅, Nat.le_trans kk hk₅⟩
    · intro p₂ hI9
      refine hI9.casesOn ?_
      intro G' k' u o1 o2 o3 o4 o5 hG hk
      rw [hR0.1, List.take_length]
      exact X_nil (X_one (X_Return (E_loc (v := .str (tx (T.flatMap (Pc.rd Y Rs (f + 1) s))) u) at3 (hQ0 _ _ ⟨u⟩))))
end Four
end Mine

open PySem PySem.Calls PyProof.Rows
set_option Elab.async false
set_option linter.unusedVariables false
set_option maxRecDepth 100000
namespace Mine
/-- pieces written out -/
inductive PairEs : List Expr → List Pc → Prop
  | nil : PairEs [] []
  | ref {x : Str} {w t : Nat} {n1 n2 k : Nat} {q1 q2 q3 : Pos} {es : List Expr} {ps : List Pc} (h : PairEs es ps) (e : x = tx (Pc.wd w)) : PairEs (.Tuple [.Constant (.str x) n1 q1, .Constant (.int t) n2 q2] k q3 :: es) (.ref w t :: ps)
  | lit {x : Str} {l : List Nat} {n1 n2 k : Nat} {q1 q2 q3 q4 : Pos} {es : List Expr} {ps : List Pc} (h : PairEs es ps) (e : x = tx l) : PairEs (.Tuple [.Constant (.str x) n1 q1, .UnaryOp .USub (.Constant (.int 1) n2 q2) q4] k q3 :: es) (.lit l :: ps)
theorem RowAt.nil {G : Addr → Option Obj} : RowAt G [] [] := ⟨rfl, fun i q h => by simp at h⟩
theorem RowAt.cons {G : Addr → Option Obj} {T : Addr} {q : Pc} {vs : List Value} {ps : List Pc} (h : RowAt G vs ps) (hq : PcAt G T q) : RowAt G (.ref T :: vs) (q :: ps) := ⟨by simp [h.1], fun i p hp => by
  cases i with
  | zero => cases hp; exact ⟨T, rfl, hq⟩
  | succ i => exact h.2 i p hp⟩
theorem RowAt.snoc {G : Addr → Option Obj} {T : Addr} {q : Pc} {vs : List Value} {ps : List Pc} (h : RowAt G vs ps) (hq : PcAt G T q) : RowAt G (vs ++ [.ref T]) (ps ++ [q]) := by
  refine ⟨by simp [h.1], fun i p hp => ?_⟩
  by_cases hi : i < ps.length
  · rw [List.getElem?_append_left hi] at hp
    rw [List.getElem?_append_left (by rw [h.1]; exact hi)]
    exact h.2 i p hp
  · rw [List.getElem?_append_right (by omega)] at hp
    rw [List.getElem?_append_right (by rw [h.1]; omega), h.1]
    have : i - ps.length = 0 := by
      have := (List.getElem?_eq_some_iff.mp hp).1
      simp at this; omega
    rw [this] at hp ⊢
    cases hp
    exact ⟨T, rfl, hq⟩
inductive RowP (ps : List Pc) (p : Pt) : List Value → Pt → Prop
  | mk {vs : List Value} (G' : Addr → Option Obj) (k' : Nat) (h1 : GLe p.G G') (h2 : p.k ≤ k') (h3 : RowAt G' vs ps) : RowP ps p vs ⟨G', p.m, p.N, k'⟩
theorem E_rowL {C : Cx} {A : Around} {L : Addr} {env : Env} {pos : Pos} {es : List Expr} {ps : List Pc} (hs : PairEs es ps) : ∀ {p : Pt}, Run C A L (spliced (backTo pos (starEach es env))) p (RowP ps p) := by
  have tz : ∀ a b : Value, [a, b].length ≤ sizeLine := fun a b => by show 2 ≤ sizeLine; rw [sizeLine_eq]; decide
  induction hs with
  | nil => exact fun {p} => E_items_nil ⟨p.G, p.k, GLe.refl _, Nat.le_refl _, RowAt.nil⟩
  | @ref x w t n1 n2 k q1 q2 q3 es ps _ e ih =>
    intro p
    refine E_items_cons (E_Tuple (E_items_cons (E_strQ fun t1 h1 => E_items_cons (E_int fun t2 => E_items_nil (newTuple_G (tz _ _) fun T G₁ hG₁ hne => ?_)))))
    refine (ih (p := _)).mono fun vs p₁ h => ?_
    obtain ⟨G', k', g1, g2, g3⟩ := h
    have g0 : GLe p.G G₁ := by rw [hG₁]; exact GLe.add hne
    refine ⟨G', k', GLe.trans g0 g1, Nat.le_trans (Nat.le_trans h1 (Nat.le_succ _)) g2, g3.cons ?_⟩
    subst e
    exact ⟨t1, t2, TupAt.mono (G := G₁) (by rw [hG₁]; exact ⟨_, 0, addG_self, rfl, rfl⟩) g1⟩
  | @lit x l n1 n2 k q1 q2 q3 q4 es ps _ e ih =>
    intro p
    refine E_items_cons (E_Tuple (E_items_cons (E_strQ fun t1 h1 => E_items_cons (E_Unary (E_int fun t2 => U_neg fun t3 => E_items_nil (newTuple_G (tz _ _) fun T G₁ hG₁ hne => ?_))))))
    refine (ih (p := _)).mono fun vs p₁ h => ?_
    obtain ⟨G', k', g1, g2, g3⟩ := h
    have g0 : GLe p.G G₁ := by rw [hG₁]; exact GLe.add hne
    refine ⟨G', k', GLe.trans g0 g1, Nat.le_trans (Nat.le_trans h1 (Nat.le_succ _)) g2, g3.cons ?_⟩
    subst e
    exact ⟨t1, t3, TupAt.mono (G := G₁) (by rw [hG₁]; exact ⟨_, 0, addG_self, rfl, rfl⟩) g1⟩
/-- a list of pieces written out -/
inductive RowQ (ps : List Pc) (p : Pt) : Value → Pt → Prop
  | mk (a : Addr) (vs : List Value) (G' : Addr → Option Obj) (k' : Nat) (h1 : GLe p.G G') (h2 : p.k ≤ k') (h3 : RowAt G' vs ps) : RowQ ps p (.ref a) ⟨G', p.m, (a, listC vs) :: p.N, k'⟩
theorem E_row {C : Cx} {A : Around} {L : Addr} {env : Env} {pos : Pos} {es : List Expr} {p : Pt} (ps : List Pc) (hs : PairEs es ps) (hz : ps.length ≤ 10) : Run C A L (eval (.List es pos) env) p (RowQ ps p) :=
  E_List ((E_rowL hs).mono fun vs p₁ h => by
    obtain ⟨G', k', g1, g2, g3⟩ := h
    exact newList_Q (by rw [g3.1, sizeLine_eq]; omega) fun a => ⟨a, vs, G', k', g1, g2, g3⟩)
namespace Four
abbrev fdL : FuncData := fdF 14 .none pmL (.ref 182)
abbrev envL (L : Addr) : Env := callEnvC fdL L 183
def bodyOf (i : Nat) : List Stmt :=
  match PySem.Challenge.pw_dn0038_04.main.body[i]? with
  | some (.FunctionDef name args body dl ret tp scope ts b pos) => body
  | _ => []
def bodyL : List Stmt := bodyOf 14
abbrev mL (script names data x rest place kind times piece sorter k raised rounds group due row read step text table : Option Value) : List (Str × Option Value) :=
  [("script", script), ("names", names), ("data", data), ("x", x), ("rest", rest), ("place", place), ("kind", kind), ("times", times), ("piece", piece), ("sorter", sorter), ("k", k), ("raised", raised), ("rounds", rounds), ("group", group), ("due", due), ("row", row), ("read", read), ("step", step), ("text", text), ("table", table)]
abbrev nL (L : Addr) (texts led name one : Option Value) : List (Addr × Cell) :=
  [(L + 4, cellC one), (L + 3, cellC name), (L + 2, cellC led), (L + 1, cellC texts)]
/-- the five lists -/
def lN (la : Nat → Addr) (V : Nat → List Value) : List (Addr × Cell) := [(la 4, listC (V 4)), (la 3, listC (V 3)), (la 2, listC (V 2)), (la 1, listC (V 1)), (la 0, listC (V 0))]
def upd (V : Nat → List Value) (w : Nat) (v : List Value) : Nat → List Value := fun j => if j = w then v else V j
theorem lN_mem {la : Nat → Addr} {V : Nat → List Value} {w : Nat} (hw : w < 5) : (la w, listC (V w)) ∈ lN la V := by
  have := lt5 hw
  rcases this with rfl | rfl | rfl | rfl | rfl
  · exact at4
  · exact at3
  · exact at2
  · exact at1
  · exact at0
theorem lN_put {la : Nat → Addr} {V : Nat → List Value} {w : Nat} (hw : w < 5) (v : List Value) (N : List (Addr × Cell)) : PutN (lN la V ++ N) (la w) (listC (V w)) (listC v) (lN la (upd V w v) ++ N) := by
  have := lt5 hw
  rcases this with rfl | rfl | rfl | rfl | rfl
  · exact .tail (.tail (.tail (.tail .head)))
  · exact .tail (.tail (.tail .head))
  · exact .tail (.tail .head)
  · exact .tail .head
  · exact .head
def Y0 : Nat → List Pc := fun w => [[.lit [49], .ref 1 0], [.lit [50], .ref 2 1, .ref 3 0], [.lit [51], .ref 5 0], [.lit [52], .ref 4 1], [.lit [92, 53], .ref 0 2]][w]?.getD []
def D0 : List Pc := [.ref 0 0, .ref 1 1, .ref 2 0, .ref 3 2, .ref 4 0, .ref 5 0, .ref 6 1]
end Four
end Mine

open PySem PySem.Calls PyProof.Rows
set_option Elab.async false
set_option linter.unusedVariables false
set_option maxRecDepth 100000
namespace Mine
section
variable {C : Cx} {A : Around} {L : Addr} {p : Pt} {env : Env}
theorem E_Dict5 {a1 a2 a3 a4 a5 b1 b2 b3 b4 b5 : Expr} {pos : Pos} {Q : Value → Pt → Prop} (h : Run C A L (subDict [(eval a1 env, do let x ← eval b1 env; PySem.standAt pos; Pure.pure x), (eval a2 env, do let x ← eval b2 env; PySem.standAt pos; Pure.pure x), (eval a3 env, do let x ← eval b3 env; PySem.standAt pos; Pure.pure x), (eval a4 env, do let x ← eval b4 env; PySem.standAt pos; Pure.pure x), (eval a5 env, do let x ← eval b5 env; PySem.standAt pos; Pure.pure x)]) p fun d p₁ => Q (.ref d) p₁) :
    Run C A L (eval (.Dict [some a1, some a2, some a3, some a4, some a5] [b1, b2, b3, b4, b5] pos) env) p Q := E_DictP rfl (by simp) (by simp) h
end
/-- the rows of the texts' dict -/
def DRows (es : List Ent) (la : Nat → Addr) : Prop := ∀ w < 5, dget es (tx (Pc.wd w)) = some (.ref (la w))
namespace Four
variable {C : Cx} {A : Around} {L : Addr}
inductive Seg1P (C : Cx) (L : Addr) (G : Addr → Option Obj) (k : Nat) (s : Option Value) : Pt → Prop
  | mk (G' : Addr → Option Obj) (k' : Nat) (nl td dl : Addr) (nS : List (Str × Tok)) (es : List Ent) (la : Nat → Addr) (V : Nat → List Value) (dvs : List Value) (h1 : GLe G G') (h2 : k + 1 ≤ k') (h3 : ListG G' nl (strValues nS)) (h4 : nS.map (·.1) = [0, 1, 2, 3, 4].map fun w => tx (Pc.wd w))
      (h5 : DictG C.w G' td es) (h6 : DRows es la) (h7 : ∀ w < 5, RowAt G' (V w) (Y0 w)) (h8 : RowAt G' dvs D0) :
    Seg1P C L G k s ⟨G', mL s (some (.ref nl)) (some (.ref dl)) none none none none none none none none none none none none none none none none none, (dl, listC dvs) :: (lN la V ++ nL L (some (.ref td)) none none none), k'⟩
theorem seg1 (H : Cx4 C) {d : Nat} (hR : Room A d) {s : Option Value} {G : Addr → Option Obj} {k : Nat} {Q : Flow → Pt → Prop} (h : ∀ p, Seg1P C L G k s p → Run C A L (execs (bodyL.drop 3) (envL L)) p Q) :
    Run C A L (execs bodyL (envL L)) ⟨G, mL s none none none none none none none none none none none none none none none none none none none, nL L none none none none, k⟩ Q := by
  refine X_cons (X_Assign (E_listS (xs := [0, 1, 2, 3, 4].map fun w => tx (Pc.wd w)) fun nl nS G₁ k₁ hG₁ hk₁ hnS _ hnl => storeLoc (.tail .head) ?_))
  dsimp only
  refine X_cons (X_Assign (E_Dict5 (R_subDict (by simp) fun td htd hdN => ?_)))
  refine R_pairs_cons (E_str fun t1 h1 => R_thenAt ((E_row (Y0 0) (.lit (.ref .nil rfl) rfl) (by decide)).mono fun v p₁ hq => hq.casesOn ?_))
  intro l0 v0 G2 k2 g2 e2 r0
  refine R_pairs_cons (E_str fun t2 h2 => R_thenAt ((E_row (Y0 1) (.lit (.ref (.ref .nil rfl) rfl) rfl) (by decide)).mono fun v p₁ hq => hq.casesOn ?_))
  intro l1 v1 G3 k3 g3 e3 r1
  refine R_pairs_cons (E_str fun t3 h3 => R_thenAt ((E_row (Y0 2) (.lit (.ref .nil rfl) rfl) (by decide)).mono fun v p₁ hq => hq.casesOn ?_))
  intro l2 v2 G4 k4 g4 e4 r2
  refine R_pairs_cons (E_str fun t4 h4 => R_thenAt ((E_row (Y0 3) (.lit (.ref .nil rfl) rfl) (by decide)).mono fun v p₁ hq => hq.casesOn ?_))
  intro l3 v3 G5 k5 g5 e5 r3
  refine R_pairs_cons (E_str fun t5 h5 => R_thenAt ((E_row (Y0 4) (.lit (.ref .nil rfl) rfl) (by decide)).mono fun v p₁ hq => hq.casesOn ?_))
  intro l4 v4 G6 k6 g6 e6 r4
  refine R_pairs_nil ?_
  refine ⟨[("a", t1, .ref l0), ("b", t2, .ref l1), ("c", t3, .ref l2), ("d", t4, .ref l3), (".", t5, .ref l4)], _, rfl, by simp, .tail (.tail (.tail (.tail (.tail .head)))), ?_⟩
  refine storeCell (c := L + 1) (.tail (.tail (.tail (.tail (.tail (.tail (.tail (.tail (.tail .head))))))))) rfl ?_
  dsimp only
  refine Run.freeze (.tail (.tail (.tail (.tail (.tail .head))))) fun ot G₇ hct hGe hne => ?_
  have g7 : GLe G6 G₇ := by rw [hGe]; exact GLe.add hne
  have hD : DictG C.w G₇ td [("a", t1, .ref l0), ("b", t2, .ref l1), ("c", t3, .ref l2), ("d", t4, .ref l3), (".", t5, .ref l4)] := ⟨ne_sys H htd, ot, by rw [hGe]; exact addG_self, by
    rw [dputs_nil (es := [("a", t1, .ref l0), ("b", t2, .ref l1), ("c", t3, .ref l2), ("d", t4, .ref l3), (".", t5, .ref l4)]) (nodup_of (show nd ([("a" : Str), "b", "c", "d", "."]) = true by decide))] at hct
    exact hct⟩
  clear hGe hct
  dsimp only
  refine X_cons (X_Assign ((E_row D0 (.ref (.ref (.ref (.ref (.ref (.ref (.ref .nil rfl) rfl) rfl) rfl) rfl) rfl) rfl) (by decide)).mono fun v p₁ hq => hq.casesOn ?_))
  intro dl dvs G8 k8 g8 e8 r8
  refine storeLoc (.tail (.tail .head)) ?_
  have f7 := GLe.trans g7 g8
  have f6 := GLe.trans g6 f7
  have f5 := GLe.trans g5 f6
  have f4 := GLe.trans g4 f5
  have f3 := GLe.trans g3 f4
  refine h _ ⟨G8, k8, nl, td, dl, nS, _, fun w => [l0, l1, l2, l3, l4][w]?.getD 0, fun w => [v0, v1, v2, v3, v4][w]?.getD [], dvs, GLe.trans hG₁ (GLe.trans g2 f3), ?_, hnl.mono (GLe.trans g2 f3), hnS, hD.mono g8, ?_, ?_, r8⟩
  · exact Nat.le_trans (Nat.succ_le_succ (Nat.le_trans hk₁ h1)) (Nat.le_trans e2 (Nat.le_trans h2 (Nat.le_trans (Nat.le_succ _) (Nat.le_trans e3 (Nat.le_trans h3 (Nat.le_trans (Nat.le_succ _) (Nat.le_trans e4 (Nat.le_trans h4 (Nat.le_trans (Nat.le_succ _) (Nat.le_trans e5 (Nat.le_trans h5 (Nat.le_trans (Nat.le_succ _) (Nat.le_trans e6 e8)))))))))))))
  · intro w hw
    have := lt5 hw
    rcases this with rfl | rfl | rfl | rfl | rfl <;> rfl
  · intro w hw
    have := lt5 hw
    rcases this with rfl | rfl | rfl | rfl | rfl
    · exact r0.mono f3
    · exact r1.mono f4
    · exact r2.mono f5
    · exact r3.mono f6
    · exact r4.mono f7
end Four
end Mine

open PySem PySem.Calls PyProof.Rows
set_option Elab.async false
set_option linter.unusedVariables false
set_option maxRecDepth 100000
namespace Mine
inductive AnyB (p : Pt) : Bool → Pt → Prop
  | mk {b : Bool} : AnyB p b p
/-- the texts of the five, as the script may leave them -/
def GoodY (Y : Nat → List Pc) : Prop := ∀ w < 5, (Y w).length ≤ 6 ∧ ∀ q ∈ Y w, q.Fine
def GoodD (dps : List Pc) : Prop := ∀ q ∈ dps, q.Fine ∧ ∀ l, q ≠ .lit l
theorem goodY0 : GoodY Four.Y0 := by
  unfold GoodY Pc.Fine Pc.Ok Four.Y0
  intro w hw
  have := lt5 hw
  rcases this with rfl | rfl | rfl | rfl | rfl <;> simp
theorem goodD0 : GoodD Four.D0 := by
  unfold GoodD Pc.Fine Pc.Ok Four.D0
  intro q hq
  simp only [List.mem_cons, List.not_mem_nil, or_false] at hq
  rcases hq with rfl | rfl | rfl | rfl | rfl | rfl | rfl <;> simp
inductive IntP (p : Pt) : Value → Pt → Prop
  | mk (b : Int) (t : Tok) : IntP p (.int b t) p
theorem fm_nat (a : Int) {b : Nat} (hb : 0 < b) : ∃ n : Nat, a.fmod b = n ∧ n < b := by
  have h1 := Int.fmod_nonneg_of_pos a (b := (b : Int)) (by omega)
  have h2 := Int.fmod_lt_of_pos a (b := (b : Int)) (by omega)
  exact ⟨(a.fmod b).toNat, by omega, by omega⟩
theorem names_at {ls : List (Str × Tok)} {f : Nat → Str} {ws : List Nat} (h : ls.map (·.1) = ws.map f) {i : Nat} (hi : i < ws.length) : ∃ t, (strValues ls)[i]? = some (.str (f ws[i]) t) := by
  have hl : ls.length = ws.length := by simpa using congrArg List.length h
  have hi' : i < ls.length := hl ▸ hi
  have h2 : (ls.map (·.1))[i]? = (ws.map f)[i]? := by rw [h]
  rw [List.getElem?_map, List.getElem?_map, List.getElem?_eq_getElem hi, List.getElem?_eq_getElem hi'] at h2
  refine ⟨ls[i].2, ?_⟩
  simp only [strValues, List.getElem?_map, List.getElem?_eq_getElem hi', Option.map_some] at h2 ⊢
  rw [Option.some.inj h2]
theorem get_eight {n : Nat} (h : n < 8) : ([0, 1, 2, 3, 4] ++ [5, 6, 7] : List Nat)[n]'h = n := by
  revert n; decide
theorem get_five {n : Nat} (h : n < 5) : ([0, 1, 2, 3, 4] : List Nat)[n]'h = n := by
  revert n; decide
namespace Four
variable {C : Cx} {A : Around} {L : Addr}
theorem upd_row {G : Addr → Option Obj} {V : Nat → List Value} {Y : Nat → List Pc} {T : Addr} {q : Pc} {w : Nat} (h : ∀ w < 5, RowAt G (V w) (Y w)) (hw : w < 5) (hq : PcAt G T q) : ∀ j < 5, RowAt G (upd V w (V w ++ [.ref T]) j) ((fun j => if j = w then Y w ++ [q] else Y j) j) := fun j hj => by
  unfold upd
  by_cases e : j = w
  · subst e
    simp only [if_true]
    exact (h j hj).snoc hq
  · simp only [if_neg e]
    exact h j hj
inductive Seg2I (C : Cx) (L : Addr) (G : Addr → Option Obj) (k : Nat) (s : Option Value) (nl td dl : Addr) (la : Nat → Addr) (i : Nat) : Pt → Prop
  | mk (G' : Addr → Option Obj) (k' : Nat) (V : Nat → List Value) (dvs : List Value) (Y : Nat → List Pc) (dps : List Pc) (o1 o2 o3 o4 o5 o6 : Option Value) (h1 : GLe G G') (h2 : k ≤ k') (h3 : ∀ w < 5, RowAt G' (V w) (Y w)) (h4 : RowAt G' dvs dps) (h5 : GoodY Y) (h6 : GoodD dps) (h7 : dps.length ≤ 7 + i) (h8 : ∀ w < 5, 2 ≤ (Y w).length) :
    Seg2I C L G k s nl td dl la i ⟨G', mL s (some (.ref nl)) (some (.ref dl)) o1 o2 o3 o4 o5 o6 none none none none none none none none none none none, (dl, listC dvs) :: (lN la V ++ nL L (some (.ref td)) none none none), k'⟩
inductive TimesP (p : Pt) (m : Option Value → List (Str × Option Value)) : Flow → Pt → Prop
  | mk (tm : Nat) (t : Tok) (h : tm < 4) : TimesP p m .next ⟨p.G, m (some (.int tm t)), p.N, p.k⟩
theorem seg2 (H : Cx4 C) {d : Nat} (hR : Room A d) {l : Addr} {vs : List Value} {ns : List Int} {nl td dl : Addr} {nS : List (Str × Tok)} {es : List Ent} {la : Nat → Addr} {V : Nat → List Value} {dvs : List Value} {G : Addr → Option Obj} {k : Nat} {Q : Flow → Pt → Prop}
    (hl : ListAt G l vs) (hv : IntsAt vs ns) (hn : ns.length ≤ 63) (hb : ∀ n ∈ ns, Builtin.Int.intBits n ≤ 2 ^ 20) (hnl : ListG G nl (strValues nS)) (hnS : nS.map (·.1) = [0, 1, 2, 3, 4].map fun w => tx (Pc.wd w)) (htd : DictG C.w G td es) (hes : DRows es la)
    (hV : ∀ w < 5, RowAt G (V w) (Y0 w)) (hD : RowAt G dvs D0)
    (h : ∀ p, Seg2I C L G k (some (.ref l)) nl td dl la ns.length p → Run C A L (execs (bodyL.drop 4) (envL L)) p Q) :
    Run C A L (execs (bodyL.drop 3) (envL L)) ⟨G, mL (some (.ref l)) (some (.ref nl)) (some (.ref dl)) none none none none none none none none none none none none none none none none none, (dl, listC dvs) :: (lN la V ++ nL L (some (.ref td)) none none none), k⟩ Q := by
  have hvl := hv.1
  refine X_cons (X_ForV (Seg2I C L G k (some (.ref l)) nl td dl la) (fun h => E_loc (v := .ref l) at0 h) (IterOn.list hR.hd hl) ?_ ?_ ?_)
  · exact ⟨G, k, V, dvs, Y0, D0, none, none, none, none, none, none, GLe.refl _, Nat.le_refl _, hV, hD, goodY0, goodD0, Nat.le_refl _, by decide⟩
  · intro i p₂ hi hI9
    refine hI9.casesOn ?_
    intro G' k' V dvs Y dps o1 o2 o3 o4 o5 o6 hG hk hV hD hY hDg hdl hY2
    refine AsgRun.name fun v ⟨_, hvx⟩ => ?_
    have hin : i < ns.length := hvl ▸ hi
    obtain ⟨tv, e1⟩ := hv.2 i ns[i] (by simp [hin])
    rw [hvx] at e1; cases e1
    have hbx := hb ns[i] (List.getElem_mem hin)
    generalize ns[i] = x at hbx
    refine storeLoc (.tail (.tail (.tail .head))) (Run.abs fun Q1 hQ1 => ?_)
    dsimp only at hQ1 ⊢
    have h2 : Builtin.Int.intBits 2 ≤ 2 := by decide
    have h2' : Builtin.Int.intBits (-2) ≤ 2 := by decide
    refine X_cons (X_AssignT (E_callV (f := .builtin "divmod") (E_blt H.base at0) (E_items_cons (Run.mono (Q := IntP ⟨G', mL (some (.ref l)) (some (.ref nl)) (some (.ref dl)) (some (.int x tv)) o2 o3 o4 o5 o6 none none none none none none none none none none none, (dl, listC dvs) :: (lN la V ++ nL L (some (.ref td)) none none none), k'⟩) ?_ fun v p₁ hq => hq.casesOn fun b t => E_items_cons (E_int fun t2 => E_items_nil (R_divmod (by decide) (by decide) fun T₁ G₁ u1 u2 hG₁ hT₁ => AsgRun.pair hR.hd fun v h' hv => ⟨T₁, _, _, hv, .inl hT₁, storeLoc (.tail (.tail (.tail (.tail .head)))) (storeLoc (.tail (.tail (.tail (.tail (.tail .head))))) ?_)⟩))))))
    · refine E_IfExp (T_Cmp (E_loc (v := .int x tv) at3 (E_int fun t1 => C_geI (truthy_bool ?_))))
      cases decide (x ≥ 0)
      · show Run C _ L _ _ _
        exact E_BinOp (E_BinOp (E_Unary (E_int fun t3 => U_neg fun t4 => E_loc (v := .int x tv) at3 (B_mul (mulOk_of_bits h2' hbx (by omega)) fun t5 => E_int fun t6 => B_sub fun t7 => ⟨_, t7⟩))))
      · show Run C _ L _ _ _
        exact E_BinOp (E_int fun t3 => E_loc (v := .int x tv) at3 (B_mul (mulOk_of_bits h2 hbx (by omega)) fun t5 => ⟨_, t5⟩))
    dsimp only
    obtain ⟨pl, ep, hpl⟩ := fm_nat b (b := 6) (by decide)
    rw [show (6 : Int) = ((6 : Nat) : Int) from rfl, ep]
    generalize b.fdiv ((6 : Nat) : Int) = r1
    refine X_cons (X_AssignT (E_callV (f := .builtin "divmod") (E_blt H.base at0) (E_items_cons (E_loc (v := .int r1 u1) at4 (E_items_cons (E_int fun t3 => E_items_nil (R_divmod (by decide) (by decide) fun T₂ G₂ u3 u4 hG₂ hT₂ => AsgRun.pair hR.hd fun v h' hv => ⟨T₂, _, _, hv, .inl hT₂, storeLoc (.tail (.tail (.tail (.tail .head)))) (storeLoc (.tail (.tail (.tail (.tail (.tail (.tail .head)))))) ?_)⟩)))))))
    dsimp only
    obtain ⟨kd, ek, hkd⟩ := fm_nat r1 (b := 8) (by decide)
    rw [show (8 : Int) = ((8 : Nat) : Int) from rfl, ek]
    generalize r1.fdiv ((8 : Nat) : Int) = r2
    refine X_cons (X_AssignT (E_callV (f := .builtin "divmod") (E_blt H.base at0) (E_items_cons (E_loc (v := .int r2 u3) at4 (E_items_cons (E_int fun t4 => E_items_nil (R_divmod (by decide) (by decide) fun T₃ G₃ u5 u6 hG₃ hT₃ => AsgRun.pair hR.hd fun v h' hv => ⟨T₃, _, _, hv, .inl hT₃, storeLoc (.tail (.tail (.tail (.tail .head)))) (storeLoc (.tail (.tail (.tail (.tail (.tail (.tail (.tail .head))))))) ?_)⟩)))))))
    dsimp only
    obtain ⟨tm0, et, htm0⟩ := fm_nat r2 (b := 4) (by decide)
    rw [show (4 : Int) = ((4 : Nat) : Int) from rfl, et]
    generalize r2.fdiv ((4 : Nat) : Int) = r3
    have g3 : GLe G G₃ := GLe.trans hG (GLe.trans hG₁ (GLe.trans hG₂ hG₃))
    have g13 : GLe G' G₃ := GLe.trans hG₁ (GLe.trans hG₂ hG₃)
    refine X_cons (Run.mono (Q := TimesP ⟨G₃, [], (dl, listC dvs) :: (lN la V ++ nL L (some (.ref td)) none none none), k'⟩ fun tm => mL (some (.ref l)) (some (.ref nl)) (some (.ref dl)) (some (.int x tv)) (some (.int r3 u5)) (some (.int (pl : Int) u2)) (some (.int (kd : Int) u4)) tm o6 none none none none none none none none none none none) ?_ fun f p₁ hq => hq.casesOn ?_)
    · refine X_If (Run.mono (Q := AnyB ⟨G₃, mL (some (.ref l)) (some (.ref nl)) (some (.ref dl)) (some (.int x tv)) (some (.int r3 u5)) (some (.int (pl : Int) u2)) (some (.int (kd : Int) u4)) (some (.int (tm0 : Int) u6)) o6 none none none none none none none none none none none, (dl, listC dvs) :: (lN la V ++ nL L (some (.ref td)) none none none), k'⟩) (T_BoolOp (T_And_cons (T_Cmp (E_loc (v := .int (kd : Int) u4) at6 (E_loc (v := .int (pl : Int) u2) at5 (C_leI (truthy_bool ?_))))))) fun b p₁ hq => hq.casesOn ?_)
      · cases decide ((kd : Int) ≤ pl)
        · exact ⟨⟩
        · refine T_And_cons (T_Cmp (E_loc (v := .int (pl : Int) u2) at5 (E_int fun t5 => C_ltI (truthy_bool ?_))))
          cases decide ((pl : Int) < 5)
          · exact ⟨⟩
          · refine T_And_cons (T_Cmp (E_loc (v := .int (tm0 : Int) u6) at7 (E_int fun t5 => C_eqI (truthy_bool ?_))))
            cases ((tm0 : Int) == 0)
            · exact ⟨⟩
            · exact T_And_nil ⟨⟩
      · cases b
        · show Run C _ L _ _ _
          exact X_nil ⟨tm0, u6, htm0⟩
        · show Run C _ L _ _ _
          obtain ⟨tm1, e1, h1⟩ := fm_nat r3 (b := 4) (by decide)
          refine X_one (X_Assign (E_BinOp (E_loc (v := .int r3 u5) at4 (E_int fun t5 => B_mod (by decide) fun t6 => storeLoc (.tail (.tail (.tail (.tail (.tail (.tail (.tail .head))))))) ?_))))
          rw [e1]
          exact ⟨tm1, t6, h1⟩
    intro tm t7 htm
    dsimp only
    have hnS5 : nS.length = 5 := by simpa using congrArg List.length hnS
    refine X_cons (X_Assign (E_Tuple (E_items_cons (E_Sb F.slot_list_getitem.lookup (Run.fz (E_BinOp (E_loc (v := .ref nl) at1 (E_listS (xs := [5, 6, 7].map fun w => tx (Pc.wd w)) fun bl bs G₄ k₄ hG₄ hk₄ hbs _ hbl => ?_))))))))
    have hbs3 : bs.length = 3 := by simpa using congrArg List.length hbs
    obtain ⟨tk, htk⟩ : ∃ t, (strValues (nS ++ bs))[kd]? = some (.str (tx (Pc.wd kd)) t) := by
      obtain ⟨t, ht⟩ := names_at (ls := nS ++ bs) (f := fun w => tx (Pc.wd w)) (ws := [0, 1, 2, 3, 4] ++ [5, 6, 7]) (by rw [List.map_append, List.map_append, hnS, hbs]) (i := kd) (by simpa using hkd)
      exact ⟨t, by rw [ht, get_eight hkd]⟩
    rw [strValues, List.map_append] at htk
    refine B_addL ((hnl.mono g3).mono hG₄) hbl (by rw [sizeLine_eq]; simp [strValues, hbs3, hnS5]) fun w => ⟨w, _, _, .head, fun ow cw nw => ?_⟩
    have g5 : GLe G₃ (addG G₄ w ow) := GLe.trans hG₄ (GLe.add nw)
    refine E_loc (v := .int (kd : Int) u4) at6 ⟨HasTy.listG (ListG.new cw), G_list (.inl (ListG.new cw).at) (by omega) (by omega) (x := .str (tx (Pc.wd kd)) tk) htk (E_items_cons (E_loc (v := .int (tm : Int) t7) at7 (E_items_nil (newTuple_G (by show 2 ≤ sizeLine; rw [sizeLine_eq]; decide) fun Tp G₅ hG₅ hne => storeLoc (.tail (.tail (.tail (.tail (.tail (.tail (.tail (.tail .head)))))))) ?_))))⟩
    dsimp only
    have hPc : PcAt G₅ Tp (.ref kd tm) := ⟨tk, t7, by rw [hG₅]; exact ⟨_, 0, addG_self, rfl, rfl⟩⟩
    have g56 : GLe (addG G₄ w ow) G₅ := by rw [hG₅]; exact GLe.add hne
    have g35 : GLe G₃ G₅ := GLe.trans g5 g56
    have gG' : GLe G' G₅ := GLe.trans g13 g35
    have gG5 : GLe G G₅ := GLe.trans g3 g35
    have hfine : (Pc.ref kd tm).Fine := ⟨⟨hkd, by omega⟩, fun e => nomatch e⟩
    have kk : k ≤ k₄ := Nat.le_trans hk hk₄
    have hV5 : ∀ w < 5, RowAt G₅ (V w) (Y w) := fun w hw => (hV w hw).mono gG'
    have hD5 : RowAt G₅ dvs dps := hD.mono gG'
    clear hG₅ hG₄ g5 g56 nw cw
    refine X_one (X_If (T_Cmp (E_loc (v := .int (pl : Int) u2) at5 (E_int fun t8 => C_eqI (truthy_bool ?_)))))
    by_cases h5 : pl = 5
    · subst h5
      show Run C _ L _ _ _
      refine X_one (X_ExprA (E_meth F.slot_list_append F.plainAttrs_list F.type_list_append (E_loc (v := .ref dl) at2 ⟨HasT.list (.inr (.head _)), E_items_cons (E_loc (v := .ref Tp) at8 (E_items_nil (R_append .head ?_ (hQ1 _ _ ?_))))⟩)))
      · rw [hD.1, sizeLine_eq]; omega
      · refine ⟨G₅, k₄, V, _, Y, dps ++ [.ref kd tm], _, _, _, _, _, _, gG5, kk, hV5, hD5.snoc hPc, hY, ?_, ?_, hY2⟩
        · intro q hq
          rcases List.mem_append.mp hq with hq | hq
          · exact hDg q hq
          · rw [List.mem_singleton.mp hq]; exact ⟨hfine, fun l e => nomatch e⟩
        · rw [List.length_append]; show dps.length + 1 ≤ 7 + (i + 1); omega
    · have hpl5 : pl < 5 := by omega
      rw [show ((pl : Int) == 5) = false from beq_eq_false_iff_ne.mpr (by omega), if_neg Bool.false_ne_true]
      obtain ⟨tn, htn⟩ : ∃ t, (strValues nS)[pl]? = some (.str (tx (Pc.wd pl)) t) := by
        obtain ⟨t, ht⟩ := names_at hnS (i := pl) (by simpa using hpl5)
        exact ⟨t, by rw [ht, get_five hpl5]⟩
      have hmem : (la pl, listC (V pl)) ∈ (dl, listC dvs) :: (lN la V ++ nL L (some (.ref td)) none none none) := List.mem_cons_of_mem _ (List.mem_append_left _ (lN_mem hpl5))
      have hnl5 := hnl.mono gG5
      have htd5 := htd.mono gG5
      refine X_one (X_If (T_Cmp (E_callV (f := .builtin "len") (E_blt H.base at2) (E_items_cons (E_Sb F.slot_dict_getitem.lookup (E_cell (c := L + 1) at9 rfl (E_Sb F.slot_list_getitem.lookup (E_loc (v := .ref nl) at1 (E_loc (v := .int (pl : Int) u2) at5 ⟨HasTy.listG hnl5, G_list (.inl hnl5.at) (by omega) (by omega) (x := .str (tx (Pc.wd pl)) tn) htn ⟨HasTy.dict htd5, G_dict htd5 (hes pl hpl5) (E_items_nil (R_len_list (.inr hmem) (by rw [(hV pl hpl5).1]; have := (hY pl hpl5).1; omega) fun t9 => E_int fun t10 => C_ltI (truthy_bool ?_)))⟩⟩)))))))))
      have hVl : (V pl).length = (Y pl).length := (hV pl hpl5).1
      by_cases hlt : (Y pl).length < 6
      · rw [hVl, decide_eq_true (show ((Y pl).length : Int) < ((6 : Nat) : Int) by omega), if_pos rfl]
        refine X_one (X_ExprA (E_meth F.slot_list_append F.plainAttrs_list F.type_list_append (E_Sb F.slot_dict_getitem.lookup (E_cell (c := L + 1) at9 rfl (E_Sb F.slot_list_getitem.lookup (E_loc (v := .ref nl) at1 (E_loc (v := .int (pl : Int) u2) at5 ⟨HasTy.listG hnl5, G_list (.inl hnl5.at) (by omega) (by omega) (x := .str (tx (Pc.wd pl)) tn) htn ⟨HasTy.dict htd5, G_dict htd5 (hes pl hpl5) ⟨HasT.list (.inr hmem), E_items_cons (E_loc (v := .ref Tp) at8 (E_items_nil (R_append (.tail (lN_put hpl5 _ _)) ?_ (hQ1 _ _ ?_))))⟩⟩⟩)))))))
        · rw [hVl, sizeLine_eq]; omega
        · refine ⟨G₅, k₄, _, dvs, fun j => if j = pl then Y pl ++ [.ref kd tm] else Y j, dps, _, _, _, _, _, _, gG5, kk, upd_row hV5 hpl5 hPc, hD5, ?_, hDg, by omega, ?_⟩
          · intro j hj
            show (if j = pl then Y pl ++ [.ref kd tm] else Y j).length ≤ 6 ∧ ∀ q ∈ (if j = pl then Y pl ++ [.ref kd tm] else Y j), q.Fine
            by_cases e : j = pl
            · subst e
              rw [if_pos rfl]
              refine ⟨by rw [List.length_append]; show (Y j).length + 1 ≤ 6; omega, fun q hq => ?_⟩
              rcases List.mem_append.mp hq with hq | hq
              · exact (hY j hj).2 q hq
              · rw [List.mem_singleton.mp hq]; exact hfine
            · rw [if_neg e]; exact hY j hj
          · intro j hj
            show 2 ≤ (if j = pl then Y pl ++ [.ref kd tm] else Y j).length
            by_cases e : j = pl
            · subst e
              rw [if_pos rfl, List.length_append]
              exact Nat.le_trans (hY2 j hj) (Nat.le_add_right _ _)
            · rw [if_neg e]; exact hY2 j hj
      · rw [hVl, decide_eq_false (show ¬ ((Y pl).length : Int) < ((6 : Nat) : Int) by omega), if_neg Bool.false_ne_true]
        exact X_nil (hQ1 _ _ ⟨G₅, k₄, V, dvs, Y, dps, _, _, _, _, _, _, gG5, kk, hV5, hD5, hY, hDg, by omega, hY2⟩)
  · intro p₂ hI9
    rw [hvl] at hI9
    exact X_nil (h _ hI9)
end Four
end Mine

open PySem PySem.Calls PyProof.Rows
set_option Elab.async false
set_option linter.unusedVariables false
set_option maxRecDepth 100000
namespace Mine
section
variable {C : Cx} {A : Around} {L : Addr} {p : Pt} {env : Env}
/-- what a comprehension's turn over pairs does -/
inductive PairT (C : Cx) (A : Around) (Cc : Addr) (env : Env) (R : Nat → Value → (Addr → Option Obj) → Nat → Prop) (sel : Bool) (cl : List (Str × Addr)) (elt : Expr) (ifs : List Expr) (x y : Str) (scope : Scope) (p₁ : Pt) (i : Nat) (G' : Addr → Option Obj) (k' : Nat) (v : Value) (h' : Heap) : Prop
  | mk (T : Addr) (a b : Value) (e : v = .ref T) (ht : TupAt p₁.G T [a, b] ∨ h'.IsTuple T #[a, b]) (h : Tst C A Cc ifs (compEnvC scope cl Cc env) sel ⟨G', [(x, some a), (y, some b)], p₁.N, k'⟩ fun p₄ => sel = true → Elt C A Cc elt (compEnvC scope cl Cc env) R i p₄) :
    PairT C A Cc env R sel cl elt ifs x y scope p₁ i G' k' v h'
inductive Comp2Q (C : Cx) (A : Around) (env : Env) (R : Nat → Value → (Addr → Option Obj) → Nat → Prop) (sel : Nat → Bool) (cl : List (Str × Addr)) (elt : Expr) (ifs : List Expr) (x y : Str) (px py tp : Pos) (kk : Nat) (scope : Scope) (L : Addr) (Q : Value → Pt → Prop) (xv : Value) (p₁ : Pt) : Prop
  | mk (n : Nat) (P : Nat → Value → Heap → Prop) (it : IterOn C A L p₁ (.Tuple [.Name x px, .Name y py] kk tp) xv n P) (hn : n ≤ sizeLine)
      (step : ∀ Cc i v h' G' k', i < n → P i v h' → GLe p₁.G G' → p₁.k ≤ k' → PairT C A Cc env R (sel i) cl elt ifs x y scope p₁ i G' k' v h')
      (fin : ∀ D ys G' k', GLe p₁.G G' → p₁.k ≤ k' → Made R ((List.range n).filter sel) ys G' k' → Q (.ref D) ⟨G', p₁.m, (D, listC ys) :: p₁.N, k'⟩) : Comp2Q C A env R sel cl elt ifs x y px py tp kk scope L Q xv p₁
theorem E_Comp2 {R : Nat → Value → (Addr → Option Obj) → Nat → Prop} (hh : A.handled = none) (sel : Nat → Bool) (cl : List (Str × Addr)) (hm : MonoR R) {elt iter : Expr} {ifs : List Expr} {x y : Str} {px py tp : Pos} {kk : Nat} {scope : Scope} {pos : Pos} {Q : Value → Pt → Prop}
    (h : Run C A L (eval iter env) p (Comp2Q C A env R sel cl elt ifs x y px py tp kk scope L Q)) (hxy : x ≠ y := by decide)
    (hclos : closureFor scope env = Pure.pure cl := by rfl) (hcell : ∀ y ∈ scope.names, y.2 ≠ .cell := by decide) (hnames : ∀ y ∈ scope.names, y.2 = .local → scope.names.lookup y.1 = some .local := by decide)
    (hx : (compEnvC scope cl 0 env).kindOf x = some .local := by rfl) (hy : (compEnvC scope cl 0 env).kindOf y = some .local := by rfl) (hk : (relabel scope env).kind = .function := by rfl)
    (hkind : scope.kind = .function := by rfl) (hs : ∀ x, foldedSetIterable iter env x = Pure.pure x := by intro _; rfl) :
    Run C A L (eval (.ListComp elt [⟨.Tuple [.Name x px, .Name y py] kk tp, iter, ifs, 0⟩] scope pos) env) p Q := by
  have e : ∀ a, cellsFrom a scope.names cl = cl := fun a => cellsFrom_no hcell
  have e0 : ∀ Cc, ownCells scope Cc = [] := fun Cc => by unfold ownCells; rw [cellsFrom_no hcell]; rfl
  refine E_ListCompK [(x, none), (y, none)] hclos hnames (by simp) (by simp [hxy]) (h.mono fun xv p₁ ⟨n, P, it, hn, step, fin⟩ => ⟨n, P, fun _ i ys p₂ => CompI R sel p₁ (TwoM x y) i ys p₂ ∧ i ≤ n, it, ?_, ?_, ?_, ?_⟩) hkind hs
  · rintro Cc i ys p₂ ⟨⟨_, _, _, _, _, _, _, hM⟩, hi⟩
    rw [hM.1]
    refine Nat.le_trans (List.length_filter_le _ _) ?_
    rw [List.length_range]; omega
  · intro Cc
    rw [e0]
    exact ⟨⟨p₁.G, _, p₁.k, rfl, ⟨_, _, rfl⟩, GLe.refl _, Nat.le_refl _, Made.nil⟩, Nat.zero_le _⟩
  · intro Cc i ys p₂ hi hI _
    have := comp_step2 (px := px) (py := py) (tp := tp) (kk := kk) hh hm hx hy hk (fun Cc i v h' G' k' hi hP hG hk => let ⟨T, a, b, e, ht, h⟩ := step Cc i v h' G' k' hi hP hG hk; ⟨T, a, b, e, ht, h⟩) Cc i ys p₂ hi hI.1
    unfold compEnvK
    rw [e]
    refine fun v s hP S T => wpAny_mono (this v s hP S T) (fun _ s' ⟨p₃, S₃, x₃, r⟩ => ⟨p₃, S₃, x₃, r.mono fun b p₄ hb => ?_⟩) fun _ _ e => e
    cases b with
    | false => exact ⟨hb, hi⟩
    | true => exact hb.mono fun y p₅ h5 => ⟨h5, hi⟩
  · rintro Cc D ys p₂ ⟨⟨G', m', k', e1, _, hG, hk', hM⟩, _⟩ _
    subst e1
    exact fin D ys G' k' hG hk' hM
end
/-- what stands behind the script: all frozen -/
structure Tx4 (C : Cx) (G : Addr → Option Obj) (nl td dl : Addr) (nS : List (Str × Tok)) (dvs : List Value) (Y : Nat → List Pc) (dps : List Pc) : Prop where
  nl : ListG G nl (strValues nS)
  nS : nS.map (·.1) = [0, 1, 2, 3, 4].map fun w => tx (Pc.wd w)
  td : TextsAt C.w G td Y
  dl : ListG G dl dvs
  row : RowAt G dvs dps
  gY : GoodY Y
  gY2 : ∀ w < 5, 2 ≤ (Y w).length
  gD : GoodD dps
  len : dps.length ≤ 70
theorem Tx4.mono {C : Cx} {G G' : Addr → Option Obj} {nl td dl : Addr} {nS : List (Str × Tok)} {dvs : List Value} {Y : Nat → List Pc} {dps : List Pc} (x : GLe G G') (h : Tx4 C G nl td dl nS dvs Y dps) : Tx4 C G' nl td dl nS dvs Y dps :=
  ⟨h.nl.mono x, h.nS, h.td.mono x, h.dl.mono x, h.row.mono x, h.gY, h.gY2, h.gD, h.len⟩
namespace Four
variable {C : Cx} {A : Around} {L : Addr}
theorem toTx {s : Option Value} {nl td dl : Addr} {nS : List (Str × Tok)} {es : List Ent} {la : Nat → Addr} {n : Nat} (hn : n ≤ 63) {G : Addr → Option Obj} {k : Nat} {α : Type} {t : Sem α} {p : Pt} {Q : α → Pt → Prop} (hp : Seg2I C L G k s nl td dl la n p)
    (hnl : ListG G nl (strValues nS)) (hnS : nS.map (·.1) = [0, 1, 2, 3, 4].map fun w => tx (Pc.wd w)) (htd : DictG C.w G td es) (hes : DRows es la)
    (h : ∀ G' k' dvs Y dps o1 o2 o3 o4 o5 o6, GLe G G' → k ≤ k' → Tx4 C G' nl td dl nS dvs Y dps → Run C A L t ⟨G', mL s (some (.ref nl)) (some (.ref dl)) o1 o2 o3 o4 o5 o6 none none none none none none none none none none none, nL L (some (.ref td)) none none none, k'⟩ Q) : Run C A L t p Q := by
  refine hp.casesOn ?_
  intro G' k' V dvs Y dps o1 o2 o3 o4 o5 o6 hG hk hV hD hY hDg hdl hY2
  refine Run.freezeQ fun G1 g1 f1 => ?_
  show Run C A L t ⟨G1, _, (la 4, listC (V 4)) :: (la 3, listC (V 3)) :: (la 2, listC (V 2)) :: (la 1, listC (V 1)) :: (la 0, listC (V 0)) :: nL L (some (.ref td)) none none none, k'⟩ Q
  refine Run.freezeQ fun G2 g2 f2 => Run.freezeQ fun G3 g3 f3 => Run.freezeQ fun G4 g4 f4 => Run.freezeQ fun G5 g5 f5 => Run.freezeQ fun G6 g6 f6 => ?_
  have x5 := g6
  have x4 := GLe.trans g5 x5
  have x3 := GLe.trans g4 x4
  have x2 := GLe.trans g3 x3
  have x1 := GLe.trans g2 x2
  have x0 := GLe.trans g1 x1
  have gG := GLe.trans hG x0
  have hla : ∀ w < 5, ListG G6 (la w) (V w) := fun w hw => by
    have := lt5 hw
    rcases this with rfl | rfl | rfl | rfl | rfl
    · exact ListG.ofQ f6
    · exact (ListG.ofQ f5).mono x5
    · exact (ListG.ofQ f4).mono x4
    · exact (ListG.ofQ f3).mono x3
    · exact (ListG.ofQ f2).mono x2
  exact h G6 k' dvs Y dps _ _ _ _ _ _ gG hk ⟨hnl.mono gG, hnS, ⟨es, htd.mono gG, fun w hw => ⟨la w, V w, hes w hw, (hla w hw).at, (hV w hw).mono x0⟩⟩, (ListG.ofQ f1).mono x1, hD.mono x0, hY, hY2, hDg, by omega⟩
end Four
end Mine

open PySem PySem.Calls PyProof.Rows
set_option Elab.async false
set_option linter.unusedVariables false
set_option maxRecDepth 100000
namespace Mine
abbrev WN (w : Nat) : Str := tx (Pc.wd w)
theorem WN_inj {a b : Nat} (ha : a < 8) (hb : b < 8) (h : WN a = WN b) : a = b := Pc.wd_inj a ha b hb (tx_inj.mp h)
/-- who must come before whom, for the pairs done so far -/
def PrM (Y : Nat → List Pc) (S : Nat → Nat → Prop) (pr : Str → List Str) : Prop := ∀ x m, m ∈ pr x ↔ ∃ n o, S n o ∧ x = WN n ∧ m = WN o ∧ Pc.ref n 0 ∈ Y o
theorem PrM.nil {Y : Nat → List Pc} : PrM Y (fun _ _ => False) fun _ => [] := fun x m => ⟨(fun h => nomatch h), fun ⟨_, _, h, _⟩ => h.elim⟩
theorem PrM.same {Y : Nat → List Pc} {S S' : Nat → Nat → Prop} {pr : Str → List Str} (h : PrM Y S pr) (e : ∀ n o, S n o ↔ S' n o) : PrM Y S' pr := fun x m => (h x m).trans ⟨fun ⟨n, o, a, b⟩ => ⟨n, o, (e n o).mp a, b⟩, fun ⟨n, o, a, b⟩ => ⟨n, o, (e n o).mpr a, b⟩⟩
theorem PrM.add0 {Y : Nat → List Pc} {S : Nat → Nat → Prop} {pr : Str → List Str} (h : PrM Y S pr) (n : Str) : PrM Y S (addPr pr n []) := fun x m => by
  unfold addPr
  split
  · rw [List.append_nil]; exact h x m
  · exact h x m
theorem PrM.add {Y : Nat → List Pc} {S : Nat → Nat → Prop} {pr : Str → List Str} (h : PrM Y S pr) {n o : Nat} : PrM Y (fun a b => S a b ∨ (a = n ∧ b = o)) (addPr pr (WN n) (List.replicate ((Y o).count (.ref n 0)) (WN o))) := fun x m => by
  have key : m ∈ addPr pr (WN n) (List.replicate ((Y o).count (.ref n 0)) (WN o)) x ↔ m ∈ pr x ∨ (x = WN n ∧ m = WN o ∧ Pc.ref n 0 ∈ Y o) := by
    unfold addPr
    by_cases e : x = WN n
    · rw [if_pos e, List.mem_append, List.mem_replicate]
      constructor
      · rintro (h | ⟨h1, h2⟩)
        · exact .inl h
        · exact .inr ⟨e, h2, List.count_pos_iff.mp (Nat.pos_of_ne_zero h1)⟩
      · rintro (h | ⟨_, h2, h3⟩)
        · exact .inl h
        · exact .inr ⟨Nat.ne_of_gt (List.count_pos_iff.mpr h3), h2⟩
    · rw [if_neg e]
      exact ⟨.inl, fun h => h.elim id fun h => absurd h.1 e⟩
  rw [key, h x m]
  constructor
  · rintro (⟨a, b, h1, h2⟩ | ⟨h1, h2, h3⟩)
    · exact ⟨a, b, .inl h1, h2⟩
    · exact ⟨n, o, .inr ⟨rfl, rfl⟩, h1, h2, h3⟩
  · rintro ⟨a, b, h1 | ⟨rfl, rfl⟩, h2⟩
    · exact .inl ⟨a, b, h1, h2⟩
    · exact .inr h2
end Mine

open PySem PySem.Calls PyProof.Rows
set_option Elab.async false
set_option linter.unusedVariables false
set_option maxRecDepth 100000
namespace Mine
theorem sel_ref {q : Pc} (h : q.Fine) {j : Nat} (hj : j < 8) : decide (some q = some (.ref j 0)) = (decide (q.timesOf = 0) && decide (q.wordOf = Pc.wd j)) := by
  cases q with
  | lit l => rfl
  | ref w t =>
    rw [← Bool.decide_and]
    refine decide_eq_decide.mpr ⟨fun e => by cases e; exact ⟨rfl, rfl⟩, fun ⟨h1, h2⟩ => ?_⟩
    have h1 : ((t : Nat) : Int) = 0 := h1
    rw [Pc.wd_inj w h.1.1 j hj h2, show t = 0 by omega]
theorem len_filter {α : Type} [DecidableEq α] (x : α) : ∀ l : List α, ((List.range l.length).filter fun a => decide (l[a]? = some x)).length = l.count x
  | [] => rfl
  | b :: l => by
    have ih := len_filter x l
    rw [List.length_cons, List.range_succ_eq_map, List.filter_cons, List.filter_map, List.count_cons]
    have e : ((fun a => decide ((b :: l)[a]? = some x)) ∘ Nat.succ) = fun a => decide (l[a]? = some x) := rfl
    rw [e]
    by_cases h : b = x
    · simp [h, ih]
    · simp [h, ih]
theorem PutN.app {N N' : List (Addr × Cell)} {a : Addr} {c c' : Cell} : ∀ M : List (Addr × Cell), PutN N a c c' N' → PutN (M ++ N) a c c' (M ++ N')
  | [], P => P
  | _ :: M, P => .tail (PutN.app M P)
namespace Four
variable {C : Cx} {A : Around} {L : Addr}
inductive Seg3I (C : Cx) (L : Addr) (G : Addr → Option Obj) (k : Nat) (m : Option Value → List (Str × Option Value)) (Y : Nat → List Pc) (x dx dn ol nl td : Addr) (t₀ u₀ : Tok) (j : Nat) : Pt → Prop
  | mk (G' : Addr → Option Obj) (k' : Nat) (is : List NI) (pr : Str → List Str) (c1 c2 : Option Value) (h1 : GLe G G') (h2 : k ≤ k') (h3 : Lay G' x dx dn is) (h4 : GB pr (absG is)) (h5 : PrM Y (fun n o => n < j ∧ o < 5) pr) (h6 : ∀ n < j, WN n ∈ (absG is).map (·.1)) (h7 : ∀ y ∈ (absG is).map (·.1), ∃ n < 5, y = WN n) (h8 : Small (absG is) (j * 30)) :
    Seg3I C L G k m Y x dx dn ol nl td t₀ u₀ j ⟨G', m (some (.ref x)), sN C dn dx .none 0 0 t₀ u₀ is ++ ((ol, listC [.ref nl]) :: nL L (some (.ref td)) (some (.ref ol)) c1 c2), k'⟩
inductive Seg3J (C : Cx) (L : Addr) (G : Addr → Option Obj) (k : Nat) (m : List (Str × Option Value)) (Y : Nat → List Pc) (x dx dn ol nl td : Addr) (t₀ u₀ : Tok) (c1 : Option Value) (j i : Nat) : Pt → Prop
  | mk (G' : Addr → Option Obj) (k' : Nat) (is : List NI) (pr : Str → List Str) (c2 : Option Value) (h1 : GLe G G') (h2 : k ≤ k') (h3 : Lay G' x dx dn is) (h4 : GB pr (absG is)) (h5 : PrM Y (fun n o => (n < j ∧ o < 5) ∨ (n = j ∧ o < i)) pr) (h6 : ∀ n < j + 1, WN n ∈ (absG is).map (·.1)) (h7 : ∀ y ∈ (absG is).map (·.1), ∃ n < 5, y = WN n) (h8 : Small (absG is) (j * 30 + i * 6)) :
    Seg3J C L G k m Y x dx dn ol nl td t₀ u₀ c1 j i ⟨G', m, sN C dn dx .none 0 0 t₀ u₀ is ++ ((ol, listC [.ref nl]) :: nL L (some (.ref td)) (some (.ref ol)) c1 c2), k'⟩
theorem seg3 (H : Cx4 C) {d : Nat} (hR : Room A (d + 7)) {outer : List Env} (hA : A.frames = some outer) {s o1 o2 o3 o4 o5 o6 : Option Value} {nl td dl : Addr} {nS : List (Str × Tok)} {dvs : List Value} {Y : Nat → List Pc} {dps : List Pc} {G : Addr → Option Obj} {k : Nat} {Q : Flow → Pt → Prop}
    (X : Tx4 C G nl td dl nS dvs Y dps)
    (h : ∀ p x dx dn ol t₀ u₀, Seg3I C L G k (fun sr => mL s (some (.ref nl)) (some (.ref dl)) o1 o2 o3 o4 o5 o6 sr none none none none none none none none none none) Y x dx dn ol nl td t₀ u₀ 5 p → Run C A L (execs (bodyL.drop 7) (envL L)) p Q) :
    Run C A L (execs (bodyL.drop 4) (envL L)) ⟨G, mL s (some (.ref nl)) (some (.ref dl)) o1 o2 o3 o4 o5 o6 none none none none none none none none none none none, nL L (some (.ref td)) none none none, k⟩ Q := by
  refine X_cons (X_Assign (E_callC (f := .ref 162) H.S.X H.S.kp162 (fun {Q} h => E_glob H.base at4 h) (E_items_nil (R_make H.S.X H.S.mk162 H.S.in162 H.S.ty98 fun x dx => (w_init H.S (Room.under (d := d + 6) hR)).mono fun v G₁ N₁ k₁ hv => ?_))))
  refine hv.casesOn ?_
  intro G₁ k₁ hG₁ hk₁ hx dn t₀ u₀ hsys
  refine ⟨rfl, ?_⟩
  refine Run.perm (N' := sN C dn dx .none 0 0 t₀ u₀ [] ++ nL L (some (.ref td)) none none none) (.swap ..) (storeLoc (.tail (.tail (.tail (.tail (.tail (.tail (.tail (.tail (.tail .head))))))))) ?_)
  dsimp only
  have Y₁ : Lay G₁ x dx dn [] := ⟨hx, hsys, fun i hi => nomatch hi⟩
  refine X_cons (X_Assign (E_List (E_items_cons (E_loc (v := .ref nl) at1 (E_items_nil (newList_Q (by show 1 ≤ sizeLine; rw [sizeLine_eq]; decide) fun ol => storeCell (c := L + 2) (.tail (.tail (.tail (.tail (.tail .head))))) rfl ?_))))))
  dsimp only
  refine Run.perm (N' := sN C dn dx .none 0 0 t₀ u₀ [] ++ ((ol, listC [.ref nl]) :: nL L (some (.ref td)) (some (.ref ol)) none none)) (List.perm_middle (l₁ := sN C dn dx .none 0 0 t₀ u₀ [])).symm ?_
  refine X_cons (X_ForV (Seg3I C L G k (fun sr => mL s (some (.ref nl)) (some (.ref dl)) o1 o2 o3 o4 o5 o6 sr none none none none none none none none none none) Y x dx dn ol nl td t₀ u₀) (fun h => E_loc (v := .ref nl) at1 h) (IterOn.list hR.hd (X.nl.mono hG₁).at) ?_ ?_ ?_)
  · exact ⟨G₁, k₁, [], _, none, none, hG₁, hk₁, Y₁, GB.empty, PrM.nil.same fun n o => ⟨False.elim, fun h => absurd h.1 (Nat.not_lt_zero _)⟩, fun n hn => absurd hn (Nat.not_lt_zero _), (fun y hy => nomatch hy), (fun q hq => nomatch hq)⟩
  · intro j p₂ hj hI9
    refine hI9.casesOn ?_
    intro G' k' is pr c1 c2 hG' hk' Y' hB hP hin hall hSm
    have hnl5 : nS.length = 5 := by simpa using congrArg List.length X.nS
    have hj5 : j < 5 := by simpa [strValues, hnl5] using hj
    refine AsgRun.name fun v ⟨_, hv⟩ => ?_
    obtain ⟨tj, rfl⟩ : ∃ t, v = .str (WN j) t := by
      obtain ⟨t, ht⟩ := names_at X.nS (i := j) (by simpa using hj5)
      rw [get_five hj5] at ht
      exact ⟨t, Option.some.inj (hv.symm.trans ht)⟩
    refine storeCell (c := L + 3) (PutN.app _ (.tail (.tail .head))) rfl (Run.abs fun Q1 hQ1 => ?_)
    dsimp only at hQ1 ⊢
    have hlen : ∀ is : List NI, ((absG is).map (·.1)).Nodup → (∀ y ∈ (absG is).map (·.1), ∃ n < 5, y = WN n) → is.length ≤ 5 := fun is nd hal => by
      have h1 : ((absG is).map (·.1)).length ≤ ([0, 1, 2, 3, 4].map WN).length := nodup_len nd fun y hy => by
        obtain ⟨n, hn, rfl⟩ := hal y hy
        exact List.mem_map_of_mem (by have := lt5 hn
                                      rcases this with rfl | rfl | rfl | rfl | rfl <;> decide)
      simpa [absG] using h1
    have hl5 := hlen is hB.nd hall
    obtain ⟨⟨oa, hoa, hda⟩, hca⟩ := H.S.f112
    refine X_cons (X_ExprA (E_methF hoa hda (E_loc (v := .ref x) at9 (R_method H.S.X H.S.mAdd Y'.inst (.head _) rfl ⟨rfl, E_items_cons (E_cell (c := L + 3) (List.mem_append_right _ at2) rfl (E_items_nil ?_))⟩))))
    refine R_call (Nc := sN C dn dx .none 0 0 t₀ u₀ is) (Nr := (ol, listC [.ref nl]) :: nL L (some (.ref td)) (some (.ref ol)) (some (.str (WN j) tj)) c2) (.refl _) ((w_add H.S (d := d + 1) (ps := []) (hR.less (by omega)) hA Y' (by simp; omega) hB.nd hSm (by simp; omega)).mono fun v G₂ N₂ k₂ hv₂ => ?_)
    refine hv₂.casesOn ?_
    intro G₂ k₂ hG₂ hk₂ is₂ Y₂ ha₂
    refine (fun h => h) ?_
    dsimp only
    have hB2 := hB.add (WN j) []
    have hP2 := hP.add0 (WN j)
    have hm2 : ∀ y, y ∈ (absG is₂).map (·.1) ↔ (y ∈ (absG is).map (·.1) ∨ y = WN j) ∨ y ∈ ([] : List Str) := fun y => by rw [ha₂]; exact gAdd_mem hB.nd y
    refine X_one (X_ForV (Seg3J C L G₂ k₂ (mL s (some (.ref nl)) (some (.ref dl)) o1 o2 o3 o4 o5 o6 (some (.ref x)) none none none none none none none none none none) Y x dx dn ol nl td t₀ u₀ (some (.str (WN j) tj)) j) (fun h => E_loc (v := .ref nl) at1 h) (IterOn.list hR.hd ((X.nl.mono hG').mono hG₂).at) ?_ ?_ ?_)
    · refine ⟨G₂, k₂, is₂, _, c2, GLe.refl _, Nat.le_refl _, Y₂, by rw [ha₂]; exact hB2, hP2.same fun n o => ?_, fun n hn => ?_, fun y hy => ?_, ?_⟩
      · exact ⟨.inl, fun h => h.elim id fun h => absurd h.2 (Nat.not_lt_zero _)⟩
      · refine (hm2 _).mpr (.inl ?_)
        by_cases e : n = j
        · exact .inr (by rw [e])
        · exact .inl (hin n (by omega))
      · rcases (hm2 y).mp hy with (h | h) | h
        · exact hall y h
        · exact ⟨j, hj5, h⟩
        · cases h
      · rw [ha₂]; exact (hSm.gAdd _ _).mono (by simp)
    · intro i p₃ hi hI3
      refine hI3.casesOn ?_
      intro G₃ k₃ is₃ pr₃ c3 hG₃ hk₃ Y₃ hB₃ hP₃ hin₃ hall₃ hSm₃
      have hi5 : i < 5 := by simpa [strValues, hnl5] using hi
      refine AsgRun.name fun v ⟨_, hv⟩ => ?_
      obtain ⟨ti, rfl⟩ : ∃ t, v = .str (WN i) t := by
        obtain ⟨t, ht⟩ := names_at X.nS (i := i) (by simpa using hi5)
        rw [get_five hi5] at ht
        exact ⟨t, Option.some.inj (hv.symm.trans ht)⟩
      refine storeCell (c := L + 4) (PutN.app _ (.tail .head)) rfl (Run.abs fun Q2 hQ2 => ?_)
      dsimp only at hQ2 ⊢
      have X₃ := ((X.mono hG').mono hG₂).mono hG₃
      have hl3 := hlen is₃ hB₃.nd hall₃
      refine X_one (X_ExprA (E_methB (E_loc (v := .ref x) at9 (R_bound H.S.X H.bAdd Y₃.inst (.head _) rfl fun q G₄ hG₄ hq => ?_))))
      have X₄ := X₃.mono hG₄
      obtain ⟨es, d1, d2⟩ := X₄.td
      obtain ⟨ra, rvs, q1, q2, q3⟩ := d2 i hi5
      obtain ⟨y1, y2⟩ := X₄.gY i hi5
      refine R_callB hq hoa hda (E_items_cons (E_cell (c := L + 3) (List.mem_append_right _ at2) rfl (E_items_star (Run.fz (E_Comp2 (R := fun _ y _ _ => y = .str (WN i) ti) hR.hd (fun a => decide ((Y i)[a]? = some (.ref j 0))) [("one", L + 4), ("name", L + 3)] (fun _ _ _ _ _ _ h _ _ => h) (E_Sb F.slot_dict_getitem.lookup (E_cell (c := L + 1) (List.mem_append_right _ at4) rfl (E_cell (c := L + 4) (List.mem_append_right _ at1) rfl ⟨HasTy.dict d1, G_dict d1 q1 ?_⟩))))))))
      refine ⟨rvs.length, _, IterOn.list hR.hd q2, by rw [q3.1, sizeLine_eq]; omega, fun Cc a v h' G₅ k₅ ha hva hG₅ hk₅ => ?_, fun D ys G₅ k₅ hG₅ hk₅ hM => ?_⟩
      · have hay : a < (Y i).length := q3.1 ▸ ha
        obtain ⟨Tp, e1, e2⟩ := q3.2 a (Y i)[a] (by simp [hay])
        rw [show rvs[a]? = some v from hva] at e1
        obtain ⟨tw, tt, tup⟩ := e2.tup
        have hfi := y2 (Y i)[a] (List.getElem_mem hay)
        have hsel : decide ((Y i)[a]? = some (.ref j 0)) = (decide ((Y i)[a].timesOf = 0) && decide ((Y i)[a].wordOf = Pc.wd j)) := by
          rw [List.getElem?_eq_getElem hay]
          exact sel_ref hfi (by omega)
        rw [hsel]
        generalize (Y i)[a] = qa at tup
        refine ⟨Tp, _, _, Option.some.inj e1, .inl tup, R_tests_one (T_BoolOp (T_And_cons (T_Cmp (E_loc (v := .int qa.timesOf tt) at1 (E_int fun t8 => C_eqI (truthy_bool ?_))))))⟩
        by_cases h0 : qa.timesOf = 0
        · rw [show (qa.timesOf == 0) = true from beq_iff_eq.mpr h0, if_pos rfl, decide_eq_true h0, Bool.true_and]
          refine T_And_cons (T_Cmp (E_loc (v := .str (tx qa.wordOf) tw) at0 (E_cell (c := L + 3) (List.mem_append_right _ at2) rfl (C_eqT rfl rfl (truthy_bool ?_)))))
          by_cases h1 : qa.wordOf = Pc.wd j
          · rw [decide_eq_true h1, if_pos rfl]
            exact T_And_nil ⟨rfl, _, _, rfl, GLe.refl _, Nat.le_refl _, fun _ => E_cell (c := L + 4) (List.mem_append_right _ at1) rfl ⟨_, _, rfl, GLe.refl _, Nat.le_refl _, rfl⟩⟩
          · rw [decide_eq_false h1, if_neg Bool.false_ne_true]
            exact ⟨rfl, _, _, rfl, GLe.refl _, Nat.le_refl _, fun h => absurd h Bool.false_ne_true⟩
        · rw [show (qa.timesOf == 0) = false from beq_eq_false_iff_ne.mpr h0, if_neg Bool.false_ne_true, decide_eq_false h0, Bool.false_and]
          exact ⟨rfl, _, _, rfl, GLe.refl _, Nat.le_refl _, fun h => absurd h Bool.false_ne_true⟩
      · obtain ⟨hyl, hye⟩ := hM
        have hys : ys = strValues (List.replicate ((Y i).count (.ref j 0)) (WN i, ti)) := by
          rw [q3.1, len_filter] at hyl
          refine List.ext_getElem? fun a => ?_
          by_cases ha : a < ys.length
          · rw [List.getElem?_eq_getElem ha]
            have h1 := hye a _ ys[a] (List.getElem?_eq_getElem (by rw [q3.1, len_filter, ← hyl]; exact ha)) (List.getElem?_eq_getElem ha)
            rw [h1, strValues, List.getElem?_map, List.getElem?_replicate, if_pos (by rw [← hyl]; exact ha)]; rfl
          · rw [List.getElem?_eq_none (by omega), List.getElem?_eq_none (by simp only [strValues, List.length_map, List.length_replicate]; omega)]
        subst hys
        have hcnt : (Y i).count (.ref j 0) ≤ 6 := Nat.le_trans List.count_le_length y1
        refine ⟨D, _, _, .head, fun oD hoD hnD => ?_⟩
        refine StarRun.seq (.inl (.inl (ListG.new hoD).at)) (by rw [sizeLine_eq]; simp [strValues]; omega) (E_items_nil ?_)
        rw [List.append_nil]
        have g45 : GLe G₄ (addG G₅ D oD) := GLe.trans hG₅ (GLe.add hnD)
        have g35 : GLe G₃ (addG G₅ D oD) := GLe.trans hG₄ g45
        have hsm : j * 30 + i * 6 ≤ 1000 := by omega
        refine R_call (Nc := sN C dn dx .none 0 0 t₀ u₀ is₃) (Nr := (ol, listC [.ref nl]) :: nL L (some (.ref td)) (some (.ref ol)) (some (.str (WN j) tj)) (some (.str (WN i) ti))) (.refl _) (CallRun.bound (g45 _ _ hq) ((w_add H.S (d := d + 1) (ps := List.replicate ((Y i).count (.ref j 0)) (WN i, ti)) (hR.less (by omega)) hA (Y₃.mono g35) (by rw [List.length_replicate]; omega) hB₃.nd hSm₃ (by rw [List.length_replicate]; omega)).mono fun v G₆ N₆ k₆ hv₆ => ?_))
        refine hv₆.casesOn ?_
        intro G₆ k₆ hG₆ hk₆ is₆ Y₆ ha₆
        rw [List.map_replicate] at ha₆
        have hm6 : ∀ y, y ∈ (absG is₆).map (·.1) ↔ (y ∈ (absG is₃).map (·.1) ∨ y = WN j) ∨ y ∈ List.replicate ((Y i).count (.ref j 0)) (WN i) := fun y => by rw [ha₆]; exact gAdd_mem hB₃.nd y
        refine hQ2 _ _ ⟨G₆, k₆, is₆, _, _, GLe.trans hG₃ (GLe.trans g35 hG₆), Nat.le_trans hk₃ (Nat.le_trans hk₅ hk₆), Y₆, by rw [ha₆]; exact hB₃.add _ _, hP₃.add.same fun n o => by rw [or_assoc, ← and_or_left, ← Nat.lt_succ_iff_lt_or_eq], fun n hn => (hm6 _).mpr (.inl (.inl (hin₃ n hn))), fun y hy => ?_, ?_⟩
        · rcases (hm6 y).mp hy with (h | h) | h
          · exact hall₃ y h
          · exact ⟨j, hj5, h⟩
          · exact ⟨i, hi5, (List.mem_replicate.mp h).2⟩
        · rw [ha₆]; exact (hSm₃.gAdd _ _).mono (by rw [List.length_replicate]; omega)
    · intro p₃ hI3
      have e5 : (strValues nS).length = 5 := by simpa [strValues] using congrArg List.length X.nS
      rw [e5] at hI3
      refine hI3.casesOn ?_
      intro G₃ k₃ is₃ pr₃ c3 hG₃ hk₃ Y₃ hB₃ hP₃ hin₃ hall₃ hSm₃
      exact X_nil (hQ1 _ _ ⟨G₃, k₃, is₃, pr₃, _, c3, GLe.trans hG' (GLe.trans hG₂ hG₃), Nat.le_trans hk' (Nat.le_trans hk₂ hk₃), Y₃, hB₃, hP₃.same fun n o => by rw [← or_and_right, ← Nat.lt_succ_iff_lt_or_eq], hin₃, hall₃, hSm₃.mono (by omega)⟩)
  · intro p₂ hI9
    have e5 : (strValues nS).length = 5 := by simpa [strValues] using congrArg List.length X.nS
    rw [e5] at hI9
    exact X_nil (h _ x dx dn ol t₀ u₀ hI9)
end Four
end Mine

open PySem PySem.Calls PyProof.Rows
set_option Elab.async false
set_option linter.unusedVariables false
set_option maxRecDepth 100000
namespace Mine
section
variable {C : Cx} {A : Around} {L : Addr} {p : Pt}
theorem TupAt.eq {G : Addr → Option Obj} {T : Addr} {vs ws : List Value} (h : TupAt G T vs) (h' : TupAt G T ws) : vs = ws := by
  obtain ⟨o, n, e, _, d⟩ := h
  obtain ⟨o', n', e', _, d'⟩ := h'
  rw [e] at e'
  cases e'
  rw [d] at d'
  cases d'
  rfl
theorem eq_pairAt {s : Shared} {A : Around} {S : Sat C.B L p s.heap} {a b : Addr} {x y : List Nat} {m n : Int} {t u t' u' : Tok} (hu : A.units < cLine) (h : TupAt p.G a [.str (tx x) t, .int m u]) (h' : TupAt p.G b [.str (tx y) t', .int n u']) :
    SeqAt.EqAt A s (.ref a) (.ref b) (decide (x = y) && decide (m = n)) := by
  by_cases hab : a = b
  · subst hab
    have e := h.eq h'
    have e1 : x = y := by
      have : Value.str (tx x) t = .str (tx y) t' := by injection e
      injection this with h1 _
      exact tx_inj.mp h1
    have e2 : m = n := by
      have : [Value.int m u] = [.int n u'] := by injection e
      have : Value.int m u = .int n u' := by injection this
      injection this
    rw [decide_eq_true e1, decide_eq_true e2]
    exact SeqAt.EqAt.same _
  · refine SeqAt.EqAt.of_refs hab ?_
    have := SeqAt.RcAt.tuples (A := A) (e := fun i => if i = 0 then decide (x = y) else decide (m = n)) (h.isTup S) (h'.isTup S) hu (fun i i1 i2 => ?_)
    · have e3 : ((List.range 2).all fun i => if i = 0 then decide (x = y) else decide (m = n)) = (decide (x = y) && decide (m = n)) := by
        show ((if 0 = 0 then decide (x = y) else _) && ((if 1 = 0 then _ else decide (m = n)) && true)) = _
        simp
      simpa [e3] using this
    · have i1' : i < 2 := by simpa using i1
      match i, i1' with
      | 0, _ =>
        have := SeqAt.EqAt.str_str (A := A.in1) (s := s) (tx x) t (tx y) t'
        have e4 : (tx x == tx y) = decide (x = y) := by
          by_cases e : x = y
          · rw [decide_eq_true e, e]; simp
          · rw [decide_eq_false e]; exact beq_eq_false_iff_ne.mpr fun h => e (tx_inj.mp h)
        rw [e4] at this
        simpa using this
      | 1, _ =>
        have := SeqAt.EqAt.int_int (A := A.in1) (s := s) m u n u'
        have e4 : (m == n) = decide (m = n) := rfl
        simpa [e4] using this
open Classical in
theorem C_inRow {rl T0 : Addr} {vs : List Value} {ps : List Pc} {j : Nat} {t u : Tok} {Q : Value → Pt → Prop} (hj : j < 8) (hu : A.units + 1 < cLine) (hl : ListAt p.G rl vs) (hR : RowAt p.G vs ps) (hf : ∀ q ∈ ps, q.Fine) (h0 : TupAt p.G T0 [.str (tx (Pc.wd j)) t, .int 0 u])
    (h : Q (.bool (decide (Pc.ref j 0 ∈ ps))) p) : Run C A L (compareOp .In (.ref T0) (.ref rl)) p Q := .of fun s S TK => by
  have key : ∀ (i : Nat) (q : Pc), ps[i]? = some q → ∃ a tw tt, vs[i]? = some (.ref a) ∧ TupAt p.G a [.str (tx q.wordOf) tw, .int q.timesOf tt] := fun i q hq => by
    obtain ⟨a, e1, e2⟩ := hR.2 i q hq
    obtain ⟨tw, tt, tup⟩ := e2.tup
    exact ⟨a, tw, tt, e1, tup⟩
  refine SeqAt.in_listAt (fun y => decide (∃ i : Nat, vs[i]? = some y ∧ ps[i]? = some (.ref j 0))) (isList_of (.inl hl) S) (fun y hy => ?_) ?_
  · have hy : y ∈ vs := by simpa using hy
    obtain ⟨i, hi, rfl⟩ := List.mem_iff_getElem.mp hy
    have hip : i < ps.length := hR.1 ▸ hi
    obtain ⟨a, tw, tt, e1, tup⟩ := key i ps[i] (List.getElem?_eq_getElem hip)
    rw [List.getElem?_eq_getElem hi] at e1
    have e1 := Option.some.inj e1
    have := eq_pairAt (A := A.in1) (s := s) (S := S) (by show A.units + 1 < cLine; exact hu) tup h0
    rw [e1]
    have e5 : decide (∃ i : Nat, vs[i]? = some (.ref a) ∧ ps[i]? = some (.ref j 0)) = (decide (ps[i].wordOf = Pc.wd j) && decide (ps[i].timesOf = 0)) := by
      have hs := sel_ref (hf ps[i] (List.getElem_mem hip)) hj
      rw [Bool.and_comm, ← hs]
      refine decide_eq_decide.mpr ⟨fun ⟨i', h1, h2⟩ => ?_, fun h => ⟨i, by rw [List.getElem?_eq_getElem hi, e1], by rw [List.getElem?_eq_getElem hip]; exact h⟩⟩
      obtain ⟨a', tw', tt', f1, f2⟩ := key i' _ h2
      rw [h1] at f1
      injection f1 with f1
      injection f1 with f1
      subst f1
      have e := f2.eq tup
      refine of_decide_eq_true ?_
      rw [hs]
      injection e with g1 g2
      injection g1 with g1 _
      injection g2 with g2 _
      injection g2 with g2 _
      rw [decide_eq_true (show ps[i].timesOf = 0 from g2.symm), decide_eq_true (show ps[i].wordOf = Pc.wd j from (tx_inj.mp g1).symm)]; rfl
    rw [e5]; exact this
  · have e6 : (vs.toArray.any fun y => decide (∃ i : Nat, vs[i]? = some y ∧ ps[i]? = some (.ref j 0))) = decide (Pc.ref j 0 ∈ ps) := by
      rw [List.any_toArray, Bool.eq_iff_iff, List.any_eq_true, decide_eq_true_eq]
      constructor
      · rintro ⟨y, _, h⟩
        obtain ⟨i, _, h2⟩ := of_decide_eq_true h
        exact List.mem_of_getElem? h2
      · intro h
        obtain ⟨i, hi, e⟩ := List.mem_iff_getElem.mp h
        have hiv : i < vs.length := hR.1 ▸ hi
        exact ⟨vs[i], List.getElem_mem hiv, decide_eq_true ⟨i, List.getElem?_eq_getElem hiv, by rw [List.getElem?_eq_getElem hi, e]⟩⟩
    rw [e6]
    exact ⟨p, S, .refl, h⟩
end
end Mine

open PySem PySem.Calls PyProof.Rows
set_option Elab.async false
set_option linter.unusedVariables false
set_option maxRecDepth 100000
namespace Mine
abbrev five : List Nat := [0, 1, 2, 3, 4]
/-- who is led to from a row -/
def nextL (Y : Nat → List Pc) (R : List Nat) : List Nat := five.filter fun n => !(R.filter fun o => decide (Pc.ref n 0 ∈ Y o)).isEmpty
def ledL (Y : Nat → List Pc) : Nat → List Nat
  | 0 => five
  | k + 1 => nextL Y (ledL Y k)
theorem mem_nextL {Y : Nat → List Pc} {R : List Nat} {n : Nat} : n ∈ nextL Y R ↔ n ∈ five ∧ ∃ o ∈ R, Pc.ref n 0 ∈ Y o := by
  unfold nextL
  rw [List.mem_filter]
  refine and_congr_right fun _ => ?_
  constructor
  · intro h
    cases e : R.filter fun o => decide (Pc.ref n 0 ∈ Y o) with
    | nil => rw [e] at h; cases h
    | cons o r =>
      have : o ∈ R.filter fun o => decide (Pc.ref n 0 ∈ Y o) := by rw [e]; exact List.mem_cons_self ..
      obtain ⟨h1, h2⟩ := List.mem_filter.mp this
      exact ⟨o, h1, of_decide_eq_true h2⟩
  · rintro ⟨o, h1, h2⟩
    have : o ∈ R.filter fun o => decide (Pc.ref n 0 ∈ Y o) := List.mem_filter.mpr ⟨h1, decide_eq_true h2⟩
    cases e : R.filter fun o => decide (Pc.ref n 0 ∈ Y o) with
    | nil => rw [e] at this; cases this
    | cons o r => rfl
theorem nextL_mono {Y : Nat → List Pc} {R R' : List Nat} (h : ∀ n ∈ R, n ∈ R') : ∀ n ∈ nextL Y R, n ∈ nextL Y R' := fun n hn => by
  obtain ⟨h1, o, h2, h3⟩ := mem_nextL.mp hn
  exact mem_nextL.mpr ⟨h1, o, h o h2, h3⟩
theorem ledL_five {Y : Nat → List Pc} : ∀ k, ∀ n ∈ ledL Y k, n ∈ five
  | 0, n, h => h
  | k + 1, n, h => (mem_nextL.mp h).1
theorem ledL_down {Y : Nat → List Pc} : ∀ k, ∀ n ∈ ledL Y (k + 1), n ∈ ledL Y k
  | 0, n, h => (mem_nextL.mp h).1
  | k + 1, n, h => nextL_mono (ledL_down k) n h
end Mine

open PySem PySem.Calls PyProof.Rows
set_option Elab.async false
set_option linter.unusedVariables false
set_option maxRecDepth 100000
namespace Mine
/-- the rows of led -/
def LedAt (G : Addr → Option Obj) (lvs : List Value) (Ls : List (List Nat)) : Prop := lvs.length = Ls.length ∧ ∀ (i : Nat) (R : List Nat), Ls[i]? = some R → ∃ a ls, lvs[i]? = some (Value.ref a) ∧ ListG G a (strValues ls) ∧ ls.map (·.1) = R.map WN
theorem LedAt.mono {G G' : Addr → Option Obj} {lvs : List Value} {Ls : List (List Nat)} (h : LedAt G lvs Ls) (x : GLe G G') : LedAt G' lvs Ls := ⟨h.1, fun i R hR => let ⟨a, ls, e1, e2, e3⟩ := h.2 i R hR; ⟨a, ls, e1, e2.mono x, e3⟩⟩
theorem LedAt.snoc {G : Addr → Option Obj} {lvs : List Value} {Ls : List (List Nat)} {a : Addr} {ls : List (Str × Tok)} {R : List Nat} (h : LedAt G lvs Ls) (h1 : ListG G a (strValues ls)) (h2 : ls.map (·.1) = R.map WN) : LedAt G (lvs ++ [.ref a]) (Ls ++ [R]) := by
  refine ⟨by simp [h.1], fun i q hq => ?_⟩
  by_cases hi : i < Ls.length
  · rw [List.getElem?_append_left hi] at hq
    rw [List.getElem?_append_left (by rw [h.1]; exact hi)]
    exact h.2 i q hq
  · rw [List.getElem?_append_right (by omega)] at hq
    rw [List.getElem?_append_right (by rw [h.1]; omega), h.1]
    have : i - Ls.length = 0 := by
      have := (List.getElem?_eq_some_iff.mp hq).1
      simp at this; omega
    rw [this] at hq ⊢
    cases hq
    exact ⟨a, ls, rfl, h1, h2⟩
theorem range_isEmpty {α : Type} (f : α → Bool) (l : List α) : ((List.range l.length).filter fun a => (l[a]?.map f).getD false).isEmpty = (l.filter f).isEmpty := by
  rw [Bool.eq_iff_iff, List.isEmpty_iff, List.isEmpty_iff, List.filter_eq_nil_iff, List.filter_eq_nil_iff]
  constructor
  · intro h x hx hf
    obtain ⟨i, hi, rfl⟩ := List.mem_iff_getElem.mp hx
    refine h i (List.mem_range.mpr hi) ?_
    rw [List.getElem?_eq_getElem hi]; exact hf
  · intro h i hi hf
    have hi := List.mem_range.mp hi
    rw [List.getElem?_eq_getElem hi] at hf
    exact h _ (List.getElem_mem hi) hf
def ledRows (Y : Nat → List Pc) (i : Nat) : List (List Nat) := (List.range (i + 1)).map (ledL Y)
theorem five_lt {n : Nat} (h : n ∈ five) : n < 5 := by
  revert h; unfold five
  simp only [List.mem_cons, List.not_mem_nil, or_false]
  omega
theorem ledL_len {Y : Nat → List Pc} : ∀ k, (ledL Y k).length ≤ 5
  | 0 => Nat.le_refl _
  | k + 1 => List.length_filter_le _ _
namespace Four
variable {C : Cx} {A : Around} {L : Addr}
inductive Seg4I (G : Addr → Option Obj) (k : Nat) (m : Option Value → List (Str × Option Value)) (Y : Nat → List Pc) (L ol td : Addr) (M : List (Addr × Cell)) (i : Nat) : Pt → Prop
  | mk (G' : Addr → Option Obj) (k' : Nat) (lvs : List Value) (ok c1 c2 : Option Value) (h1 : GLe G G') (h2 : k ≤ k') (h3 : LedAt G' lvs (ledRows Y i)) :
    Seg4I G k m Y L ol td M i ⟨G', m ok, (ol, listC lvs) :: (nL L (some (.ref td)) (some (.ref ol)) c1 c2 ++ M), k'⟩
inductive LdI (G : Addr → Option Obj) (k : Nat) (N : List (Addr × Cell)) (sel : Nat → Bool) (Cc : Addr) (i : Nat) (ys : List Value) : Pt → Prop
  | mk (G' : Addr → Option Obj) (k' : Nat) (o : Option Value) (ls : List (Str × Tok)) (h1 : GLe G G') (h2 : k ≤ k') (h3 : ys = strValues ls) (h4 : ls.map (·.1) = ((List.range i).filter sel).map WN) (h5 : i ≤ 5) : LdI G k N sel Cc i ys ⟨G', [], (Cc + 1, cellC o) :: N, k'⟩
theorem seg4 (H : Cx4 C) {d : Nat} (hR : Room A (d + 7)) {s o1 o2 o3 o4 o5 o6 sr c1 c2 : Option Value} {nl td dl ol : Addr} {nS : List (Str × Tok)} {dvs : List Value} {Y : Nat → List Pc} {dps : List Pc} {M : List (Addr × Cell)} {G : Addr → Option Obj} {k : Nat} {Q : Flow → Pt → Prop}
    (X : Tx4 C G nl td dl nS dvs Y dps)
    (h : ∀ p, Seg4I G k (fun ok => mL s (some (.ref nl)) (some (.ref dl)) o1 o2 o3 o4 o5 o6 sr ok none none none none none none none none none) Y L ol td M 5 p → Run C A L (execs (bodyL.drop 8) (envL L)) p Q) :
    Run C A L (execs (bodyL.drop 7) (envL L)) ⟨G, mL s (some (.ref nl)) (some (.ref dl)) o1 o2 o3 o4 o5 o6 sr none none none none none none none none none none, (ol, listC [.ref nl]) :: (nL L (some (.ref td)) (some (.ref ol)) c1 c2 ++ M), k⟩ Q := by
  refine X_cons (X_For (Seg4I G k (fun ok => mL s (some (.ref nl)) (some (.ref dl)) o1 o2 o3 o4 o5 o6 sr ok none none none none none none none none none) Y L ol td M)
    (E_callV (f := .type "range") (E_blt H.base at3) (E_items_cons (E_int fun t5 => E_items_nil (R_range (n := 5) fun rg G₇ hG₇ hrg => ⟨5, _, IterOn.range hR.hd hrg (by omega), ?_, ?_, ?_⟩)))))
  · exact ⟨G₇, k, _, none, c1, c2, hG₇, Nat.le_refl _, rfl, fun i R hR => by
      cases i with
      | zero => cases hR; exact ⟨nl, nS, rfl, X.nl.mono hG₇, X.nS⟩
      | succ i => cases hR⟩
  · intro i p₂ hi hI9 _
    refine hI9.casesOn ?_
    intro G' k' lvs ok c1 c2 hG' hk' hL
    refine AsgRun.name fun v ⟨_, t6, hv6⟩ => storeLoc (.tail (.tail (.tail (.tail (.tail (.tail (.tail (.tail (.tail (.tail .head)))))))))) (Run.abs fun Q1 hQ1 => ?_)
    dsimp only at hQ1 ⊢
    have X' := X.mono hG'
    have hnl5 : nS.length = 5 := by simpa using congrArg List.length X.nS
    have hlv : lvs.length = i + 1 := by rw [hL.1]; simp [ledRows]
    obtain ⟨la, ll, e1, e2, e3⟩ := hL.2 i (ledL Y i) (by simp [ledRows])
    refine X_one (X_ExprA (E_meth F.slot_list_append F.plainAttrs_list F.type_list_append (E_cell (c := L + 2) at3 rfl ⟨HasT.list (.inr (.head _)), E_items_cons (Run.fz (E_ListCompK [] (cl := [("texts", L + 1), ("led", L + 2)]) rfl (by decide) (by simp) (by simp) (E_loc (v := .ref nl) at1 ⟨(strValues nS).length, _, LdI G' k' ((ol, listC lvs) :: (nL L (some (.ref td)) (some (.ref ol)) c1 c2 ++ M)) (fun n => !((ledL Y i).filter fun o => decide (Pc.ref n 0 ∈ Y o)).isEmpty), IterOn.list hR.hd X'.nl.at, ?_, ?_, ?_, ?_⟩)))⟩)))
    · rintro Cc i ys p ⟨_, _, _, ls, _, _, h3, h4, h5⟩
      have : ls.length ≤ i := by
        have := congrArg List.length h4
        simp only [List.length_map] at this
        rw [this]
        exact Nat.le_trans (List.length_filter_le _ _) (by rw [List.length_range]; exact Nat.le_refl _)
      rw [h3, sizeLine_eq]
      simp only [strValues, List.length_map]; omega
    · exact fun Cc => ⟨G', k', none, [], GLe.refl _, Nat.le_refl _, rfl, rfl, Nat.zero_le _⟩
    · intro Cc j ys p₃ hj hI3 _
      refine hI3.casesOn ?_
      intro G₁ k₁ o ls hG₁ hk₁ hys hls hj5
      have hj' : j < 5 := by simpa [strValues, hnl5] using hj
      refine AsgRun.name fun v ⟨_, hv⟩ => ?_
      obtain ⟨tj, rfl⟩ : ∃ t, v = .str (WN j) t := by
        obtain ⟨t, ht⟩ := names_at X.nS (i := j) (by simpa using hj')
        rw [get_five hj'] at ht
        exact ⟨t, Option.some.inj (hv.symm.trans ht)⟩
      refine storeCell (c := Cc + 1) .head rfl ?_
      dsimp only
      have X₁ := X'.mono hG₁
      have e2' := e2.mono hG₁
      have hll : ll.length = (ledL Y i).length := by simpa using congrArg List.length e3
      have hll5 : (ledL Y i).length ≤ 5 := ledL_len i
      obtain ⟨es, d1, d2⟩ := X₁.td
      refine R_tests_one (T_Cmp (Run.fz (E_Comp1 (R := fun _ _ _ _ => True) (fun a => ((ledL Y i)[a]?.map fun o => decide (Pc.ref j 0 ∈ Y o)).getD false) [("texts", L + 1), ("name", Cc + 1)] (fun _ _ _ _ _ _ h _ _ => h) (E_Sb F.slot_list_getitem.lookup (E_cell (c := L + 2) at4 rfl (E_Unary (E_int fun ta => U_neg fun tb => ⟨HasTy.list (.inr at1), G_listN (x := .ref la) (.inr at1) (by decide) (by rw [hlv]; omega) (by decide) (by rw [hlv, show (-1 + ((i + 1 : Nat) : Int)).toNat = i by omega]; exact e1) ?_⟩)))))))
      refine ⟨(strValues ll).length, _, IterOn.list hR.hd e2'.at, by rw [sizeLine_eq]; simp only [strValues, List.length_map]; omega, fun Cc2 a v G₂ k₂ ha hva hG₂ hk₂ => ?_, fun D ys2 G₂ k₂ hG₂ hk₂ hM => ?_⟩
      · have hal : a < (ledL Y i).length := by simpa [strValues, hll] using ha
        obtain ⟨_, hva⟩ := hva
        obtain ⟨ta, rfl⟩ : ∃ t, v = .str (WN (ledL Y i)[a]) t := by
          obtain ⟨t, ht⟩ := names_at e3 hal
          exact ⟨t, Option.some.inj (hva.symm.trans ht)⟩
        rw [List.getElem?_eq_getElem hal, Option.map_some, Option.getD_some]
        have ho5 : (ledL Y i)[a] < 5 := five_lt (ledL_five i _ (List.getElem_mem hal))
        generalize (ledL Y i)[a] = oo at ho5
        obtain ⟨ra, rvs, q1, q2, q3⟩ := d2 oo ho5
        obtain ⟨_, y2⟩ := X₁.gY oo ho5
        refine R_tests_one (T_Cmp (E_Tuple (E_items_cons (E_cell (c := Cc + 1) at0 rfl (E_items_cons (E_int fun t8 => E_items_nil (newTuple_G (by show 2 ≤ sizeLine; rw [sizeLine_eq]; decide) fun Tp G₃ hG₃ hne => ?_)))))))
        have g23 : GLe G₂ G₃ := by rw [hG₃]; exact GLe.add hne
        have g13 : GLe G₁ G₃ := GLe.trans hG₂ g23
        have hT : TupAt G₃ Tp [.str (WN j) tj, .int 0 t8] := by rw [hG₃]; exact ⟨_, 0, addG_self, rfl, rfl⟩
        clear hG₃
        refine E_Sb F.slot_dict_getitem.lookup (E_cell (c := L + 1) at5 rfl (E_loc (v := .str (WN oo) ta) at0 ⟨HasTy.dict (d1.mono g13), G_dict (d1.mono g13) q1 (C_inRow (by omega) (by have := hR.units; omega) (q2.mono g13) (q3.mono g13) y2 hT (truthy_bool ⟨rfl, G₃, k₂, rfl, g23, Nat.le_refl _, fun _ => E_loc (v := .str (WN oo) ta) at0 ⟨G₃, k₂, rfl, GLe.refl _, Nat.le_refl _, trivial⟩⟩))⟩))
      · refine ⟨D, _, _, .head, fun oD hoD hnD => E_List (E_items_nil (newList_Q (by show 0 ≤ sizeLine; exact Nat.zero_le _) fun b => C_neL (vs := ys2) (by have := hR.units; omega) (.inl (ListG.new hoD).at) at0 (Run.freezeQ fun G₃ g₃ _ => truthy_bool ?_)))⟩
        have e5 : (!ys2.isEmpty) = !((ledL Y i).filter fun o => decide (Pc.ref j 0 ∈ Y o)).isEmpty := by
          rw [← range_isEmpty, ← hll]
          have hl := hM.1
          simp only [strValues, List.length_map] at hl
          congr 1
          rw [Bool.eq_iff_iff, List.isEmpty_iff_length_eq_zero, List.isEmpty_iff_length_eq_zero, hl]
        rw [e5]
        have g13 : GLe G₁ G₃ := GLe.trans hG₂ (GLe.trans (GLe.add hnD) g₃)
        have hrow : (List.range (j + 1)).filter (fun n => !((ledL Y i).filter fun o => decide (Pc.ref n 0 ∈ Y o)).isEmpty) = (List.range j).filter (fun n => !((ledL Y i).filter fun o => decide (Pc.ref n 0 ∈ Y o)).isEmpty) ++ if (!((ledL Y i).filter fun o => decide (Pc.ref j 0 ∈ Y o)).isEmpty) = true then [j] else [] := filter_range_succ _ j
        cases hb : !((ledL Y i).filter fun o => decide (Pc.ref j 0 ∈ Y o)).isEmpty with
        | true =>
          rw [if_pos rfl]
          rw [hb, if_pos rfl] at hrow
          exact E_cell (c := Cc + 1) at0 rfl ⟨G₃, _, _, ls ++ [(WN j, tj)], GLe.trans hG₁ g13, Nat.le_trans hk₁ hk₂, by rw [hys]; simp [strValues], by rw [List.map_append, hls, hrow, List.map_append]; rfl, hj'⟩
        | false =>
          rw [if_neg Bool.false_ne_true]
          rw [hb, if_neg Bool.false_ne_true, List.append_nil] at hrow
          exact ⟨G₃, _, _, ls, GLe.trans hG₁ g13, Nat.le_trans hk₁ hk₂, hys, by rw [hls, hrow], hj'⟩
    · intro Cc D ys p₃ hI3 _
      refine hI3.casesOn ?_
      intro G₁ k₁ o ls hG₁ hk₁ hys hls hj5
      refine ⟨D, _, _, .head, fun oD hoD hnD => Run.freezeQ fun G₂ g₂ _ => E_items_nil (R_append .head (by rw [hlv, sizeLine_eq]; omega) (hQ1 _ _ ?_))⟩
      have g12 : GLe G₁ G₂ := GLe.trans (GLe.add hnD) g₂
      refine ⟨G₂, k₁, _, _, c1, c2, GLe.trans hG' (GLe.trans hG₁ g12), Nat.le_trans hk' hk₁, ?_⟩
      have : ledRows Y (i + 1) = ledRows Y i ++ [ledL Y (i + 1)] := by unfold ledRows; rw [List.range_succ, List.map_append]; rfl
      rw [this]
      refine (hL.mono (GLe.trans hG₁ g12)).snoc (ls := ls) (by rw [← hys]; exact (ListG.new hoD).mono g₂) ?_
      rw [hls]
      have : (strValues nS).length = 5 := by simp [strValues, hnl5]
      rw [this]; rfl
  · intro p₂ hI9 _
    exact X_nil (h _ hI9)
end Four
end Mine

open PySem PySem.Calls PyProof.Rows
set_option Elab.async false
set_option linter.unusedVariables false
set_option maxRecDepth 100000
namespace Mine
/-! sorted texts: one order for all -/
theorem rising_pw : ∀ (l : List Str) (p : Str), risingS p l = true → (p :: l).Pairwise fun a b => ¬ b.cps.toList < a.cps.toList
  | [], p, _ => List.pairwise_singleton _ _
  | x :: r, p, h => by
    have h : (!Spec.ltCps x.cps.toList p.cps.toList && risingS x r) = true := h
    rw [Bool.and_eq_true, ltCps_eq, Bool.not_eq_true', decide_eq_false_iff_not] at h
    have ih := rising_pw r x h.2
    refine List.pairwise_cons.mpr ⟨fun b hb => ?_, ih⟩
    rcases List.mem_cons.mp hb with rfl | hb
    · exact h.1
    · exact List.le_trans (l₁ := p.cps.toList) (l₂ := x.cps.toList) h.1 ((List.pairwise_cons.mp ih).1 b hb)
theorem sorted_pw : ∀ {l : List Str}, sortedS l = true → l.Pairwise fun a b => ¬ b.cps.toList < a.cps.toList
  | [], _ => .nil
  | x :: r, h => rising_pw r x h
theorem sorted_one {a b : List Str} (hp : a.Perm b) (ha : sortedS a = true) (hb : sortedS b = true) : a = b :=
  hp.eq_of_pairwise (fun x y _ _ h1 h2 => by
    have : x.cps.toList = y.cps.toList := List.le_antisymm h1 h2
    cases x; cases y
    simp at this
    rw [this]) (sorted_pw ha) (sorted_pw hb)
theorem countP_lt {p q : Nat → Bool} : ∀ {l : List Nat}, (∀ x ∈ l, p x = true → q x = true) → (∃ x ∈ l, q x = true ∧ p x = false) → l.countP p < l.countP q
  | [], _, ⟨_, h, _⟩ => nomatch h
  | a :: l, h, ⟨x, hx, h1, h2⟩ => by
    have hl : l.countP p ≤ l.countP q := List.countP_mono_left fun y hy => h y (List.mem_cons_of_mem _ hy)
    rw [List.countP_cons, List.countP_cons]
    rcases List.mem_cons.mp hx with rfl | hx
    · rw [h1, h2, if_pos rfl, if_neg Bool.false_ne_true]; omega
    · have ih := countP_lt (l := l) (fun y hy => h y (List.mem_cons_of_mem _ hy)) ⟨x, hx, h1, h2⟩
      have := h a (List.mem_cons_self ..)
      cases ep : p a
      · rw [if_neg Bool.false_ne_true]; omega
      · rw [this ep, if_pos rfl]; omega
/-! the walks -/
/-- the sorter's graph, as the texts have it -/
structure SG (Y : Nat → List Pc) (sc : Str → List Str) (nodes : List Str) : Prop where
  mem : ∀ y, y ∈ nodes ↔ ∃ n < 5, y = WN n
  edge : ∀ o < 5, ∀ m, m ∈ sc (WN o) ↔ ∃ n < 5, m = WN n ∧ Pc.ref n 0 ∈ Y o
variable {Y : Nat → List Pc} {sc : Str → List Str} {nodes : List Str}
theorem mem_five {n : Nat} (h : n < 5) : n ∈ five := by
  have := lt5 h
  rcases this with rfl | rfl | rfl | rfl | rfl <;> decide
theorem SG.edge' (h : SG Y sc nodes) {o n : Nat} (ho : o < 5) (hn : n < 5) (hm : WN n ∈ sc (WN o)) : Pc.ref n 0 ∈ Y o := by
  obtain ⟨n', h1, h2, h3⟩ := (h.edge o ho _).mp hm
  rw [WN_inj (by omega) (by omega) h2]; exact h3
theorem SG.inside (h : SG Y sc nodes) : ∀ {k : Nat} {a b : Str}, Dfs.Reach sc k a b → (∃ n < 5, a = WN n) → ∃ n < 5, b = WN n
  | _, _, _, .zero, ha => ha
  | _, _, _, .step hm hr, ⟨n, hn, e⟩ => by
    subst e
    obtain ⟨n', h1, h2, _⟩ := (h.edge n hn _).mp hm
    exact h.inside hr ⟨n', h1, h2⟩
theorem reach_last : ∀ {k : Nat} {n x : Str}, Dfs.Reach sc (k + 1) n x → ∃ y, Dfs.Reach sc k n y ∧ x ∈ sc y
  | 0, n, x, .step hm .zero => ⟨n, .zero, hm⟩
  | k + 1, n, x, .step hm hr => let ⟨y, h1, h2⟩ := reach_last hr; ⟨y, .step hm h1, h2⟩
theorem SG.cyc (h : SG Y sc nodes) : ∀ (k o : Nat), o < 5 → (∃ j, Dfs.Reach sc (j + 1) (WN o) (WN o)) → o ∈ ledL Y k
  | 0, o, ho, _ => mem_five ho
  | k + 1, o, ho, ⟨j, hr⟩ => by
    obtain ⟨y, h1, h2⟩ := reach_last hr
    obtain ⟨o', ho', rfl⟩ := h.inside h1 ⟨o, ho, rfl⟩
    exact mem_nextL.mpr ⟨mem_five ho, o', h.cyc k o' ho' ⟨j, .step h2 h1⟩, h.edge' ho' ho h2⟩
theorem SG.acyc (h : SG Y sc nodes) {F : List Str} (hF : Dfs.Fin sc F) (hn : ∀ n ∈ nodes, n ∈ F) : ledL Y 5 = [] := by
  have step : ∀ o < 5, ∀ n < 5, Pc.ref n 0 ∈ Y o → F.idxOf (WN n) < F.idxOf (WN o) := fun o ho n hn5 hm => by
    obtain ⟨A, B, e, hA⟩ := List.eq_append_cons_of_mem (hn _ ((h.mem _).mpr ⟨o, ho, rfl⟩))
    have h1 := hF A _ B e _ ((h.edge o ho _).mpr ⟨n, hn5, rfl, hm⟩)
    rw [e, List.idxOf_append, List.idxOf_append, if_pos h1, if_neg hA, List.idxOf_cons_self]
    have := List.idxOf_lt_length_iff.mpr h1
    omega
  have rank : ∀ k, ∀ n ∈ ledL Y k, five.countP (fun m => decide (F.idxOf (WN m) < F.idxOf (WN n))) + k ≤ 4 := by
    intro k
    induction k with
    | zero =>
      intro n hn5
      have : five.countP (fun m => decide (F.idxOf (WN m) < F.idxOf (WN n))) < five.countP fun _ => true := countP_lt (fun _ _ _ => rfl) ⟨n, hn5, rfl, decide_eq_false (Nat.lt_irrefl _)⟩
      have e : five.countP (fun _ => true) = 5 := rfl
      omega
    | succ k ih =>
      intro n hn5
      obtain ⟨h1, o, h2, h3⟩ := mem_nextL.mp hn5
      have hlt := step o (five_lt (ledL_five k o h2)) n (five_lt h1) h3
      have := countP_lt (p := fun m => decide (F.idxOf (WN m) < F.idxOf (WN n))) (q := fun m => decide (F.idxOf (WN m) < F.idxOf (WN o))) (l := five) (fun x _ hx => decide_eq_true (Nat.lt_trans (of_decide_eq_true hx) hlt)) ⟨n, h1, decide_eq_true hlt, decide_eq_false (Nat.lt_irrefl _)⟩
      have := ih o h2
      omega
  cases e : ledL Y 5 with
  | nil => rfl
  | cons n r =>
    have := rank 5 n (by rw [e]; exact List.mem_cons_self ..)
    omega
/-! the rounds -/
def lvlL (Y : Nat → List Pc) (k : Nat) : List Nat := (ledL Y k).filter fun n => !decide (n ∈ ledL Y (k + 1))
theorem mem_lvl {k n : Nat} : n ∈ lvlL Y k ↔ n ∈ ledL Y k ∧ n ∉ ledL Y (k + 1) := by
  unfold lvlL
  rw [List.mem_filter]
  simp
theorem ledL_nodup : ∀ k, (ledL Y k).Nodup
  | 0 => (by decide : five.Nodup)
  | k + 1 => List.Nodup.sublist List.filter_sublist (by decide)
def Gone (Y : Nat → List Pc) (k : Nat) (x : Str) : Prop := ∃ n < 5, x = WN n ∧ n ∉ ledL Y k
theorem gone_next {k : Nat} {x : Str} : Gone Y (k + 1) x ↔ Gone Y k x ∨ x ∈ (lvlL Y k).map WN := by
  constructor
  · rintro ⟨n, h1, h2, h3⟩
    by_cases h : n ∈ ledL Y k
    · exact .inr (List.mem_map.mpr ⟨n, mem_lvl.mpr ⟨h, h3⟩, h2.symm⟩)
    · exact .inl ⟨n, h1, h2, h⟩
  · rintro (⟨n, h1, h2, h3⟩ | h)
    · exact ⟨n, h1, h2, fun h => h3 (ledL_down k n h)⟩
    · obtain ⟨n, h1, rfl⟩ := List.mem_map.mp h
      obtain ⟨h1, h2⟩ := mem_lvl.mp h1
      exact ⟨n, five_lt (ledL_five k n h1), rfl, h2⟩
/-- what is ready, when just the first k rounds are done -/
theorem ready_lvl {pr : Str → List Str} {D O rd : List Str} {g : Gr} {k : Nat} (K : KInv pr D O rd g) (hP : PrM Y (fun n o => n < 5 ∧ o < 5) pr) (hg : ∀ y, y ∈ g.map (·.1) ↔ ∃ n < 5, y = WN n) (hO : ∀ x, x ∈ O ↔ x ∈ D) (hD : ∀ x, x ∈ D ↔ Gone Y k x) (x : Str) : x ∈ rd ↔ x ∈ (lvlL Y k).map WN := by
  have dn : ∀ n < 5, WN n ∈ D ↔ n ∉ ledL Y k := fun n hn => (hD _).trans ⟨fun ⟨m, h1, h2, h3⟩ => by rw [WN_inj (by omega) (by omega) h2]; exact h3, fun h => ⟨n, hn, rfl, h⟩⟩
  rw [K.rdm, hg, hO]
  constructor
  · rintro ⟨⟨n, hn, rfl⟩, h2, h3⟩
    refine List.mem_map_of_mem (mem_lvl.mpr ⟨Classical.byContradiction fun h => h2 ((dn n hn).mpr h), fun h => ?_⟩)
    obtain ⟨_, o, h4, h5⟩ := mem_nextL.mp h
    have ho := five_lt (ledL_five k o h4)
    exact (dn o ho).mp (h3 _ ((hP _ _).mpr ⟨n, o, ⟨hn, ho⟩, rfl, rfl, h5⟩)) h4
  · intro h
    obtain ⟨n, h1, rfl⟩ := List.mem_map.mp h
    obtain ⟨h1, h2⟩ := mem_lvl.mp h1
    have hn := five_lt (ledL_five k n h1)
    refine ⟨⟨n, hn, rfl⟩, fun h => (dn n hn).mp h h1, fun m hm => ?_⟩
    obtain ⟨n', o, ⟨h3, h4⟩, h5, rfl, h6⟩ := (hP _ _).mp hm
    rw [← WN_inj (by omega) (by omega) h5] at h6
    exact (dn o h4).mpr fun ho => h2 (mem_nextL.mpr ⟨mem_five hn, o, ho, h6⟩)
/-- each round takes one at least -/
theorem led_shrinks {k : Nat} (h : lvlL Y k ≠ []) : (ledL Y (k + 1)).length < (ledL Y k).length := by
  obtain ⟨n, hn⟩ := List.exists_mem_of_ne_nil _ h
  obtain ⟨h1, h2⟩ := mem_lvl.mp hn
  have e : ∀ j, (ledL Y j).length = five.countP fun n => decide (n ∈ ledL Y j) := fun j => by
    rw [List.countP_eq_length_filter]
    refine List.Perm.length_eq ((List.perm_ext_iff_of_nodup (ledL_nodup j) (List.Nodup.sublist List.filter_sublist (by decide))).mpr fun a => ?_)
    rw [List.mem_filter, decide_eq_true_eq]
    exact ⟨fun h => ⟨ledL_five j a h, h⟩, And.right⟩
  rw [e, e]
  exact countP_lt (fun x _ hx => decide_eq_true (ledL_down k x (of_decide_eq_true hx))) ⟨n, ledL_five k n h1, decide_eq_true h1, decide_eq_false h2⟩
/-- behind an empty round all are empty -/
theorem lvl_end {k : Nat} (h : lvlL Y k = []) : ∀ j, k ≤ j → lvlL Y j = [] := by
  have key : ∀ j, k ≤ j → ∀ n, n ∈ ledL Y j → n ∈ ledL Y (j + 1) := by
    intro j hj
    obtain ⟨i, rfl⟩ := Nat.exists_eq_add_of_le hj
    clear hj
    induction i with
    | zero =>
      intro n hn
      refine Classical.byContradiction fun h' => ?_
      have : n ∈ lvlL Y k := mem_lvl.mpr ⟨hn, h'⟩
      rw [h] at this; cases this
    | succ j ih => exact nextL_mono ih
  intro j hj
  refine List.eq_nil_iff_forall_not_mem.mpr fun n hn => ?_
  obtain ⟨h1, h2⟩ := mem_lvl.mp hn
  exact h2 (key j hj n h1)
end Mine

open PySem PySem.Calls PyProof.Rows
set_option Elab.async false
set_option linter.unusedVariables false
set_option maxRecDepth 100000
namespace Mine
namespace Four
variable {C : Cx} {A : Around} {L : Addr}
theorem sg_of {Y : Nat → List Pc} {pr : Str → List Str} {is : List NI} (hB : GB pr (absG is)) (hP : PrM Y (fun n o => n < 5 ∧ o < 5) pr) (hin : ∀ n < 5, WN n ∈ (absG is).map (·.1)) (hall : ∀ y ∈ (absG is).map (·.1), ∃ n < 5, y = WN n) : SG Y (scOf is) (namesOf is) := by
  refine ⟨fun y => ?_, fun o ho m => ?_⟩
  · rw [← abs_names]
    exact ⟨hall y, fun ⟨n, hn, e⟩ => e ▸ hin n hn⟩
  · rw [← scG_abs, ← List.count_pos_iff, hB.sc, List.count_pos_iff, hP]
    constructor
    · rintro ⟨n, o', ⟨h1, h2⟩, h3, h4, h5⟩
      rw [← WN_inj (by omega) (by omega) h4] at h5
      exact ⟨n, h1, h3, h5⟩
    · rintro ⟨n, h1, h2, h3⟩
      exact ⟨n, o, ⟨h1, ho⟩, h2, rfl, h3⟩
inductive TryT (G : Addr → Option Obj) (k : Nat) (Y : Nat → List Pc) (m : Option Value → List (Str × Option Value)) (dn dx : Addr) (t₀ u₀ : Tok) (is : List NI) (R : List (Addr × Cell)) : Flow → Pt → Prop
  | mk {G₃ : Addr → Option Obj} {k₃ : Nat} (rl : Addr) (b : Bool) (hb : b = !(ledL Y 5).isEmpty) (h1 : GLe G G₃) (h2 : k ≤ k₃) : TryT G k Y m dn dx t₀ u₀ is R .next ⟨G₃, m (some (.bool b)), (rl, listC (strValues (readyOf is))) :: (fN dn dx (.ref rl) 0 0 t₀ u₀ is ++ R), k₃⟩
theorem seg5 (H : Cx4 C) {d : Nat} (hR : Room A (d + 7)) (hA : A.frames = some [envL L]) {s o1 o2 o3 o4 o5 o6 ok c1 c2 : Option Value} {nl td dl ol x dx dn : Addr} {t₀ u₀ : Tok} {lvs : List Value} {Y : Nat → List Pc} {is : List NI} {pr : Str → List Str} {G : Addr → Option Obj} {k : Nat} {Q : Flow → Pt → Prop}
    (hY : Lay G x dx dn is) (hB : GB pr (absG is)) (hP : PrM Y (fun n o => n < 5 ∧ o < 5) pr) (hin : ∀ n < 5, WN n ∈ (absG is).map (·.1)) (hall : ∀ y ∈ (absG is).map (·.1), ∃ n < 5, y = WN n) (hS : Small (absG is) 1000) (hL : LedAt G lvs (ledRows Y 5))
    (h : ∀ G' k' rl b, GLe G G' → k ≤ k' → LayF C G' x dx dn is → ListG G' ol lvs →
      Run C A L (execs (bodyL.drop 11) (envL L)) ⟨G', mL s (some (.ref nl)) (some (.ref dl)) o1 o2 o3 o4 o5 o6 (some (.ref x)) ok (some (.bool b)) none none none none none none none none, (rl, listC (strValues (readyOf is))) :: (fN dn dx (.ref rl) 0 0 t₀ u₀ is ++ nL L (some (.ref td)) (some (.ref ol)) c1 c2), k'⟩ Q) :
    Run C A L (execs (bodyL.drop 8) (envL L)) ⟨G, mL s (some (.ref nl)) (some (.ref dl)) o1 o2 o3 o4 o5 o6 (some (.ref x)) ok none none none none none none none none none, sN C dn dx .none 0 0 t₀ u₀ is ++ ((ol, listC lvs) :: nL L (some (.ref td)) (some (.ref ol)) c1 c2), k⟩ Q := by
  have hsg := sg_of hB hP hin hall
  have hnd : (namesOf is).Nodup := by rw [← abs_names]; exact hB.nd
  have hcl : ∀ n ∈ namesOf is, ∀ m ∈ scOf is n, m ∈ namesOf is := fun n hn m hm => by
    obtain ⟨o, ho, rfl⟩ := (hsg.mem n).mp hn
    obtain ⟨n', h1, h2, _⟩ := (hsg.edge o ho m).mp hm
    exact (hsg.mem m).mpr ⟨n', h1, h2⟩
  have hisz : is.length ≤ 5 := by
    have h1 := nodup_len (B := five.map WN) hnd fun y hy => by
      obtain ⟨n, hn, rfl⟩ := (hsg.mem y).mp hy
      exact List.mem_map_of_mem (mem_five hn)
    simpa [namesOf] using h1
  have hssz : ∀ i ∈ is, i.sc.length ≤ 1000000 := fun i hi => by
    have := hS i.abs (List.mem_map_of_mem (f := NI.abs) hi)
    simp only [NI.abs, List.length_map] at this
    omega
  refine X_cons (X_Assign (E_bool (storeLoc (.tail (.tail (.tail (.tail (.tail (.tail (.tail (.tail (.tail (.tail (.tail .head))))))))))) ?_)))
  dsimp only
  refine toFrozen hY fun G₁ hG₁ Y₁ => ?_
  refine Run.perm (N' := (ol, listC lvs) :: (fN dn dx .none 0 0 t₀ u₀ is ++ nL L (some (.ref td)) (some (.ref ol)) c1 c2)) List.perm_middle (Run.freezeQ fun G₂ hG₂ hol => ?_)
  have hol := ListG.ofQ hol
  have Y₂ := Y₁.mono hG₂
  obtain ⟨⟨op, hop, hdp⟩, hcp⟩ := H.S.f117
  obtain ⟨xo, bmB, newId, mgo, hbase, hown⟩ := H.own
  refine X_cons (Run.mono (Q := TryT G₂ k Y (fun b => mL s (some (.ref nl)) (some (.ref dl)) o1 o2 o3 o4 o5 o6 (some (.ref x)) ok b none none none none none none none none) dn dx t₀ u₀ is (nL L (some (.ref td)) (some (.ref ol)) c1 c2))
    (X_Try (outer := []) hA rfl (show ScopeKind.function ≠ ScopeKind.module from by decide) ?_) ?_)
  · show RunE C A L _ ⟨G₂, mL s (some (.ref nl)) (some (.ref dl)) o1 o2 o3 o4 o5 o6 (some (.ref x)) ok (some (.bool false)) none none none none none none none none, _, _⟩ _ _
    generalize hm : mL s (some (.ref nl)) (some (.ref dl)) o1 o2 o3 o4 o5 o6 (some (.ref x)) ok (some (.bool false)) none none none none none none none none = mm
    have hms : (("sorter" : Str), some (Value.ref x)) ∈ mm := by rw [← hm]; exact at9
    refine XE_one (XE_Expr (E_methFX hop hdp (E_loc (v := .ref x) hms (R_method H.S.X H.S.mPrep Y₂.inst (.head _) rfl ⟨rfl, E_items_nil (RE_callL (Nc := fN dn dx .none 0 0 t₀ u₀ is ++ nL L (some (.ref td)) (some (.ref ol)) c1 c2) (Nr := []) (by rw [List.append_nil]) ?_)⟩))))
    have hO' : Outer [envL L] ((L, frameC mm) :: nL L (some (.ref td)) (some (.ref ol)) c1 c2) := fun en hen => by
      rcases List.mem_cons.mp hen with rfl | hen
      · exact ⟨show ScopeKind.function ≠ ScopeKind.module from by decide, L, _, rfl, .head _⟩
      · cases hen
    refine CallX.perm (N₁ := fN dn dx .none 0 0 t₀ u₀ is ++ (L, frameC mm) :: nL L (some (.ref td)) (some (.ref ol)) c1 c2) List.perm_middle.symm ((w_prepare H.S (d := d + 3) (hR.less (by omega)) hA hO' Y₂ hnd hcl (by omega) hssz).mono (fun v G₃ N₃ k₃ hv => ?_) fun v G₃ N₃ k₃ hv => ?_)
    · refine hv.casesOn ?_
      intro G₃ k₃ hG₃ hk₃ rl hac
      refine ⟨_, (List.Perm.cons _ List.perm_middle).trans (.swap ..), _, rfl, (fun _ e => nomatch e), ?_⟩
      obtain ⟨F, f1, _, f3⟩ := hac
      subst hm
      refine Run.perm (N' := (rl, listC (strValues (readyOf is))) :: (fN dn dx (.ref rl) 0 0 t₀ u₀ is ++ nL L (some (.ref td)) (some (.ref ol)) c1 c2)) (by rw [List.append_nil]) (X_nil ⟨rl, false, by rw [hsg.acyc f1 f3]; rfl, hG₃, hk₃⟩)
    · refine hv.casesOn ?_
      intro G₃ k₃ hG₃ hk₃ rl T e hcy
      refine ⟨_, .refl _, (e, excC (.ref 80) (.ref T)) :: (T, tbC) :: (rl, listC (strValues (readyOf is))) :: (fN dn dx (.ref rl) 0 0 t₀ u₀ is ++ nL L (some (.ref td)) (some (.ref ol)) c1 c2), ?_, e, .ref 80, (T, tbC) :: (rl, listC (strValues (readyOf is))) :: (fN dn dx (.ref rl) 0 0 t₀ u₀ is ++ nL L (some (.ref td)) (some (.ref ol)) c1 c2) ++ [], rfl, .next (.head _), ?_, fun T' => ?_⟩
      · refine (List.Perm.swap ..).trans ?_
        refine (List.Perm.cons _ (List.Perm.cons _ (List.Perm.cons _ List.perm_middle))).trans ?_
        exact List.perm_middle (l₁ := [_, _, _])
      · exact fun en hen => nomatch hen
      · refine H_own hbase hown (fun {A' p' Q} h => E_glob H.base at3 h) rfl fun G₄ hG₄ => ?_
        refine Run.freeze .head fun ot G₅ _ hGe hne => ?_
        have g5 : GLe G₃ G₅ := GLe.trans hG₄ (by rw [hGe]; exact GLe.add hne)
        clear hGe
        obtain ⟨n, j, h1, h2⟩ := hcy
        obtain ⟨n, hn, rfl⟩ := (hsg.mem n).mp h1
        have hb : true = !(ledL Y 5).isEmpty := by
          have := hsg.cyc 5 n hn ⟨j, h2⟩
          cases e : ledL Y 5 with
          | nil => rw [e] at this; cases this
          | cons a r => rfl
        subst hm
        refine Run.perm (N' := (rl, listC (strValues (readyOf is))) :: (fN dn dx (.ref rl) 0 0 t₀ u₀ is ++ nL L (some (.ref td)) (some (.ref ol)) c1 c2)) (by show List.Perm (_ ++ []) _; rw [List.append_nil]) (X_one (X_Assign (E_bool (storeLoc (.tail (.tail (.tail (.tail (.tail (.tail (.tail (.tail (.tail (.tail (.tail .head))))))))))) ⟨rl, true, hb, GLe.trans hG₃ g5, hk₃⟩))))
  · intro f p₃ hI9
    refine hI9.casesOn ?_
    intro G₃ k₃ rl b hb hG₃ hk₃
    show Run C _ L _ _ _
    have hL3 := hL.mono (GLe.trans hG₁ (GLe.trans hG₂ hG₃))
    obtain ⟨la, ll, e1, e2, e3⟩ := hL3.2 5 (ledL Y 5) rfl
    have hol3 := hol.mono hG₃
    refine X_cons (X_If (T_Cmp (E_loc (v := .bool b) at11 (E_Cmp (E_Sb F.slot_list_getitem.lookup (E_cell (c := L + 2) (.tail _ (List.mem_append_right _ at2)) rfl (E_int fun t5 => ⟨HasTy.listG hol3, G_list (.inl hol3.at) (by decide) (by decide) (x := .ref la) e1 (E_List (E_items_nil (newList_Q (by show 0 ≤ sizeLine; exact Nat.zero_le _) fun bl => C_neL (vs := strValues ll) hR.u (.inl e2.at) at0 (C_neB (Run.freezeQ fun G₄ hG₄ _ => truthy_bool ?_)))))⟩)))))))
    have hz : (strValues ll).isEmpty = (ledL Y 5).isEmpty := by
      have := congrArg List.length e3
      simp only [List.length_map] at this
      rw [Bool.eq_iff_iff, List.isEmpty_iff_length_eq_zero, List.isEmpty_iff_length_eq_zero, strValues, List.length_map, this]
    rw [hz, ← hb, show (!(b == b)) = false by cases b <;> rfl, if_neg Bool.false_ne_true]
    exact X_nil (h G₄ k₃ rl b (GLe.trans hG₁ (GLe.trans hG₂ (GLe.trans hG₃ hG₄))) hk₃ ((Y₂.mono hG₃).mono hG₄) (hol3.mono hG₄))
end Four
end Mine

open PySem PySem.Calls PyProof.Rows
set_option Elab.async false
set_option linter.unusedVariables false
set_option maxRecDepth 100000
namespace Mine
section
variable {C : Cx} {A : Around} {L : Addr} {p : Pt} {env : Env}
theorem addGs_nil {G : Addr → Option Obj} {h : Heap} : addGs G [] h = G := by
  funext b; simp [addGs]
theorem none_from {h : Heap} {a : Addr} (ha : h.objs.size ≤ a) : h.get? a = none := by
  cases e : h.get? a with
  | none => rfl
  | some o => exact absurd (Heap.lt_size e) (Nat.not_lt.mpr ha)
/-- a list of a tuple -/
theorem R_listT {l : Addr} {vs : List Value} {Q : Value → Pt → Prop} (hl : TupAt p.G l vs) (hz : vs.length ≤ sizeLine) (h : ∀ a, Q (.ref a) { p with N := (a, listC vs) :: p.N }) : Run C A L (PySem.call (.type "list") [.ref l]) p Q := .of fun s S T => by
  obtain ⟨o, n, e1, e2, e3⟩ := hl
  refine call_list_seq l (.inr rfl) (S.s0.gs _ _ e1) e2 e3 (fun h' c' hk hS => ?_) (by simpa using hz)
  have S' := S.adds (as := []) (c := listC vs) hk (none_from (Nat.le_refl _)) hS ⟨c', rfl⟩ (fun _ hb => nomatch hb) List.not_mem_nil
  have x' := Ext.adds S (as := []) (c := listC vs) (tk := s.toks) hk (none_from (Nat.le_refl _)) (fun _ hb => nomatch hb)
  rw [addGs_nil] at S' x'
  exact ⟨_, S', x', h _⟩
theorem strsAre {ls : List (Str × Tok)} : StrsAre (strValues ls) (ls.map (·.1)) := by
  induction ls with
  | nil => exact .nil
  | cons q r ih => exact .cons _ _ ih
theorem strsAre_inv : ∀ {vs : List Value} {ss : List Str}, StrsAre vs ss → ∃ ls : List (Str × Tok), vs = strValues ls ∧ ls.map (·.1) = ss
  | _, _, .nil => ⟨[], rfl, rfl⟩
  | _, _, .cons x t h => let ⟨ls, h1, h2⟩ := strsAre_inv h; ⟨(x, t) :: ls, by rw [h1]; rfl, by rw [List.map_cons, h2]⟩
/-- sorted, of a list of texts -/
theorem R_sortedS {l : Addr} {ls : List (Str × Tok)} {Q : Value → Pt → Prop} (hl : ListAt p.G l (strValues ls) ∨ (l, listC (strValues ls)) ∈ p.N) (hz : ls.length < 64)
    (h : ∀ a (ls' : List (Str × Tok)), (ls'.map (·.1)).Perm (ls.map (·.1)) → sortedS (ls'.map (·.1)) = true → Q (.ref a) { p with N := (a, listC (strValues ls')) :: p.N }) : Run C A L (PySem.call (.builtin "sorted") [.ref l]) p Q := .of fun s S T => by
  refine sorted_strs (isList_of hl S) strsAre (by simpa [strValues] using hz) fun out ss' h1 h2 h3 => ?_
  obtain ⟨ls', e1, e2⟩ := strsAre_inv h1
  obtain ⟨e, he⟩ := sortedAll_at s.heap (strValues ls) out
  have hk : ∀ b o, s.heap.get? b = some o → (sortedAll s.heap (strValues ls) out).get? b = some o := fun _ _ => sortedAll_old
  have hc : listC (strValues ls') (seqObj "list" out e) := ⟨e, by rw [← e1]⟩
  have S' := S.adds (as := []) hk (none_from (Nat.le_succ _)) he hc (fun _ hb => nomatch hb) List.not_mem_nil
  have x' := Ext.adds S (as := []) (c := listC (strValues ls')) (tk := s.toks) hk (none_from (Nat.le_succ _)) (fun _ hb => nomatch hb)
  rw [addGs_nil] at S' x'
  exact ⟨_, S', x', h _ ls' (by rw [e2]; exact h2) (by rw [e2]; exact h3)⟩
end
namespace Four
/-- a whole group done -/
theorem dones {pr : Str → List Str} : ∀ (ns : List Str) {D O rd : List Str} {g : Gr}, KInv pr D O rd g → (∀ n ∈ ns, n ∈ O) → ns.Nodup → (∀ n ∈ ns, n ∉ D) →
    DoneOk ns (g, rd) ∧ KInv pr (D ++ ns) O (ns.foldl gDone (g, rd)).2 (ns.foldl gDone (g, rd)).1
  | [], D, O, rd, g, K, _, _, _ => ⟨trivial, by rw [List.append_nil]; exact K⟩
  | n :: ns, D, O, rd, g, K, h1, h2, h3 => by
    obtain ⟨e, K'⟩ := K.done (h1 n (List.mem_cons_self ..)) (h3 n (List.mem_cons_self ..))
    obtain ⟨n1, n2⟩ := List.nodup_cons.mp h2
    obtain ⟨i1, i2⟩ := dones ns (rd := (gDone (g, rd) n).2) K' (fun m hm => h1 m (List.mem_cons_of_mem _ hm)) n2 fun m hm hmD => (List.mem_append.mp hmD).elim (h3 m (List.mem_cons_of_mem _ hm)) fun h => n1 (List.mem_singleton.mp h ▸ hm)
    exact ⟨⟨e, i1⟩, by rw [List.append_assoc] at i2; exact i2⟩
end Four
end Mine

open PySem PySem.Calls PyProof.Rows
set_option Elab.async false
set_option linter.unusedVariables false
set_option maxRecDepth 100000
namespace Mine
namespace Four
variable {C : Cx} {A : Around} {L : Addr}
theorem lvl_perm {Y : Nat → List Pc} {j : Nat} {l : List Str} (hnd : l.Nodup) (h : ∀ y, y ∈ l ↔ y ∈ (lvlL Y j).map WN) : ∃ Z : List Nat, l = Z.map WN ∧ Z.Perm (lvlL Y j) := by
  have key : ∀ l : List Str, (∀ y ∈ l, y ∈ (lvlL Y j).map WN) → ∃ Z : List Nat, l = Z.map WN ∧ ∀ z ∈ Z, z ∈ lvlL Y j := by
    intro l
    induction l with
    | nil => exact fun _ => ⟨[], rfl, fun z hz => nomatch hz⟩
    | cons a r ih =>
      intro ha
      obtain ⟨Z, e, hZ⟩ := ih fun y hy => ha y (List.mem_cons_of_mem _ hy)
      obtain ⟨n, hn, e'⟩ := List.mem_map.mp (ha a (List.mem_cons_self ..))
      refine ⟨n :: Z, by rw [List.map_cons, e', e], fun z hz => ?_⟩
      rcases List.mem_cons.mp hz with rfl | hz
      · exact hn
      · exact hZ z hz
  obtain ⟨Z, rfl, hZ⟩ := key l fun y hy => (h y).mp hy
  have hZn : Z.Nodup := (List.pairwise_map.mp hnd).imp fun h e => h (congrArg WN e)
  refine ⟨Z, rfl, (List.perm_ext_iff_of_nodup hZn ((ledL_nodup j).sublist List.filter_sublist)).mpr fun a => ⟨hZ a, fun ha => ?_⟩⟩
  obtain ⟨b, hb, e⟩ := List.mem_map.mp ((h (WN a)).mpr (List.mem_map_of_mem ha))
  have h5 : ∀ c ∈ lvlL Y j, c < 8 := fun c hc => by have := five_lt (ledL_five j c (mem_lvl.mp hc).1); omega
  rw [← WN_inj (h5 b (hZ b hb)) (h5 a ha) e]; exact hb
theorem readyOf_abs (is : List NI) : (readyOf is).map (·.1) = readyG (absG is) := by
  unfold readyOf readyG absG
  rw [List.map_map, List.filter_map, List.map_map]; rfl
theorem ready_c (H : Cx4 C) {d : Nat} (hR : Room A (d + 2)) {x dx dn rl ro : Addr} {zo zf : Int} {t u : Tok} {is : List NI} {rd : List (Str × Tok)} {rvs : List Value} {R : List (Addr × Cell)} {pr : Str → List Str} {D O : List Str} {G : Addr → Option Obj} {mm : List (Str × Option Value)} {k : Nat} {Q : Value → Pt → Prop}
    (Y : LayF C G x dx dn is) (K : KInv pr D O (rd.map (·.1)) (absG is)) (hz : rd.length ≤ 1000000)
    (h : ∀ G' k' tt is' t', GLe G G' → k ≤ k' → LayF C G' x dx dn is' → KInv pr D (O ++ rd.map (·.1)) [] (absG is') → shape (absG is') = shape (absG is) → G' tt = some (tupO (strValues rd)) →
      Q (.ref tt) ⟨G', mm, (rl, listC []) :: (fN dn dx (.ref rl) (zo + rd.length) zf t' u is' ++ R) ++ [(ro, listC rvs)], k'⟩) :
    Run C A L (PySem.call (.ref 124) [.ref x]) ⟨G, mm, (ro, listC rvs) :: (rl, listC (strValues rd)) :: (fN dn dx (.ref rl) zo zf t u is ++ R), k⟩ Q := by
  refine R_call (Nc := (rl, listC (strValues rd)) :: (fN dn dx (.ref rl) zo zf t u is ++ R)) (Nr := [(ro, listC rvs)]) (List.perm_append_comm (l₁ := [_])) ((w_ready H.S hR Y (by rw [← abs_names]; exact K.nd) (fun q hq => by rw [← abs_names]; exact ((K.rdm q.1).mp (List.mem_map_of_mem (f := (·.1)) hq)).1) hz).mono fun v G₅ N₅ k₅ hv => ?_)
  refine hv.casesOn ?_
  intro G₅ k₅ hG₅ hk₅ tt is₅ t₅ htt Y₅ ha₅
  exact h G₅ k₅ tt is₅ t₅ hG₅ hk₅ Y₅ (by rw [ha₅]; exact K.ready) (by rw [ha₅, shape_outAll]) htt
/-- at the head of the rounds' loop -/
inductive RndI (C : Cx) (G : Addr → Option Obj) (k : Nat) (Y : Nat → List Pc) (pr : Str → List Str) (g0 : Gr) (m : Option Value → List (Str × Option Value)) (x dx dn rl ro : Addr) (R : List (Addr × Cell)) (n : Nat) : Pt → Prop
  | mk (G' : Addr → Option Obj) (k' j : Nat) (is : List NI) (rs : List (Str × Tok)) (D O : List Str) (tt : Addr) (rvs : List Value) (Rs : List (List Nat)) (zo zf : Int) (t u : Tok) (h1 : GLe G G') (h2 : k ≤ k') (h3 : LayF C G' x dx dn is) (h4 : KInv pr D O [] (absG is))
      (h5 : shape (absG is) = shape g0) (h6 : G' tt = some (tupO (strValues rs))) (h7 : ∀ y, y ∈ O ↔ y ∈ D ∨ y ∈ rs.map (·.1)) (h8 : ∀ y, y ∈ D ↔ Gone Y j y) (h9 : (rs.map (·.1)).Nodup) (h10 : ∀ y, y ∈ rs.map (·.1) ↔ y ∈ (lvlL Y j).map WN) (h11 : LedAt G' rvs Rs)
      (h12 : Rs.length = j) (h13 : ∀ (i : Nat) (Z : List Nat), Rs[i]? = some Z → Z.Perm (lvlL Y i)) (h14 : ∀ i < j, lvlL Y i ≠ []) (h15 : n = (ledL Y j).length) (h16 : n + j ≤ 5) (h17 : zo = zf + rs.length) :
      RndI C G k Y pr g0 m x dx dn rl ro R n ⟨G', m (some (.ref tt)), (ro, listC rvs) :: (rl, listC []) :: (fN dn dx (.ref rl) zo zf t u is ++ R), k'⟩
theorem seg6 (H : Cx4 C) {d : Nat} (hR : Room A (d + 7)) (hA : A.frames = some [envL L]) {s o1 o2 o3 o4 o5 o6 ok ob c1 c2 : Option Value} {nl td dl ol x dx dn rl : Addr} {t₀ u₀ : Tok} {Y : Nat → List Pc} {is : List NI} {pr : Str → List Str} {G : Addr → Option Obj} {k : Nat} {Q : Flow → Pt → Prop}
    (hY : LayF C G x dx dn is) (hB : GB pr (absG is)) (hP : PrM Y (fun n o => n < 5 ∧ o < 5) pr) (hin : ∀ n < 5, WN n ∈ (absG is).map (·.1)) (hall : ∀ y ∈ (absG is).map (·.1), ∃ n < 5, y = WN n) (hS : Small (absG is) 1000)
    (h : ∀ G' k' is' ro og rvs Rs z t u, GLe G G' → k ≤ k' → LayF C G' x dx dn is' → LedAt G' rvs Rs → Rs.length ≤ 5 → (∀ (i : Nat) (Z : List Nat), Rs[i]? = some Z → Z.Perm (lvlL Y i)) → (∀ i < Rs.length, lvlL Y i ≠ []) → lvlL Y Rs.length = [] →
      Run C A L (execs (bodyL.drop 14) (envL L)) ⟨G', mL s (some (.ref nl)) (some (.ref dl)) o1 o2 o3 o4 o5 o6 (some (.ref x)) ok ob (some (.ref ro)) og none none none none none none, (ro, listC rvs) :: (rl, listC []) :: (fN dn dx (.ref rl) z z t u is' ++ nL L (some (.ref td)) (some (.ref ol)) c1 c2), k'⟩ Q) :
    Run C A L (execs (bodyL.drop 11) (envL L)) ⟨G, mL s (some (.ref nl)) (some (.ref dl)) o1 o2 o3 o4 o5 o6 (some (.ref x)) ok ob none none none none none none none none, (rl, listC (strValues (readyOf is))) :: (fN dn dx (.ref rl) 0 0 t₀ u₀ is ++ nL L (some (.ref td)) (some (.ref ol)) c1 c2), k⟩ Q := by
  have hg : ∀ {is' : List NI}, shape (absG is') = shape (absG is) → ∀ y, y ∈ (absG is').map (·.1) ↔ ∃ n < 5, y = WN n := fun e y => by
    rw [names_congr e]
    exact ⟨hall y, fun ⟨n, hn, e⟩ => e ▸ hin n hn⟩
  have small : ∀ {l : List Str}, l.Nodup → (∀ y ∈ l, ∃ n < 5, y = WN n) → l.length ≤ 5 := fun nd hl => by
    have h1 := nodup_len (B := five.map WN) nd fun y hy => by
      obtain ⟨n, hn, rfl⟩ := hl y hy
      exact List.mem_map_of_mem (mem_five hn)
    simpa using h1
  have K₀ := KInv.start hB
  rw [← readyOf_abs] at K₀
  have hrd : (readyOf is).length ≤ 5 := by
    have := small K₀.rdn fun y hy => (hg rfl y).mp ((K₀.rdm y).mp hy).1
    simpa using this
  refine X_cons (X_Assign (E_List (E_items_nil (newList_Q (by show 0 ≤ sizeLine; exact Nat.zero_le _) fun ro => storeLoc (.tail (.tail (.tail (.tail (.tail (.tail (.tail (.tail (.tail (.tail (.tail (.tail .head)))))))))))) ?_))))
  dsimp only
  obtain ⟨⟨og, hog, hdg⟩, hcg⟩ := H.S.f124
  obtain ⟨⟨oe, hoe, hde⟩, hce⟩ := H.S.f145
  refine X_cons (X_Assign (E_methF hog hdg (E_loc (v := .ref x) at9 (R_method H.S.X H.S.mReady hY.inst (.tail _ (.tail _ (.head _))) rfl ⟨rfl, E_items_nil (ready_c H (d := d + 5) hR hY K₀ (by omega) fun G₁ k₁ tt is₁ t₁ hG₁ hk₁ Y₁ K₁ hs₁ htt => ?_)⟩))))
  refine Run.perm (N' := (ro, listC []) :: (rl, listC []) :: (fN dn dx (.ref rl) (0 + (readyOf is).length) 0 t₁ u₀ is₁ ++ nL L (some (.ref td)) (some (.ref ol)) c1 c2)) (List.perm_append_comm (l₂ := [_])) (storeLoc (.tail (.tail (.tail (.tail (.tail (.tail (.tail (.tail (.tail (.tail (.tail (.tail (.tail .head))))))))))))) ?_)
  dsimp only
  refine X_cons (X_While (RndI C G k Y pr (absG is) (fun g => mL s (some (.ref nl)) (some (.ref dl)) o1 o2 o3 o4 o5 o6 (some (.ref x)) ok ob (some (.ref ro)) g none none none none none none) x dx dn rl ro (nL L (some (.ref td)) (some (.ref ol)) c1 c2)) 5 ?_ ?_)
  · have h8 : ∀ y, y ∈ ([] : List Str) ↔ Gone Y 0 y := fun y => ⟨(fun h => nomatch h), fun ⟨n, h1, _, h3⟩ => absurd (mem_five h1) h3⟩
    exact ⟨G₁, k₁, 0, is₁, readyOf is, [], _, tt, [], [], _, 0, t₁, u₀, hG₁, hk₁, Y₁, K₁, hs₁, htt, fun y => by simp, h8, K₀.rdn, fun y => ready_lvl K₀ hP (hg rfl) (fun _ => .rfl) h8 y, ⟨rfl, fun i R hR => by simp at hR⟩, rfl, fun i Z hZ => by simp at hZ, fun i hi => absurd hi (Nat.not_lt_zero _), rfl, Nat.le_refl _, rfl⟩
  · intro n p₂ hI9
    refine hI9.casesOn ?_
    intro G₂ k₂ j is₂ rs D O tt rvs Rs zo zf t u hG₂ hk₂ Y₂ K₂ hs₂ htt hO hD hnd hlv hLed hRl hRp hne hn hnj hz
    have hrs5 : rs.length ≤ 5 := by
      have := small hnd fun y hy => by
        obtain ⟨m, hm, rfl⟩ := List.mem_map.mp ((hlv y).mp hy)
        exact ⟨m, five_lt (ledL_five j m (mem_lvl.mp hm).1), rfl⟩
      simpa using this
    have tup := TupAt.ofX htt
    refine T_Cmp (E_callV (f := .builtin "len") (E_blt H.base at2) (E_items_cons (E_loc (v := .ref tt) at13 (E_items_nil (R_len_tup tup (by simp [strValues]; omega) fun t3 => E_int fun t4 => C_gtI (truthy_bool ?_))))))
    have hvl : (strValues rs).length = rs.length := by simp [strValues]
    rw [hvl]
    obtain ⟨Z, eZ, hZ⟩ := lvl_perm hnd hlv
    by_cases h0 : rs = []
    · subst h0
      rw [decide_eq_false (by decide), if_neg Bool.false_ne_true]
      have e0 : lvlL Y j = [] := by
        have := hZ.length_eq
        rw [← List.length_map (f := WN) (as := Z), ← eZ] at this
        exact List.eq_nil_of_length_eq_zero this.symm
      subst hRl
      have ez : zo = zf := by rw [hz]; exact Int.add_zero _
      subst ez
      exact X_nil (h G₂ k₂ is₂ ro _ rvs Rs zo t u hG₂ hk₂ Y₂ hLed (by omega) hRp hne e0)
    · rw [decide_eq_true (by cases rs with | nil => exact absurd rfl h0 | cons a r => simp only [List.length_cons]; omega), if_pos rfl]
      have hj5 : j < 5 := by
        cases rs with
        | nil => exact absurd rfl h0
        | cons a r =>
          obtain ⟨m, hm, _⟩ := List.mem_map.mp ((hlv a.1).mp (List.mem_cons_self ..))
          have := List.length_pos_of_mem (mem_lvl.mp hm).1
          omega
      have hDo : ∀ y ∈ rs.map (·.1), y ∉ D := fun y hy hyD => by
        obtain ⟨m, hm, rfl⟩ := List.mem_map.mp ((hlv y).mp hy)
        obtain ⟨m', h1, h2, h3⟩ := (hD _).mp hyD
        have hm := (mem_lvl.mp hm).1
        rw [WN_inj (by have := five_lt (ledL_five j m hm); omega) (by omega) h2] at hm
        exact h3 hm
      obtain ⟨hok', K₃⟩ := dones (rs.map (·.1)) K₂ (fun y hy => (hO y).mpr (.inr hy)) hnd hDo
      refine X_cons (X_ExprA (E_meth F.slot_list_append F.plainAttrs_list F.type_list_append (E_loc (v := .ref ro) at12 ⟨HasT.list (.inr (.head _)), E_items_cons (Run.fz (E_callV (f := .type "list") (E_blt H.base at4) (E_items_cons (E_loc (v := .ref tt) at13 (E_items_nil (R_listT tup (by rw [hvl, sizeLine_eq]; omega) fun la => ⟨la, _, _, .head, fun oL hoL hnL => E_items_nil (R_append .head (by rw [hLed.1, hRl, sizeLine_eq]; omega) ?_)⟩))))))⟩)))
      have gA : GLe G₂ (addG G₂ la oL) := GLe.add hnL
      have hLed' : LedAt (addG G₂ la oL) (rvs ++ [.ref la]) (Rs ++ [Z]) := (hLed.mono gA).snoc (ListG.new hoL) eZ
      revert hLed' gA
      dsimp only
      generalize addG G₂ la oL = G₃
      intro gA hLed'
      have Y₃ := Y₂.mono gA
      refine X_cons (X_ExprA (E_methB (E_loc (v := .ref x) at9 (R_bound H.S.X H.bDone Y₃.inst (.tail _ (.tail _ (.head _))) rfl fun q G₄ hG₄ hq => R_callB1 hq hoe hde (E_loc (v := .ref tt) at13 (StarRun.seq (.inr ((tup.mono gA).mono hG₄)) (by rw [hvl, sizeLine_eq]; omega) ?_))))))
      refine R_call (Nc := (rl, listC (strValues [])) :: (fN dn dx (.ref rl) zo zf t u is₂ ++ nL L (some (.ref td)) (some (.ref ol)) c1 c2)) (Nr := [(ro, listC (rvs ++ [.ref la]))]) (List.perm_append_comm (l₁ := [_])) (CallRun.bound hq ((w_done H.S (d := d + 5) hR hA (ns := rs) (rd := []) (Y₃.mono hG₄) K₂.nd (fun n hn m hm => ?_) (Small.congr hs₂.symm hS) (by omega) (by simp) hok').mono fun v G₅ N₅ k₅ hv => ?_))
      · have := List.count_pos_iff.mpr hm
        rw [K₂.sc] at this
        exact (K₂.pin m n (List.count_pos_iff.mp this)).1
      · refine hv.casesOn ?_
        intro G₅ k₅ hG₅ hk₅ is₅ rd₅ u₅ Y₅ ha₅
        have hg5 : absG is₅ = ((rs.map (·.1)).foldl gDone (absG is₂, [])).1 := congrArg Prod.fst ha₅
        have hr5 : rd₅.map (·.1) = ((rs.map (·.1)).foldl gDone (absG is₂, [])).2 := congrArg Prod.snd ha₅
        have hs₅ : shape (absG is₅) = shape (absG is) := by rw [hg5, shape_gDones]; exact hs₂
        rw [← hg5, ← hr5] at K₃
        have hD5 : ∀ y, y ∈ D ++ rs.map (·.1) ↔ Gone Y (j + 1) y := fun y => by rw [List.mem_append, gone_next, hD, hlv]
        have hO5 : ∀ y, y ∈ O ↔ y ∈ D ++ rs.map (·.1) := fun y => by rw [List.mem_append]; exact hO y
        have hrd5 : rd₅.length ≤ 5 := by
          have := small K₃.rdn fun y hy => (hg hs₅ y).mp ((K₃.rdm y).mp hy).1
          simpa using this
        refine Run.perm (N' := (ro, listC (rvs ++ [.ref la])) :: (rl, listC (strValues rd₅)) :: (fN dn dx (.ref rl) zo (zf + rs.length) t u₅ is₅ ++ nL L (some (.ref td)) (some (.ref ol)) c1 c2)) (List.perm_append_comm (l₂ := [_])) ?_
        refine X_one (X_Assign (E_methF hog hdg (E_loc (v := .ref x) at9 (R_method H.S.X H.S.mReady Y₅.inst (.tail _ (.tail _ (.head _))) rfl ⟨rfl, E_items_nil (ready_c H (d := d + 5) hR Y₅ K₃ (by omega) fun G₆ k₆ tt₆ is₆ t₆ hG₆ hk₆ Y₆ K₆ hs₆ htt₆ => ?_)⟩))))
        refine Run.perm (N' := (ro, listC (rvs ++ [.ref la])) :: (rl, listC []) :: (fN dn dx (.ref rl) (zo + rd₅.length) (zf + rs.length) t₆ u₅ is₆ ++ nL L (some (.ref td)) (some (.ref ol)) c1 c2)) (List.perm_append_comm (l₂ := [_])) (storeLoc (.tail (.tail (.tail (.tail (.tail (.tail (.tail (.tail (.tail (.tail (.tail (.tail (.tail .head))))))))))))) ?_)
        have hlvne : lvlL Y j ≠ [] := fun e => by
          have := hZ.length_eq
          rw [e, ← List.length_map (f := WN) (as := Z), ← eZ] at this
          exact h0 (List.eq_nil_of_length_eq_zero (by simpa using this))
        have hsh := led_shrinks hlvne
        refine ⟨(ledL Y (j + 1)).length, by omega, G₆, k₆, j + 1, is₆, rd₅, D ++ rs.map (·.1), O ++ rd₅.map (·.1), tt₆, _, Rs ++ [Z], _, _, t₆, u₅, GLe.trans hG₂ (GLe.trans gA (GLe.trans hG₄ (GLe.trans hG₅ hG₆))), Nat.le_trans hk₂ (Nat.le_trans hk₅ hk₆), Y₆, K₆, hs₆.trans hs₅, htt₆, fun y => by rw [List.mem_append, hO5], hD5, K₃.rdn, ready_lvl K₃ hP (hg hs₅) hO5 hD5, hLed'.mono (GLe.trans hG₄ (GLe.trans hG₅ hG₆)), by rw [List.length_append, hRl]; rfl, fun i W hW => ?_, fun i hi => ?_, rfl, by omega, by rw [hz]⟩
        · rcases Nat.lt_or_ge i j with hi | hi
          · rw [List.getElem?_append_left (by omega)] at hW
            exact hRp i W hW
          · rw [List.getElem?_append_right (by omega)] at hW
            have hi0 : i = j := by
              have := (List.getElem?_eq_some_iff.mp hW).1
              simp only [List.length_cons, List.length_nil] at this
              omega
            subst hi0
            rw [hRl, Nat.sub_self] at hW
            cases hW
            exact hZ
        · rcases Nat.lt_or_ge i j with h' | h'
          · exact hne i h'
          · rw [show i = j by omega]; exact hlvne
end Four
end Mine

open PySem PySem.Calls PyProof.Rows
set_option Elab.async false
set_option linter.unusedVariables false
set_option maxRecDepth 100000
namespace Mine
section
variable {C : Cx} {A : Around} {L : Addr} {p : Pt} {env : Env}
/-- two lists of lists of texts, row for row the same -/
theorem C_neRows {l b : Addr} {vs ws : List Value} {Q : Value → Pt → Prop} (hu : A.units + 1 < cLine) (hl : ListAt p.G l vs ∨ (l, listC vs) ∈ p.N) (hb : ListAt p.G b ws ∨ (b, listC ws) ∈ p.N) (hlen : vs.length = ws.length)
    (hp : ∀ j, j < vs.length → ∃ a a' ls ls', vs[j]? = some (Value.ref a) ∧ ws[j]? = some (Value.ref a') ∧ ListAt p.G a (strValues ls) ∧ ListAt p.G a' (strValues ls') ∧ ls.map (·.1) = ls'.map (·.1))
    (h : Q (.bool false) p) : Run C A L (compareOp .NotEq (.ref l) (.ref b)) p Q := .of fun s S T => by
  show wpAny _ A (richCompare .NotEq (.ref l) (.ref b)) _ _ s
  refine SeqAt.RcNeAt.lists (e := fun _ => true) (isList_of hl S) (isList_of hb S) (by simpa using hlen) (Nat.lt_of_succ_lt hu) (fun j j1 j2 => ?_) _ _ _ _ ?_
  · have j1' : j < vs.length := by simpa using j1
    have j2' : j < ws.length := by simpa using j2
    obtain ⟨a, a', ls, ls', e1, e2, t1, t2, e⟩ := hp j j1'
    have e1' : vs.toArray[j] = .ref a := by simpa [j1'] using e1
    have e2' : ws.toArray[j] = .ref a' := by simpa [j2'] using e2
    rw [e1', e2']
    by_cases haa : a = a'
    · subst haa; exact SeqAt.EqAt.same _
    · have hll : ls.length = ls'.length := by simpa using congrArg List.length e
      refine SeqAt.EqAt.of_refs haa ?_
      have := SeqAt.RcAt.lists (A := A.in1) (e := fun _ => true) (isList_of (.inl t1) S) (isList_of (.inl t2) S) (by simpa [strValues] using hll) (by show A.units + 1 < cLine; exact hu) (fun i i1 i2 => ?_)
      · have e3 : ((List.range (strValues ls).toArray.size).all fun _ => true) = true := by simp
        rw [e3] at this; exact this
      · have i1' : i < ls.length := by simpa [strValues] using i1
        have i2' : i < ls'.length := by simpa [strValues] using i2
        have a1 : (strValues ls).toArray[i] = .str ls[i].1 ls[i].2 := by simp [strValues]
        have a2 : (strValues ls').toArray[i] = .str ls'[i].1 ls'[i].2 := by simp [strValues]
        have a3 : ls[i].1 = ls'[i].1 := by
          have := congrArg (fun l => l[i]?) e
          simpa [i1', i2'] using this
        rw [a1, a2, ← a3]
        have := SeqAt.EqAt.str_str (A := A.in1.in1) (s := s) ls[i].1 ls[i].2 ls[i].1 ls'[i].2
        simpa using this
  · have : (!(List.range vs.toArray.size).all fun _ => true) = false := by simp
    rw [this]
    exact ⟨p, S, .refl, h⟩
end
/-- the rows that are due, by number -/
theorem due_idx {Y : Nat → List Pc} {k : Nat} (hk : k ≤ 5) (h : lvlL Y k = []) (h0 : ∀ j < k, lvlL Y j ≠ []) : (List.range 5).filter (fun a => !(lvlL Y a).isEmpty) = List.range k := by
  have e : List.range 5 = List.range k ++ List.range' k (5 - k) := by
    have := (by decide : ∀ k < 6, k = 0 ∨ k = 1 ∨ k = 2 ∨ k = 3 ∨ k = 4 ∨ k = 5) k (Nat.lt_succ_of_le hk)
    rcases this with rfl | rfl | rfl | rfl | rfl | rfl <;> rfl
  rw [e, List.filter_append]
  have h1 : (List.range k).filter (fun a => !(lvlL Y a).isEmpty) = List.range k := List.filter_eq_self.mpr fun j hj => by
    have := h0 j (List.mem_range.mp hj)
    cases e : lvlL Y j with
    | nil => exact absurd e this
    | cons a l => rfl
  have h2 : (List.range' k (5 - k)).filter (fun a => !(lvlL Y a).isEmpty) = [] := List.filter_eq_nil_iff.mpr fun j hj => by
    rw [lvl_end h j (List.mem_range'_1.mp hj).1]
    exact Bool.false_ne_true
  rw [h1, h2, List.append_nil]
theorem ledRows_get {Y : Nat → List Pc} {n i : Nat} (h : i ≤ n) : (ledRows Y n)[i]? = some (ledL Y i) := by
  unfold ledRows
  rw [List.getElem?_map, List.getElem?_range (by omega)]; rfl
/-- a sorted row -/
inductive SrtR (Y : Nat → List Pc) (a : Nat) : Value → (Addr → Option Obj) → Nat → Prop
  | mk {G : Addr → Option Obj} {k : Nat} (D : Addr) (ls : List (Str × Tok)) (h1 : ListAt G D (strValues ls)) (h2 : (ls.map (·.1)).Perm ((lvlL Y a).map WN)) (h3 : sortedS (ls.map (·.1)) = true) : SrtR Y a (.ref D) G k
theorem SrtR.monoR {Y : Nat → List Pc} : MonoR (SrtR Y) := fun a y G G' k k' h hG _ => by
  obtain ⟨D, ls, h1, h2, h3⟩ := h
  exact ⟨D, ls, h1.mono hG, h2, h3⟩
theorem srt_pairs {Y : Nat → List Pc} {G : Addr → Option Obj} {k k' n : Nat} {ys zs : List Value} (h : Made (SrtR Y) (List.range n) ys G k) (h' : Made (SrtR Y) (List.range n) zs G k') :
    ys.length = zs.length ∧ ∀ j, j < ys.length → ∃ a a' ls ls', ys[j]? = some (Value.ref a) ∧ zs[j]? = some (Value.ref a') ∧ ListAt G a (strValues ls) ∧ ListAt G a' (strValues ls') ∧ ls.map (·.1) = ls'.map (·.1) := by
  refine ⟨h.1.trans h'.1.symm, fun j hj => ?_⟩
  have hn : j < n := by have := h.1; rw [List.length_range] at this; omega
  have hz : j < zs.length := by have := h'.1; rw [List.length_range] at this; omega
  have e1 := h.2 j j ys[j] (by simp [hn]) (by simp [hj])
  have e2 := h'.2 j j zs[j] (by simp [hn]) (by simp [hz])
  rw [List.getElem?_eq_getElem hj, List.getElem?_eq_getElem hz]
  generalize ys[j] = y at e1 ⊢
  generalize zs[j] = z at e2 ⊢
  obtain ⟨D, ls, a1, a2, a3⟩ := e1
  obtain ⟨D', ls', b1, b2, b3⟩ := e2
  exact ⟨D, D', ls, ls', rfl, rfl, a1, b1, sorted_one (a2.trans b2.symm) a3 b3⟩
namespace Four
variable {C : Cx} {A : Around} {L : Addr}
inductive DuI (G : Addr → Option Obj) (k : Nat) (Y : Nat → List Pc) (M : List (Addr × Cell)) (Cc : Addr) (i : Nat) (ys : List Value) : Pt → Prop
  | mk (G' : Addr → Option Obj) (k' : Nat) (o : Option Value) (h1 : GLe G G') (h2 : k ≤ k') (h3 : LedAt G' ys ((List.range i).map (lvlL Y))) (h4 : i ≤ 5) : DuI G k Y M Cc i ys ⟨G', [], (Cc + 1, cellC o) :: M, k'⟩
theorem row_vals {Y : Nat → List Pc} {i : Nat} {ll lm : List (Str × Tok)} {ys : List Value} {G : Addr → Option Obj} {k : Nat} (h1 : ll.map (·.1) = (ledL Y i).map WN) (h2 : lm.map (·.1) = (ledL Y (i + 1)).map WN)
    (hM : Made (fun a y _ _ => (strValues ll)[a]? = some y) ((List.range ll.length).filter fun a => (ll[a]?.map fun q => !decide (q.1 ∈ lm.map (·.1))).getD false) ys G k) : ∃ ls, ys = strValues ls ∧ ls.map (·.1) = (lvlL Y i).map WN := by
  refine ⟨ll.filter fun q => !decide (q.1 ∈ lm.map (·.1)), ?_, ?_⟩
  · rw [hM.vals (val := fun a => (strValues ll)[a]?) fun a y h => h]
    unfold strValues
    rw [← range_sel (fun q : Str × Tok => !decide (q.1 ∈ lm.map (·.1))) ll, List.map_filterMap]
    congr 1
    funext a
    rw [List.getElem?_map]
  · have e : (ll.filter fun q => !decide (q.1 ∈ lm.map (·.1))).map (·.1) = (ll.map (·.1)).filter fun x => !decide (x ∈ lm.map (·.1)) := by rw [List.filter_map]; rfl
    rw [e, h1, h2, List.filter_map]
    unfold lvlL
    congr 1
    refine List.filter_congr fun n hn => ?_
    show (!decide (WN n ∈ (ledL Y (i + 1)).map WN)) = !decide (n ∈ ledL Y (i + 1))
    congr 1
    refine decide_eq_decide.mpr ⟨fun h => ?_, fun h => List.mem_map_of_mem h⟩
    obtain ⟨m, hm, e⟩ := List.mem_map.mp h
    rw [← WN_inj (by have := five_lt (ledL_five _ m hm); omega) (by have := five_lt (ledL_five _ n hn); omega) e]; exact hm
theorem seg7a (H : Cx4 C) {d : Nat} (hR : Room A (d + 7)) {s o1 o2 o3 o4 o5 o6 osr ok ob oro og c1 c2 : Option Value} {nl td dl ol : Addr} {lvs : List Value} {Y : Nat → List Pc} {M : List (Addr × Cell)} {G : Addr → Option Obj} {k : Nat} {Q : Flow → Pt → Prop}
    (hol : ListG G ol lvs) (hL : LedAt G lvs (ledRows Y 5))
    (h : ∀ G' k' du dvs, GLe G G' → k ≤ k' → ListG G' du dvs → LedAt G' dvs ((List.range 5).map (lvlL Y)) →
      Run C A L (execs (bodyL.drop 15) (envL L)) ⟨G', mL s (some (.ref nl)) (some (.ref dl)) o1 o2 o3 o4 o5 o6 osr ok ob oro og (some (.ref du)) none none none none none, nL L (some (.ref td)) (some (.ref ol)) c1 c2 ++ M, k'⟩ Q) :
    Run C A L (execs (bodyL.drop 14) (envL L)) ⟨G, mL s (some (.ref nl)) (some (.ref dl)) o1 o2 o3 o4 o5 o6 osr ok ob oro og none none none none none none, nL L (some (.ref td)) (some (.ref ol)) c1 c2 ++ M, k⟩ Q := by
  refine X_cons (X_Assign_ListCompK (cl := [("led", L + 2)]) [] rfl (by decide) (by simp) (by simp) (E_callV (f := .type "range") (E_blt H.base at3) (E_items_cons (E_int fun t5 => E_items_nil (R_range (n := 5) fun rg G₇ hG₇ hrg => ⟨5, _, DuI G₇ k Y (nL L (some (.ref td)) (some (.ref ol)) c1 c2 ++ M), IterOn.range hR.hd hrg (by omega), ?_, ?_, ?_, ?_⟩)))))
  · rintro Cc i ys p ⟨_, _, _, _, _, h3, h4⟩
    rw [h3.1, sizeLine_eq]
    simp only [List.length_map, List.length_range]; omega
  · exact fun Cc => ⟨G₇, k, none, GLe.refl _, Nat.le_refl _, ⟨rfl, fun i R hR => by simp at hR⟩, Nat.zero_le _⟩
  · intro Cc i ys p₃ hi hI3 _
    refine hI3.casesOn ?_
    intro G₁ k₁ o hG₁ hk₁ hys hi5
    refine AsgRun.name fun v ⟨_, t6, hv⟩ => ?_
    subst hv
    refine storeCell (c := Cc + 1) .head rfl (R_tests_nil ?_)
    dsimp only
    rw [if_pos rfl]
    have hol₁ := (hol.mono hG₇).mono hG₁
    have hL₁ := (hL.mono hG₇).mono hG₁
    obtain ⟨la, ll, e1, e2, e3⟩ := hL₁.2 i (ledL Y i) (ledRows_get (by omega))
    obtain ⟨lb, lm, f1, f2, f3⟩ := hL₁.2 (i + 1) (ledL Y (i + 1)) (ledRows_get (by omega))
    have hll : ll.length = (ledL Y i).length := by simpa using congrArg List.length e3
    have hll5 : (ledL Y i).length ≤ 5 := ledL_len i
    refine Run.fz (E_Comp1 (R := fun a y _ _ => (strValues ll)[a]? = some y) (fun a => (ll[a]?.map fun q => !decide (q.1 ∈ lm.map (·.1))).getD false) [("led", L + 2), ("k", Cc + 1)] (fun _ _ _ _ _ _ h _ _ => h) (E_Sb F.slot_list_getitem.lookup (E_cell (c := L + 2) at3 rfl (E_cell (c := Cc + 1) at0 rfl ⟨HasTy.listG hol₁, G_list (.inl hol₁.at) (by omega) (by omega) (x := .ref la) e1 ?_⟩))))
    have hvl : (strValues ll).length = ll.length := by simp [strValues]
    refine ⟨(strValues ll).length, _, IterOn.list hR.hd e2.at, by rw [hvl, sizeLine_eq]; omega, fun Cc2 a v G₂ k₂ ha hva hG₂ hk₂ => ?_, fun D ys2 G₂ k₂ hG₂ hk₂ hM => ?_⟩
    · obtain ⟨_, hva⟩ := hva
      rw [hvl] at ha
      have hv2 : v = .str ll[a].1 ll[a].2 := by
        have : (strValues ll)[a]? = some (.str ll[a].1 ll[a].2) := by simp [strValues, ha]
        rw [this] at hva; exact (Option.some.inj hva).symm
      rw [List.getElem?_eq_getElem ha, Option.map_some, Option.getD_some]
      subst hv2
      generalize ll[a] = q at hva
      have hol₂ := hol₁.mono hG₂
      refine R_tests_one (T_Cmp (E_loc (v := .str q.1 q.2) at0 (E_Sb F.slot_list_getitem.lookup (E_cell (c := L + 2) at3 rfl (E_BinOp (E_cell (c := Cc + 1) at0 rfl (E_int fun t7 => B_add fun t8 => ⟨HasTy.listG hol₂, G_list (.inl hol₂.at) (by omega) (by omega) (x := .ref lb) f1 (C_notInSL (.inl (f2.mono hG₂).at) (truthy_bool ⟨rfl, G₂, k₂, rfl, GLe.refl _, Nat.le_refl _, fun _ => E_loc (v := .str q.1 q.2) at0 ⟨G₂, k₂, rfl, GLe.refl _, Nat.le_refl _, hva⟩⟩))⟩)))))))
    · refine ⟨D, _, _, .head, fun oD hoD hnD => ⟨_, k₂, _, GLe.trans hG₁ (GLe.trans hG₂ (GLe.add hnD)), Nat.le_trans hk₁ hk₂, ?_, hi⟩⟩
      obtain ⟨ls, g1, g2⟩ := row_vals e3 f3 (hvl ▸ hM)
      rw [List.range_succ, List.map_append]
      exact (hys.mono (GLe.trans hG₂ (GLe.add hnD))).snoc (ls := ls) (by rw [← g1]; exact ListG.new hoD) g2
  · intro Cc D ys p₃ hI3 _
    refine hI3.casesOn ?_
    intro G₁ k₁ o hG₁ hk₁ hys hi5
    refine Run.freezeQ fun G₂ hG₂ hD => Run.freezeQ fun G₃ hG₃ _ => storeLoc (.tail (.tail (.tail (.tail (.tail (.tail (.tail (.tail (.tail (.tail (.tail (.tail (.tail (.tail .head)))))))))))))) ?_
    exact h G₃ k₁ D ys (GLe.trans hG₇ (GLe.trans hG₁ (GLe.trans hG₂ hG₃))) hk₁ ((ListG.ofQ hD).mono hG₃) (hys.mono (GLe.trans hG₂ hG₃))
end Four
end Mine

open PySem PySem.Calls PyProof.Rows
set_option Elab.async false
set_option linter.unusedVariables false
set_option maxRecDepth 100000
namespace Mine
namespace Four
variable {C : Cx} {A : Around} {L : Addr}
theorem seg7b (H : Cx4 C) {d : Nat} (hR : Room A (d + 7)) {s o1 o2 o3 o4 o5 o6 ok ob og c1 c2 : Option Value} {nl td dl ol x dx dn rl ro du : Addr} {z : Int} {t u : Tok} {rvs dvs : List Value} {Rs : List (List Nat)} {Y : Nat → List Pc} {is : List NI} {G : Addr → Option Obj} {k : Nat} {Q : Flow → Pt → Prop}
    (hY : LayF C G x dx dn is) (hro : ListG G ro rvs) (hRv : LedAt G rvs Rs) (h5 : Rs.length ≤ 5) (hRp : ∀ (i : Nat) (Z : List Nat), Rs[i]? = some Z → Z.Perm (lvlL Y i)) (hne : ∀ i < Rs.length, lvlL Y i ≠ []) (hend : lvlL Y Rs.length = [])
    (hdu : ListG G du dvs) (hDv : LedAt G dvs ((List.range 5).map (lvlL Y)))
    (h : ∀ G' k' M, GLe G G' → k ≤ k' →
      Run C A L (execs (bodyL.drop 16) (envL L)) ⟨G', mL s (some (.ref nl)) (some (.ref dl)) o1 o2 o3 o4 o5 o6 (some (.ref x)) ok ob (some (.ref ro)) og (some (.ref du)) none none none none none, nL L (some (.ref td)) (some (.ref ol)) c1 c2 ++ M, k'⟩ Q) :
    Run C A L (execs (bodyL.drop 15) (envL L)) ⟨G, mL s (some (.ref nl)) (some (.ref dl)) o1 o2 o3 o4 o5 o6 (some (.ref x)) ok ob (some (.ref ro)) og (some (.ref du)) none none none none none, nL L (some (.ref td)) (some (.ref ol)) c1 c2 ++ ((rl, listC []) :: fN dn dx (.ref rl) z z t u is), k⟩ Q := by
  have sz : ∀ {ls : List (Str × Tok)} {i : Nat} {Z : List Nat}, ls.map (·.1) = Z.map WN → Z.Perm (lvlL Y i) → ls.length ≤ 5 := fun {ls i Z} e hp => by
    have h1 : ls.length = Z.length := by simpa using congrArg List.length e
    have h2 := hp.length_eq
    have h3 : (lvlL Y i).length ≤ (ledL Y i).length := List.length_filter_le _ _
    have h4 := ledL_len (Y := Y) i
    omega
  refine X_cons (X_If (T_BoolOp (T_Or_cons (T_Cmp (Run.fz (E_Comp1 (R := SrtR Y) (fun _ => true) [] SrtR.monoR (E_loc (v := .ref ro) at12 ⟨rvs.length, _, IterOn.list hR.hd hro.at, by rw [hRv.1, sizeLine_eq]; omega, fun Cc a v G₁ k₁ ha hva hG₁ hk₁ => ?_, fun D1 ys G₁ k₁ hG₁ hk₁ hM => ?_⟩)))))))
  · obtain ⟨_, hva⟩ := hva
    have ha' : a < Rs.length := hRv.1 ▸ ha
    obtain ⟨la, ls, e1, e2, e3⟩ := hRv.2 a Rs[a] (by simp [ha'])
    have hp := hRp a Rs[a] (by simp [ha'])
    rw [hva] at e1
    have ev := Option.some.inj e1
    subst ev
    refine Tst.none fun _ => Run.fz (E_callV (f := .builtin "sorted") (E_blt H.base at5) (E_items_cons (E_loc (v := .ref la) at0 (E_items_nil (R_sortedS (.inl (e2.mono hG₁).at) (by have := sz e3 hp; omega) fun D ls' hs1 hs2 => ⟨D, _, _, .head, fun oD hoD hnD => ⟨_, k₁, rfl, GLe.add hnD, Nat.le_refl _, ⟨D, ls', (ListG.new hoD).at, ?_, hs2⟩⟩⟩)))))
    rw [e3] at hs1
    exact hs1.trans (hp.map WN)
  refine ⟨D1, _, _, .head, fun o1' ho1 hn1 => ?_⟩
  have g1 : GLe G (addG G₁ D1 o1') := GLe.trans hG₁ (GLe.add hn1)
  have hD1 : ListG (addG G₁ D1 o1') D1 ys := ListG.new ho1
  rw [show (List.range rvs.length).filter (fun _ => true) = List.range Rs.length by rw [hRv.1]; exact List.filter_eq_self.mpr fun _ _ => rfl] at hM
  have hM := hM.mono SrtR.monoR (GLe.add hn1 : GLe G₁ (addG G₁ D1 o1')) (Nat.le_refl _)
  revert g1 hD1 hM
  dsimp only
  generalize addG G₁ D1 o1' = G₂
  intro g1 hD1 hM
  refine Run.fz (E_Comp1 (R := SrtR Y) (fun a => !(lvlL Y a).isEmpty) [] SrtR.monoR (E_loc (v := .ref du) at14 ⟨dvs.length, _, IterOn.list hR.hd (hdu.mono g1).at, by rw [hDv.1, sizeLine_eq]; simp, fun Cc a v G₃ k₃ ha hva hG₃ hk₃ => ?_, fun D2 zs G₃ k₃ hG₃ hk₃ hM2 => ?_⟩))
  · obtain ⟨_, hva⟩ := hva
    have ha' : a < 5 := by have := hDv.1; simp only [List.length_map, List.length_range] at this; omega
    obtain ⟨la, ls, e1, e2, e3⟩ := hDv.2 a (lvlL Y a) (by rw [List.getElem?_map, List.getElem?_range ha']; rfl)
    rw [hva] at e1
    have ev := Option.some.inj e1
    subst ev
    have e2' := (e2.mono g1).mono hG₃
    have hl5 := sz e3 (.refl _)
    have hb : (!(lvlL Y a).isEmpty) = !(strValues ls).isEmpty := by
      have := congrArg List.length e3
      simp only [List.length_map] at this
      congr 1
      rw [Bool.eq_iff_iff, List.isEmpty_iff_length_eq_zero, List.isEmpty_iff_length_eq_zero, strValues, List.length_map, this]
    rw [hb]
    refine R_tests_one (T_Cmp (E_loc (v := .ref la) at0 (E_List (E_items_nil (newList_Q (by show 0 ≤ sizeLine; exact Nat.zero_le _) fun bl => C_neL (vs := strValues ls) hR.u (.inl e2'.at) at0 (Run.freezeQ fun G₄ hG₄ _ => truthy_bool ⟨rfl, G₄, k₃, rfl, hG₄, Nat.le_refl _, fun _ => ?_⟩))))))
    refine Run.fz (E_callV (f := .builtin "sorted") (E_blt H.base at5) (E_items_cons (E_loc (v := .ref la) at0 (E_items_nil (R_sortedS (.inl (e2'.mono hG₄).at) (by omega) fun D ls' hs1 hs2 => ⟨D, _, _, .head, fun oD hoD hnD => ⟨_, k₃, rfl, GLe.add hnD, Nat.le_refl _, ⟨D, ls', (ListG.new hoD).at, by rw [← e3]; exact hs1, hs2⟩⟩⟩)))))
  refine ⟨D2, _, _, .head, fun o2' ho2 hn2 => ?_⟩
  have g2 : GLe G₂ (addG G₃ D2 o2') := GLe.trans hG₃ (GLe.add hn2)
  have hD2 : ListG (addG G₃ D2 o2') D2 zs := ListG.new ho2
  have e5 : dvs.length = 5 := by have := hDv.1; simpa using this
  rw [e5, due_idx h5 hend hne] at hM2
  have hM2 := hM2.mono SrtR.monoR (GLe.add hn2 : GLe G₃ (addG G₃ D2 o2')) (Nat.le_refl _)
  revert g2 hD2 hM2
  dsimp only
  generalize addG G₃ D2 o2' = G₄
  intro g2 hD2 hM2
  obtain ⟨l1, l2⟩ := srt_pairs (hM.mono SrtR.monoR g2 (Nat.le_refl _)) hM2
  have gG4 := GLe.trans g1 g2
  have Y₄ := hY.mono gG4
  obtain ⟨⟨oa, hoa, hda⟩, hca⟩ := H.S.f131
  refine C_neRows (by have := hR.units; omega) (.inl (hD1.mono g2).at) (.inl hD2.at) l1 l2 (truthy_bool ?_)
  rw [if_neg Bool.false_ne_true]
  refine T_Or_cons (T_val (E_methF hoa hda (E_loc (v := .ref x) at9 (R_method H.S.X H.S.mAct Y₄.inst (List.mem_append_right _ (.tail _ (.head _))) rfl ⟨rfl, E_items_nil ?_⟩))))
  refine R_call (Nc := (rl, listC []) :: (fN dn dx (.ref rl) z z t u is ++ [])) (Nr := nL L (some (.ref td)) (some (.ref ol)) c1 c2) (by rw [List.append_nil]; exact List.perm_append_comm) ((w_active H.S (d := d + 5) hR Y₄ (Nat.zero_le _)).mono fun v G₅ N₅ k₅ hv => ?_)
  refine hv.casesOn ?_
  intro k₅ hk₅
  refine truthy_bool ?_
  rw [show (decide (z < z) || !([] : List Value).isEmpty) = false by rw [decide_eq_false (Int.lt_irrefl z)]; rfl, if_neg Bool.false_ne_true]
  refine T_Or_nil ?_
  rw [if_neg Bool.false_ne_true]
  refine Run.perm (N' := nL L (some (.ref td)) (some (.ref ol)) c1 c2 ++ ((rl, listC []) :: fN dn dx (.ref rl) z z t u is)) (by rw [List.append_nil]; exact List.perm_append_comm) (X_nil ?_)
  exact h G₄ k₅ _ gG4 (Nat.le_trans hk₁ (Nat.le_trans hk₃ hk₅))
end Four
end Mine

open PySem PySem.Calls PyProof.Rows
set_option Elab.async false
set_option linter.unusedVariables false
set_option maxRecDepth 100000
namespace Mine
theorem pick_one {vs : List Value} : slicePick vs.toArray none none (some 1) = vs.toArray := by
  have e : slicePick vs.toArray none none (some 1) = slicePick vs.toArray none none none := rfl
  rw [e, PySem.W.kmk_pick_nat (a := 0) (b := vs.length) _ (by simp [sliceBounds])]
  simp
theorem pick_row {ls : List (Str × Tok)} {st : Int} (h : st = 1 ∨ st = -1) : ∃ ls' : List (Str × Tok), (slicePick (strValues ls).toArray none none (some st)).toList = strValues ls' ∧ ls'.Perm ls := by
  rcases h with rfl | rfl
  · exact ⟨ls, by rw [pick_one], .refl _⟩
  · refine ⟨ls.reverse, ?_, List.reverse_perm _⟩
    rw [PySem.W.krv_pick]
    simp [strValues]
/-- names that stand for numbers -/
theorem row_nums {S : List Nat} {l : List Str} (h : l.Perm (S.map WN)) : ∃ Z : List Nat, l = Z.map WN ∧ Z.Perm S := by
  obtain ⟨Z, h1, h2⟩ := perm_map_inv h
  exact ⟨Z, h1, h2⟩
where
  perm_map_inv : ∀ {S : List Nat} {l : List Str}, l.Perm (S.map WN) → ∃ Z : List Nat, l = Z.map WN ∧ Z.Perm S := by
    intro S l
    induction l generalizing S with
    | nil =>
      intro h
      have := List.map_eq_nil_iff.mp (List.nil_perm.mp h)
      subst this
      exact ⟨[], rfl, .refl _⟩
    | cons a l ih =>
      intro h
      obtain ⟨n, hn, e⟩ := List.mem_map.mp (h.mem_iff.mp (List.mem_cons_self ..))
      subst e
      have hp := List.perm_cons_erase hn
      obtain ⟨Z, h1, h2⟩ := ih (S := S.erase n) ((h.trans (hp.map WN)).cons_inv)
      exact ⟨n :: Z, by rw [List.map_cons, h1], (h2.cons n).trans hp.symm⟩
/-! tables -/
namespace Pc
theorem table_ok : ∀ {rows : List (Nat × List Pc)} {T : List Pc}, (∀ q ∈ rows, ∀ p ∈ q.2, p.Ok) → (∀ p ∈ T, p.Ok) → ∀ p ∈ table rows T, p.Ok
  | [], _, _, h => h
  | q :: r, T, h1, h2 => table_ok (rows := r) (fun q hq => h1 q (List.mem_cons_of_mem _ hq)) (sub_ok (h1 q (List.mem_cons_self ..)) h2)
theorem table_len : ∀ {rows : List (Nat × List Pc)} {T : List Pc}, (∀ q ∈ rows, q.2.length ≤ 6) → (table rows T).length ≤ T.length * 6 ^ rows.length
  | [], T, _ => by rw [List.length_nil, Nat.pow_zero, Nat.mul_one]; exact Nat.le_refl _
  | q :: r, T, h => by
    have h1 := table_len (rows := r) (T := sub q.1 q.2 T) fun q hq => h q (List.mem_cons_of_mem _ hq)
    have h2 : (sub q.1 q.2 T).length ≤ T.length * 6 := sub_len (by decide) (h q (List.mem_cons_self ..))
    refine Nat.le_trans h1 (Nat.le_trans (Nat.mul_le_mul_right _ h2) ?_)
    rw [List.length_cons, Nat.pow_succ, Nat.mul_assoc, Nat.mul_comm 6]
    exact Nat.le_refl _
theorem signs_ok {T : List Pc} (h : ∀ p ∈ T, p.Ok) : ∀ p ∈ sub 6 [.lit [62]] (sub 5 [.lit [60]] T), p.Ok :=
  sub_ok (fun p hp => by rw [List.mem_singleton.mp hp]; exact ⟨by decide, by decide⟩) (sub_ok (fun p hp => by rw [List.mem_singleton.mp hp]; exact ⟨by decide, by decide⟩) h)
theorem signs_len {T : List Pc} : (sub 6 [.lit [62]] (sub 5 [.lit [60]] T)).length ≤ T.length := by
  refine Nat.le_trans (sub_len (n := 1) (Nat.le_refl _) (Nat.le_refl _)) ?_
  rw [Nat.mul_one]
  refine Nat.le_trans (sub_len (n := 1) (Nat.le_refl _) (Nat.le_refl _)) ?_
  rw [Nat.mul_one]; exact Nat.le_refl _
theorem unesc_ok {rows : List (Nat × List Pc)} {T : List Pc} (h1 : ∀ q ∈ rows, ∀ p ∈ q.2, p.Ok) (h2 : ∀ p ∈ T, p.Ok) : ∀ p ∈ unesc rows T, p.Ok := fun p hp => by
  obtain ⟨q, hq, rfl⟩ := List.mem_map.mp hp
  exact dec_ok (table_ok h1 (signs_ok h2) q hq)
theorem unesc_len {rows : List (Nat × List Pc)} {T : List Pc} (h : ∀ q ∈ rows, q.2.length ≤ 6) : (unesc rows T).length ≤ T.length * 6 ^ rows.length := by
  unfold unesc
  rw [List.length_map]
  exact Nat.le_trans (table_len h) (Nat.mul_le_mul_right _ signs_len)
theorem step_congr {R R' : List Nat} {Y : Nat → List Pc} (h : ∀ n, n ∈ R ↔ n ∈ R') : step R Y = step R' Y := by
  funext p
  cases p with
  | lit l => rfl
  | ref w t =>
    cases t with
    | succ t => rfl
    | zero =>
      unfold step
      simp only [h]
end Pc
theorem filter_split (p : Nat → Bool) : ∀ l : List Nat, (l.filter fun n => !p n).length + (l.filter p).length = l.length
  | [] => rfl
  | a :: l => by
    have ih := filter_split p l
    rw [List.filter_cons, List.filter_cons]
    cases p a
    · simp only [Bool.not_false, if_true, Bool.false_eq_true, if_false, List.length_cons]; omega
    · simp only [Bool.not_true, if_true, Bool.false_eq_true, if_false, List.length_cons]; omega
theorem lvl_len {Y : Nat → List Pc} {k : Nat} : (lvlL Y k).length + (ledL Y (k + 1)).length = (ledL Y k).length := by
  rw [← filter_split (fun n => decide (n ∈ ledL Y (k + 1))) (ledL Y k)]
  refine congrArg _ (List.Perm.length_eq ((List.perm_ext_iff_of_nodup (ledL_nodup (k + 1)) ((ledL_nodup k).sublist List.filter_sublist)).mpr fun a => ?_))
  rw [List.mem_filter, decide_eq_true_eq]
  exact ⟨fun h => ⟨ledL_down k a h, h⟩, And.right⟩
theorem lvl_free {Y : Nat → List Pc} {k : Nat} : ∀ i ∈ lvlL Y k, ∀ j ∈ lvlL Y k, Pc.ref j 0 ∉ Y i := fun i hi j hj hm => by
  obtain ⟨h1, _⟩ := mem_lvl.mp hi
  obtain ⟨h3, h4⟩ := mem_lvl.mp hj
  exact h4 (mem_nextL.mpr ⟨ledL_five k j h3, i, h1, hm⟩)
theorem lvl_five {Y : Nat → List Pc} {k : Nat} : ∀ i ∈ lvlL Y k, i < 5 := fun i hi => five_lt (ledL_five k i (mem_lvl.mp hi).1)
end Mine

open PySem PySem.Calls PyProof.Rows
set_option Elab.async false
set_option linter.unusedVariables false
set_option maxRecDepth 100000
namespace Mine
theorem at15 {α : Type} {a b c d e f g h i j k m n o q x : α} {l : List α} : x ∈ a :: b :: c :: d :: e :: f :: g :: h :: i :: j :: k :: m :: n :: o :: q :: x :: l := .tail _ at14
theorem at17 {α : Type} {a b c d e f g h i j k m n o q r s x : α} {l : List α} : x ∈ a :: b :: c :: d :: e :: f :: g :: h :: i :: j :: k :: m :: n :: o :: q :: r :: s :: x :: l := .tail _ (.tail _ at15)
theorem at18 {α : Type} {a b c d e f g h i j k m n o q r s t x : α} {l : List α} : x ∈ a :: b :: c :: d :: e :: f :: g :: h :: i :: j :: k :: m :: n :: o :: q :: r :: s :: t :: x :: l := .tail _ at17
theorem at19 {α : Type} {a b c d e f g h i j k m n o q r s t u x : α} {l : List α} : x ∈ a :: b :: c :: d :: e :: f :: g :: h :: i :: j :: k :: m :: n :: o :: q :: r :: s :: t :: u :: x :: l := .tail _ at18
theorem dput_fresh : ∀ {es : List Ent} {k : Str} {t : Tok} {v : Value}, (∀ q ∈ es, q.1 ≠ k) → dput es k t v = es ++ [(k, t, v)]
  | [], _, _, _, _ => rfl
  | q :: r, k, t, v, h => by
    unfold dput
    rw [if_neg (h q (List.mem_cons_self ..)), dput_fresh fun q hq => h q (List.mem_cons_of_mem _ hq)]; rfl
theorem wd_pos : ∀ w < 8, (Pc.wd w).length ≠ 0 := by decide
theorem key_inj {a b : Nat} (ha : a < 8) (hb : b < 8) (h : tx (Pc.key a) = tx (Pc.key b)) : a = b :=
  Pc.wd_inj a ha b hb (List.append_cancel_right (List.cons.inj (tx_inj.mp h)).2)
theorem EntsP.snoc {es : List Ent} {rows : List (Nat × List Pc)} {w : Nat} {Y : List Pc} {t u : Nat} (h : EntsP es rows) (h1 : 0 < t) (h2 : 0 < u) (h3 : t ≠ u) : EntsP (es ++ [(tx (Pc.key w), t, Value.str (tx (Pc.flats Y)) u)]) (rows ++ [(w, Y)]) := by
  refine ⟨by simp [h.1], fun i e he => ?_⟩
  rcases Nat.lt_or_ge i es.length with hi | hi
  · rw [List.getElem?_append_left hi] at he
    rw [List.getElem?_append_left (by rw [← h.1]; exact hi)]
    exact h.2 i e he
  · rw [List.getElem?_append_right hi] at he
    rw [List.getElem?_append_right (by rw [← h.1]; exact hi), ← h.1]
    have : i - es.length = 0 := by
      have := (List.getElem?_eq_some_iff.mp he).1
      simp at this; omega
    rw [this] at he ⊢
    cases he
    exact ⟨w, Y, t, u, rfl, rfl, h1, h2, h3⟩
namespace Four
variable {C : Cx} {A : Around} {L : Addr}
def rowBody : List Stmt := match (bodyL[17]? : Option Stmt) with
  | some (.For _ _ [_, .For _ _ b _ _, _] _ _) => b
  | _ => []
inductive NmI (C : Cx) (G : Addr → Option Obj) (k : Nat) (m : List (Str × Option Value)) (tb : Addr) (Y : Nat → List Pc) (Z : List Nat) (L td ol : Addr) (c2 : Option Value) (M : List (Addr × Cell)) (i : Nat) : Pt → Prop
  | mk (G' : Addr → Option Obj) (k' : Nat) (es : List Ent) (c1 : Option Value) (h1 : GLe G G') (h2 : k ≤ k') (h3 : EntsP es ((Z.take i).map fun w => (w, Y w))) :
    NmI C G k m tb Y Z L td ol c2 M i ⟨G', m, (tb, dictC C.w es) :: (nL L (some (.ref td)) (some (.ref ol)) c1 c2 ++ M), k'⟩
theorem rowTurn (H : Cx4 C) {d : Nat} (hR : Room A (d + 7)) {s o1 o2 o3 o4 o5 o6 osr ok ob oro og odu ord otb c1 c2 : Option Value} {nl td dl ol ra : Addr} {nS ls : List (Str × Tok)} {dvs : List Value} {Y : Nat → List Pc} {dps T : List Pc} {Z₀ : List Nat} {j : Nat} {st : Int} {ts ut : Tok} {M : List (Addr × Cell)} {G : Addr → Option Obj} {k : Nat} {Q : Flow → Pt → Prop}
    (X : Tx4 C G nl td dl nS dvs Y dps) (h29 : DictG C.w G 29 []) (hk0 : 0 < k) (hra : ListG G ra (strValues ls)) (hls : ls.map (·.1) = Z₀.map WN) (hZ₀ : Z₀.Perm (lvlL Y j)) (hne : lvlL Y j ≠ []) (hT : ∀ p ∈ T, p.Ok) (hTl : T.length ≤ 70 * 6 ^ (5 - (ledL Y j).length)) (hst : st = 1 ∨ st = -1)
    (h : ∀ G' k' u tb c1', GLe G G' → k ≤ k' → Q .next ⟨G', mL s (some (.ref nl)) (some (.ref dl)) o1 o2 o3 o4 o5 o6 osr ok ob oro og odu (some (.ref ra)) ord (some (.int st ts)) (some (.str (tx (Pc.flats (T.flatMap (Pc.step Z₀ Y)))) u)) (some (.ref tb)), nL L (some (.ref td)) (some (.ref ol)) c1' c2 ++ M, k'⟩) :
    Run C A L (execs rowBody (envL L)) ⟨G, mL s (some (.ref nl)) (some (.ref dl)) o1 o2 o3 o4 o5 o6 osr ok ob oro og odu (some (.ref ra)) ord (some (.int st ts)) (some (.str (tx (Pc.flats T)) ut)) otb, nL L (some (.ref td)) (some (.ref ol)) c1 c2 ++ M, k⟩ Q := by
  have hl5 : ls.length ≤ 5 := by
    have h1 : ls.length = Z₀.length := by simpa using congrArg List.length hls
    have h2 := hZ₀.length_eq
    have h3 := lvl_len (Y := Y) (k := j)
    have h4 := ledL_len (Y := Y) j
    omega
  obtain ⟨ls', hpk, hpp⟩ := pick_row (ls := ls) hst
  obtain ⟨Z, hZ1, hZ2⟩ := row_nums (S := Z₀) (l := ls'.map (·.1)) (by rw [← hls]; exact hpp.map _)
  have hZ := hZ2.trans hZ₀
  have hZ5 : ∀ w ∈ Z, w < 5 := fun w hw => lvl_five w (hZ.mem_iff.mp hw)
  have hZn : Z.Nodup := hZ.nodup_iff.mpr ((ledL_nodup j).sublist List.filter_sublist)
  have hlz : ls'.length = Z.length := by simpa using congrArg List.length hZ1
  have hZl : Z.length ≤ 5 := by rw [← hlz, hpp.length_eq]; exact hl5
  refine X_cons (X_Assign (E_Dict0 fun tb htb => storeLoc (.tail (.tail (.tail (.tail (.tail (.tail (.tail (.tail (.tail (.tail (.tail (.tail (.tail (.tail (.tail (.tail (.tail (.tail (.tail .head))))))))))))))))))) ?_))
  dsimp only
  refine X_cons (X_For (NmI C G k (mL s (some (.ref nl)) (some (.ref dl)) o1 o2 o3 o4 o5 o6 osr ok ob oro og odu (some (.ref ra)) ord (some (.int st ts)) (some (.str (tx (Pc.flats T)) ut)) (some (.ref tb))) tb Y Z L td ol c2 M)
    (Run.fz (E_Sb F.slot_list_getitem.lookup (E_loc (v := .ref ra) at15 (E_Slice (E_partNone (E_partNone (E_partSome (E_loc (v := .int st ts) at17 fun a G₁ hG₁ hs => ⟨HasTy.listG (hra.mono hG₁), G_listS (.inl (hra.mono hG₁).at) hs .none .none (.int ..) (by rcases hst with rfl | rfl <;> decide) (by rw [sizeLine_eq]; simp only [strValues, List.length_map]; omega) fun b => ⟨b, _, _, .head, fun o hob hnb => ?_⟩⟩)))))))))
  have hbl : ListG (addG G₁ b o) b (strValues ls') := ListG.new (hpk ▸ hob)
  have g1 : GLe G (addG G₁ b o) := GLe.trans hG₁ (GLe.add hnb)
  revert hbl g1
  dsimp only
  generalize addG G₁ b o = G₂
  intro hbl g1
  refine ⟨_, _, IterOn.list hR.hd hbl.at, ⟨G₂, k, [], c1, g1, Nat.le_refl _, ⟨rfl, fun i e he => by simp at he⟩⟩, ?_, ?_⟩
  · intro i p₂ hi hI9 _
    refine hI9.casesOn ?_
    intro G' k' es c1' hG' hk' hE
    have hi' : i < Z.length := by simpa [strValues, hlz] using hi
    refine AsgRun.name fun v ⟨_, hv⟩ => ?_
    obtain ⟨tv, rfl⟩ : ∃ t, v = .str (WN Z[i]) t := by
      obtain ⟨t, ht⟩ := names_at hZ1 hi'
      exact ⟨t, Option.some.inj (hv.symm.trans ht)⟩
    have hw5 := hZ5 Z[i] (List.getElem_mem hi')
    have hfresh : ∀ q ∈ es, q.1 ≠ tx (Pc.key Z[i]) := fun q hq e => by
      obtain ⟨a, ha, rfl⟩ := List.mem_iff_getElem.mp hq
      obtain ⟨w, Yw, t1, u1, e1, e2, _⟩ := hE.2 a es[a] (by simp [ha])
      rw [e2] at e
      rw [List.getElem?_map] at e1
      cases e3 : (Z.take i)[a]? with
      | none => rw [e3] at e1; cases e1
      | some w' =>
        rw [e3] at e1
        obtain ⟨rfl, _⟩ := Prod.mk.inj (Option.some.inj e1)
        have hai : a < i := by
          have := (List.getElem?_eq_some_iff.mp e3).1
          rw [List.length_take] at this; omega
        have h3 : Z[a]? = some w' := by rw [List.getElem?_take_of_lt hai] at e3; exact e3
        have ha' : a < Z.length := by omega
        rw [List.getElem?_eq_getElem ha'] at h3
        have hz3 : Z[a] = w' := Option.some.inj h3
        have hw' : w' < 5 := hz3 ▸ hZ5 Z[a] (List.getElem_mem ha')
        have := key_inj (by omega) (by omega) e
        rw [← hz3] at this
        have := (List.getElem_inj hZn).mp this
        omega
    have htk : (Z.take (i + 1)).map (fun w => (w, Y w)) = (Z.take i).map (fun w => (w, Y w)) ++ [(Z[i], Y Z[i])] := by
      rw [List.take_add_one, List.getElem?_eq_getElem hi', Option.toList_some, List.map_append]; rfl
    generalize Z[i] = w at hw5 hfresh htk
    refine storeCell (c := L + 3) (.tail (.tail .head)) rfl ?_
    dsimp only
    obtain ⟨ds, d1, d2⟩ := (X.td.mono hG')
    obtain ⟨la, lvs, q1, q2, q3⟩ := d2 w hw5
    obtain ⟨y1, y2⟩ := X.gY w hw5
    obtain ⟨⟨of, hof, hdf⟩, hcf⟩ := H.f173
    have hlen5 : es.length ≤ 5 := by
      have h1 := hE.1
      rw [List.length_map, List.length_take] at h1
      omega
    refine X_one (X_AssignSub (E_callF hof hdf (E_glob H.base at5) (E_items_cons (E_Sb F.slot_dict_getitem.lookup (E_cell (c := L + 1) at4 rfl (E_cell (c := L + 3) at2 rfl ⟨HasTy.dict d1, G_dict d1 q1 (E_items_nil (R_pure ((w_written H (d := d + 4) hR (Nat.lt_of_lt_of_le hk0 hk') (h29.mono hG') q2 q3 y2 (by omega)).mono fun v G₃ k₃ hG₃ hk₃ hv => ?_)))⟩))))))
    obtain ⟨u, hu⟩ := hv
    have hu2 := hu (X.gY2 w hw5)
    refine E_loc (v := .ref tb) at19 (E_BinOp (E_BinOp (E_strQ fun t1 h1 => E_cell (c := L + 3) at2 rfl (B_addSFT (x := [38]) (y := Pc.wd w) rfl rfl (by decide) ?_ ?_ fun t2 h2 => E_strQ fun t3 h3 => B_addSFT (x := [38] ++ Pc.wd w) (y := [59]) rfl rfl (by simp) (by decide) ?_ fun t4 h4 => S_dict (es := es) .head (by rw [sizeLine_eq]; omega) ?_))))
    · exact fun e => absurd (congrArg List.length e) (by rw [List.length_nil]; exact wd_pos w (by omega))
    · have := (Pc.wd_free w (by omega)).2.2.2
      simp only [List.length_cons, List.length_nil]; omega
    · have := (Pc.wd_free w (by omega)).2.2.2
      simp only [List.length_append, List.length_cons, List.length_nil]; omega
    · have h1 : k₃ ≤ t1 := h1
      have h2 : t1 + 1 ≤ t2 := h2
      have h3 : t2 + 1 ≤ t3 := h3
      have h4 : t3 + 1 ≤ t4 := h4
      have hp := Nat.lt_of_lt_of_le hk0 (Nat.le_trans hk' hu2.1)
      have h14 : k₃ ≤ t4 := Nat.le_trans h1 (Nat.le_trans (Nat.le_succ _) (Nat.le_trans h2 (Nat.le_trans (Nat.le_succ _) (Nat.le_trans h3 (Nat.le_trans (Nat.le_succ _) h4)))))
      have hut : u < t4 := Nat.lt_of_lt_of_le hu2.2 h14
      show NmI _ _ _ _ _ _ _ _ _ _ _ _ _ ⟨G₃, _, (tb, dictC C.w (dput es (tx (Pc.key w)) t4 (.str (tx (Pc.flats (Y w))) u))) :: _, _⟩
      rw [dput_fresh hfresh]
      exact ⟨G₃, _, _, _, GLe.trans hG' hG₃, Nat.le_trans hk' (Nat.le_trans hk₃ (Nat.le_trans h14 (Nat.le_succ _))), by rw [htk]; exact hE.snoc (Nat.lt_trans hp hut) hp (Nat.ne_of_gt hut)⟩
  · intro p₂ hI9 _
    refine hI9.casesOn ?_
    intro G' k' es c1' hG' hk' hE
    have hvl : (strValues ls').length = Z.length := by simp [strValues, hlz]
    rw [hvl, List.take_length] at hE
    refine X_nil (Run.freezeQ fun G₃ hG₃ hft => ?_)
    have htd : DictG C.w G₃ tb es := ⟨ne_sys H htb, hft _ fun _ h => h⟩
    have g3 : GLe G G₃ := GLe.trans hG' hG₃
    obtain ⟨⟨of, hof, hdf⟩, hcf⟩ := H.f46
    have hrl : (Z.map fun w => (w, Y w)).length = Z.length := List.length_map ..
    have hrow : ∀ q ∈ Z.map (fun w => (w, Y w)), q.1 < 8 ∧ (∀ p ∈ q.2, p.Ok) ∧ q.2.length ≤ 6 := fun q hq => by
      obtain ⟨w, hw, rfl⟩ := List.mem_map.mp hq
      obtain ⟨y1, y2⟩ := X.gY w (hZ5 w hw)
      exact ⟨by have := hZ5 w hw; show w < 8; omega, fun p hp => (y2 p hp).1, y1⟩
    have hZlen : Z.length + (ledL Y (j + 1)).length = (ledL Y j).length := by rw [hZ.length_eq]; exact lvl_len
    have hj5 := ledL_len (Y := Y) j
    have hpow : ∀ i, i + (5 - (ledL Y j).length) ≤ 5 → T.length * 6 ^ i ≤ 70 * 6 ^ (i + (5 - (ledL Y j).length)) := fun i hi => by
      refine Nat.le_trans (Nat.mul_le_mul_right _ hTl) ?_
      rw [Nat.mul_assoc, ← Nat.pow_add, Nat.add_comm]; exact Nat.le_refl _
    have hmono : ∀ a b, a ≤ b → 70 * 6 ^ a ≤ 70 * 6 ^ b := fun a b hab => Nat.mul_le_mul_left _ (Nat.pow_le_pow_right (by decide) hab)
    have hZne : Z ≠ [] := fun e => hne (List.eq_nil_of_length_eq_zero (by rw [← hZ.length_eq, e]; rfl))
    refine X_one (X_Assign (E_callF hof hdf (E_glob H.base at2) (E_items_cons (E_loc (v := .str (tx (Pc.flats T)) ut) at18 (E_items_cons (E_loc (v := .ref tb) at19 (E_items_nil (R_pure ((w_unesc H (d := d + 5) (n := 90720) (m := 108) hR (Nat.lt_of_lt_of_le hk0 hk') htd hE ?_ ?_ (fun q hq => (hrow q hq).1) hT (fun q hq => (hrow q hq).2.1) ?_ ?_ (by decide) ?_ ?_).mono fun v G₄ k₄ hG₄ hk₄ hv => ?_)))))))))
    · exact fun e => hZne (List.map_eq_nil_iff.mp e)
    · rw [hrl]; omega
    · intro i hi
      rw [hrl] at hi
      refine Nat.le_trans (Pc.table_len fun q hq => (hrow q (List.mem_of_mem_take hq)).2.2) (Nat.le_trans (Nat.mul_le_mul_right _ Pc.signs_len) ?_)
      rw [List.length_take, hrl, Nat.min_eq_left (Nat.le_of_lt hi)]
      exact Nat.le_trans (hpow i (by omega)) (hmono _ 4 (by omega))
    · intro q hq
      have h1 : (Pc.flats q.2).length ≤ q.2.length * 18 := Pc.flats_len fun p hp => Pc.flat_len ((hrow q hq).2.1 p hp)
      have := (hrow q hq).2.2
      omega
    · exact Nat.le_trans hTl (Nat.le_trans (hmono _ 5 (by omega)) (by decide))
    · refine Nat.le_trans (Pc.table_len fun q hq => (hrow q hq).2.2) (Nat.le_trans (Nat.mul_le_mul_right _ Pc.signs_len) ?_)
      rw [hrl]
      exact Nat.le_trans (hpow Z.length (by omega)) (Nat.le_trans (hmono _ 5 (by omega)) (by decide))
    · obtain ⟨u⟩ := hv
      refine storeLoc (.tail (.tail (.tail (.tail (.tail (.tail (.tail (.tail (.tail (.tail (.tail (.tail (.tail (.tail (.tail (.tail (.tail (.tail .head)))))))))))))))))) ?_
      have e : Pc.unesc (Z.map fun w => (w, Y w)) T = T.flatMap (Pc.step Z₀ Y) := by
        rw [Pc.unesc_step hZ5 fun i hi j' hj' => lvl_free i (hZ.mem_iff.mp hi) j' (hZ.mem_iff.mp hj'), Pc.step_congr fun n => hZ2.mem_iff]
      rw [e]
      exact h G₄ k₄ u tb c1' (GLe.trans g3 hG₄) (Nat.le_trans hk' hk₄)
end Four
end Mine

open PySem PySem.Calls PyProof.Rows
set_option Elab.async false
set_option linter.unusedVariables false
set_option maxRecDepth 100000
namespace Mine
theorem run_take {Y : Nat → List Pc} {Rs : List (List Nat)} {dps : List Pc} {j : Nat} (h : j < Rs.length) : Pc.run Y (Rs.take (j + 1)) dps = (Pc.run Y (Rs.take j) dps).flatMap (Pc.step Rs[j] Y) := by
  rw [List.take_add_one, List.getElem?_eq_getElem h, Option.toList_some]
  unfold Pc.run
  rw [List.foldl_append]; rfl
theorem run_fits {Y : Nat → List Pc} {Rs : List (List Nat)} {dps : List Pc} (hY : GoodY Y) (hD : GoodD dps) (hz : dps.length ≤ 70) (hRp : ∀ (i : Nat) (Z : List Nat), Rs[i]? = some Z → Z.Perm (lvlL Y i)) : ∀ j, j ≤ Rs.length →
    (∀ p ∈ Pc.run Y (Rs.take j) dps, p.Ok) ∧ (Pc.run Y (Rs.take j) dps).length ≤ 70 * 6 ^ (5 - (ledL Y j).length)
  | 0, _ => ⟨fun p hp => (hD p hp).1.1, hz⟩
  | j + 1, hj => by
    obtain ⟨i1, i2⟩ := run_fits hY hD hz hRp j (Nat.le_of_succ_le hj)
    rw [run_take hj]
    generalize Pc.run Y (Rs.take j) dps = T at i1 i2
    have hp := hRp j Rs[j] (List.getElem?_eq_getElem hj)
    generalize Rs[j] = Z at hp
    have h5 : ∀ i ∈ Z, i < 5 := fun i hi => lvl_five i (hp.mem_iff.mp hi)
    rw [← Pc.unesc_step h5 fun i hi j' hj' => lvl_free i (hp.mem_iff.mp hi) j' (hp.mem_iff.mp hj')]
    have hrow : ∀ q ∈ Z.map (fun w => (w, Y w)), (∀ p ∈ q.2, p.Ok) ∧ q.2.length ≤ 6 := fun q hq => by
      obtain ⟨w, hw, rfl⟩ := List.mem_map.mp hq
      obtain ⟨y1, y2⟩ := hY w (h5 w hw)
      exact ⟨fun p hp => (y2 p hp).1, y1⟩
    refine ⟨Pc.unesc_ok (fun q hq => (hrow q hq).1) i1, Nat.le_trans (Pc.unesc_len fun q hq => (hrow q hq).2) ?_⟩
    rw [List.length_map]
    refine Nat.le_trans (Nat.mul_le_mul_right _ i2) ?_
    rw [Nat.mul_assoc, ← Nat.pow_add]
    have h1 := lvl_len (Y := Y) (k := j)
    have h2 := hp.length_eq
    have h3 := ledL_len (Y := Y) j
    exact Nat.mul_le_mul_left _ (Nat.pow_le_pow_right (by decide) (by omega))
namespace Four
variable {C : Cx} {A : Around} {L : Addr}
inductive StI (G : Addr → Option Obj) (k : Nat) (m : Option Value → Option Value → Option Value → Option Value → List (Str × Option Value)) (L td ol : Addr) (c2 : Option Value) (M : List (Addr × Cell)) (i : Nat) : Pt → Prop
  | mk (G' : Addr → Option Obj) (k' : Nat) (q1 q2 q3 q4 c1 : Option Value) (h1 : GLe G G') (h2 : k ≤ k') : StI G k m L td ol c2 M i ⟨G', m q1 q2 q3 q4, nL L (some (.ref td)) (some (.ref ol)) c1 c2 ++ M, k'⟩
inductive RoI (G : Addr → Option Obj) (k : Nat) (Y : Nat → List Pc) (Rs : List (List Nat)) (dps : List Pc) (m : Option Value → Option Value → Option Value → List (Str × Option Value)) (L td ol : Addr) (c2 : Option Value) (M : List (Addr × Cell)) (j : Nat) : Pt → Prop
  | mk (G' : Addr → Option Obj) (k' : Nat) (q1 q4 c1 : Option Value) (u : Tok) (h1 : GLe G G') (h2 : k ≤ k') :
    RoI G k Y Rs dps m L td ol c2 M j ⟨G', m q1 (some (.str (tx (Pc.flats (Pc.run Y (Rs.take j) dps))) u)) q4, nL L (some (.ref td)) (some (.ref ol)) c1 c2 ++ M, k'⟩
theorem seg8 (H : Cx4 C) {d : Nat} (hR : Room A (d + 10)) {s o1 o2 o3 o4 o5 o6 osr ok ob og odu c1 c2 : Option Value} {nl td dl ol ro : Addr} {nS : List (Str × Tok)} {dvs rvs : List Value} {Y : Nat → List Pc} {dps : List Pc} {Rs : List (List Nat)} {M : List (Addr × Cell)} {G : Addr → Option Obj} {k : Nat} {Q : Flow → Pt → Prop}
    (X : Tx4 C G nl td dl nS dvs Y dps) (h29 : DictG C.w G 29 []) (hk0 : 0 < k) (hro : ListG G ro rvs) (hRv : LedAt G rvs Rs) (h5 : Rs.length ≤ 5) (hRp : ∀ (i : Nat) (Z : List Nat), Rs[i]? = some Z → Z.Perm (lvlL Y i)) (hne : ∀ i < Rs.length, lvlL Y i ≠ [])
    (h : ∀ p, Q (.ret (.bool true)) p) :
    Run C A L (execs (bodyL.drop 16) (envL L)) ⟨G, mL s (some (.ref nl)) (some (.ref dl)) o1 o2 o3 o4 o5 o6 osr ok ob (some (.ref ro)) og odu none none none none none, nL L (some (.ref td)) (some (.ref ol)) c1 c2 ++ M, k⟩ Q := by
  have hR5 : ∀ R ∈ Rs, ∀ i ∈ R, i < 5 := fun R hR i hi => by
    obtain ⟨a, ha, rfl⟩ := List.mem_iff_getElem.mp hR
    exact lvl_five i ((hRp a Rs[a] (List.getElem?_eq_getElem ha)).mem_iff.mp hi)
  obtain ⟨⟨of, hof, hdf⟩, hcf⟩ := H.f178
  have hz6 : dps.length * 6 ^ (Rs.length + 1) ≤ 3265920 := Nat.le_trans (Nat.mul_le_mul X.len (Nat.pow_le_pow_right (by decide) (Nat.succ_le_succ h5))) (by decide)
  refine X_cons (X_Assign (E_callF hof hdf (E_glob H.base at6) (E_items_cons (E_loc (v := .ref dl) at2 (E_items_cons (E_int fun t0 => E_items_cons (E_loc (v := .ref ro) at12 (E_items_cons (E_cell (c := L + 1) at3 rfl (E_items_nil (R_pure ((w_read H hR5 h5 X.gY (Rs.length + 1) (s := 0) (hR.less (by omega)) (Nat.zero_le _) (by omega) X.dl.at X.row (fun q hq => (X.gD q hq).1) (fun _ l hl => (X.gD _ hl).2 l rfl) hz6 ⟨rvs, hro.at, hRv.1, fun i R hR => let ⟨a, ls, e1, e2, e3⟩ := hRv.2 i R hR; ⟨a, ls, e1, e2.at, e3⟩⟩ X.td).mono fun v G₁ k₁ hG₁ hk₁ hv => ?_))))))))))))
  obtain ⟨ur⟩ := hv
  refine storeLoc (.tail (.tail (.tail (.tail (.tail (.tail (.tail (.tail (.tail (.tail (.tail (.tail (.tail (.tail (.tail (.tail .head)))))))))))))))) ?_
  dsimp only
  rw [← Pc.run_read hR5]
  refine X_cons (X_For (StI G k (fun q1 q2 q3 q4 => mL s (some (.ref nl)) (some (.ref dl)) o1 o2 o3 o4 o5 o6 osr ok ob (some (.ref ro)) og odu q1 (some (.str (tx (Pc.flats (Pc.run Y Rs dps))) ur)) q2 q3 q4) L td ol c2 M) (E_Tuple (E_items_cons (E_int fun t1 => E_items_cons (E_Unary (E_int fun t2 => U_neg fun t3 => E_items_nil (newTuple_G (by show 2 ≤ sizeLine; rw [sizeLine_eq]; decide) fun Tp G₂ hG₂ hn2 => ?_)))))))
  have hTp : TupAt G₂ Tp [.int 1 t1, .int (-1) t3] := by rw [hG₂]; exact ⟨_, 0, addG_self, rfl, rfl⟩
  have g2 : GLe G₁ G₂ := by rw [hG₂]; exact GLe.add hn2
  clear hG₂
  refine ⟨_, _, IterOn.tuple hR.hd hTp, ⟨G₂, k₁, _, _, _, _, _, GLe.trans hG₁ g2, hk₁⟩, ?_, ?_⟩
  · intro i p₂ hi hI9 _
    refine hI9.casesOn ?_
    intro G' k' q1 q2 q3 q4 c1' hG' hk'
    refine AsgRun.name fun v ⟨_, hv⟩ => ?_
    obtain ⟨st, ts, rfl, hst⟩ : ∃ st ts, v = .int st ts ∧ (st = 1 ∨ st = -1) := by
      match i, hv with
      | 0, hv => exact ⟨1, t1, (Option.some.inj hv).symm, .inl rfl⟩
      | 1, hv => exact ⟨-1, t3, (Option.some.inj hv).symm, .inr rfl⟩
      | i + 2, hv => simp at hv
    refine storeLoc (.tail (.tail (.tail (.tail (.tail (.tail (.tail (.tail (.tail (.tail (.tail (.tail (.tail (.tail (.tail (.tail (.tail .head))))))))))))))))) (Run.abs fun Q1 hQ1 => ?_)
    dsimp only at hQ1 ⊢
    have X' := X.mono hG'
    obtain ⟨⟨ow, how, hdw⟩, hcw⟩ := H.f173
    refine X_cons (X_Assign (E_callF how hdw (E_glob H.base at5) (E_items_cons (E_loc (v := .ref dl) at2 (E_items_nil (R_pure ((w_written H (d := d + 7) hR (Nat.lt_of_lt_of_le hk0 hk') (h29.mono hG') X'.dl.at X'.row (fun q hq => (X'.gD q hq).1) (by have := X'.len; omega)).mono fun v G₃ k₃ hG₃ hk₃ hv => ?_)))))))
    obtain ⟨u3, _⟩ := hv
    refine storeLoc (.tail (.tail (.tail (.tail (.tail (.tail (.tail (.tail (.tail (.tail (.tail (.tail (.tail (.tail (.tail (.tail (.tail (.tail .head)))))))))))))))))) ?_
    dsimp only
    have g3 := GLe.trans hG' hG₃
    refine X_cons (X_ForV (RoI G k Y Rs dps (fun q1 q3 q4 => mL s (some (.ref nl)) (some (.ref dl)) o1 o2 o3 o4 o5 o6 osr ok ob (some (.ref ro)) og odu q1 (some (.str (tx (Pc.flats (Pc.run Y Rs dps))) ur)) (some (.int st ts)) q3 q4) L td ol c2 M) (fun h => E_loc (v := .ref ro) at12 h) (IterOn.list hR.hd (hro.mono g3).at) ?_ ?_ ?_)
    · exact ⟨G₃, k₃, _, _, _, u3, g3, Nat.le_trans hk' hk₃⟩
    · intro j p₃ hj hI3
      refine hI3.casesOn ?_
      intro G₄ k₄ q1 q4 c1' u4 hG₄ hk₄
      have hjR : j < Rs.length := hRv.1 ▸ hj
      obtain ⟨la, ls, e1, e2, e3⟩ := hRv.2 j Rs[j] (List.getElem?_eq_getElem hjR)
      refine AsgRun.name fun v ⟨_, hv⟩ => ?_
      rw [hv] at e1
      have ev := Option.some.inj e1
      subst ev
      refine storeLoc (.tail (.tail (.tail (.tail (.tail (.tail (.tail (.tail (.tail (.tail (.tail (.tail (.tail (.tail (.tail .head))))))))))))))) (Run.abs fun Q2 hQ2 => ?_)
      dsimp only at hQ2 ⊢
      obtain ⟨f1, f2⟩ := run_fits X.gY X.gD X.len hRp j (Nat.le_of_lt hjR)
      have hrt := run_take (Y := Y) (dps := dps) hjR
      refine rowTurn H (d := d + 3) hR (X.mono hG₄) (h29.mono hG₄) (Nat.lt_of_lt_of_le hk0 hk₄) (e2.mono hG₄) e3 (hRp j Rs[j] (List.getElem?_eq_getElem hjR)) (hne j hjR) f1 f2 hst fun G₅ k₅ u5 tb c1'' hG₅ hk₅ => hQ2 _ _ ?_
      rw [← hrt]
      exact ⟨G₅, k₅, _, _, _, u5, GLe.trans hG₄ hG₅, Nat.le_trans hk₄ hk₅⟩
    · intro p₃ hI3
      refine hI3.casesOn ?_
      intro G₄ k₄ q1 q4 c1' u4 hG₄ hk₄
      rw [hRv.1, List.take_length]
      refine X_nil (X_one (X_If (T_Cmp (E_loc at18 (E_loc (.tail _ at15) (C_neT rfl rfl (truthy_bool ?_)))))))
      rw [decide_eq_true rfl, Bool.not_true, if_neg Bool.false_ne_true]
      exact X_nil (hQ1 _ _ ⟨G₄, k₄, _, _, _, _, _, hG₄, hk₄⟩)
  · intro p₂ hI9 _
    exact X_nil (X_one (X_Return (E_bool (h _))))
end Four
end Mine

open PySem PySem.Calls PyProof.Rows
set_option Elab.async false
set_option linter.unusedVariables false
set_option maxRecDepth 100000
namespace Mine
namespace Four
variable {C : Cx} {A : Around} {L : Addr}
theorem w_law (H : Cx4 C) (hr : Room A 13) (hA : A.frames = some []) {l : Addr} {vs : List Value} {ns : List Int} {G : Addr → Option Obj} {k : Nat} (hl : ListAt G l vs) (hv : IntsAt vs ns) (hn : ns.length ≤ 63) (hb : ∀ n ∈ ns, Builtin.Int.intBits n ≤ 2 ^ 20) (h29 : DictG C.w G 29 []) :
    PureCall C A 183 [.ref l] G k fun v G' k' => v = .bool true := by
  obtain ⟨⟨o, ho, hd⟩, hc⟩ := H.f183
  refine PureCall.of (CallRun.goK (mL (some (.ref l)) none none none none none none none none none none none none none none none none none none none) H.base hr ho hd hc (.of_eq (binds := [("script", .ref l)]) rfl) fun L hR => Run.abs fun Q0 hQ0 => ?_)
  show Run C _ L (execs bodyL (envL L)) ⟨G, _, nL L none none none none, k⟩ _
  have hAL : (A.deeper (envL L)).frames = some [envL L] := Around.frames_deeper hA
  have hR7 : Room (A.deeper (envL L)) (5 + 7) := hR
  generalize A.deeper (envL L) = A' at hAL hR7
  refine seg1 H hR7 fun p hp => hp.casesOn ?_
  intro G₁ k₁ nl td dl nS es la V dvs g1 e1 hnl hnS htd hes hV hD
  refine seg2 H hR7 (hl.mono g1) hv hn hb hnl hnS htd hes hV hD fun p hp => ?_
  refine toTx hn hp hnl hnS htd hes fun G₂ k₂ dvs Y dps o1 o2 o3 o4 o5 o6 g2 e2 X => ?_
  refine seg3 H hR7 hAL X fun p x dx dn ol t u hp => hp.casesOn ?_
  intro G₃ k₃ is pr c1 c2 g3 e3 hY hB hP hin hall hS
  have hS := hS.mono (show 5 * 30 ≤ 1000 by decide)
  refine Run.perm (N' := (ol, listC [.ref nl]) :: (nL L (some (.ref td)) (some (.ref ol)) c1 c2 ++ sN C dn dx .none 0 0 t u is)) List.perm_append_comm (seg4 H hR7 (X.mono g3) fun p hp => hp.casesOn ?_)
  intro G₄ k₄ lvs ok c1 c2 g4 e4 hL
  refine Run.perm (N' := sN C dn dx .none 0 0 t u is ++ ((ol, listC lvs) :: nL L (some (.ref td)) (some (.ref ol)) c1 c2)) (List.perm_append_comm (l₁ := (ol, listC lvs) :: nL L (some (.ref td)) (some (.ref ol)) c1 c2)) (seg5 H hR7 hAL (hY.mono g4) hB hP hin hall hS hL fun G₅ k₅ rl b g5 e5 Y5 hol => ?_)
  refine seg6 H hR7 hAL Y5 hB hP hin hall hS fun G₆ k₆ is' ro og rvs Rs z t u g6 e6 Y6 hLed h5 hRp hne hend => ?_
  refine Run.freezeQ fun G₇ g7 hro => ?_
  have hro := ListG.ofQ hro
  have g57 := GLe.trans g6 g7
  refine Run.perm (N' := nL L (some (.ref td)) (some (.ref ol)) c1 c2 ++ ((rl, listC []) :: fN dn dx (.ref rl) z z t u is')) (List.perm_append_comm (l₁ := (rl, listC []) :: fN dn dx (.ref rl) z z t u is')) (seg7a H hR7 (hol.mono g57) (hL.mono (GLe.trans g5 g57)) fun G₈ k₈ du dvs' g8 e8 hdu hDv => ?_)
  refine seg7b H hR7 (Y6.mono (GLe.trans g7 g8)) (hro.mono g8) (hLed.mono (GLe.trans g7 g8)) h5 hRp hne hend hdu hDv fun G₉ k₉ M g9 e9 => ?_
  have g89 := GLe.trans g8 g9
  have g39 := GLe.trans g4 (GLe.trans g5 (GLe.trans g57 g89))
  have kk : 0 < k₉ := Nat.lt_of_lt_of_le (Nat.succ_pos k) (Nat.le_trans e1 (Nat.le_trans e2 (Nat.le_trans e3 (Nat.le_trans e4 (Nat.le_trans e5 (Nat.le_trans e6 (Nat.le_trans e8 e9)))))))
  exact seg8 H (d := 2) hR7 ((X.mono g3).mono g39) (h29.mono (GLe.trans g1 (GLe.trans g2 (GLe.trans g3 g39)))) kk (hro.mono g89) (hLed.mono (GLe.trans g7 g89)) h5 hRp hne fun p => hQ0 _ _ rfl
theorem law_ends (H : Cx4 C) (hr : Room A 13) (hA : A.frames = some []) {l : Addr} {vs : List Value} {ns : List Int} (hl : C.B.IsList l vs.toArray) (hI : IntsAre vs ns) (hn : ns.length ≤ 63) (hb : ∀ n ∈ ns, Builtin.Int.intBits n ≤ 2 ^ 20) (s : Shared) (hs : s.heap = C.B) :
    wpAny (model C.prog C.w) A (PySem.call (.ref 183) [.ref l]) (fun v s' => v = .bool true ∧ (∀ b o, s.heap.get? b = some o → s'.heap.get? b = some o) ∧ s'.os = s.os ∧ s'.gens = s.gens) (fun _ _ => False) s := by
  obtain ⟨o, ho, hc, n, hd⟩ := hl
  have S : Sat0 C.B (fun b => C.B.get? b) [] s.heap := by
    rw [hs]
    exact ⟨fun _ _ e => e, fun _ _ e => e, (fun q hq => nomatch hq), (fun b hb => nomatch hb), (fun b hb => nomatch hb), List.nodup_nil⟩
  refine wpAny_call (codeAny_mono (w_law H hr hA (G := fun b => C.B.get? b) (k := s.toks) ⟨o, n, ho, hc, hd⟩ (ints_at hI) hn hb ⟨by decide, H.e29⟩ s S ⟨Nat.le_refl _⟩) fun r s' hr => ?_)
  obtain ⟨v, G', N', k', rfl, S', x, _, _, _, hv⟩ := hr
  exact ⟨hv, fun b o e => x.keep b o e id (fun h => nomatch h), x.os, x.gens⟩
end Four
end Mine

namespace Mine
open PySem PySem.W PyProof.Rows
theorem left_of {p q : Program} {loose : List Str} {Xt : Shared → Bool} {α : Type} {Yf : Shared → α} {Ya : World → α} {N : Nat} (e : opening p = plainProg p.main.scope.names) (hN : Nat.ble 600 N = true) (f : ∀ s, fenceModules? p s = some s)
    (h : ∀ (w : World) (os : OsState), (topFrom treeTable p w N ⟨boot_heap w.params, Array.mk [], boot_drawn, boot_toks, os⟩).map (fun s => (openSeen q loose (importedModules p.main.body) Xt true s, Yf s)) = some (openGood q loose, Ya w)) : LeftO p q loose Xt Yf Ya N := fun w => by
  obtain ⟨⟨h', gs, d, k, os⟩, e1, e2⟩ := Option.map_eq_some_iff.mp (boot_open e hN f w)
  obtain ⟨rfl, rfl, rfl, rfl⟩ : h' = _ ∧ gs = _ ∧ d = _ ∧ k = _ := by simpa using e2
  unfold openEnds
  rw [e1]
  exact h w os
def codeIs (h : Heap) (c : Addr) (q : Str) : Bool := match h.get? c with
  | some o => (match o.data with
    | .fields vs => (match (vs : Array Value)[1]? with
      | some (Value.str x _) => x == q
      | _ => false)
    | _ => false)
  | none => false
theorem codeIs.spec {h : Heap} {c : Addr} {q : Str} (e : codeIs h c q = true) : h.CodeRec (.ref c) q := by
  unfold codeIs at e
  split at e
  · rename_i o ho
    split at e
    · rename_i vs hd
      split at e
      · rename_i x t ex
        exact ⟨c, o, vs, t, rfl, ho, hd, by rw [ex, eq_of_beq e]⟩
      · cases e
    · cases e
  · cases e
def en (P : Params) (x : Str) (t : Nat) (v : Value) : DictEntry := ⟨PyData.keyHash P x, .str x t, v⟩
theorem fnAt_of {K : Frag} {h : Heap} (X : K.In h) {a : Addr} {fd : FuncData} (e : (K.lookup a).map (·.data) = some (.func fd)) : ∃ o, h.get? a = some o ∧ o.data = .func fd := by
  cases q : K.lookup a with
  | none => rw [q] at e; cases e
  | some o => rw [q] at e; exact ⟨o, X a o q, by injection e⟩
theorem someAt_of {K : Frag} {h : Heap} (X : K.In h) {a : Addr} (e : (K.lookup a).isSome = true) : ∃ o, h.get? a = some o := by
  obtain ⟨o, q⟩ := Option.isSome_iff_exists.mp e
  exact ⟨o, X a o q⟩
theorem fa_of {o : Option Value} {a b : Addr} (h1 : o = some (.ref a)) (h2 : o = some (.ref b)) : b = a := by
  rw [h1] at h2
  injection h2 with h2
  injection h2 with h2
  exact h2.symm
namespace Four
def headK (P : Params) : Frag := [
  (2, { cls := .none, data := .dict #[] }),
  (3, { cls := .type "dict", data := .dict #[en P "__name__" 165 (.str "law_dn0038_04" 404), en P "__doc__" 166 (.none), en P "__package__" 167 (.none), en P "__loader__" 168 (.builtin "__main__.__loader__#opaque"), en P "__spec__" 169 (.none), en P "__annotations__" 170 (.ref 6), en P "__builtins__" 171 (.ref 4), en P "__file__" 173 (.str "/claim/cut.py" 172), en P "__cached__" 174 (.none), en P "_wall" 193 (.ref 21), en P "dict_replace_saxutils" 205 (.ref 28), en P "escape" 213 (.ref 37), en P "unescape" 221 (.ref 46), en P "_NODE_OUT" 226 (.int (-1) 225), en P "_NODE_DONE" 229 (.int (-2) 228), en P "_NodeInfo" 266 (.ref 65), en P "CycleError" 284 (.ref 80), en P "TopologicalSorter" 403 (.ref 162), en P "_law_written" 417 (.ref 173), en P "_law_read" 423 (.ref 178), en P "law" 429 (.ref 183)] 21 }),
  (28, { cls := .type "function", data := .func (fdF 2 .none pmX (.ref 27)) }),
  (29, { cls := .type "dict", data := .dict #[] }),
  (30, { cls := .type "tuple", data := .seq #[.ref 29] }),
  (37, { cls := .type "function", data := .func (fdF 3 (.ref 30) pmX (.ref 36)) }),
  (39, { cls := .type "tuple", data := .seq #[.ref 38] }),
  (46, { cls := .type "function", data := .func (fdF 4 (.ref 39) pmX (.ref 45)) }),
  (61, { cls := .type "function", data := .func (fdM 8 1 "_NodeInfo.__init__" .none (.ref 60)) }),
  (64, { cls := .type "dict", data := .dict #[en P "__module__" 237 (.str "cpy313.graphlib" 222), en P "__firstlineno__" 241 (.int 25 240), en P "__slots__" 245 (.ref 54), en P "__init__" 253 (.ref 61), en P "__static_attributes__" 257 (.ref 62), en P "node" 259 (.ref 66), en P "npredecessors" 261 (.ref 67), en P "successors" 263 (.ref 68), en P "__doc__" 264 (.none)] 5 }),
  (65, { cls := .type "type", data := .cls { name := "_NodeInfo", bases := [.type "object"], mro := [.ref 65, .type "object"], ns := 64, qualname := "_NodeInfo", hasDict := false, slotNames := ["node", "npredecessors", "successors"] }, slots := #[none, none, some (.str "_NodeInfo" 230), some (.str "_NodeInfo" 238), some (.builtin "object.__new__"), some (.bool false)] }),
  (66, { cls := .type "member_descriptor", data := .fields #[.str "node" 258, .ref 65, .builtin "proto.slot", .builtin "proto.slot#set", .int 2 0] }),
  (67, { cls := .type "member_descriptor", data := .fields #[.str "npredecessors" 260, .ref 65, .builtin "proto.slot", .builtin "proto.slot#set", .int 1 0] }),
  (68, { cls := .type "member_descriptor", data := .fields #[.str "successors" 262, .ref 65, .builtin "proto.slot", .builtin "proto.slot#set", .int 0 0] }),
  (79, { cls := .type "dict", data := .dict #[en P "__module__" 274 (.str "cpy313.graphlib" 222), en P "__firstlineno__" 278 (.int 32 277), en P "__static_attributes__" 279 (.ref 78), en P "__weakref__" 281 (.ref 81), en P "__doc__" 282 (.none)] 3 }),
  (80, { cls := .type "type", data := .cls { name := "CycleError", bases := [.type "ValueError"], mro := [.ref 80, .type "ValueError", .type "Exception", .type "BaseException", .type "object"], ns := 79, qualname := "CycleError" }, slots := #[some (.ref 71), none, some (.str "CycleError" 267), some (.str "CycleError" 275), some (.builtin "ValueError.__new__"), some (.bool true)] }),
  (91, { cls := .type "tuple", data := .seq #[.none] }),
  (98, { cls := .type "function", data := .func (fdM 10 0 "TopologicalSorter.__init__" (.ref 91) (.ref 97)) }),
  (105, { cls := .type "function", data := .func (fdM 10 1 "TopologicalSorter._get_nodeinfo" .none (.ref 104)) }),
  (112, { cls := .type "function", data := .func (fdM 10 2 "TopologicalSorter.add" .none (.ref 111)) }),
  (117, { cls := .type "function", data := .func (fdM 10 3 "TopologicalSorter.prepare" .none (.ref 116)) }),
  (124, { cls := .type "function", data := .func (fdM 10 4 "TopologicalSorter.get_ready" .none (.ref 123)) }),
  (131, { cls := .type "function", data := .func (fdM 10 5 "TopologicalSorter.is_active" .none (.ref 130)) }),
  (145, { cls := .type "function", data := .func (fdM 10 7 "TopologicalSorter.done" .none (.ref 144)) }),
  (152, { cls := .type "function", data := .func (fdM 10 8 "TopologicalSorter._find_cycle" .none (.ref 151)) }),
  (161, { cls := .type "dict", data := .dict #[en P "__module__" 292 (.str "cpy313.graphlib" 222), en P "__firstlineno__" 296 (.int 34 295), en P "__init__" 306 (.ref 98), en P "_get_nodeinfo" 315 (.ref 105), en P "add" 327 (.ref 112), en P "prepare" 333 (.ref 117), en P "get_ready" 343 (.ref 124), en P "is_active" 350 (.ref 131), en P "__bool__" 357 (.ref 138), en P "done" 371 (.ref 145), en P "_find_cycle" 384 (.ref 152), en P "static_order" 391 (.ref 159), en P "__static_attributes__" 396 (.ref 160), en P "__dict__" 398 (.ref 163), en P "__weakref__" 400 (.ref 164), en P "__doc__" 401 (.none)] 4 }),
  (162, { cls := .type "type", data := .cls { name := "TopologicalSorter", bases := [.type "object"], mro := [.ref 162, .type "object"], ns := 161, qualname := "TopologicalSorter" }, slots := #[none, none, some (.str "TopologicalSorter" 285), some (.str "TopologicalSorter" 293), some (.builtin "object.__new__"), some (.bool true)] }),
  (173, { cls := .type "function", data := .func (fdF 12 .none pmL (.ref 172)) }),
  (178, { cls := .type "function", data := .func (fdF 13 .none pmL (.ref 177)) }),
  (183, { cls := .type "function", data := .func (fdF 14 .none pmL (.ref 182)) })]
def headCodes : List (Addr × Str) := [(27, "dict_replace_saxutils"), (36, "escape"), (45, "unescape"), (172, "_law_written"), (177, "_law_read"), (182, "law"), (60, "_NodeInfo.__init__"), (97, "TopologicalSorter.__init__"), (104, "TopologicalSorter._get_nodeinfo"), (111, "TopologicalSorter.add"), (116, "TopologicalSorter.prepare"), (123, "TopologicalSorter.get_ready"), (130, "TopologicalSorter.is_active"), (144, "TopologicalSorter.done"), (151, "TopologicalSorter._find_cycle")]
def headAs : List Addr := [2, 3, 28, 29, 30, 37, 39, 46, 61, 64, 65, 66, 67, 68, 79, 80, 91, 98, 105, 112, 117, 124, 131, 145, 152, 161, 162, 173, 178, 183]
def headH : Hook := ⟨List (Option Obj) × Bool, fun s => (headAs.map s.heap.get?, headCodes.all fun q => codeIs s.heap q.1 q.2), fun w => ((headK w.params).map fun p => some p.2, true),
  fun w h => (headK w.params).In h ∧ ∀ q ∈ headCodes, h.CodeRec (.ref q.1) q.2,
  fun w s e => ⟨Frag.in_of (as := headAs) rfl (congrArg Prod.fst e), fun q hq => codeIs.spec (List.all_eq_true.mp (congrArg Prod.snd e) q hq)⟩,
  fun w h h' x k => ⟨x.1.keeps k, fun q hq => (x.2 q hq).keeps k⟩⟩
def headQ : Program := view PySem.Challenge.pw_dn0038_04 [14]
def headL : List Str := ["dict_replace_saxutils", "escape", "unescape", "_NODE_OUT", "_NODE_DONE", "_NodeInfo", "CycleError", "TopologicalSorter", "_law_written", "_law_read", "_wall"]
def headX (s : Shared) : Bool := xlAt headQ [] s && recOk (RowW.records (OpenRow.toRowW (OpenLaw.row PySem.Challenge.rw_dn0038_04))) s
set_option maxHeartbeats 0
theorem and_tt {a b : Bool} (ha : a = true) (hb : b = true) : (a && b) = true := by rw [ha, hb]; rfl
theorem head_said : OpenLaw.wellSaid PySem.Challenge.rw_dn0038_04 = true := by
  rw [PySem.W.Fast.te9446332074065402090]
  unfold PySem.W.Fast.tw9446332074065402090
  repeat' (with_reducible refine and_tt ?_ ?_)
  · unfold PySem.W.Fast.tw17960256430627541270 PySem.W.Fast.tw2436336058641802641 PySem.W.Fast.tw12908688711261696721
    repeat' (with_reducible refine and_tt ?_ ?_)
    all_goals decide +kernel
  all_goals decide +kernel
theorem head_boot : opening PySem.Challenge.pw_dn0038_04 = plainProg PySem.Challenge.pw_dn0038_04.main.scope.names := by kernel_rfl
theorem head_fence : ∀ s, fenceModules? PySem.Challenge.pw_dn0038_04 s = some s := fun s => by kernel_rfl
theorem head_run : ∀ (w : World) (os : OsState), (topFrom treeTable PySem.Challenge.pw_dn0038_04 w 1500 ⟨boot_heap w.params, Array.mk [], boot_drawn, boot_toks, os⟩).map (fun s => (openSeen headQ headL (importedModules PySem.Challenge.pw_dn0038_04.main.body) headX true s, headH.obs s)) = some (openGood headQ headL, headH.val w) := by
  unfold topFrom
  rw [PySem.W.Fast.te14082659384304107361, PySem.W.Fast.te14364793385576792824, PySem.W.Fast.te4187177175401517315]
  intro w os; kernel_rfl
theorem head_left0 : LeftO PySem.Challenge.pw_dn0038_04 headQ headL headX headH.obs headH.val 1500 := left_of (p := PySem.Challenge.pw_dn0038_04) head_boot (by decide) head_fence head_run
theorem head_prog : (OpenRow.toRowW (OpenLaw.row PySem.Challenge.rw_dn0038_04)).prog = PySem.Challenge.pw_dn0038_04 := rfl
theorem head_left : LeftO (OpenRow.toRowW (OpenLaw.row PySem.Challenge.rw_dn0038_04)).prog headQ headL headX headH.obs headH.val 1500 := head_prog ▸ head_left0
def headD : DefRec × List (Str × PySem.Expr) := (defOf headQ (OpenLaw.row PySem.Challenge.rw_dn0038_04).name).getD (⟨"", ⟨[], [], none, [], [], none, []⟩, [], ⟨.function, [], false, false, []⟩, ⟨0, 0, 0, 0⟩⟩, [])
theorem head_def : defOf headQ (OpenLaw.row PySem.Challenge.rw_dn0038_04).name = some (headD.1, headD.2) := by kernel_rfl
theorem head_the : (OpenRow.toRowW (OpenLaw.row PySem.Challenge.rw_dn0038_04)).prog.theDef (OpenLaw.row PySem.Challenge.rw_dn0038_04).name = some (headD.1.params, headD.1.body, headD.1.scope) := by kernel_rfl
theorem head_kw : kwWritten? headD.1.params.kwonlyargs headD.1.params.kw_defaults = some headD.2 := by kernel_rfl
theorem head_name : headD.1.name = Str.ofString "law" := by kernel_rfl
theorem head_top (h : WalkO headQ headL (XL headQ []) headH.says (OpenRow.toRowW (OpenLaw.row PySem.Challenge.rw_dn0038_04)) headD.1 headD.2 fun f vs => PySem.call f vs) : (OpenLaw.row PySem.Challenge.rw_dn0038_04).Holds := by
  refine holds_open (q := headQ) (loose := headL) (Xt := headX) (XP := XL headQ []) (Yf := headH.obs) (Ya := headH.val) (YP := headH.says) (d := headD.1) (kwd := headD.2) (N := 1500) head_left headH.of headH.keeps
    (fun s e => xl_of s (Bool.and_eq_true_iff.mp e).1) XL.keeps head_def head_the head_kw (fun s e => recFacts_of (Bool.and_eq_true_iff.mp e).2) ?h5 ?h6 ?h7 ?h8 ?hw h
  case h5 => kernel_rfl
  case h6 => exact row_said head_said
  case h7 => decide +kernel
  case h8 => exact ⟨rfl, rfl, rfl, rfl, rfl, by decide +kernel⟩
  case hw => w_witness2
end Four
end Mine
open PySem PySem.W PyProof.Rows
set_option maxRecDepth 100000 in
set_option maxHeartbeats 0 in
theorem PySem.Challenge.cw_dn0038_04_holds : PySem.Challenge.rw_dn0038_04.Holds := by
  refine holds_law Mine.Four.head_said fun said => Mine.Four.head_top ?_
  intro w s₀ s₁ mg mb G Y fa o pm cd doc dV kV ho hd hcd hD hmg hg args vals as hpre hlay hrd hwl hlo
  obtain ⟨KX, KC⟩ := Y
  rw [Mine.Four.head_name] at hmg
  refine Ground.open G ?_
  intro T B D TE TW
  wrow_args hpre hlay hrd hwl hlo
  all_goals rename Heap.IsList _ _ _ => hL
  all_goals rename IntsAre _ _ => hI
  all_goals rename (¬ _ < _) => hlen
  all_goals rename (PyData.layable0 _ = true) => hLay
  all_goals have hfa := Mine.fa_of (mg_of (n := Str.ofString "law") (v := .ref 183) KX T.g (by kernel_rfl)) hmg
  all_goals (have HS : Mine.Four.SCx ⟨PySem.Challenge.rw_dn0038_04.row.prog, w, s₁.heap⟩ := {
    base := { mg := mg, mb := mb, hg := T.g, hb := T.b, lim := T.nolimit, g := List.forall_mem_cons.mpr ⟨mg_of KX T.g (by kernel_rfl), List.forall_mem_cons.mpr ⟨mg_of KX T.g (by kernel_rfl), List.forall_mem_cons.mpr ⟨mg_of KX T.g (by kernel_rfl), List.forall_mem_cons.mpr ⟨mg_of KX T.g (by kernel_rfl), List.forall_mem_cons.mpr ⟨mg_of KX T.g (by kernel_rfl), (fun _ h => nomatch h)⟩⟩⟩⟩⟩, b := List.forall_mem_cons.mpr ⟨⟨mg_none_of KX T.g (by kernel_rfl), (T.builtins _ (by decide)).trans (by kernel_rfl)⟩, List.forall_mem_cons.mpr ⟨⟨mg_none_of KX T.g (by kernel_rfl), (T.builtins _ (by decide)).trans (by kernel_rfl)⟩, List.forall_mem_cons.mpr ⟨⟨mg_none_of KX T.g (by kernel_rfl), (T.builtins _ (by decide)).trans (by kernel_rfl)⟩, List.forall_mem_cons.mpr ⟨⟨mg_none_of KX T.g (by kernel_rfl), (T.builtins _ (by decide)).trans (by kernel_rfl)⟩, List.forall_mem_cons.mpr ⟨⟨mg_none_of KX T.g (by kernel_rfl), (T.builtins _ (by decide)).trans (by kernel_rfl)⟩, List.forall_mem_cons.mpr ⟨⟨mg_none_of KX T.g (by kernel_rfl), (T.builtins _ (by decide)).trans (by kernel_rfl)⟩, (fun _ h => nomatch h)⟩⟩⟩⟩⟩⟩ },
    hsm := Mine.someAt_of KX (by kernel_rfl),
    K := _,
    X := KX,
    mk65 := by kernel_rfl,
    mk162 := by kernel_rfl,
    kp65 := by kernel_rfl,
    kp162 := by kernel_rfl,
    in65 := by kernel_rfl,
    in162 := by kernel_rfl,
    ty61 := by kernel_rfl,
    ty98 := by kernel_rfl,
    s0 := ⟨by kernel_rfl, by kernel_rfl, by kernel_rfl, by kernel_rfl, by kernel_rfl, by kernel_rfl, by kernel_rfl, by kernel_rfl, by kernel_rfl, by kernel_rfl, by decide⟩,
    s1 := ⟨by kernel_rfl, by kernel_rfl, by kernel_rfl, by kernel_rfl, by kernel_rfl, by kernel_rfl, by kernel_rfl, by kernel_rfl, by kernel_rfl, by kernel_rfl, by decide⟩,
    s2 := ⟨by kernel_rfl, by kernel_rfl, by kernel_rfl, by kernel_rfl, by kernel_rfl, by kernel_rfl, by kernel_rfl, by kernel_rfl, by kernel_rfl, by kernel_rfl, by decide⟩,
    o0 := ⟨by kernel_rfl, by kernel_rfl, by kernel_rfl, by kernel_rfl, by kernel_rfl, by kernel_rfl⟩,
    o1 := ⟨by kernel_rfl, by kernel_rfl, by kernel_rfl, by kernel_rfl, by kernel_rfl, by kernel_rfl⟩,
    o2 := ⟨by kernel_rfl, by kernel_rfl, by kernel_rfl, by kernel_rfl, by kernel_rfl, by kernel_rfl⟩,
    o3 := ⟨by kernel_rfl, by kernel_rfl, by kernel_rfl, by kernel_rfl, by kernel_rfl, by kernel_rfl⟩,
    mGet := ⟨by kernel_rfl, by kernel_rfl, by kernel_rfl⟩,
    mAdd := ⟨by kernel_rfl, by kernel_rfl, by kernel_rfl⟩,
    mPrep := ⟨by kernel_rfl, by kernel_rfl, by kernel_rfl⟩,
    mReady := ⟨by kernel_rfl, by kernel_rfl, by kernel_rfl⟩,
    mAct := ⟨by kernel_rfl, by kernel_rfl, by kernel_rfl⟩,
    mDone := ⟨by kernel_rfl, by kernel_rfl, by kernel_rfl⟩,
    mFind := ⟨by kernel_rfl, by kernel_rfl, by kernel_rfl⟩,
    exc := ⟨"CycleError", "CycleError", 79, [.type "ValueError"], true, [], [], false, none, none, some (.ref 71), none, some (.str "CycleError" 267), some (.str "CycleError" 275), some (.bool true), s₁.heap.nsMap 79, KX 80 _ (by kernel_rfl), .of_isNs (isNs_of_in KX (by kernel_rfl)), nsMap_none_of_in KX (by kernel_rfl) (by kernel_rfl)⟩,
    f61 := ⟨Mine.fnAt_of KX (by kernel_rfl), KC (60, _) (List.getElem_mem (l := Mine.Four.headCodes) (n := 6) (by decide))⟩,
    f98 := ⟨Mine.fnAt_of KX (by kernel_rfl), KC (97, _) (List.getElem_mem (l := Mine.Four.headCodes) (n := 7) (by decide))⟩,
    f105 := ⟨Mine.fnAt_of KX (by kernel_rfl), KC (104, _) (List.getElem_mem (l := Mine.Four.headCodes) (n := 8) (by decide))⟩,
    f112 := ⟨Mine.fnAt_of KX (by kernel_rfl), KC (111, _) (List.getElem_mem (l := Mine.Four.headCodes) (n := 9) (by decide))⟩,
    f117 := ⟨Mine.fnAt_of KX (by kernel_rfl), KC (116, _) (List.getElem_mem (l := Mine.Four.headCodes) (n := 10) (by decide))⟩,
    f124 := ⟨Mine.fnAt_of KX (by kernel_rfl), KC (123, _) (List.getElem_mem (l := Mine.Four.headCodes) (n := 11) (by decide))⟩,
    f131 := ⟨Mine.fnAt_of KX (by kernel_rfl), KC (130, _) (List.getElem_mem (l := Mine.Four.headCodes) (n := 12) (by decide))⟩,
    f145 := ⟨Mine.fnAt_of KX (by kernel_rfl), KC (144, _) (List.getElem_mem (l := Mine.Four.headCodes) (n := 13) (by decide))⟩,
    f152 := ⟨Mine.fnAt_of KX (by kernel_rfl), KC (151, _) (List.getElem_mem (l := Mine.Four.headCodes) (n := 14) (by decide))⟩,
    t91 := ⟨{ cls := .type "tuple", data := .seq #[.none] }, 0, KX 91 _ (by kernel_rfl), rfl⟩ })
  all_goals (have H : Mine.Four.Cx4 ⟨PySem.Challenge.rw_dn0038_04.row.prog, w, s₁.heap⟩ := {
    base := { mg := mg, mb := mb, hg := T.g, hb := T.b, lim := T.nolimit, g := List.forall_mem_cons.mpr ⟨mg_of KX T.g (by kernel_rfl), List.forall_mem_cons.mpr ⟨mg_of KX T.g (by kernel_rfl), List.forall_mem_cons.mpr ⟨mg_of KX T.g (by kernel_rfl), List.forall_mem_cons.mpr ⟨mg_of KX T.g (by kernel_rfl), List.forall_mem_cons.mpr ⟨mg_of KX T.g (by kernel_rfl), List.forall_mem_cons.mpr ⟨mg_of KX T.g (by kernel_rfl), List.forall_mem_cons.mpr ⟨mg_of KX T.g (by kernel_rfl), (fun _ h => nomatch h)⟩⟩⟩⟩⟩⟩⟩, b := List.forall_mem_cons.mpr ⟨⟨mg_none_of KX T.g (by kernel_rfl), (T.builtins _ (by decide)).trans (by kernel_rfl)⟩, List.forall_mem_cons.mpr ⟨⟨mg_none_of KX T.g (by kernel_rfl), (T.builtins _ (by decide)).trans (by kernel_rfl)⟩, List.forall_mem_cons.mpr ⟨⟨mg_none_of KX T.g (by kernel_rfl), (T.builtins _ (by decide)).trans (by kernel_rfl)⟩, List.forall_mem_cons.mpr ⟨⟨mg_none_of KX T.g (by kernel_rfl), (T.builtins _ (by decide)).trans (by kernel_rfl)⟩, List.forall_mem_cons.mpr ⟨⟨mg_none_of KX T.g (by kernel_rfl), (T.builtins _ (by decide)).trans (by kernel_rfl)⟩, List.forall_mem_cons.mpr ⟨⟨mg_none_of KX T.g (by kernel_rfl), (T.builtins _ (by decide)).trans (by kernel_rfl)⟩, (fun _ h => nomatch h)⟩⟩⟩⟩⟩⟩ },
    nb := (by obtain ⟨mc, hmc, _⟩ := T.nodigits; exact ⟨mc, hmc, ns_none_of KX hmc (by kernel_rfl)⟩),
    hsm := Mine.someAt_of KX (by kernel_rfl),
    S := HS,
    own := ⟨"CycleError", [.type "ValueError", .type "Exception", .type "BaseException", .type "object"], "ValueError.__new__", (fun _ => some (.ref 80)), by decide, ⟨rfl, ⟨[.type "ValueError", .type "Exception", .type "BaseException", .type "object"], 79, "CycleError", "CycleError", [.type "ValueError"], true, [], [], false, none, none, some (.ref 71), none, some (.str "CycleError" 267), some (.str "CycleError" 275), some (.bool true), s₁.heap.nsMap 79, KX 80 _ (by kernel_rfl), .of_isNs (isNs_of_in KX (by kernel_rfl)), List.forall_mem_cons.mpr ⟨nsMap_none_of_in KX (by kernel_rfl) (by kernel_rfl), List.forall_mem_cons.mpr ⟨nsMap_none_of_in KX (by kernel_rfl) (by kernel_rfl), List.forall_mem_cons.mpr ⟨nsMap_none_of_in KX (by kernel_rfl) (by kernel_rfl), List.forall_mem_cons.mpr ⟨nsMap_none_of_in KX (by kernel_rfl) (by kernel_rfl), (fun _ h => nomatch h)⟩⟩⟩⟩, .base⟩⟩⟩,
    bAdd := ⟨by kernel_rfl, by kernel_rfl, by kernel_rfl, by kernel_rfl, by kernel_rfl, by kernel_rfl, by decide⟩,
    bDone := ⟨by kernel_rfl, by kernel_rfl, by kernel_rfl, by kernel_rfl, by kernel_rfl, by kernel_rfl, by decide⟩,
    f28 := ⟨Mine.fnAt_of KX (by kernel_rfl), KC (27, _) (List.getElem_mem (l := Mine.Four.headCodes) (n := 0) (by decide))⟩,
    f37 := ⟨Mine.fnAt_of KX (by kernel_rfl), KC (36, _) (List.getElem_mem (l := Mine.Four.headCodes) (n := 1) (by decide))⟩,
    f46 := ⟨Mine.fnAt_of KX (by kernel_rfl), KC (45, _) (List.getElem_mem (l := Mine.Four.headCodes) (n := 2) (by decide))⟩,
    f173 := ⟨Mine.fnAt_of KX (by kernel_rfl), KC (172, _) (List.getElem_mem (l := Mine.Four.headCodes) (n := 3) (by decide))⟩,
    f178 := ⟨Mine.fnAt_of KX (by kernel_rfl), KC (177, _) (List.getElem_mem (l := Mine.Four.headCodes) (n := 4) (by decide))⟩,
    f183 := ⟨Mine.fnAt_of KX (by kernel_rfl), KC (182, _) (List.getElem_mem (l := Mine.Four.headCodes) (n := 5) (by decide))⟩,
    t30 := ⟨{ cls := .type "tuple", data := .seq #[.ref 29] }, 0, KX 30 _ (by kernel_rfl), rfl⟩,
    t39 := ⟨{ cls := .type "tuple", data := .seq #[.ref 38] }, 0, KX 39 _ (by kernel_rfl), rfl⟩,
    e29 := ⟨{ cls := .type "dict", data := .dict #[] }, KX 29 _ (by kernel_rfl), 0, ⟨rfl, rfl, rfl⟩, rfl, List.nodup_nil⟩ })
  all_goals clear hd hcd hD hmg KX KC
  all_goals subst hfa
  all_goals refine wpAny_mono (Mine.Four.law_ends (C := ⟨PySem.Challenge.rw_dn0038_04.row.prog, w, s₁.heap⟩) H ⟨by decide, by decide, rfl⟩ rfl hL hI (by omega) (fun n hn => PyData.bits_item_of_ints hLay hn) s₁ rfl) (fun v s' hv => ?_) (fun _ _ h => h.elim)
  all_goals (obtain ⟨rfl, hk, hos, hgn⟩ := hv)
  all_goals exact GoodW.toG ⟨.inl ⟨.bool true, .bool true, [], rfl, fun _ => rfl, .bool _, by kernel_rfl, fun _ => ⟨List.nodup_nil, (fun _ h => nomatch h)⟩⟩, hk, hos, hgn.trans hg⟩
