import PyProof.Rows.All
import Wide.All
import OpenK.AllK
import Wide.FinOn
import PySem.Challenge.RW_dn0038_02
open PySem PySem.Calls PyProof.Rows
set_option Elab.async false
set_option linter.unusedVariables false
namespace Mine

abbrev Cell := Obj → Prop

/-- the abstract state: G what is frozen, m the frame's slots, N what is owned and may change, k a bound below the tokens to come -/
structure Pt where
  G : Addr → Option Obj
  m : List (Str × Option Value)
  N : List (Addr × Cell)
  k : Nat

structure TokOk (k : Nat) (s : Shared) : Prop where
  le : k ≤ s.toks

def look : List (Str × Option Value) → Str → Option Value
  | [], _ => none
  | (y, v) :: r, x => if x = y then v else look r x

structure Cx where
  prog : Program
  w : World
  B : Heap

def dom (N : List (Addr × Cell)) : List Addr := N.map (·.1)

/-- the part without the frame -/
structure Sat0 (B : Heap) (G : Addr → Option Obj) (N : List (Addr × Cell)) (h : Heap) : Prop where
  base : ∀ b o, B.get? b = some o → h.get? b = some o
  gs : ∀ b o, G b = some o → h.get? b = some o
  own : ∀ q ∈ N, ∃ o, h.get? q.1 = some o ∧ q.2 o
  nB : ∀ b ∈ dom N, B.get? b = none
  nG : ∀ b ∈ dom N, G b = none
  nd : (dom N).Nodup

structure Sat (B : Heap) (L : Addr) (p : Pt) (h : Heap) : Prop where
  s0 : Sat0 B p.G p.N h
  ns : h.Ns L (look p.m)
  bL : B.get? L = none
  gL : p.G L = none
  nL : L ∉ dom p.N
  mnd : (p.m.map (·.1)).Nodup

/-- from s at (G, N) to s' at (G', N'), the frame L (if any) set free -/
structure Ext0 (Lk : Addr → Prop) (G : Addr → Option Obj) (N : List (Addr × Cell)) (k : Nat) (s : Shared) (G' : Addr → Option Obj) (N' : List (Addr × Cell)) (k' : Nat) (s' : Shared) : Prop where
  keep : ∀ b o, s.heap.get? b = some o → ¬ Lk b → b ∉ dom N → s'.heap.get? b = some o
  grow : ∀ b o, G b = some o → G' b = some o
  fresh : ∀ b, (G' b ≠ none ∨ b ∈ dom N') → G b ≠ none ∨ b ∈ dom N ∨ s.heap.get? b = none
  noleak : ∀ b ∈ dom N, b ∈ dom N' ∨ G' b ≠ none
  gens : s'.gens = s.gens
  os : s'.os = s.os
  km : k ≤ k'
  kk : k' ≤ k ∨ k' ≤ s'.toks

def Ext (L : Addr) (p : Pt) (s : Shared) (p' : Pt) (s' : Shared) : Prop := Ext0 (· = L) p.G p.N p.k s p'.G p'.N p'.k s'
theorem TokOk.next {Lk : Addr → Prop} {G G₁ : Addr → Option Obj} {N N₁ : List (Addr × Cell)} {k k₁ : Nat} {s s₁ : Shared} (T : TokOk k s) (x : Ext0 Lk G N k s G₁ N₁ k₁ s₁) (h : s.toks ≤ s₁.toks) : TokOk k₁ s₁ :=
  ⟨x.kk.elim (fun e => Nat.le_trans e (Nat.le_trans T.le h)) id⟩

theorem Ext.refl {L : Addr} {p : Pt} {s : Shared} : Ext L p s p s :=
  ⟨fun _ _ e _ _ => e, fun _ _ e => e, fun _ h => h.elim .inl (fun h => .inr (.inl h)), fun _ h => .inl h, rfl, rfl, Nat.le_refl _, .inl (Nat.le_refl _)⟩

theorem Ext0.trans {Lk : Addr → Prop} {B : Heap} {G G₁ G₂ : Addr → Option Obj} {N N₁ N₂ : List (Addr × Cell)} {k k₁ k₂ : Nat} {s s₁ s₂ : Shared}
    (S : Sat0 B G N s.heap) (S₁ : Sat0 B G₁ N₁ s₁.heap) (hL : ∀ b, Lk b → s.heap.get? b ≠ none → s₁.heap.get? b ≠ none)
    (x : Ext0 Lk G N k s G₁ N₁ k₁ s₁) (y : Ext0 Lk G₁ N₁ k₁ s₁ G₂ N₂ k₂ s₂) (ht : s₁.toks ≤ s₂.toks) : Ext0 Lk G N k s G₂ N₂ k₂ s₂ := by
  have al : ∀ b o, s.heap.get? b = some o → s₁.heap.get? b ≠ none := fun b o e => by
    by_cases h1 : Lk b
    · exact hL b h1 (by rw [e]; exact fun h => nomatch h)
    · by_cases h2 : b ∈ dom N
      · rcases x.noleak b h2 with h3 | h3
        · obtain ⟨q, hq, rfl⟩ := List.mem_map.mp h3
          obtain ⟨o', ho', _⟩ := S₁.own q hq
          rw [ho']; exact fun h => nomatch h
        · cases hg : G₁ b with
          | none => exact absurd hg h3
          | some o' => rw [S₁.gs b o' hg]; exact fun h => nomatch h
      · rw [x.keep b o e h1 h2]; exact fun h => nomatch h
  have fr : ∀ b, s₁.heap.get? b = none → s.heap.get? b = none := fun b hb => by
    cases e : s.heap.get? b with
    | none => rfl
    | some o => exact absurd hb (al b o e)
  refine ⟨fun b o e h1 h2 => ?_, fun b o e => y.grow b o (x.grow b o e), fun b h => ?_, fun b h => ?_, y.gens.trans x.gens, y.os.trans x.os, Nat.le_trans x.km y.km,
    y.kk.elim (fun e => x.kk.elim (fun e' => .inl (Nat.le_trans e e')) fun e' => .inr (Nat.le_trans e (Nat.le_trans e' ht))) .inr⟩
  · have e1 := x.keep b o e h1 h2
    refine y.keep b o e1 h1 fun h3 => ?_
    rcases x.fresh b (.inr h3) with h4 | h4 | h4
    · cases hg : G b with
      | none => exact h4 hg
      | some o' =>
        have := S₁.nG b h3
        rw [x.grow b o' hg] at this; cases this
    · exact h2 h4
    · rw [e] at h4; cases h4
  · rcases y.fresh b h with h4 | h4 | h4
    · exact x.fresh b (.inl h4)
    · exact x.fresh b (.inr h4)
    · exact .inr (.inr (fr b h4))
  · rcases x.noleak b h with h4 | h4
    · exact y.noleak b h4
    · right
      cases hg : G₁ b with
      | none => exact absurd hg h4
      | some o' => rw [y.grow b o' hg]; exact fun h => nomatch h

theorem Ext.trans {B : Heap} {L : Addr} {p p₁ p₂ : Pt} {s s₁ s₂ : Shared} (S : Sat B L p s.heap) (S₁ : Sat B L p₁ s₁.heap) (x : Ext L p s p₁ s₁) (y : Ext L p₁ s₁ p₂ s₂) (ht : s₁.toks ≤ s₂.toks) : Ext L p s p₂ s₂ :=
  Ext0.trans S.s0 S₁.s0 (fun b hb _ => by
    cases hb
    obtain ⟨o, _, _, ho, _⟩ := S₁.ns
    rw [ho]; exact fun h => nomatch h) x y ht

/-- from every heap that satisfies p the tree t comes back, without an exception, and then Q -/
structure Run (C : Cx) (A : Around) (L : Addr) {α : Type} (t : Sem α) (p : Pt) (Q : α → Pt → Prop) : Prop where
  of :: go : ∀ s, Sat C.B L p s.heap → TokOk p.k s → wpAny (model C.prog C.w) A t (fun a s' => ∃ p', Sat C.B L p' s'.heap ∧ Ext L p s p' s' ∧ Q a p') (fun _ _ => False) s

/-- what a raw rule wants to hear at its end -/
def Post (C : Cx) (L : Addr) (p : Pt) (s : Shared) {α : Type} (Q : α → Pt → Prop) (a : α) (s' : Shared) : Prop := ∃ p', Sat C.B L p' s'.heap ∧ Ext L p s p' s' ∧ Q a p'

section
variable {C : Cx} {A : Around} {L : Addr} {α β : Type} {p : Pt}

theorem Run.pure {a : α} {Q : α → Pt → Prop} (h : Q a p) : Run C A L (Pure.pure a : Sem α) p Q := .of fun _ S _ => wpAny_pure ⟨p, S, .refl, h⟩

theorem Run.mono {t : Sem α} {Q Q' : α → Pt → Prop} (h : Run C A L t p Q) (hq : ∀ a p', Q a p' → Q' a p') : Run C A L t p Q' :=
  .of fun s S T => wpAny_mono (h.go s S T) (fun a _ ⟨p', S', x, q⟩ => ⟨p', S', x, hq a p' q⟩) fun _ _ e => e

/-- one thing behind another: the second's ends, seen from the first's start -/
theorem Run.after {t : Sem β} {p₁ : Pt} {Q : β → Pt → Prop} {s s₁ : Shared} (S : Sat C.B L p s.heap) (T : TokOk p.k s) (S₁ : Sat C.B L p₁ s₁.heap) (x : Ext L p s p₁ s₁) (ht : s.toks ≤ s₁.toks) (h : Run C A L t p₁ Q) :
    wpAny (model C.prog C.w) A t (Post C L p s Q) (fun _ _ => False) s₁ :=
  wpAny_mono (wpAny_toks (h.go s₁ S₁ (T.next x ht))) (fun b s₂ ⟨ht₂, p₂, S₂, y, r⟩ => ⟨p₂, S₂, x.trans S S₁ y ht₂, r⟩) fun _ _ e => e.2

theorem Run.bind {m : Sem α} {f : α → Sem β} {Q : β → Pt → Prop} (h : Run C A L m p fun a p₁ => Run C A L (f a) p₁ Q) : Run C A L (m >>= f) p Q :=
  .of fun s S T => wpAny_bind (wpAny_mono (wpAny_toks (h.go s S T)) (fun a s₁ ⟨ht, p₁, S₁, x, q⟩ => Run.after S T S₁ x ht q) fun _ _ e => e.2)

theorem Run.of_eq {t t' : Sem α} {Q : α → Pt → Prop} (e : t = t') (h : Run C A L t' p Q) : Run C A L t p Q := e ▸ h

/-- in the same state, whatever the tokens -/
theorem Post.same {s : Shared} {Q : α → Pt → Prop} {a : α} {tk : Nat} (S : Sat C.B L p s.heap) (q : Q a p) : Post C L p s Q a { s with toks := tk } :=
  ⟨p, S, ⟨fun _ _ e _ _ => e, fun _ _ e => e, fun _ h => h.elim .inl (fun h => .inr (.inl h)), fun _ h => .inl h, rfl, rfl, Nat.le_refl _, .inl (Nat.le_refl _)⟩, q⟩
/-- a new token -/
theorem Post.fresh {s : Shared} {Q : α → Pt → Prop} {a : α} (S : Sat C.B L p s.heap) (T : TokOk p.k s) (q : Q a { p with k := s.toks + 1 }) : Post C L p s Q a { s with toks := s.toks + 1 } :=
  ⟨{ p with k := s.toks + 1 }, ⟨S.s0, S.ns, S.bL, S.gL, S.nL, S.mnd⟩, ⟨fun _ _ e _ _ => e, fun _ _ e => e, fun _ h => h.elim .inl (fun h => .inr (.inl h)), fun _ h => .inl h, rfl, rfl, Nat.le_succ_of_le T.le, .inr (Nat.le_refl _)⟩, q⟩

theorem Run.holding {vs : List Value} {t : Sem α} {Q : α → Pt → Prop} (h : Run C A L t p Q) : Run C A L (PySem.holding vs t) p Q := .of fun s S T => wpAny_holding (h.go s S T)
theorem Run.standAt {pos : Pos} {Q : Unit → Pt → Prop} (h : Q () p) : Run C A L (PySem.standAt pos) p Q := .of fun _ S _ => wpAny_standAt ⟨p, S, .refl, h⟩
theorem Run.point {Q : Unit → Pt → Prop} (h : Q () p) : Run C A L PySem.point p Q := .of fun _ S _ => wpAny_point ⟨p, S, .refl, h⟩

end
/-! slots -/
inductive PutM : List (Str × Option Value) → Str → Option Value → List (Str × Option Value) → Prop
  | head {x : Str} {o v : Option Value} {r : List (Str × Option Value)} : PutM ((x, o) :: r) x v ((x, v) :: r)
  | tail {q : Str × Option Value} {x : Str} {v : Option Value} {r r' : List (Str × Option Value)} : PutM r x v r' → PutM (q :: r) x v (q :: r')

theorem PutM.names {m m' : List (Str × Option Value)} {x : Str} {v : Option Value} (h : PutM m x v m') : m'.map (·.1) = m.map (·.1) := by
  induction h with
  | head => rfl
  | tail _ ih => simp only [List.map_cons, ih]
theorem PutM.mem {m m' : List (Str × Option Value)} {x : Str} {v : Option Value} (h : PutM m x v m') : x ∈ m.map (·.1) := by
  induction h with
  | head => simp
  | tail _ ih => exact List.mem_cons_of_mem _ ih
theorem PutM.look {m m' : List (Str × Option Value)} {x : Str} {v : Option Value} (h : PutM m x v m') (hn : (m.map (·.1)).Nodup) :
    Mine.look m' = fun y => if y = x then v else Mine.look m y := by
  induction h with
  | head => funext y; simp only [Mine.look]; split <;> rfl
  | @tail q x v r r' h ih =>
    obtain ⟨z, u⟩ := q
    have h1 := List.nodup_cons.mp hn
    funext y
    simp only [Mine.look, ih h1.2]
    by_cases hz : y = z
    · subst hz
      have : y ≠ x := fun e => h1.1 (e ▸ h.mem)
      simp [this]
    · simp [hz]
theorem look_of_mem {m : List (Str × Option Value)} {x : Str} {v : Option Value} (hm : (x, v) ∈ m) (hn : (m.map (·.1)).Nodup) : look m x = v := by
  induction m with
  | nil => cases hm
  | cons q r ih =>
    obtain ⟨y, u⟩ := q
    have h1 := List.nodup_cons.mp hn
    rcases List.mem_cons.mp hm with e | hm
    · cases e; simp [look]
    · have : x ≠ y := fun e => h1.1 (e ▸ List.mem_map_of_mem (f := (·.1)) hm)
      simp only [look, if_neg this]
      exact ih hm h1.2

inductive PutN : List (Addr × Cell) → Addr → Cell → Cell → List (Addr × Cell) → Prop
  | head {a : Addr} {c c' : Cell} {r : List (Addr × Cell)} : PutN ((a, c) :: r) a c c' ((a, c') :: r)
  | tail {q : Addr × Cell} {a : Addr} {c c' : Cell} {r r' : List (Addr × Cell)} : PutN r a c c' r' → PutN (q :: r) a c c' (q :: r')
theorem PutN.dom {N N' : List (Addr × Cell)} {a : Addr} {c c' : Cell} (h : PutN N a c c' N') : dom N' = dom N := by
  induction h with
  | head => rfl
  | tail _ ih => simp only [Mine.dom, List.map_cons] at *; rw [ih]
theorem PutN.mem {N N' : List (Addr × Cell)} {a : Addr} {c c' : Cell} (h : PutN N a c c' N') : (a, c) ∈ N := by
  induction h with
  | head => simp
  | tail _ ih => exact List.mem_cons_of_mem _ ih
theorem mem_dom {N : List (Addr × Cell)} {a : Addr} {c : Cell} (h : (a, c) ∈ N) : a ∈ dom N := List.mem_map_of_mem (f := (·.1)) h
theorem PutN.cases {N N' : List (Addr × Cell)} {a : Addr} {c c' : Cell} (h : PutN N a c c' N') (hn : (Mine.dom N).Nodup) : ∀ q ∈ N', q = (a, c') ∨ (q ∈ N ∧ q.1 ≠ a) := by
  induction h with
  | @head a c c' r =>
    intro q hq
    have h1 := List.nodup_cons.mp hn
    rcases List.mem_cons.mp hq with e | hq
    · exact .inl e
    · exact .inr ⟨List.mem_cons_of_mem _ hq, fun e => h1.1 (by rw [← e]; exact List.mem_map_of_mem (f := (·.1)) hq)⟩
  | @tail z a c c' r r' h ih =>
    intro q hq
    have h1 := List.nodup_cons.mp hn
    rcases List.mem_cons.mp hq with e | hq
    · subst e
      exact .inr ⟨List.mem_cons_self, fun e => h1.1 (by show q.1 ∈ Mine.dom r; rw [e]; exact mem_dom h.mem)⟩
    · rcases ih h1.2 q hq with e | ⟨e1, e2⟩
      · exact .inl e
      · exact .inr ⟨List.mem_cons_of_mem _ e1, e2⟩

inductive DelN : List (Addr × Cell) → Addr → Cell → List (Addr × Cell) → Prop
  | head {a : Addr} {c : Cell} {r : List (Addr × Cell)} : DelN ((a, c) :: r) a c r
  | tail {q : Addr × Cell} {a : Addr} {c : Cell} {r r' : List (Addr × Cell)} : DelN r a c r' → DelN (q :: r) a c (q :: r')
theorem DelN.mem {N N' : List (Addr × Cell)} {a : Addr} {c : Cell} (h : DelN N a c N') : (a, c) ∈ N := by
  induction h with
  | head => simp
  | tail _ ih => exact List.mem_cons_of_mem _ ih
theorem DelN.sub {N N' : List (Addr × Cell)} {a : Addr} {c : Cell} (h : DelN N a c N') : ∀ q ∈ N', q ∈ N := by
  induction h with
  | head => exact fun q hq => List.mem_cons_of_mem _ hq
  | tail _ ih =>
    intro q hq
    rcases List.mem_cons.mp hq with e | hq
    · rw [e]; exact List.mem_cons_self
    · exact List.mem_cons_of_mem _ (ih q hq)
theorem DelN.dom {N N' : List (Addr × Cell)} {a : Addr} {c : Cell} (h : DelN N a c N') : ∀ b ∈ dom N, b = a ∨ b ∈ dom N' := by
  induction h with
  | head =>
    intro b hb
    rcases List.mem_cons.mp hb with e | hb
    · exact .inl e
    · exact .inr hb
  | tail _ ih =>
    intro b hb
    rcases List.mem_cons.mp hb with e | hb
    · exact .inr (e ▸ List.mem_cons_self)
    · exact (ih b hb).imp id fun h => List.mem_cons_of_mem _ h
theorem DelN.nodup {N N' : List (Addr × Cell)} {a : Addr} {c : Cell} (h : DelN N a c N') (hn : (Mine.dom N).Nodup) : (Mine.dom N').Nodup ∧ a ∉ Mine.dom N' := by
  induction h with
  | head => exact ⟨(List.nodup_cons.mp hn).2, (List.nodup_cons.mp hn).1⟩
  | @tail q a c r r' h ih =>
    have h1 := List.nodup_cons.mp hn
    have h2 := ih h1.2
    refine ⟨List.nodup_cons.mpr ⟨fun hm => h1.1 ?_, h2.1⟩, fun hm => ?_⟩
    · obtain ⟨z, hz, e⟩ := List.mem_map.mp hm
      exact e ▸ List.mem_map_of_mem (f := (·.1)) (h.sub z hz)
    · rcases List.mem_cons.mp hm with e | hm
      · exact h1.1 (e ▸ mem_dom h.mem)
      · exact h2.2 hm

def addG (G : Addr → Option Obj) (a : Addr) (o : Obj) : Addr → Option Obj := fun b => if b = a then some o else G b

section
variable {B : Heap} {L : Addr} {p : Pt} {h h' : Heap}

theorem Sat0.lt {G : Addr → Option Obj} {N : List (Addr × Cell)} (S : Sat0 B G N h) {b : Addr} (hb : b ∈ dom N) : b < h.objs.size := by
  obtain ⟨q, hq, rfl⟩ := List.mem_map.mp hb
  obtain ⟨o, ho, _⟩ := S.own q hq
  exact Heap.lt_size ho

theorem Sat0.keep {G : Addr → Option Obj} {N : List (Addr × Cell)} (S : Sat0 B G N h) (hk : ∀ b o, h.get? b = some o → h'.get? b = some o) : Sat0 B G N h' :=
  ⟨fun b o e => hk b o (S.base b o e), fun b o e => hk b o (S.gs b o e), fun q hq => let ⟨o, ho, hc⟩ := S.own q hq; ⟨o, hk _ _ ho, hc⟩, S.nB, S.nG, S.nd⟩
/-- a cell of the frame or of what is hidden changes -/
theorem Sat0.sameBut {G : Addr → Option Obj} {N : List (Addr × Cell)} {a : Addr} (S : Sat0 B G N h) (hs : Heap.ExtBut a h h') (aB : B.get? a = none) (aG : G a = none) (aN : a ∉ dom N) : Sat0 B G N h' :=
  ⟨fun b o e => hs b o (fun q => by rw [q, aB] at e; cases e) (S.base b o e), fun b o e => hs b o (fun q => by rw [q, aG] at e; cases e) (S.gs b o e),
   fun q hq => let ⟨o, ho, hc⟩ := S.own q hq; ⟨o, hs _ _ (fun e => aN (e ▸ List.mem_map_of_mem (f := (·.1)) hq)) ho, hc⟩, S.nB, S.nG, S.nd⟩

theorem Sat.keep (S : Sat B L p h) (hk : ∀ b o, h.get? b = some o → h'.get? b = some o) : Sat B L p h' := ⟨S.s0.keep hk, S.ns.keeps hk, S.bL, S.gL, S.nL, S.mnd⟩
theorem Sat.none_at (S : Sat B L p h) {a : Addr} (ha : h.get? a = none) : B.get? a = none ∧ p.G a = none ∧ a ∉ dom p.N ∧ a ≠ L := by
  refine ⟨?_, ?_, fun hm => ?_, fun e => ?_⟩
  · cases hb : B.get? a with
    | none => rfl
    | some o => have := S.s0.base a o hb; rw [ha] at this; cases this
  · cases hb : p.G a with
    | none => rfl
    | some o => have := S.s0.gs a o hb; rw [ha] at this; cases this
  · obtain ⟨q, hq, e⟩ := List.mem_map.mp hm
    obtain ⟨o, ho, _⟩ := S.s0.own q hq
    rw [e, ha] at ho; cases ho
  · obtain ⟨o, _, _, ho, _⟩ := S.ns
    rw [← e, ha] at ho; cases ho
theorem get_size_none (h : Heap) : h.get? h.objs.size = none := by
  cases e : h.get? h.objs.size with
  | none => rfl
  | some o => exact absurd (Heap.lt_size e) (Nat.lt_irrefl _)

theorem Sat.extBut {a : Addr} (S : Sat B L p h) (hs : Heap.ExtBut a h h') (aB : B.get? a = none) (aG : p.G a = none) (aN : a ∉ dom p.N) (aL : a ≠ L) : Sat B L p h' :=
  ⟨S.s0.sameBut hs aB aG aN, S.ns.extBut hs (Ne.symm aL), S.bL, S.gL, S.nL, S.mnd⟩

theorem Sat.setM (S : Sat B L p h) {x : Str} {v : Option Value} {m' : List (Str × Option Value)} (hs : Heap.SameBut L h h') (hn : h'.Ns L fun y => if y = x then v else look p.m y) (P : PutM p.m x v m') :
    Sat B L { p with m := m' } h' :=
  ⟨S.s0.sameBut hs.extBut S.bL S.gL S.nL, by rw [P.look S.mnd]; exact hn, S.bL, S.gL, S.nL, by rw [P.names]; exact S.mnd⟩

theorem Sat.pushN (S : Sat B L p h) {o : Obj} {c : Cell} (hf : o.isFreed = false) (hc : c o) : Sat B L { p with N := (h.objs.size, c) :: p.N } (h.push o) := by
  have hk : ∀ b ob, h.get? b = some ob → (h.push o).get? b = some ob := fun b ob e => Heap.get?_push_of_some _ e
  obtain ⟨nb, ng, nn, nl⟩ := S.none_at (get_size_none h)
  have S' := S.keep hk
  refine ⟨⟨S'.s0.base, S'.s0.gs, fun q hq => ?_, fun b hb => ?_, fun b hb => ?_, List.nodup_cons.mpr ⟨nn, S.s0.nd⟩⟩, S'.ns, S.bL, S.gL, fun hm => ?_, S.mnd⟩
  · rcases List.mem_cons.mp hq with e | hq
    · subst e; exact ⟨o, Heap.get?_push_size _ hf, hc⟩
    · exact S'.s0.own q hq
  · rcases List.mem_cons.mp hb with e | hb
    · exact e ▸ nb
    · exact S.s0.nB b hb
  · rcases List.mem_cons.mp hb with e | hb
    · exact e ▸ ng
    · exact S.s0.nG b hb
  · rcases List.mem_cons.mp hm with e | hm
    · exact nl e.symm
    · exact S.nL hm

theorem Sat.pushG (S : Sat B L p h) {o : Obj} (hf : o.isFreed = false) : Sat B L { p with G := addG p.G h.objs.size o } (h.push o) := by
  have hk : ∀ b ob, h.get? b = some ob → (h.push o).get? b = some ob := fun b ob e => Heap.get?_push_of_some _ e
  obtain ⟨nb, ng, nn, nl⟩ := S.none_at (get_size_none h)
  have S' := S.keep hk
  refine ⟨⟨S'.s0.base, fun b ob e => ?_, S'.s0.own, S.s0.nB, fun b hb => ?_, S.s0.nd⟩, S'.ns, S.bL, ?_, S.nL, S.mnd⟩
  · simp only [addG] at e
    split at e
    · rename_i q; cases e; rw [q]; exact Heap.get?_push_size _ hf
    · exact S'.s0.gs b ob e
  · simp only [addG]; rw [if_neg (by rintro rfl; exact nn hb)]; exact S.s0.nG b hb
  · simp only [addG]; rw [if_neg (Ne.symm nl)]; exact S.gL

theorem Sat.putN (S : Sat B L p h) {a : Addr} {c c' : Cell} {N' : List (Addr × Cell)} {o : Obj} (P : PutN p.N a c c' N') (hs : Heap.ExtBut a h h') (ho : h'.get? a = some o) (hc : c' o) : Sat B L { p with N := N' } h' := by
  have am := mem_dom P.mem
  have aB := S.s0.nB a am
  have aG := S.s0.nG a am
  have aL : a ≠ L := fun e => S.nL (e ▸ am)
  refine ⟨⟨fun b ob e => hs b ob (fun q => by rw [q, aB] at e; cases e) (S.s0.base b ob e), fun b ob e => hs b ob (fun q => by rw [q, aG] at e; cases e) (S.s0.gs b ob e), fun q hq => ?_,
    by show ∀ b ∈ dom N', _; rw [P.dom]; exact S.s0.nB, by show ∀ b ∈ dom N', _; rw [P.dom]; exact S.s0.nG, by show (dom N').Nodup; rw [P.dom]; exact S.s0.nd⟩, S.ns.extBut hs (Ne.symm aL), S.bL, S.gL, by show L ∉ dom N'; rw [P.dom]; exact S.nL, S.mnd⟩
  rcases P.cases S.s0.nd q hq with rfl | ⟨h1, h2⟩
  · exact ⟨o, ho, hc⟩
  · obtain ⟨o', ho', hc'⟩ := S.s0.own q h1
    exact ⟨o', hs _ _ h2 ho', hc'⟩

/-- what is owned is frozen -/
theorem Sat.freeze (S : Sat B L p h) {a : Addr} {c : Cell} {N' : List (Addr × Cell)} (P : DelN p.N a c N') : ∃ o, c o ∧ h.get? a = some o ∧ Sat B L { p with G := addG p.G a o, N := N' } h := by
  obtain ⟨o, ho, hc⟩ := S.s0.own _ P.mem
  refine ⟨o, hc, ho, ⟨S.s0.base, fun b ob e => ?_, fun q hq => S.s0.own q (P.sub q hq), fun b hb => S.s0.nB b ?_, fun b hb => ?_, (P.nodup S.s0.nd).1⟩, S.ns, S.bL, ?_, fun hm => S.nL ?_, S.mnd⟩
  · simp only [addG] at e
    split at e
    · rename_i q; cases e; rw [q]; exact ho
    · exact S.s0.gs b ob e
  · obtain ⟨q, hq, rfl⟩ := List.mem_map.mp hb
    exact List.mem_map_of_mem (f := (·.1)) (P.sub q hq)
  · simp only [addG]
    rw [if_neg (by rintro rfl; exact (P.nodup S.s0.nd).2 hb)]
    obtain ⟨q, hq, rfl⟩ := List.mem_map.mp hb
    exact S.s0.nG _ (List.mem_map_of_mem (f := (·.1)) (P.sub q hq))
  · simp only [addG]; rw [if_neg (by intro q; exact S.nL (by rw [q]; exact mem_dom P.mem))]; exact S.gL
  · obtain ⟨q, hq, e⟩ := List.mem_map.mp hm
    exact e ▸ List.mem_map_of_mem (f := (·.1)) (P.sub q hq)

end

section
variable {L : Addr} {p p' : Pt} {s s' : Shared}
theorem Ext.heap {h' : Heap} {tk : Nat} (hk : ∀ b o, s.heap.get? b = some o → h'.get? b = some o) : Ext L p s p { s with heap := h', toks := tk } :=
  ⟨fun b o e _ _ => hk b o e, fun _ _ e => e, fun _ h => h.elim .inl (fun h => .inr (.inl h)), fun _ h => .inl h, rfl, rfl, Nat.le_refl _, .inl (Nat.le_refl _)⟩
theorem Ext.setM {h' : Heap} {tk : Nat} {m' : List (Str × Option Value)} (hs : Heap.ExtBut L s.heap h') : Ext L p s { p with m := m' } { s with heap := h', toks := tk } :=
  ⟨fun b o e h1 _ => hs b o h1 e, fun _ _ e => e, fun _ h => h.elim .inl (fun h => .inr (.inl h)), fun _ h => .inl h, rfl, rfl, Nat.le_refl _, .inl (Nat.le_refl _)⟩
theorem Ext.putN {h' : Heap} {tk : Nat} {a : Addr} {c c' : Cell} {N' : List (Addr × Cell)} (P : PutN p.N a c c' N') (hs : Heap.ExtBut a s.heap h') : Ext L p s { p with N := N' } { s with heap := h', toks := tk } :=
  ⟨fun b o e _ h2 => hs b o (fun q => h2 (q ▸ mem_dom P.mem)) e, fun _ _ e => e, fun b h => h.elim .inl fun h => .inr (.inl (P.dom ▸ h)), fun b h => .inl (by show b ∈ dom N'; rw [P.dom]; exact h), rfl, rfl, Nat.le_refl _, .inl (Nat.le_refl _)⟩
theorem Ext.pushN {o : Obj} {c : Cell} {tk : Nat} : Ext L p s { p with N := (s.heap.objs.size, c) :: p.N } { s with heap := s.heap.push o, toks := tk } :=
  ⟨fun b o e _ _ => Heap.get?_push_of_some _ e, fun _ _ e => e, fun b h => h.elim .inl fun h => by
    rcases List.mem_cons.mp h with e | h
    · exact .inr (.inr (e ▸ get_size_none _))
    · exact .inr (.inl h), fun b h => .inl (List.mem_cons_of_mem _ h), rfl, rfl, Nat.le_refl _, .inl (Nat.le_refl _)⟩
theorem Ext.pushG (S : Sat B L p s.heap) {o : Obj} {tk : Nat} : Ext L p s { p with G := addG p.G s.heap.objs.size o } { s with heap := s.heap.push o, toks := tk } :=
  ⟨fun b o e _ _ => Heap.get?_push_of_some _ e, fun b ob e => by
      simp only [addG]
      rw [if_neg (by intro q; rw [q, (S.none_at (get_size_none _)).2.1] at e; cases e)]; exact e,
    fun b h => h.elim (fun h => by
      simp only [addG] at h
      split at h
      · rename_i q; exact .inr (.inr (q ▸ get_size_none _))
      · exact .inl h) fun h => .inr (.inl h), fun b h => .inl h, rfl, rfl, Nat.le_refl _, .inl (Nat.le_refl _)⟩
theorem Ext.freeze (S : Sat B L p s.heap) {a : Addr} {c : Cell} {N' : List (Addr × Cell)} {o : Obj} (P : DelN p.N a c N') : Ext L p s { p with G := addG p.G a o, N := N' } s :=
  ⟨fun b o e _ _ => e, fun b ob e => by
      simp only [addG]
      rw [if_neg (by intro q; rw [q, S.s0.nG a (mem_dom P.mem)] at e; cases e)]; exact e,
    fun b h => h.elim (fun h => by
      simp only [addG] at h
      split at h
      · rename_i q; exact .inr (.inl (q ▸ mem_dom P.mem))
      · exact .inl h) fun h => .inr (.inl (by
        obtain ⟨q, hq, e⟩ := List.mem_map.mp h
        exact e ▸ List.mem_map_of_mem (f := (·.1)) (P.sub q hq))),
    fun b h => (P.dom b h).elim (fun e => .inr (by simp [addG, e])) .inl, rfl, rfl, Nat.le_refl _, .inl (Nat.le_refl _)⟩
end

/-- a step of the ghost: what is owned is frozen -/
theorem Run.freeze {C : Cx} {A : Around} {L : Addr} {α : Type} {t : Sem α} {p : Pt} {Q : α → Pt → Prop} {a : Addr} {c : Cell} {N' : List (Addr × Cell)} (P : DelN p.N a c N')
    (h : ∀ o G', c o → G' = addG p.G a o → p.G a = none → Run C A L t { p with G := G', N := N' } Q) : Run C A L t p Q := .of fun s S T => by
  obtain ⟨o, hc, ho, S'⟩ := S.freeze P
  exact Run.after S T S' (Ext.freeze S P) (Nat.le_refl _) (h o _ hc rfl (S.s0.nG a (mem_dom P.mem)))
end Mine

open PySem PySem.Calls PyProof.Rows
set_option Elab.async false
set_option linter.unusedVariables false
namespace Mine

/-- room above for d further frames -/
structure Room (A : Around) (d : Nat) : Prop where
  depth : A.depth + d < recursionLimit
  units : A.units + 8 * d < cLine
  hd : A.handled = none
theorem Room.deeper {A : Around} {d : Nat} (h : Room A (d + 1)) (env : Env) : Room (A.deeper env) d :=
  ⟨by have := h.depth; show A.depth + 1 + d < _; omega, by have := h.units; show A.units + 3 + 8 * d < _; omega, h.hd⟩
theorem Room.less {A : Around} {d e : Nat} (h : Room A d) (he : e ≤ d) : Room A e :=
  ⟨by have := h.depth; omega, by have := h.units; omega, h.hd⟩
theorem Room.u {A : Around} {d : Nat} (h : Room A d) : A.units < cLine := by have := h.units; omega

/-- what is known of the names of the module and of the built-ins -/
structure Base (C : Cx) (gl bl : List (Str × Value)) where
  mg : Str → Option Value
  mb : Str → Option Value
  hg : C.B.Ns mainGlobals mg
  hb : C.B.Ns builtinsNs mb
  lim : C.B.NoLimit
  g : ∀ q ∈ gl, mg q.1 = some q.2
  b : ∀ q ∈ bl, mg q.1 = none ∧ mb q.1 = some q.2

section
variable {C : Cx} {A : Around} {L : Addr} {α β : Type} {p : Pt} {env : Env}

theorem Run.release {vs keep : List Value} {Q : Unit → Pt → Prop} (h : Q () p) : Run C A L (release vs keep) p Q := .of fun _ S T => wpAny_release ⟨p, S, .refl, h⟩
theorem Run.operate {vs : List Value} {t : Sem Value} {Q : Value → Pt → Prop} (h : Run C A L t p Q) : Run C A L (operate vs t) p Q := .of fun s S T => wpAny_operating (h.go s S T)

/-! expressions -/
theorem E_int {i k pos} {Q : Value → Pt → Prop} (h : ∀ t, Q (.int i t) p) : Run C A L (eval (.Constant (.int i) k pos) env) p Q := .of fun s S T => wpAny_Constant_int (Post.same S (h s.toks))
theorem E_str {x k pos} {Q : Value → Pt → Prop} (h : ∀ t, p.k ≤ t → Q (.str x t) { p with k := t + 1 }) : Run C A L (eval (.Constant (.str x) k pos) env) p Q := .of fun s S T => wpAny_Constant_str (Post.fresh S T (h s.toks T.le))
theorem E_bool {b k pos} {Q : Value → Pt → Prop} (h : Q (.bool b) p) : Run C A L (eval (.Constant (.bool b) k pos) env) p Q := .of fun s S T => wpAny_Constant_bool ⟨p, S, .refl, h⟩
theorem E_none {k pos} {Q : Value → Pt → Prop} (h : Q .none p) : Run C A L (eval (.Constant .none k pos) env) p Q := .of fun s S T => wpAny_Constant_none ⟨p, S, .refl, h⟩

theorem E_loc {x : Str} {pos : Pos} {v : Value} {Q : Value → Pt → Prop} (hm : (x, some v) ∈ p.m) (h : Q v p) (hL : env.locals = L := by rfl) (hk : env.scope.kind = .function := by rfl) (hl : env.kindOf x = some .local := by rfl)
    (hd : (x == ("__debug__" : Str)) = false := by decide) : Run C A L (eval (.Name x pos) env) p Q := .of fun s S T => by
  subst hL
  exact wpAny_Name (wpAny_loadName_local hk hl S.ns (look_of_mem hm S.mnd) ⟨p, S, .refl, h⟩) hd
theorem E_glob {gl bl : List (Str × Value)} {x : Str} {pos : Pos} {v : Value} {Q : Value → Pt → Prop} (K : Base C gl bl) (hm : (x, v) ∈ gl) (h : Q v p) (hk : env.scope.kind = .function := by rfl) (hg : env.globals = mainGlobals := by rfl)
    (hl : env.kindOf x = some .globalImplicit := by rfl) (hd : (x == ("__debug__" : Str)) = false := by decide) : Run C A L (eval (.Name x pos) env) p Q := .of fun s S T =>
  Name_function_global hk hl (loadGlobal_global (hg ▸ K.hg.keeps S.s0.base) (K.g _ hm) ⟨p, S, .refl, h⟩) hd
theorem E_blt {gl bl : List (Str × Value)} {x : Str} {pos : Pos} {v : Value} {Q : Value → Pt → Prop} (K : Base C gl bl) (hm : (x, v) ∈ bl) (h : Q v p) (hk : env.scope.kind = .function := by rfl) (hg : env.globals = mainGlobals := by rfl) (hb : env.builtins = builtinsNs := by rfl)
    (hl : env.kindOf x = some .globalImplicit := by rfl) (hd : (x == ("__debug__" : Str)) = false := by decide) : Run C A L (eval (.Name x pos) env) p Q := .of fun s S T =>
  Name_function_global hk hl (loadGlobal_builtin (hg ▸ K.hg.keeps S.s0.base) (K.b _ hm).1 (hb ▸ K.hb.keeps S.s0.base) (K.b _ hm).2 ⟨p, S, .refl, h⟩) hd

/-- a variable's cell (closures) -/
def cellC (v : Option Value) : Cell := fun o => o.data = .cell v
theorem E_cell {x : Str} {pos : Pos} {c : Addr} {v : Value} {Q : Value → Pt → Prop} (hm : (c, cellC (some v)) ∈ p.N) (hc : env.cells.lookup x = some c) (h : Q v p) (hk : env.scope.kind = .function := by rfl)
    (hl : env.kindOf x = some .cell ∨ env.kindOf x = some .free := by first | exact .inl rfl | exact .inr rfl) (hd : (x == ("__debug__" : Str)) = false := by decide) (hn : (x == ("__classdict__" : Str)) = false := by decide) :
    Run C A L (eval (.Name x pos) env) p Q := .of fun s S T => by
  obtain ⟨o, ho, hv⟩ := S.s0.own _ hm
  rcases hl with hl | hl
  · exact wpAny_Name (wpAny_loadName_cell hk hl hc ⟨o, ho, hv⟩ ⟨p, S, .refl, h⟩) hd
  · exact wpAny_Name (wpAny_loadName_free hk hl hc ⟨o, ho, hv⟩ ⟨p, S, .refl, h⟩ hn) hd

theorem E_BinOp {l r : Expr} {op : Operator} {pos : Pos} {Q : Value → Pt → Prop} (h : Run C A L (eval l env) p fun a p₁ => Run C A L (eval r env) p₁ fun b p₂ => Run C A L (binaryOp op a b) p₂ Q) :
    Run C A L (eval (.BinOp l op r pos) env) p Q :=
  Run.of_eq (eval_BinOp ..) (.bind (h.mono fun a p₁ h₁ => .bind (.holding (h₁.mono fun b p₂ h₂ => .bind (.standAt (.operate h₂))))))
theorem E_Unary {op : UnaryOp} {x : Expr} {pos : Pos} {Q : Value → Pt → Prop} (h : Run C A L (eval x env) p fun a p₁ => Run C A L (unaryOp op a) p₁ Q) : Run C A L (eval (.UnaryOp op x pos) env) p Q :=
  Run.of_eq (arm_eval_UnaryOp ..) (.bind (h.mono fun a p₁ h₁ => .bind (.standAt (.holding h₁))))
theorem E_Cmp {l r : Expr} {op : CmpOp} {pos : Pos} {Q : Value → Pt → Prop} (h : Run C A L (eval l env) p fun a p₁ => Run C A L (eval r env) p₁ fun b p₂ => Run C A L (compareOp op a b) p₂ Q)
    (hm : behindInMarks op r = false := by with_unfolding_all rfl) : Run C A L (eval (.Compare l [op] [r] pos) env) p Q :=
  Run.of_eq (eval_Compare1 ..) (.bind (h.mono fun a p₁ h₁ => .bind (.holding (Run.of_eq (markedBehindIn_of_false hm) (h₁.mono fun b p₂ h₂ => .bind (.standAt (.operate h₂)))))))
theorem E_Tuple {es : List Expr} {k : Nat} {pos : Pos} {Q : Value → Pt → Prop} (h : Run C A L (spliced (backTo pos (starEach es env))) p fun vs p₁ => Run C A L (newTuple vs) p₁ Q) : Run C A L (eval (.Tuple es k pos) env) p Q :=
  Run.of_eq (arm_eval_Tuple ..) (.bind (.standAt (.bind h)))
theorem E_List {es : List Expr} {pos : Pos} {Q : Value → Pt → Prop} (h : Run C A L (spliced (backTo pos (starEach es env))) p fun vs p₁ => Run C A L (newList vs) p₁ Q) : Run C A L (eval (.List es pos) env) p Q :=
  Run.of_eq (arm_eval_List ..) (.bind (.standAt (.bind h)))
theorem E_items_nil {pos : Pos} {Q : List Value → Pt → Prop} (h : Q [] p) : Run C A L (spliced (backTo pos (starEach [] env))) p Q := Run.pure h
theorem starEach_cons {e : Expr} {r : List Expr} (hs : PySem.W.isStarred e = false) : starEach (e :: r) env = (false, eval e env) :: starEach r env := by cases e <;> first | rfl | cases hs
theorem E_items_cons {pos : Pos} {e : Expr} {r : List Expr} {Q : List Value → Pt → Prop} (h : Run C A L (eval e env) p fun v p₁ => Run C A L (spliced (backTo pos (starEach r env))) p₁ fun vs p₂ => Q (v :: vs) p₂)
    (hs : PySem.W.isStarred e = false := by rfl) : Run C A L (spliced (backTo pos (starEach (e :: r) env))) p Q := by
  rw [starEach_cons hs]
  show Run C A L (spliced ((false, eval e env) :: backTo pos (starEach r env))) p Q
  rw [spliced]
  refine .bind (h.mono fun v p₁ h₁ => ?_)
  simp only [Bool.false_eq_true, if_false]
  exact .bind (.pure (.bind (.holding (h₁.mono fun vs p₂ h₂ => .pure h₂))))

/-! tests -/
theorem T_val {e : Expr} {whole : Sem Value} {Q : Bool → Pt → Prop} (h : Run C A L whole p fun v p₁ => Run C A L (truthy v) p₁ Q)
    (he : isTrue e env whole = (do let v ← whole; standAt e.pos; PySem.holding [v] (truthy v)) := by rfl) : Run C A L (isTrue e env whole) p Q :=
  Run.of_eq he (.bind (h.mono fun v p₁ h₁ => .bind (.standAt (.holding h₁))))
theorem T_Not {x : Expr} {pos : Pos} {whole : Sem Value} {Q : Bool → Pt → Prop} (h : Run C A L (isTrue x env (eval x env)) p fun b p₁ => Q (!b) p₁) : Run C A L (isTrue (.UnaryOp .Not x pos) env whole) p Q :=
  Run.of_eq (arm_isTrue_UnaryOp ..) (.bind (h.mono fun b p₁ h₁ => .pure h₁))
theorem T_Cmp {l r : Expr} {op : CmpOp} {pos : Pos} {whole : Sem Value} {Q : Bool → Pt → Prop}
    (h : Run C A L (eval l env) p fun a p₁ => Run C A L (eval r env) p₁ fun b p₂ => Run C A L (compareOp op a b) p₂ fun c p₃ => Run C A L (truthy c) p₃ Q)
    (hm : behindInMarks op r = false := by with_unfolding_all rfl) : Run C A L (isTrue (.Compare l [op] [r] pos) env whole) p Q :=
  Run.of_eq (isTrue_Compare1 ..) (.bind (h.mono fun a p₁ h₁ => .bind (.holding (Run.of_eq (markedBehindIn_of_false hm) (h₁.mono fun b p₂ h₂ => .bind (.standAt (.bind (.operate (h₂.mono fun c p₃ h₃ => .holding h₃)))))))))
theorem T_BoolOp {op : BoolOp} {vs : List Expr} {pos : Pos} {whole : Sem Value} {Q : Bool → Pt → Prop} (h : Run C A L (allTrue op vs env) p Q) : Run C A L (isTrue (.BoolOp op vs pos) env whole) p Q := h
theorem T_And_nil {Q : Bool → Pt → Prop} (h : Q true p) : Run C A L (allTrue .And [] env) p Q := Run.pure h
theorem T_Or_nil {Q : Bool → Pt → Prop} (h : Q false p) : Run C A L (allTrue .Or [] env) p Q := Run.pure h
theorem T_And_cons {x : Expr} {r : List Expr} {Q : Bool → Pt → Prop} (h : Run C A L (isTrue x env (eval x env)) p fun b p₁ => if b then Run C A L (allTrue .And r env) p₁ Q else Q false p₁) : Run C A L (allTrue .And (x :: r) env) p Q :=
  Run.of_eq (arm_allTrue_cons ..) (.bind (h.mono fun b p₁ h₁ => by cases b <;> first | exact h₁ | exact .pure h₁))
theorem T_Or_cons {x : Expr} {r : List Expr} {Q : Bool → Pt → Prop} (h : Run C A L (isTrue x env (eval x env)) p fun b p₁ => if b then Q true p₁ else Run C A L (allTrue .Or r env) p₁ Q) : Run C A L (allTrue .Or (x :: r) env) p Q :=
  Run.of_eq (arm_allTrue_cons ..) (.bind (h.mono fun b p₁ h₁ => by cases b <;> first | exact h₁ | exact .pure h₁))
theorem truthy_bool {b : Bool} {Q : Bool → Pt → Prop} (h : Q b p) : Run C A L (truthy (.bool b)) p Q := .of fun s S T => wpAny_truthy_bool ⟨p, S, .refl, h⟩

/-! statements -/
theorem X_nil {Q : Flow → Pt → Prop} (h : Q .next p) : Run C A L (execs [] env) p Q := Run.pure h
theorem X_cons {st : Stmt} {r : List Stmt} {Q : Flow → Pt → Prop} (h : Run C A L (exec st env) p fun f p₁ => match f with | .next => Run C A L (execs r env) p₁ Q | f => Q f p₁) : Run C A L (execs (st :: r) env) p Q :=
  Run.of_eq (execs_cons ..) (.bind (h.mono fun f p₁ h₁ => by cases f <;> first | exact h₁ | exact .pure h₁))
theorem X_one {st : Stmt} {Q : Flow → Pt → Prop} (h : Run C A L (exec st env) p Q) (hn : ∀ p', Q .next p' → Q .next p' := by exact fun _ h => h) : Run C A L (execs [st] env) p Q :=
  Run.of_eq (execs_cons ..) (.bind (h.mono fun f p₁ h₁ => by cases f <;> exact .pure h₁))
theorem X_Return {e : Expr} {pos : Pos} {Q : Flow → Pt → Prop} (h : Run C A L (eval e env) p fun v p₁ => Q (.ret v) p₁) : Run C A L (exec (.Return (some e) pos) env) p Q :=
  Run.of_eq (exec_Return_some ..) (.bind (.standAt (.bind (h.mono fun v p₁ h₁ => .pure h₁))))
theorem X_Pass {pos : Pos} {Q : Flow → Pt → Prop} (h : Q .next p) : Run C A L (exec (.Pass pos) env) p Q := Run.of_eq (exec_Pass ..) (.bind (.standAt (.pure h)))
theorem X_Break {pos : Pos} {Q : Flow → Pt → Prop} (h : Q .brk p) : Run C A L (exec (.Break pos) env) p Q := .of fun s S T => wpAny_Break ⟨p, S, .refl, h⟩
theorem X_Continue {pos : Pos} {Q : Flow → Pt → Prop} (h : Q .cont p) : Run C A L (exec (.Continue pos) env) p Q := .of fun s S T => wpAny_Continue ⟨p, S, .refl, h⟩
theorem X_If {t : Expr} {b o : List Stmt} {pos : Pos} {Q : Flow → Pt → Prop} (h : Run C A L (isTrue t env (eval t env)) p fun c p₁ => if c then Run C A L (execs b env) p₁ Q else Run C A L (execs o env) p₁ Q) :
    Run C A L (exec (.If t b o pos) env) p Q :=
  Run.of_eq (exec_If ..) (.bind (.standAt (.bind (h.mono fun c p₁ h₁ => by cases c <;> exact h₁))))

theorem storeLoc {x : Str} {v : Value} {m' : List (Str × Option Value)} {Q : Unit → Pt → Prop} (P : PutM p.m x (some v) m') (h : Q () { p with m := m' }) (hL : env.locals = L := by rfl) (hk : env.scope.kind = .function := by rfl)
    (hl : env.kindOf x = some .local := by rfl) : Run C A L (bindName env x v) p Q := .of fun s S T => by
  subst hL
  refine wpAny_bindName (wpAny_storeName_local hl S.ns (fun h' hn hs => ⟨_, S.setM hs hn P, Ext.setM hs.extBut, h⟩) ?_)
  rw [hk]; rfl
theorem storeCell {x : Str} {v : Value} {v₀ : Option Value} {c : Addr} {N' : List (Addr × Cell)} {Q : Unit → Pt → Prop} (P : PutN p.N c (cellC v₀) (cellC (some v)) N') (hc : env.cells.lookup x = some c) (h : Q () { p with N := N' })
    (hk : env.scope.kind = .function := by rfl) (hl : env.kindOf x = some .cell := by rfl) : Run C A L (bindName env x v) p Q := .of fun s S T => by
  obtain ⟨o, ho, hd⟩ := S.s0.own _ P.mem
  refine wpAny_bindName (wpAny_storeName_cell hk hl hc ⟨o, ho, hd⟩ fun h' hv hs => ?_)
  obtain ⟨o', ho', hd'⟩ := hv
  exact ⟨_, S.putN P hs.extBut ho' hd', Ext.putN P hs.extBut, h⟩
theorem X_Assign {x : Str} {e : Expr} {pos pos' : Pos} {Q : Flow → Pt → Prop} (h : Run C A L (eval e env) p fun v p₁ => Run C A L (bindName env x v) p₁ fun _ p₂ => Q .next p₂)
    (hs : swapsWith e (some (.Name x pos')) pos.line env = pure false := by rfl) : Run C A L (exec (.Assign [.Name x pos'] e pos) env) p Q :=
  Run.of_eq (exec_Assign_Name _ _ _ _ _ hs) (.bind (.standAt (.bind (h.mono fun v p₁ h₁ => .bind (.standAt (.bind (h₁.mono fun _ p₂ h₂ => .pure h₂)))))))
structure ExprQ (Q : Flow → Pt → Prop) (v : Value) (p₁ : Pt) : Prop where
  nr : ∀ a, v ≠ .ref a
  q : Q .next p₁
theorem X_Expr {e : Expr} {pos : Pos} {Q : Flow → Pt → Prop} (h : Run C A L (eval e env) p (ExprQ Q))
    (hi : interactive env = false := by rfl) (hs : swapsWith e none pos.line env = pure false := by rfl) : Run C A L (exec (.Expr e pos) env) p Q :=
  Run.of_eq (exec_Expr _ _ _ hi hs) (.bind (.standAt (.bind (h.mono fun v p₁ h₁ => Run.of_eq (dropValue_plain h₁.1) (.pure h₁.2)))))

theorem X_While {t : Expr} {b o : List Stmt} {pos : Pos} {Q : Flow → Pt → Prop} (I : Nat → Pt → Prop) (n : Nat) (h0 : I n p)
    (h : ∀ n p₁, I n p₁ → Run C A L (isTrue t env (eval t env)) p₁ fun c p₂ => if c then Run C A L (execs b env) p₂ (fun f p₃ => match f with
        | .next | .cont => ∃ k, k < n ∧ I k p₃
        | .brk => Q .next p₃
        | .ret v => Q (.ret v) p₃) else Run C A L (execs o env) p₂ Q) : Run C A L (exec (.While t b o pos) env) p Q := .of fun s S T => by
  refine wpAny_While ?_
  refine codeAny_mono (codeAny_whileLoop (R := fun r s' => ∃ f, r = .ok f ∧ ∃ p', Sat C.B L p' s'.heap ∧ Ext L p s p' s' ∧ Q f p')
    (fun n s' => ∃ p', Sat C.B L p' s'.heap ∧ Ext L p s p' s' ∧ s.toks ≤ s'.toks ∧ I n p') ?_ n ⟨p, S, .refl, Nat.le_refl _, h0⟩) fun r s' hr => by obtain ⟨f, rfl, hq⟩ := hr; exact hq
  rintro n s₁ ⟨p₁, S₁, x₁, t₁, hI⟩
  refine wpAny_mono (wpAny_toks (Run.after S T S₁ x₁ t₁ (h n p₁ hI))) (fun c s₂ hc => ?_) fun _ _ e => e.2.elim
  obtain ⟨t₂, p₂, S₂, x₂, hc⟩ := hc
  have t₂' := Nat.le_trans t₁ t₂
  cases c with
  | false =>
    refine wpAny_mono (Run.after S T S₂ x₂ t₂' hc) (fun f s₃ h₃ => ?_) fun _ _ e => e.elim
    obtain ⟨p₃, S₃, x₃, h₃⟩ := h₃
    exact ⟨f, rfl, p₃, S₃, x₃, h₃⟩
  | true =>
    refine wpAny_mono (wpAny_toks (Run.after S T S₂ x₂ t₂' hc)) (fun f s₃ h₃ => ?_) fun _ _ e => e.2.elim
    obtain ⟨t₃, p₃, S₃, x₃, h₃⟩ := h₃
    have t₃' := Nat.le_trans t₂' t₃
    cases f with
    | next => obtain ⟨k, hk, hI⟩ := h₃; exact ⟨k, hk, p₃, S₃, x₃, t₃', hI⟩
    | cont => obtain ⟨k, hk, hI⟩ := h₃; exact ⟨k, hk, p₃, S₃, x₃, t₃', hI⟩
    | brk => exact ⟨_, rfl, p₃, S₃, x₃, h₃⟩
    | ret v => exact ⟨_, rfl, p₃, S₃, x₃, h₃⟩

/-! objects -/
def listC (vs : List Value) : Cell := fun o => ∃ n, o = { cls := .type "list", data := .seq vs.toArray n }
def tupO (vs : List Value) : Obj := { cls := .type "tuple", data := .seq vs.toArray }

theorem newList_N {vs : List Value} {Q : Value → Pt → Prop} (hz : vs.length ≤ sizeLine) (h : ∀ a, Q (.ref a) { p with N := (a, listC vs) :: p.N }) : Run C A L (newList vs) p Q := .of fun s S T =>
  wpAny_newObj_type ⟨_, S.pushN rfl ⟨0, rfl⟩, Ext.pushN, h _⟩ (by show vs.toArray.size ≤ sizeLine; rw [List.size_toArray]; exact hz)
theorem newTuple_G {vs : List Value} {Q : Value → Pt → Prop} (hz : vs.length ≤ sizeLine) (h : ∀ a G', G' = addG p.G a (tupO vs) → p.G a = none → Q (.ref a) { p with G := G' }) : Run C A L (newTuple vs) p Q := .of fun s S T =>
  wpAny_newObj_type ⟨_, S.pushG rfl, Ext.pushG S, h _ _ rfl (S.none_at (get_size_none _)).2.1⟩ (by show vs.toArray.size ≤ sizeLine; rw [List.size_toArray]; exact hz)
end
end Mine

open PySem PySem.Calls PyProof.Rows
set_option Elab.async false
set_option linter.unusedVariables false
namespace Mine

/-- a def of the text, called with vs -/
def CallRun (C : Cx) (A : Around) (f : Addr) (vs : List Value) (G : Addr → Option Obj) (N : List (Addr × Cell)) (k : Nat) (Q : Value → (Addr → Option Obj) → List (Addr × Cell) → Nat → Prop) : Prop :=
  ∀ s, Sat0 C.B G N s.heap → TokOk k s → codeAny (model C.prog C.w) A (.call (.ref f) ⟨vs, []⟩)
    (fun r s' => ∃ v G' N' k', r = .ok (.ret v) ∧ Sat0 C.B G' N' s'.heap ∧ Ext0 (fun _ => False) G N k s G' N' k' s' ∧ Q v G' N' k') s

section
variable {C : Cx} {A : Around} {L : Addr} {α β : Type} {p : Pt} {env : Env}

theorem Sat0.framed {B : Heap} {p : Pt} {s s' : Shared} {G' : Addr → Option Obj} {Nc Nr N' : List (Addr × Cell)} {k' : Nat} (S : Sat B L p s.heap) (hp : p.N.Perm (Nc ++ Nr))
    (S' : Sat0 B G' N' s'.heap) (x : Ext0 (fun _ => False) p.G Nc p.k s G' N' k' s') : Sat B L { p with G := G', N := N' ++ Nr, k := k' } s'.heap ∧ Ext L p s { p with G := G', N := N' ++ Nr, k := k' } s' := by
  have hd : (dom p.N).Perm (dom Nc ++ dom Nr) := by have := hp.map (·.1); simpa [dom] using this
  have hnd : (dom Nc ++ dom Nr).Nodup := hd.nodup_iff.mp S.s0.nd
  obtain ⟨nc, nr, disj⟩ := List.nodup_append.mp hnd
  have mr : ∀ b ∈ dom Nr, b ∈ dom p.N := fun b hb => hd.mem_iff.mpr (List.mem_append_right _ hb)
  have mc : ∀ b ∈ dom Nc, b ∈ dom p.N := fun b hb => hd.mem_iff.mpr (List.mem_append_left _ hb)
  have notc : ∀ b ∈ dom Nr, b ∉ dom Nc := fun b hr hc => disj b hc b hr rfl
  have alive : ∀ b ∈ dom Nr, s.heap.get? b ≠ none := fun b hb => by
    obtain ⟨q, hq, rfl⟩ := List.mem_map.mp (mr b hb)
    obtain ⟨o, ho, _⟩ := S.s0.own q hq
    rw [ho]; exact fun h => nomatch h
  have Lnc : L ∉ dom Nc := fun h => S.nL (mc L h)
  have Lal : s.heap.get? L ≠ none := by
    obtain ⟨o, _, _, ho, _⟩ := S.ns
    rw [ho]; exact fun h => nomatch h
  have offG : ∀ b, p.G b = none → b ∉ dom Nc → s.heap.get? b ≠ none → G' b = none := fun b h1 h2 h3 => by
    cases h : G' b with
    | none => rfl
    | some o =>
      rcases x.fresh b (.inl (by rw [h]; exact fun h => nomatch h)) with e | e | e
      · exact absurd h1 e
      · exact absurd e h2
      · exact absurd e h3
  have offN : ∀ b, p.G b = none → b ∉ dom Nc → s.heap.get? b ≠ none → b ∉ dom N' := fun b h1 h2 h3 h => by
    rcases x.fresh b (.inr h) with e | e | e
    · exact e h1
    · exact h2 e
    · exact h3 e
  have da : dom (N' ++ Nr) = dom N' ++ dom Nr := by simp [dom]
  refine ⟨⟨⟨S'.base, S'.gs, fun q hq => ?_, fun b hb => ?_, fun b hb => ?_, ?_⟩, ?_, S.bL, offG L S.gL Lnc Lal, fun h => ?_, S.mnd⟩, ⟨fun b o e h1 h2 => x.keep b o e id fun h => h2 (mc b h), x.grow, fun b h => ?_, fun b h => ?_, x.gens, x.os, x.km, x.kk⟩⟩
  · rcases List.mem_append.mp hq with h | h
    · exact S'.own q h
    · have hm : q.1 ∈ dom Nr := List.mem_map_of_mem (f := (·.1)) h
      obtain ⟨o, ho, hc⟩ := S.s0.own q (hp.mem_iff.mpr (List.mem_append_right _ h))
      exact ⟨o, x.keep _ _ ho id (notc _ hm), hc⟩
  · rw [da] at hb
    rcases List.mem_append.mp hb with h | h
    · exact S'.nB b h
    · exact S.s0.nB b (mr b h)
  · rw [da] at hb
    rcases List.mem_append.mp hb with h | h
    · exact S'.nG b h
    · exact offG b (S.s0.nG b (mr b h)) (notc b h) (alive b h)
  · show (dom (N' ++ Nr)).Nodup
    rw [da]
    refine List.nodup_append.mpr ⟨S'.nd, nr, fun a ha b hb e => ?_⟩
    subst e
    exact offN a (S.s0.nG a (mr a hb)) (notc a hb) (alive a hb) ha
  · exact S.ns.at' fun o e => x.keep L o e id Lnc
  · rw [da] at h
    rcases List.mem_append.mp h with h | h
    · exact offN L S.gL Lnc Lal h
    · exact S.nL (mr L h)
  · rcases h with h | h
    · rcases x.fresh b (.inl h) with e | e | e
      · exact .inl e
      · exact .inr (.inl (mc b e))
      · exact .inr (.inr e)
    · change b ∈ dom (N' ++ Nr) at h
      rw [da] at h
      rcases List.mem_append.mp h with h | h
      · rcases x.fresh b (.inr h) with e | e | e
        · exact .inl e
        · exact .inr (.inl (mc b e))
        · exact .inr (.inr e)
      · exact .inr (.inl (mr b h))
  · show b ∈ dom (N' ++ Nr) ∨ _
    rw [da]
    rcases List.mem_append.mp (hd.mem_iff.mp h) with h | h
    · exact (x.noleak b h).imp (List.mem_append_left _) id
    · exact .inl (List.mem_append_right _ h)

theorem Sat0.sub {B : Heap} {G : Addr → Option Obj} {N Nc : List (Addr × Cell)} {h : Heap} (S : Sat0 B G N h) (hs : ∀ q ∈ Nc, q ∈ N) (hn : (dom Nc).Nodup) : Sat0 B G Nc h := by
  have hm : ∀ b ∈ dom Nc, b ∈ dom N := fun b hb => by
    obtain ⟨q, hq, rfl⟩ := List.mem_map.mp hb
    exact List.mem_map_of_mem (f := (·.1)) (hs q hq)
  exact ⟨S.base, S.gs, fun q hq => S.own q (hs q hq), fun b hb => S.nB b (hm b hb), fun b hb => S.nG b (hm b hb), hn⟩

theorem R_call {f : Addr} {vs : List Value} {Nc Nr : List (Addr × Cell)} {Q : Value → Pt → Prop} (hp : p.N.Perm (Nc ++ Nr))
    (h : CallRun C A f vs p.G Nc p.k fun v G' N' k' => Q v { p with G := G', N := N' ++ Nr, k := k' }) : Run C A L (PySem.call (.ref f) vs) p Q := .of fun s S T => by
  have hd : (dom p.N).Perm (dom Nc ++ dom Nr) := by have := hp.map (·.1); simpa [dom] using this
  refine wpAny_call (codeAny_mono (h s (S.s0.sub (fun q hq => hp.mem_iff.mpr (List.mem_append_left _ hq)) (List.nodup_append.mp (hd.nodup_iff.mp S.s0.nd)).1) T) fun r s' hr => ?_)
  obtain ⟨v, G', N', k', rfl, S', x, q⟩ := hr
  obtain ⟨S'', x'⟩ := S'.framed S hp x
  exact ⟨_, S'', x', q⟩
/-- a def that wants and hands back nothing that is owned -/
theorem R_call0 {f : Addr} {vs : List Value} {Q : Value → Pt → Prop} (h : CallRun C A f vs p.G [] p.k fun v G' N' k' => Q v { p with G := G', N := N' ++ p.N, k := k' }) : Run C A L (PySem.call (.ref f) vs) p Q :=
  R_call (Nc := []) (Nr := p.N) (List.Perm.refl _) h

theorem CallRun.mono {f : Addr} {vs : List Value} {G : Addr → Option Obj} {N : List (Addr × Cell)} {k : Nat} {Q Q' : Value → (Addr → Option Obj) → List (Addr × Cell) → Nat → Prop} (h : CallRun C A f vs G N k Q) (hq : ∀ v G' N' k', Q v G' N' k' → Q' v G' N' k') :
    CallRun C A f vs G N k Q' := fun s S T => codeAny_mono (h s S T) fun r s' ⟨v, G', N', k', e, S', x, q⟩ => ⟨v, G', N', k', e, S', x, hq _ _ _ _ q⟩

def retOf : Flow → Value
  | .ret v => v
  | _ => .none

theorem look_of_binds {binds : List (Str × Value)} {m₀ : List (Str × Option Value)} (hm : m₀ = (m₀.map (·.1)).map fun x => (x, binds.reverse.lookup x)) (hs : (binds.all fun q => (m₀.map (·.1)).contains q.1) = true) :
    look m₀ = fun x => binds.reverse.lookup x := by
  have key : ∀ (ns : List Str) (y : Str), look (ns.map fun x => (x, binds.reverse.lookup x)) y = if y ∈ ns then binds.reverse.lookup y else none := by
    intro ns y
    induction ns with
    | nil => rfl
    | cons n r ih =>
      simp only [List.map_cons, look, ih, List.mem_cons]
      by_cases h : y = n
      · simp [h]
      · simp [h]
  funext y
  rw [hm, key]
  by_cases h : y ∈ m₀.map (·.1)
  · rw [if_pos h]
  · rw [if_neg h]
    cases e : binds.reverse.lookup y with
    | none => rfl
    | some v =>
      exfalso
      have hmem : (y, v) ∈ binds := List.mem_reverse.mp (mem_of_lookup e)
      have := List.all_eq_true.mp hs _ hmem
      exact h (List.contains_iff_mem.mp this)

/-- what a call binds, whatever the heap -/
def Binds (C : Cx) (fd : FuncData) (vs : List Value) (binds : List (Str × Value)) : Prop := ∀ s : Shared, (∀ b o, C.B.get? b = some o → s.heap.get? b = some o) → BindsTo s fd ⟨vs, []⟩ binds
theorem Binds.of_eq {fd : FuncData} {vs : List Value} {binds : List (Str × Value)} (h : bindArgs fd ⟨vs, []⟩ = pure binds) : Binds C fd vs binds := fun _ _ => .of_eq h
theorem Binds.of_defaults {fd : FuncData} {vs : List Value} {binds : List (Str × Value)} {T : Addr} {o : Obj} {items : Array Value} {n : Nat}
    {kk : Option (Array Value) → Sem (List (Str × Value))} (hd : fd.defaults = .ref T) (ho : C.B.get? T = some o) (hs : o.data = .seq items n) (h₁ : bindArgs fd ⟨vs, []⟩ = seqItems? fd.defaults >>= kk) (h₂ : kk (some items) = pure binds) : Binds C fd vs binds :=
  fun s S => .of_defaults hd (S _ _ ho) hs h₁ h₂

theorem CallRun.body {gl bl : List (Str × Value)} {f : Addr} {o : Obj} {fd : FuncData} {body : List Stmt} {vs : List Value} {binds : List (Str × Value)} {G : Addr → Option Obj} {N : List (Addr × Cell)} {m₀ : List (Str × Option Value)} {k : Nat}
    {Q : Value → (Addr → Option Obj) → List (Addr × Cell) → Nat → Prop} {d : Nat} (K : Base C gl bl) (hr : Room A (d + 1)) (ho : C.B.get? f = some o) (hdata : o.data = .func fd) (hcd : C.B.CodeRec fd.code fd.qualname)
    (hbind : Binds C fd vs binds) (hm : m₀ = (m₀.map (·.1)).map fun x => (x, binds.reverse.lookup x)) (hs : (binds.all fun q => (m₀.map (·.1)).contains q.1) = true) (hnd : (m₀.map (·.1)).Nodup)
    (hbody : fd.body = .stmts body) (hcell : ∀ x ∈ fd.scope.names, x.2 ≠ .cell) (hloc : ∀ x ∈ binds, fd.scope.names.lookup x.1 = some .local)
    (h : ∀ L, Room (A.deeper (callEnv fd L f)) d → Run C (A.deeper (callEnv fd L f)) L (execs body (callEnv fd L f)) ⟨G, m₀, N, k⟩ fun fl p' => Q (retOf fl) p'.G p'.N p'.k)
    (hco : fd.scope.isCoroutine = false := by rfl) (hgen : fd.scope.isGenerator = false := by rfl) (hk : fd.scope.kind = .function := by rfl) : CallRun C A f vs G N k Q := fun s S T => by
  have hroom : A.depth < recursionLimit := by have := hr.depth; omega
  refine codeAny_call_def hroom (S.base _ _ ho) hdata (K.lim.keeps S.base) ?_ hbody (hbind s S.base) hcell hloc (fun h₁ hns hk₁ => ?_) hco hgen hk
  · obtain ⟨c, oc, x, y, e1, e2, e3⟩ := hcd
    exact ⟨c, oc, x, y, e1, S.base _ _ e2, e3⟩
  have Lnone : s.heap.get? s.heap.objs.size = none := get_size_none _
  have S1 := S.keep hk₁
  have Sat1 : Sat C.B s.heap.objs.size ⟨G, m₀, N, k⟩ h₁ := ⟨S1, by rw [look_of_binds hm hs]; exact hns, by
      cases e : C.B.get? s.heap.objs.size with
      | none => rfl
      | some o => (have := S.base _ _ e; rw [Lnone] at this; cases this), by
      show G s.heap.objs.size = none
      cases e : G s.heap.objs.size with
      | none => rfl
      | some o => (have := S.gs _ _ e; rw [Lnone] at this; cases this), fun hL => Nat.lt_irrefl _ (S.lt hL), hnd⟩
  refine wpAny_mono ((h s.heap.objs.size (hr.deeper _)).go _ Sat1 ⟨Nat.le_trans T.le (Nat.le_add_right _ _)⟩) (fun fl s' hq => ?_) fun _ _ e => e.elim
  obtain ⟨p', S', x, q⟩ := hq
  refine ⟨_, p'.G, p'.N, p'.k, by cases fl <;> rfl, S'.s0, ⟨fun b o e _ hb => x.keep b o (hk₁ b o e) (Nat.ne_of_lt (Heap.lt_size e)) hb, x.grow, fun b hb => ?_, x.noleak, x.gens, x.os, x.km, x.kk⟩, q⟩
  rcases x.fresh b hb with e | e | e
  · exact .inl e
  · exact .inr (.inl e)
  · refine .inr (.inr ?_)
    cases e2 : s.heap.get? b with
    | none => rfl
    | some o => rw [hk₁ b o e2] at e; cases e

/-! calls -/
theorem R_evalArgs {f : Value} {args : List (Bool × Sem Value)} {Q : Args → Pt → Prop} (hp : args.any (·.1) = false) (h : Run C A L (spliced args) p fun vs p₁ => Q ⟨vs, []⟩ p₁) : Run C A L (PySem.evalArgs f true args []) p Q := by
  have e : PySem.evalArgs f true args [] = (do
      let vs ← spliced args
      PySem.holding (vs ++ []) (do let ks ← evalAll []; let ps ← (Pure.pure vs : Sem (List Value)); Pure.pure ⟨ps, (([] : List (Option Str × Sem Value)).filterMap (·.1)).zip ks⟩)) := by
    cases args with
    | nil => rfl
    | cons x r =>
      obtain ⟨b, t⟩ := x
      have hb : b = false := by
        simp only [List.any_cons, Bool.or_eq_false_iff] at hp
        exact hp.1
      subst hb
      rfl
  refine Run.of_eq e (.bind (h.mono fun vs p₁ h₁ => .holding (.bind (.pure (.bind (.pure (.pure ?_)))))))
  exact h₁
end
end Mine

open PySem PySem.Calls PyProof.Rows
set_option Elab.async false
set_option linter.unusedVariables false
namespace Mine

section
variable {C : Cx} {A : Around} {L : Addr} {α β : Type} {p : Pt} {env : Env}

theorem R_chain {t : Sem α} {k : α → Sem β} {P : α → Shared → Prop} {Q : β → Pt → Prop} {s : Shared} (S : Sat C.B L p s.heap) (T : TokOk p.k s) (h : Run C A L t p fun a p₁ => (∀ s₁, Sat C.B L p₁ s₁.heap → P a s₁) ∧ Run C A L (k a) p₁ Q) :
    wpAny (model C.prog C.w) A t (fun a s₁ => P a s₁ ∧ wpAny (model C.prog C.w) A (k a) (Post C L p s Q) (fun _ _ => False) s₁) (fun _ _ => False) s :=
  wpAny_mono (wpAny_toks (h.go s S T)) (fun a s₁ ⟨ht, p₁, S₁, x, q⟩ => ⟨q.1 s₁ S₁, Run.after S T S₁ x ht q.2⟩) fun _ _ e => e.2

theorem R_callV {f : Value} {first : List Value} {args : List (Bool × Sem Value)} {pos : Pos} {Q : Value → Pt → Prop} (hk : keeperOf f = pure .machine) (hp : args.any (·.1) = false)
    (h : Run C A L (spliced args) p fun vs p₁ => Run C A L (PySem.call f (first ++ vs)) p₁ Q) : Run C A L (callWith pos f first args []) p Q := by
  unfold callWith
  refine .bind (.holding (R_evalArgs hp (h.mono fun vs p₁ h₁ => .bind (.standAt ?_))))
  simp only [hp, List.any_nil, Bool.or_false]
  refine .bind (Run.of_eq hk (.pure ?_))
  exact .bind (h₁.mono fun r p₂ h₂ => .bind (.holding (.point (.pure h₂))))
theorem R_callF {f : Addr} {o : Obj} {fd : FuncData} {first : List Value} {args : List (Bool × Sem Value)} {pos : Pos} {Q : Value → Pt → Prop} (ho : C.B.get? f = some o) (hd : o.data = .func fd) (hp : args.any (·.1) = false)
    (h : Run C A L (spliced args) p fun vs p₁ => Run C A L (PySem.call (.ref f) (first ++ vs)) p₁ Q) : Run C A L (callWith pos (.ref f) first args []) p Q := .of fun s S T => by
  refine callWith_function (o := o) (fd := fd) (wpAny_mono (R_chain (P := fun a s₁ => (s₁.heap.get? f = some o ∧ o.data = .func fd) ∧ a.kw = []) (k := fun a => PySem.call (.ref f) (first ++ a.pos)) S T
    (R_evalArgs hp (h.mono fun vs p₁ h₁ => ⟨fun s₁ S₁ => ⟨⟨S₁.s0.base _ _ ho, hd⟩, rfl⟩, h₁⟩))) (fun a s₁ h₁ => ⟨h₁.1.1, ?_⟩) fun _ _ e => e)
  rw [h₁.1.2]; exact h₁.2

theorem plainTrees {pos : Pos} : ∀ {args : List Expr}, (args.all fun e => !PySem.W.isStarred e) = true → ((backTo pos (starEach args env)).any (·.1)) = false
  | [], _ => rfl
  | e :: r, h => by
    simp only [List.all_cons, Bool.and_eq_true, Bool.not_eq_true'] at h
    rw [starEach_cons h.1]
    have := plainTrees (pos := pos) h.2
    simpa [backTo] using this

/-- a name is called: a built-in or a type -/
theorem E_callV {id : Str} {np pos : Pos} {args : List Expr} {f : Value} {Q : Value → Pt → Prop} (hf : ∀ {Q : Value → Pt → Prop}, Q f p → Run C A L (eval (.Name id np) env) p Q)
    (h : Run C A L (spliced (backTo pos (starEach args env))) p fun vs p₁ => Run C A L (PySem.call f vs) p₁ Q) (hk : keeperOf f = pure .machine := by rfl) (hp : (args.all fun e => !PySem.W.isStarred e) = true := by rfl) :
    Run C A L (eval (.Call (.Name id np) args [] pos) env) p Q :=
  Run.of_eq (arm_eval_Call_Name' ..) (.bind (hf (R_callV (first := []) hk (plainTrees hp) h)))
/-- a name is called: a def of the text -/
theorem E_callF {id : Str} {np pos : Pos} {args : List Expr} {f : Addr} {o : Obj} {fd : FuncData} {Q : Value → Pt → Prop} (ho : C.B.get? f = some o) (hd : o.data = .func fd) (hf : ∀ {Q : Value → Pt → Prop}, Q (.ref f) p → Run C A L (eval (.Name id np) env) p Q)
    (h : Run C A L (spliced (backTo pos (starEach args env))) p fun vs p₁ => Run C A L (PySem.call (.ref f) vs) p₁ Q) (hp : (args.all fun e => !PySem.W.isStarred e) = true := by rfl) :
    Run C A L (eval (.Call (.Name id np) args [] pos) env) p Q :=
  Run.of_eq (arm_eval_Call_Name' ..) (.bind (hf (R_callF (first := []) ho hd (plainTrees hp) h)))

/-- the type of a value, as every heap of the state tells it -/
def HasT (C : Cx) (L : Addr) (p : Pt) (v : Value) (T : String) : Prop := ∀ s : Shared, Sat C.B L p s.heap → s.TypeIs v T ∧ ∀ a, v = .ref a → ∃ ob, s.heap.get? a = some ob ∧ ob.dict = none
theorem HasT.str {x : Str} {t : Tok} : HasT C L p (.str x t) "str" := fun s _ => ⟨rfl, fun _ e => nomatch e⟩
structure MethQ (C : Cx) (A : Around) (L : Addr) (env : Env) (T id : String) (pos : Pos) (args : List Expr) (Q : Value → Pt → Prop) (ov : Value) (p₁ : Pt) : Prop where
  ty : HasT C L p₁ ov T
  go : Run C A L (spliced (backTo pos (starEach args env))) p₁ fun vs p₂ => Run C A L (PySem.call (.builtin id) (ov :: vs)) p₂ Q
theorem E_meth {T id : String} {o : Expr} {name : Str} {apos pos : Pos} {args : List Expr} {Q : Value → Pt → Prop} (slot : Slot T name id) (pa : PlainAttrs T) (hty : typeOf (.builtin id) = pure (.type "method_descriptor"))
    (h : Run C A L (eval o env) p (MethQ C A L env T id pos args Q))
    (hbase : attributeBase o name env (eval o env) = eval o env := by rfl) (hp : (args.all fun e => !PySem.W.isStarred e) = true := by rfl)
    (hfew : ((backTo pos (starEach args env)).all (fun x => !x.1) && (backToKw pos (keywordEach [] env)).all (fun x => x.1.isSome) && decide (args.length + ([] : List Keyword).length + (if ([] : List Keyword).isEmpty then 0 else 1) < 30)) = true := by rfl)
    (hline : (apos.endLine == pos.line) = true := by rfl) : Run C A L (eval (.Call (.Attribute o name apos) args [] pos) env) p Q := .of fun s S TK => by
  refine wpAny_Call_method hbase hfew hline pa slot hty (wpAny_mono (R_chain (P := fun ov s₁ => s₁.TypeIs ov T ∧ ∀ a, ov = .ref a → ∃ ob, s₁.heap.get? a = some ob ∧ ob.dict = none)
    (k := fun ov => callWith pos (.builtin id) [ov] (backTo pos (starEach args env)) []) S TK (h.mono fun ov p₁ h₁ => ⟨fun s₁ S₁ => h₁.1 s₁ S₁, R_callV (first := [ov]) rfl (plainTrees hp) h₁.2⟩)) (fun ov s₁ h₁ => ⟨h₁.1.1, h₁.1.2, h₁.2⟩) fun _ _ e => e)

/-- a built-in method's summary, as a step -/
theorem R_meets {T : String} {name : Str} {id : String} {B : Builtin} {self : Value} {rest : List Value} {Q : Value → Pt → Prop} (slot : Slot T name id) (entry : entryFor table id = some B) (args : argsOk id ⟨self :: rest, []⟩) (hT : HasT C L p self T)
    (h : ∀ s, Sat C.B L p s.heap → TokOk p.k s → ∃ S, MeetsIn C.prog C.w (B ⟨self :: rest, []⟩) S ∧ S A (wants (Post C L p s Q) fun _ _ => False) s) : Run C A L (PySem.call (.builtin id) (self :: rest)) p Q := .of fun s S TK => by
  obtain ⟨Sp, g, hs⟩ := h s S TK
  exact call_meetsIn slot (hT s S).1 entry args g hs
end
end Mine

open PySem PySem.Calls PyProof.Rows
set_option Elab.async false
set_option linter.unusedVariables false
namespace Mine

/-- objects that the state does not speak of -/
def Hid (B : Heap) (L : Addr) (W : List Addr) (p : Pt) (h : Heap) : Prop := ∀ b ∈ W, B.get? b = none ∧ p.G b = none ∧ b ∉ dom p.N ∧ b ≠ L ∧ h.get? b ≠ none

section
variable {B : Heap} {L : Addr} {W : List Addr} {p p' p₀ : Pt} {h h' : Heap} {s s' s₀ : Shared}
theorem Hid.step (H : Hid B L W p s.heap) (x : Ext L p s p' s') : Hid B L W p' s'.heap ∧ ∀ b ∈ W, ∀ o, s.heap.get? b = some o → s'.heap.get? b = some o := by
  have kp : ∀ b ∈ W, ∀ o, s.heap.get? b = some o → s'.heap.get? b = some o := fun b hb o e => x.keep b o e (H b hb).2.2.2.1 (H b hb).2.2.1
  refine ⟨fun b hb => ?_, kp⟩
  obtain ⟨h1, h2, h3, h4, h5⟩ := H b hb
  refine ⟨h1, ?_, fun h => ?_, h4, ?_⟩
  · cases e : p'.G b with
    | none => rfl
    | some o =>
      rcases x.fresh b (.inl (by rw [e]; exact fun h => nomatch h)) with q | q | q
      · exact absurd h2 q
      · exact absurd q h3
      · exact absurd q h5
  · rcases x.fresh b (.inr h) with q | q | q
    · exact q h2
    · exact h3 q
    · exact h5 q
  · cases e : s.heap.get? b with
    | none => exact absurd e h5
    | some o => rw [kp b hb o e]; exact fun h => nomatch h
theorem Hid.only (H : Hid B L W p h) (ha : ∀ b ∈ W, h'.get? b ≠ none) : Hid B L W p h' := fun b hb => let ⟨h1, h2, h3, h4, _⟩ := H b hb; ⟨h1, h2, h3, h4, ha b hb⟩
theorem Sat.hid (S : Sat B L p h) (H : Hid B L W p h) (hk : ∀ b o, b ∉ W → h.get? b = some o → h'.get? b = some o) : Sat B L p h' := by
  refine ⟨⟨fun b o e => hk b o (fun hb => by rw [(H b hb).1] at e; cases e) (S.s0.base b o e), fun b o e => hk b o (fun hb => by rw [(H b hb).2.1] at e; cases e) (S.s0.gs b o e), fun q hq => ?_, S.s0.nB, S.s0.nG, S.s0.nd⟩, ?_, S.bL, S.gL, S.nL, S.mnd⟩
  · obtain ⟨o, ho, hc⟩ := S.s0.own q hq
    exact ⟨o, hk _ _ (fun hb => (H _ hb).2.2.1 (List.mem_map_of_mem (f := (·.1)) hq)) ho, hc⟩
  · exact S.ns.at' fun o e => hk _ _ (fun hb => (H _ hb).2.2.2.1 rfl) e
theorem Ext.hid (x : Ext L p₀ s₀ p s) (hW : ∀ b ∈ W, s₀.heap.get? b = none) {tk : Nat} (ht : s.toks ≤ tk) (hk : ∀ b o, b ∉ W → s.heap.get? b = some o → h'.get? b = some o) : Ext L p₀ s₀ p { s with heap := h', toks := tk } :=
  ⟨fun b o e h1 h2 => hk b o (fun hb => by rw [hW b hb] at e; cases e) (x.keep b o e h1 h2), x.grow, x.fresh, x.noleak, x.gens, x.os, x.km, x.kk.imp id fun e => Nat.le_trans e ht⟩
end

section
variable {C : Cx} {A : Around} {L : Addr} {α β : Type} {p : Pt} {env : Env}

/-- what a for or a comprehension goes over -/
def IterOn (C : Cx) (A : Around) (L : Addr) (p : Pt) (target : Expr) (xv : Value) (n : Nat) (P : Nat → Value → Heap → Prop) : Prop :=
  ∀ s, Sat C.B L p s.heap → TokOk p.k s → wpAny (model C.prog C.w) A (pyIter xv) (fun itv s₂ => ∃ I fp wr Md St h' tk, itv = .ref I ∧ s₂ = { s with heap := h', toks := tk } ∧ PySem.W.KTurns C.prog C.w A target I fp wr n P Md St ∧ St 0 h' ∧
    (∀ b o, s.heap.get? b = some o → h'.get? b = some o) ∧ (∀ b ∈ wr, s.heap.get? b = none) ∧ (∀ b ∈ fp, b ∈ wr ∨ ∃ o, p.G b = some o) ∧ (∀ i h, St i h → ∀ b ∈ wr, h.get? b ≠ none) ∧
    (∀ i (s : Shared) (Q : Value → Shared → Prop) (E : Value → Shared → Prop), St i s.heap → Q (.ref I) s → wpAny (model C.prog C.w) A (pyIter (.ref I)) Q E s)) (fun _ _ => False) s

/-- the target takes one item -/
def AsgRun (C : Cx) (A : Around) (L : Addr) (target : Expr) (env : Env) (P : Value → Heap → Prop) (p : Pt) (Q : Pt → Prop) : Prop :=
  ∀ v s, P v s.heap → Sat C.B L p s.heap → TokOk p.k s → wpAny (model C.prog C.w) A (assign target env v) (Post C L p s fun _ p' => Q p') (fun _ _ => False) s

theorem Hid.ofNew {wr : List Addr} {s : Shared} {h' : Heap} (S : Sat C.B L p s.heap) (hw : ∀ b ∈ wr, s.heap.get? b = none) (ha : ∀ b ∈ wr, h'.get? b ≠ none) : Hid C.B L wr p h' := fun b hb =>
  let ⟨h1, h2, h3, h4⟩ := S.none_at (hw b hb); ⟨h1, h2, h3, h4, ha b hb⟩

inductive ForQ (C : Cx) (A : Around) (L : Addr) (env : Env) (target : Expr) (body orelse : List Stmt) (Q : Flow → Pt → Prop) (I : Nat → Pt → Prop) (xv : Value) (p₁ : Pt) : Prop
  | mk (n : Nat) (P : Nat → Value → Heap → Prop) (it : IterOn C A L p₁ target xv n P) (h0 : I 0 p₁)
      (step : ∀ i p₂, i < n → I i p₂ → (∀ b o, p₁.G b = some o → p₂.G b = some o) → AsgRun C A L target env (P i) p₂ fun p₃ => Run C A L (execs body env) p₃ fun f p₄ => match f with
        | .next | .cont => I (i + 1) p₄
        | .brk => Q .next p₄
        | .ret v => Q (.ret v) p₄)
      (fin : ∀ p₂, I n p₂ → (∀ b o, p₁.G b = some o → p₂.G b = some o) → Run C A L (execs orelse env) p₂ Q) : ForQ C A L env target body orelse Q I xv p₁
inductive ForR (C : Cx) (L : Addr) (p : Pt) (s : Shared) (Q : Flow → Pt → Prop) (r : Result) (s' : Shared) : Prop
  | mk (f : Flow) (e : r = .ok f) (p' : Pt) (h1 : Sat C.B L p' s'.heap) (h2 : Ext L p s p' s') (h3 : Q f p') : ForR C L p s Q r s'
inductive ForI (C : Cx) (L : Addr) (I : Nat → Pt → Prop) (St : Nat → Heap → Prop) (wr : List Addr) (p₁ : Pt) (s₁ : Shared) (n : Nat) (k : Nat) (s' : Shared) : Prop
  | mk (i : Nat) (p₂ : Pt) (h1 : St i s'.heap) (h2 : Sat C.B L p₂ s'.heap) (h3 : Ext L p₁ s₁ p₂ s') (h4 : s₁.toks ≤ s'.toks) (h5 : Hid C.B L wr p₂ s'.heap) (h6 : I i p₂) (h7 : i ≤ n) (h8 : k = n + 1 - i) : ForI C L I St wr p₁ s₁ n k s'
theorem X_For {target iter : Expr} {body orelse : List Stmt} {pos : Pos} {Q : Flow → Pt → Prop} (I : Nat → Pt → Prop)
    (h : Run C A L (eval iter env) p (ForQ C A L env target body orelse Q I))
    (hs : ∀ x, foldedSetIterable iter env x = pure x := by intro _; rfl) : Run C A L (exec (.For target iter body orelse pos) env) p Q := .of fun s S T => by
  refine wpAny_For (wpAny_mono (wpAny_toks (h.go s S T)) (fun xv s₁ h₁ => ?_) fun _ _ e => e.2) hs
  obtain ⟨t₁, p₁, S₁, x₁, n, P, it, hI0, step, fin⟩ := h₁
  have T₁ := T.next x₁ t₁
  refine wpAny_mono (wpAny_toks (it s₁ S₁ T₁)) (fun itv s₂ h₂ => ?_) fun _ _ e => e.2.elim
  obtain ⟨t₂, Ia, fp, wr, Md, St, h', tk, rfl, rfl, W, st0, hk, hw, hf, hal, _⟩ := h₂
  refine codeAny_mono (PySem.codeAny_forLoop_any (R := ForR C L p s Q) (ForI C L I St wr p₁ s₁ n) ?_ (n + 1)
    ⟨0, p₁, st0, S₁.keep hk, Ext.heap hk, t₂, Hid.ofNew S₁ hw (hal 0 _ st0), hI0, Nat.zero_le _, rfl⟩) fun r s' hr => by obtain ⟨f, rfl, p', h1, h2, h3⟩ := hr; exact ⟨p', h1, h2, h3⟩
  rintro k s' ⟨i, p₂, st, S₂, x₂, t₃, H, hI, hi, rfl⟩
  by_cases hlt : i < n
  · refine wpAny_with_toks (Nat.le_refl _) (W.item i _ _ _ hlt st fun v h₄ tk₄ hMd hk₄ ht₄ => W.go i v _ _ _ hMd fun h₅ hP st₅ hk₅ => ?_)
    have hk₅' : ∀ b o, b ∉ wr → s'.heap.get? b = some o → h₅.get? b = some o := fun b o hb e => hk₅ b o hb (hk₄ b o hb e)
    have H₅ : Hid C.B L wr p₂ h₅ := H.only (hal _ _ st₅)
    have S₅ : Sat C.B L p₂ h₅ := S₂.hid H hk₅'
    have x₅ : Ext L p₁ s₁ p₂ { s' with heap := h₅, toks := tk₄ } := x₂.hid hw ht₄ hk₅'
    have t₅ : s₁.toks ≤ tk₄ := Nat.le_trans t₃ ht₄
    refine wpAny_mono (wpAny_toks (step i p₂ hlt hI x₂.grow v { s' with heap := h₅, toks := tk₄ } hP S₅ (T₁.next x₅ t₅))) (fun _ s₆ h₆ => ?_) fun _ _ e => e.2.elim
    obtain ⟨t₆, p₆, S₆, y₆, run⟩ := h₆
    obtain ⟨H₆, W₆⟩ := Hid.step H₅ y₆
    have st₆ : St (i + 1) s₆.heap := W.frame _ _ _ st₅ fun b hb o e => by
      rcases hf b hb with hb | ⟨o', ho'⟩
      · exact W₆ b hb o e
      · have e1 := S₅.s0.gs b o' (x₂.grow b o' ho')
        have e2 := S₆.s0.gs b o' (y₆.grow b o' (x₂.grow b o' ho'))
        rw [e1] at e; cases e; exact e2
    have x₆ := x₅.trans S₁ S₅ y₆ t₆
    have t₆' : s₁.toks ≤ s₆.toks := Nat.le_trans t₅ t₆
    refine wpAny_mono (wpAny_toks ((run : Run ..).go s₆ S₆ (T₁.next x₆ t₆'))) (fun f s₇ h₇ => ?_) fun _ _ e => e.2.elim
    obtain ⟨t₇, p₇, S₇, y₇, q⟩ := h₇
    obtain ⟨H₇, W₇⟩ := Hid.step H₆ y₇
    have st₇ : St (i + 1) s₇.heap := W.frame _ _ _ st₆ fun b hb o e => by
      rcases hf b hb with hb | ⟨o', ho'⟩
      · exact W₇ b hb o e
      · have e0 := y₆.grow b o' (x₂.grow b o' ho')
        have e1 := S₆.s0.gs b o' e0
        have e2 := S₇.s0.gs b o' (y₇.grow b o' e0)
        rw [e1] at e; cases e; exact e2
    have x₇ := x₆.trans S₁ S₆ y₇ t₇
    have t₇' : s₁.toks ≤ s₇.toks := Nat.le_trans t₆' t₇
    have big := x₁.trans S S₁ x₇ t₇'
    cases f with
    | next => exact ⟨n + 1 - (i + 1), by omega, i + 1, p₇, st₇, S₇, x₇, t₇', H₇, q, hlt, rfl⟩
    | cont => exact ⟨n + 1 - (i + 1), by omega, i + 1, p₇, st₇, S₇, x₇, t₇', H₇, q, hlt, rfl⟩
    | brk => exact ⟨_, rfl, p₇, S₇, big, q⟩
    | ret v => exact ⟨_, rfl, p₇, S₇, big, q⟩
  · have hin : i = n := by omega
    subst hin
    refine wpAny_with_toks (Nat.le_refl _) (W.done _ _ _ st fun h₄ tk₄ hk₄ ht₄ => ?_)
    have S₅ : Sat C.B L p₂ h₄ := S₂.hid H hk₄
    have x₅ : Ext L p₁ s₁ p₂ { s' with heap := h₄, toks := tk₄ } := x₂.hid hw ht₄ hk₄
    have t₅ : s₁.toks ≤ tk₄ := Nat.le_trans t₃ ht₄
    refine wpAny_mono (wpAny_toks ((fin p₂ hI x₂.grow).go { s' with heap := h₄, toks := tk₄ } S₅ (T₁.next x₅ t₅))) (fun f s₆ h₆ => ?_) fun _ _ e => e.2.elim
    obtain ⟨t₆, p₆, S₆, y₆, q⟩ := h₆
    have x₆ := x₅.trans S₁ S₅ y₆ t₆
    exact ⟨f, rfl, p₆, S₆, x₁.trans S S₁ x₆ (Nat.le_trans t₅ t₆), q⟩

theorem AsgRun.name {x : Str} {px : Pos} {P : Value → Heap → Prop} {Q : Pt → Prop} (h : ∀ v, (∃ h', P v h') → Run C A L (bindName env x v) p fun _ p' => Q p') : AsgRun C A L (.Name x px) env P p Q := fun v s hP S T => by
  rw [arm_assign_Name]
  exact wpAny_bind (wpAny_standAt ((h v ⟨_, hP⟩).go s S T))

/-! comprehensions -/
theorem R_tests_nil {Q : Bool → Pt → Prop} (h : Q true p) : Run C A L (forIn ([] : List Expr) true fun c r => if r = true then do let ok ← isTrue c env (eval c env); Pure.pure (ForInStep.yield ok) else Pure.pure (ForInStep.yield r)) p Q :=
  .of fun s S T => wpAny_tests_nil ⟨p, S, .refl, h⟩
theorem R_tests_one {c : Expr} {Q : Bool → Pt → Prop} (h : Run C A L (isTrue c env (eval c env)) p Q) :
    Run C A L (forIn [c] true fun c r => if r = true then do let ok ← isTrue c env (eval c env); Pure.pure (ForInStep.yield ok) else Pure.pure (ForInStep.yield r)) p Q := .of fun s S T => wpAny_tests_one (h.go s S T)

/-- the frame of a comprehension, made: its slots empty -/
theorem look_none : ∀ {m : List (Str × Option Value)}, (∀ q ∈ m, q.2 = none) → ∀ y, look m y = none
  | [], _, _ => rfl
  | (x, v) :: r, h, y => by
    simp only [look]
    split
    · exact h _ List.mem_cons_self
    · exact look_none (fun q hq => h q (List.mem_cons_of_mem _ hq)) y

end
end Mine

open PySem PySem.Calls PyProof.Rows
set_option Elab.async false
set_option linter.unusedVariables false
namespace Mine

/-- frozen sequences -/
def ListAt (G : Addr → Option Obj) (l : Addr) (vs : List Value) : Prop := ∃ o n, G l = some o ∧ o.cls = .type "list" ∧ o.data = .seq vs.toArray n
def TupAt (G : Addr → Option Obj) (l : Addr) (vs : List Value) : Prop := ∃ o n, G l = some o ∧ o.cls = .type "tuple" ∧ o.data = .seq vs.toArray n
abbrev GLe (G G' : Addr → Option Obj) : Prop := ∀ b o, G b = some o → G' b = some o
theorem GLe.refl (G : Addr → Option Obj) : GLe G G := fun _ _ e => e
theorem GLe.trans {G G' G'' : Addr → Option Obj} (x : GLe G G') (y : GLe G' G'') : GLe G G'' := fun b o e => y b o (x b o e)
theorem GLe.add {G : Addr → Option Obj} {a : Addr} {o : Obj} (h : G a = none) : GLe G (addG G a o) := fun b ob e => by
  simp only [addG]; rw [if_neg (by rintro rfl; rw [h] at e; cases e)]; exact e
theorem addG_self {G : Addr → Option Obj} {a : Addr} {o : Obj} : addG G a o a = some o := by simp [addG]
theorem ListAt.mono {G G' : Addr → Option Obj} {l : Addr} {vs : List Value} (h : ListAt G l vs) (x : GLe G G') : ListAt G' l vs := let ⟨o, n, e, r⟩ := h; ⟨o, n, x _ _ e, r⟩
theorem TupAt.mono {G G' : Addr → Option Obj} {l : Addr} {vs : List Value} (h : TupAt G l vs) (x : GLe G G') : TupAt G' l vs := let ⟨o, n, e, r⟩ := h; ⟨o, n, x _ _ e, r⟩
theorem TupAt.new {G : Addr → Option Obj} {a : Addr} {vs : List Value} : TupAt (addG G a (tupO vs)) a vs := ⟨_, 0, addG_self, rfl, rfl⟩
theorem ListAt.new {G : Addr → Option Obj} {a : Addr} {vs : List Value} {o : Obj} (h : listC vs o) : ListAt (addG G a o) a vs := let ⟨n, e⟩ := h; ⟨o, n, addG_self, by rw [e], by rw [e]⟩

section
variable {C : Cx} {A : Around} {L : Addr} {α β : Type} {p : Pt} {env : Env}

theorem ListAt.isList {B : Heap} {h : Heap} {l : Addr} {vs : List Value} (x : ListAt p.G l vs) (S : Sat B L p h) : h.IsList l vs.toArray := let ⟨o, n, e, hc, hd⟩ := x; ⟨o, S.s0.gs _ _ e, hc, n, hd⟩
theorem TupAt.isTup {B : Heap} {h : Heap} {l : Addr} {vs : List Value} (x : TupAt p.G l vs) (S : Sat B L p h) : h.IsTuple l vs.toArray := let ⟨o, n, e, hc, hd⟩ := x; ⟨o, S.s0.gs _ _ e, hc, n, hd⟩

/-- a target that unpacks nothing, or unpacks what a list's iterator hands out -/
def EasyTarget : Expr → Bool
  | .Name .. => true
  | .Tuple .. => true
  | _ => false

theorem go_list {target : Expr} {I l : Addr} {i : Nat} {v : Value} {s : Shared} {Q : Unit → Shared → Prop} {E : Value → Shared → Prop} (ht : EasyTarget target = true) (hi : s.heap.IsListIter I l i) (hQ : Q () s) :
    wpAny (model C.prog C.w) A (letOwnedTupleGo target (.ref I) v) Q E s := by
  cases target with
  | Name x p => exact wpAny_pure hQ
  | Tuple es k pos =>
    cases v with
    | ref T => exact wpAny_letOwnedTupleGo_listiter hi hQ
    | _ => exact wpAny_pure hQ
  | _ => cases ht

theorem IterOn.list {target : Expr} {l : Addr} {vs : List Value} (hh : A.handled = none) (hl : ListAt p.G l vs) (ht : EasyTarget target = true := by rfl) : IterOn C A L p target (.ref l) vs.length fun i v _ => vs[i]? = some v := fun s S T => by
  have hls := hl.isList S
  obtain ⟨o, n, e, _⟩ := id hl
  have hlt : l < s.heap.objs.size := Heap.lt_size (S.s0.gs _ _ e)
  have hne : l ≠ s.heap.objs.size := Nat.ne_of_lt hlt
  refine wpAny_pyIter_list hls ?_
  have W := Walks.list (prog := C.prog) (w := C.w) hh s.heap.objs.size l hne vs.toArray
  have W' := PySem.W.KTurns.ofWalks (target := target) W fun i v s Q E st hQ => go_list ht st.1 hQ
  rw [List.size_toArray] at W'
  refine ⟨_, _, _, _, _, _, _, rfl, rfl, { W' with item := fun i s Q E hi st hQ => W'.item i s Q E hi st hQ, go := fun i v s Q E hm hQ => W'.go i v s Q E hm fun h' hP st hk => hQ h' (by simpa using hP) st hk }, ⟨⟨_, Heap.get?_push_size _ rfl, rfl, rfl⟩, hls.at fun o e => Heap.get?_push_of_some _ e⟩,
    fun b o e => Heap.get?_push_of_some _ e, fun b hb => by rw [List.mem_singleton.mp hb]; exact get_size_none _, fun b hb => ?_, fun i h st b hb => ?_, fun i s Q E st hQ => W.self i s Q E st hQ⟩
  · rcases List.mem_cons.mp hb with q | q
    · exact .inl (List.mem_singleton.mpr q)
    · exact .inr ⟨o, by rw [List.mem_singleton.mp q]; exact e⟩
  · rw [List.mem_singleton.mp hb]
    obtain ⟨_, ho, _⟩ := st.1
    rw [ho]; exact fun h => nomatch h

theorem IterOn.tuple {x : Str} {px : Pos} {l : Addr} {vs : List Value} (hh : A.handled = none) (hl : TupAt p.G l vs) : IterOn C A L p (.Name x px) (.ref l) vs.length fun i v _ => vs[i]? = some v := fun s S T => by
  have hls := hl.isTup S
  obtain ⟨o, n, e, _⟩ := id hl
  have hlt : l < s.heap.objs.size := Heap.lt_size (S.s0.gs _ _ e)
  have hne : l ≠ s.heap.objs.size := Nat.ne_of_lt hlt
  refine wpAny_pyIter_tuple hls ?_
  have W := Walks.tuple (prog := C.prog) (w := C.w) hh s.heap.objs.size l hne vs.toArray
  have W' := PySem.W.KTurns.ofWalks (target := .Name x px) W fun i v s Q E st hQ => wpAny_pure hQ
  rw [List.size_toArray] at W'
  refine ⟨_, _, _, _, _, _, _, rfl, rfl, { W' with item := fun i s Q E hi st hQ => W'.item i s Q E hi st hQ, go := fun i v s Q E hm hQ => W'.go i v s Q E hm fun h' hP st hk => hQ h' (by simpa using hP) st hk }, ⟨⟨_, Heap.get?_push_size _ rfl, rfl, rfl⟩, hls.at fun o e => Heap.get?_push_of_some _ e⟩,
    fun b o e => Heap.get?_push_of_some _ e, fun b hb => by rw [List.mem_singleton.mp hb]; exact get_size_none _, fun b hb => ?_, fun i h st b hb => ?_, fun i s Q E st hQ => W.self i s Q E st hQ⟩
  · rcases List.mem_cons.mp hb with q | q
    · exact .inl (List.mem_singleton.mpr q)
    · exact .inr ⟨o, by rw [List.mem_singleton.mp q]; exact e⟩
  · rw [List.mem_singleton.mp hb]
    obtain ⟨_, ho, _⟩ := st.1
    rw [ho]; exact fun h => nomatch h

theorem IterOn.str {y : Str} {px : Pos} {x : Str} {t : Tok} (hh : A.handled = none) : IterOn C A L p (.Name y px) (.str x t) x.cps.size fun i v _ => SignAt x i v := fun s S T => by
  cases ha : x.cps.all (· < 128) with
  | true =>
    refine wpAny_pyIter_ascii ha ?_
    have W := Walks.strAscii (prog := C.prog) (w := C.w) hh s.heap.objs.size x t
    refine ⟨_, _, _, _, _, _, _, rfl, rfl, PySem.W.KTurns.ofWalks (target := .Name y px) W fun i v s Q E st hQ => wpAny_pure hQ, ⟨_, Heap.get?_push_size _ rfl, rfl, rfl⟩,
      fun b o e => Heap.get?_push_of_some _ e, fun b hb => by rw [List.mem_singleton.mp hb]; exact get_size_none _, fun b hb => .inl hb, fun i h st b hb => ?_, fun i s Q E st hQ => W.self i s Q E st hQ⟩
    rw [List.mem_singleton.mp hb]
    obtain ⟨_, ho, _⟩ := st
    rw [ho]; exact fun h => nomatch h
  | false =>
    refine wpAny_pyIter_wide ha ?_
    have W := Walks.strWide (prog := C.prog) (w := C.w) hh s.heap.objs.size x t
    refine ⟨_, _, _, _, _, _, _, rfl, rfl, PySem.W.KTurns.ofWalks (target := .Name y px) W fun i v s Q E st hQ => wpAny_pure hQ, ⟨_, Heap.get?_push_size _ rfl, rfl, rfl⟩,
      fun b o e => Heap.get?_push_of_some _ e, fun b hb => by rw [List.mem_singleton.mp hb]; exact get_size_none _, fun b hb => .inl hb, fun i h st b hb => ?_, fun i s Q E st hQ => W.self i s Q E st hQ⟩
    rw [List.mem_singleton.mp hb]
    obtain ⟨_, ho, _⟩ := st
    rw [ho]; exact fun h => nomatch h

/-- two names take a pair -/
inductive PairQ (C : Cx) (A : Around) (L : Addr) (env : Env) (x y : Str) (p : Pt) (Q : Pt → Prop) (v : Value) (h' : Heap) : Prop
  | mk (T : Addr) (a b : Value) (e : v = .ref T) (ht : TupAt p.G T [a, b] ∨ h'.IsTuple T #[a, b]) (h : Run C A L (bindName env x a) p fun _ p₁ => Run C A L (bindName env y b) p₁ fun _ p₂ => Q p₂) : PairQ C A L env x y p Q v h'
theorem AsgRun.pair {x y : Str} {px py tp : Pos} {k : Nat} {P : Value → Heap → Prop} {Q : Pt → Prop} (hh : A.handled = none)
    (h : ∀ v h', P v h' → PairQ C A L env x y p Q v h') :
    AsgRun C A L (.Tuple [.Name x px, .Name y py] k tp) env P p Q := fun v s hP S T => by
  obtain ⟨Tu, a, b, rfl, ht, run⟩ := h v s.heap hP
  have ht' : s.heap.IsTuple Tu #[a, b] := by
    rcases ht with ht | ht
    · exact ht.isTup S
    · exact ht
  refine wpAny_assign_Tuple hh ht' rfl rfl fun h' hs => ?_
  have nn := S.none_at (get_size_none s.heap)
  have S' : Sat C.B L p h' := S.extBut hs nn.1 nn.2.1 nn.2.2.1 nn.2.2.2
  have x' : Ext L p s p { s with heap := h' } := Ext.heap fun b o e => hs b o (Nat.ne_of_lt (Heap.lt_size e)) e
  refine Run.after S T S' x' (Nat.le_refl _) ?_
  show Run C A L (do PySem.holding [b] ((do PySem.standAt px; bindName env x a)); assignInOrder [assign (.Name y py) env] [b]) p _
  refine .bind (.holding (.bind (.standAt (run.mono fun _ p₁ h₁ => ?_))))
  show Run C A L (do PySem.holding [] ((do PySem.standAt py; bindName env y b)); assignInOrder [] []) p₁ _
  exact .bind (.holding (.bind (.standAt (h₁.mono fun _ p₂ h₂ => .pure h₂))))

end
end Mine

open PySem PySem.Calls PyProof.Rows
set_option Elab.async false
set_option linter.unusedVariables false
namespace Mine

section
variable {C : Cx} {A : Around} {L : Addr} {p : Pt} {env : Env}

/-! ints -/
section
variable {a b : Int} {t u : Tok} {Q : Value → Pt → Prop}
theorem B_add (h : ∀ tk, Q (.int (a + b) tk) p) : Run C A L (binaryOp .Add (.int a t) (.int b u)) p Q := .of fun s S T => PySem.P.add_int (Post.same S (h _))
theorem B_iadd (h : ∀ tk, Q (.int (a + b) tk) p) : Run C A L (inplaceOp .Add (.int a t) (.int b u)) p Q := .of fun s S T => PySem.P.iadd_int (Post.same S (h _))
theorem B_isub (h : ∀ tk, Q (.int (a - b) tk) p) : Run C A L (inplaceOp .Sub (.int a t) (.int b u)) p Q := .of fun s S T => PySem.P.isub_int (Post.same S (h _))
theorem C_eqI (h : Q (.bool (a == b)) p) : Run C A L (compareOp .Eq (.int a t) (.int b u)) p Q := .of fun s S T => PySem.P.eq_int ⟨p, S, .refl, h⟩
theorem C_neI (h : Q (.bool (a != b)) p) : Run C A L (compareOp .NotEq (.int a t) (.int b u)) p Q := .of fun s S T => PySem.P.ne_int ⟨p, S, .refl, h⟩
theorem C_ltI (h : Q (.bool (decide (a < b))) p) : Run C A L (compareOp .Lt (.int a t) (.int b u)) p Q := .of fun s S T => PySem.P.lt_int ⟨p, S, .refl, h⟩
end

/-! texts -/
section
variable {x y z : Str} {t u v : Tok} {Q : Value → Pt → Prop}
theorem C_eqS (h : Q (.bool (decide (x = y))) p) : Run C A L (compareOp .Eq (.str x t) (.str y u)) p Q := .of fun s S T => by
  refine PySem.P.eq_str ⟨p, S, .refl, ?_⟩
  have e : (x.cps.toList == y.cps.toList) = decide (x = y) := by
    by_cases h : x = y
    · subst h; simp
    · rw [decide_eq_false h]
      cases hb : (x.cps.toList == y.cps.toList) with
      | false => rfl
      | true => exact absurd (by cases x; cases y; simpa using hb) h
  rw [e]; exact h
theorem C_neS (h : Q (.bool (!decide (x = y))) p) : Run C A L (compareOp .NotEq (.str x t) (.str y u)) p Q := .of fun s S T => by
  refine PySem.P.ne_str ⟨p, S, .refl, ?_⟩
  have e : (x.cps.toList != y.cps.toList) = !decide (x = y) := by
    by_cases h : x = y
    · subst h; simp
    · rw [decide_eq_false h]
      cases hb : (x.cps.toList == y.cps.toList) with
      | false => simp [bne, hb]
      | true => exact absurd (by cases x; cases y; simpa using hb) h
  rw [e]; exact h
theorem C_inS (h : Q (.bool (Txt.contains x y)) p) : Run C A L (compareOp .In (.str y u) (.str x t)) p Q := .of fun s S T => SB.contains ⟨p, S, .refl, h⟩
theorem C_notInS (h : Q (.bool (!Txt.contains x y)) p) : Run C A L (compareOp .NotIn (.str y u) (.str x t)) p Q := .of fun s S T => SB.notContains ⟨p, S, .refl, h⟩
theorem B_addS (hz : x.length + y.length ≤ sizeLine) (h : ∀ tk, Q (.str (x ++ y) tk) p) : Run C A L (binaryOp .Add (.str x t) (.str y u)) p Q := .of fun s S T => SB.add (fun t' k => Post.same S (h t')) hz
/-- sep.join of texts: a lone one is handed on as it is -/
theorem R_join {a : Addr} {l : List (Str × Tok)} {sep : Str} (hl : ListAt p.G a (strValues l) ∨ (a, listC (strValues l)) ∈ p.N) (hz : Builtin.Str.tooLong ((l.map (·.1)).toArray.foldl (· + ·.length + sep.length) 0) = false) (hs : (Builtin.Str.glued sep (l.map (·.1))).length ≤ sizeLine)
    (h1 : ∀ q, l = [q] → Q (.str q.1 q.2) p) (h2 : (∀ q, l ≠ [q]) → ∀ tk, p.k ≤ tk → Q (.str (Builtin.Str.glued sep (l.map (·.1))) tk) { p with k := tk + 1 }) :
    Run C A L (PySem.call (.builtin "str.join") [.str sep t, .ref a]) p Q :=
  R_meets PySem.F.slot_str_join PySem.F.entry_str_join (PySem.F.args_str_join_2 _ _) HasT.str fun s S T => by
    have hla : s.heap.IsList a (strValues l).toArray := by
      rcases hl with hl | hl
      · exact hl.isList S
      · obtain ⟨o, ho, n, rfl⟩ := S.s0.own _ hl
        exact ⟨_, ho, rfl, n, rfl⟩
    refine ⟨_, (meets_str_join_list sep t a l hz).inModel _ _, hla, ?_⟩
    match l, hs, h1, h2 with
    | [], hs, h1, h2 => exact ⟨hs, Post.fresh S T (h2 (fun q e => nomatch e) _ T.le)⟩
    | [q], hs, h1, h2 => exact ⟨p, S, .refl, h1 q rfl⟩
    | q :: q' :: r, hs, h1, h2 => exact ⟨hs, Post.fresh S T (h2 (fun q e => nomatch e) _ T.le)⟩
end

/-! subscripts -/
theorem R_subscripted {slice : Expr} {o i : Value} {Q : Value → Pt → Prop} (h : Run C A L (getItem o i) p Q) : Run C A L (subscripted slice false o i) p Q := by
  unfold subscripted
  split
  · exact .operate h
  · rename_i e; cases e
  · exact .operate h
/-- its type alone -/
def HasTy (C : Cx) (L : Addr) (p : Pt) (v : Value) (T : String) : Prop := ∀ s : Shared, Sat C.B L p s.heap → s.TypeIs v T
theorem R_gip' {o : Value} {T id : String} {Q : Bool → Pt → Prop} (hT : HasTy C L p o T) (hl : typeLookup (.type T) "__getitem__" = Pure.pure (some (.builtin id))) (h : Q false p) : Run C A L (getitemInPython o) p Q := .of fun s S TK => by
  rw [getitemInPython_of_ne (hT s S).not_modules]
  exact wpAny_bind (wpAny_specialOf (hT s S) hl (wpAny_pure ⟨p, S, .refl, h⟩))
theorem HasTy.str {x : Str} {t : Tok} : HasTy C L p (.str x t) "str" := fun _ _ => rfl
theorem HasTy.list {l : Addr} {vs : List Value} (h : ListAt p.G l vs ∨ (l, listC vs) ∈ p.N) : HasTy C L p (.ref l) "list" := fun s S => by
  rcases h with h | h
  · obtain ⟨o, n, e, hc, _⟩ := h
    exact ⟨o, S.s0.gs _ _ e, hc⟩
  · obtain ⟨o, ho, n, rfl⟩ := S.s0.own _ h
    exact ⟨_, ho, rfl⟩
theorem isList_of {l : Addr} {vs : List Value} {s : Shared} (h : ListAt p.G l vs ∨ (l, listC vs) ∈ p.N) (S : Sat C.B L p s.heap) : s.heap.IsList l vs.toArray := by
  rcases h with h | h
  · exact h.isList S
  · obtain ⟨o, ho, n, rfl⟩ := S.s0.own _ h
    exact ⟨_, ho, rfl, n, rfl⟩

/-- a sign of a text -/
theorem G_str {x : Str} {t u : Tok} {i : Int} {c : Nat} {Q : Value → Pt → Prop} (h0 : 0 ≤ i) (h1 : i < 2 ^ 62) (hc : x.cps[i.toNat]? = some c) (h : ∀ tk, p.k ≤ tk → Q (.str ⟨#[c]⟩ tk) { p with k := tk + 1 }) :
    Run C A L (getItem (.str x t) (.int i u)) p Q := .of fun s S T => by
  refine PySem.P.getItem_str (c := c) (by rw [decide_eq_false (by omega), decide_eq_false (by omega)]; rfl) ?_ (Post.fresh S T (h _ T.le))
  have hlt : i.toNat < x.cps.size := by
    rcases Nat.lt_or_ge i.toNat x.cps.size with h | h
    · exact h
    · rw [Array.getElem?_eq_none h] at hc; cases hc
  have : seqIndex? i x.length = some i.toNat := by
    unfold seqIndex?
    have h2 : ¬ i < 0 := by omega
    have h3 : x.length = x.cps.size := rfl
    simp [h2]
    omega
  rw [this]; exact hc
theorem G_list {l : Addr} {vs : List Value} {i : Int} {u : Tok} {x : Value} {Q : Value → Pt → Prop} (hl : ListAt p.G l vs ∨ (l, listC vs) ∈ p.N) (h0 : 0 ≤ i) (h1 : i < 2 ^ 62) (hx : vs[i.toNat]? = some x) (h : Q x p) :
    Run C A L (getItem (.ref l) (.int i u)) p Q := .of fun s S T => wpAny_getItem_list (isList_of hl S) h0 (by omega) (by simpa using hx) ⟨p, S, .refl, h⟩
/-- len of a list -/
theorem R_len_list {l : Addr} {vs : List Value} {Q : Value → Pt → Prop} (hl : ListAt p.G l vs ∨ (l, listC vs) ∈ p.N) (hz : vs.length < 2 ^ 62) (h : ∀ tk, Q (.int vs.length tk) p) : Run C A L (PySem.call (.builtin "len") [.ref l]) p Q := .of fun s S T => by
  refine call_len_list (isList_of hl S) (by rw [List.size_toArray]; omega) ?_
  rw [List.size_toArray]
  exact Post.same S (h _)
end
end Mine

open PySem PySem.Calls PyProof.Rows
set_option Elab.async false
set_option linter.unusedVariables false
namespace Mine

section
variable {C : Cx} {A : Around} {L : Addr} {p : Pt} {env : Env}

/-- an assignment to a pair of names -/
theorem X_AssignT {es : List Expr} {k : Nat} {tp pos : Pos} {e : Expr} {Q : Flow → Pt → Prop} (h : Run C A L (eval e env) p fun v p₁ => AsgRun C A L (.Tuple es k tp) env (fun u _ => u = v) p₁ fun p₂ => Q .next p₂)
    (hs : swapsWithSole [.Tuple es k tp] e pos.line env = Pure.pure false := by rfl) (hw : swappedStores [.Tuple es k tp] e env = Pure.pure none := by rfl) : Run C A L (exec (.Assign [.Tuple es k tp] e pos) env) p Q := .of fun s S T =>
  PyProof.Rows.Assign_Tuple (wpAny_mono (wpAny_toks (h.go s S T)) (fun v s₁ ⟨t₁, p₁, S₁, x₁, q⟩ =>
    wpAny_mono (wpAny_toks (q v s₁ rfl S₁ (T.next x₁ t₁))) (fun _ s₂ ⟨t₂, p₂, S₂, x₂, r⟩ => ⟨p₂, S₂, x₁.trans S S₁ x₂ t₂, r⟩) fun _ _ e => e.2) fun _ _ e => e.2) hs hw

theorem X_AssignSub {o i : Expr} {pos pos' : Pos} {e : Expr} {Q : Flow → Pt → Prop} (h : Run C A L (eval e env) p fun v p₁ => Run C A L (eval o env) p₁ fun ov p₂ => Run C A L (eval i env) p₂ fun iv p₃ => Run C A L (setItem ov iv v) p₃ fun _ p₄ => Q .next p₄)
    (hs : swapsWith e (some (.Subscript o i pos')) pos.line env = Pure.pure false := by rfl) : Run C A L (exec (.Assign [.Subscript o i pos'] e pos) env) p Q :=
  Run.of_eq (exec_Assign_Subscript _ _ _ _ _ hs) (.bind (.standAt (.bind (h.mono fun v p₁ h₁ => .bind (Run.of_eq (arm_assign_Subscript ..) (.bind (.holding (h₁.mono fun ov p₂ h₂ => .bind (.holding (h₂.mono fun iv p₃ h₃ =>
    .bind (.standAt (.bind (.holding (h₃.mono fun _ p₄ h₄ => .release (Run.pure h₄)))))))))))))))

/-! pure defs -/
theorem CallRun.drop {f : Addr} {vs : List Value} {G : Addr → Option Obj} {N : List (Addr × Cell)} {k : Nat} {Q : Value → (Addr → Option Obj) → List (Addr × Cell) → Nat → Prop}
    (h : CallRun C A f vs G N k fun v G' N' k' => ∃ N'', (∀ q ∈ N'', q ∈ N') ∧ (dom N'').Nodup ∧ (∀ b ∈ dom N, b ∈ dom N'' ∨ G' b ≠ none) ∧ Q v G' N'' k') : CallRun C A f vs G N k Q := fun s S T =>
  codeAny_mono (h s S T) fun r s' hr => by
    obtain ⟨v, G', N', k', e, S', x, N'', h1, h2, h3, q⟩ := hr
    exact ⟨v, G', N'', k', e, S'.sub h1 h2, ⟨x.keep, x.grow, fun b hb => x.fresh b (hb.imp id fun hb => by
      obtain ⟨q, hq, rfl⟩ := List.mem_map.mp hb
      exact List.mem_map_of_mem (f := (·.1)) (h1 q hq)), h3, x.gens, x.os, x.km, x.kk⟩, q⟩

/-- a call that wants nothing owned and hands back what is frozen, or no object at all -/
def PureCall (C : Cx) (A : Around) (f : Addr) (vs : List Value) (G : Addr → Option Obj) (k : Nat) (Q : Value → (Addr → Option Obj) → Nat → Prop) : Prop :=
  CallRun C A f vs G [] k fun v G' N' k' => N' = [] ∧ GLe G G' ∧ k ≤ k' ∧ Q v G' k'
theorem PureCall.mono {f : Addr} {vs : List Value} {G : Addr → Option Obj} {k : Nat} {Q Q' : Value → (Addr → Option Obj) → Nat → Prop} (h : PureCall C A f vs G k Q) (hq : ∀ v G' k', GLe G G' → k ≤ k' → Q v G' k' → Q' v G' k') : PureCall C A f vs G k Q' :=
  CallRun.mono h fun v G' N' k' ⟨h1, h2, h3, h4⟩ => ⟨h1, h2, h3, hq v G' k' h2 h3 h4⟩
theorem R_pure {f : Addr} {vs : List Value} {Q : Value → Pt → Prop} (h : PureCall C A f vs p.G p.k fun v G' k' => Q v { p with G := G', k := k' }) : Run C A L (PySem.call (.ref f) vs) p Q :=
  R_call0 (CallRun.mono h fun v G' N' k' ⟨h1, _, _, h4⟩ => by subst h1; exact h4)
theorem PureCall.of {f : Addr} {vs : List Value} {G : Addr → Option Obj} {k : Nat} {Q : Value → (Addr → Option Obj) → Nat → Prop} (h : CallRun C A f vs G [] k fun v G' N' k' => Q v G' k') : PureCall C A f vs G k Q := fun s S T =>
  (CallRun.drop (Q := fun v G' N' k' => N' = [] ∧ Q v G' k') (CallRun.mono h fun v G' N' k' q => ⟨[], (fun _ hq => nomatch hq), List.nodup_nil, (fun _ hb => nomatch hb), rfl, q⟩)) s S T |> fun z =>
    codeAny_mono z fun r s' hr => by
      obtain ⟨v, G', N', k', e, S', x, e', q⟩ := hr
      exact ⟨v, G', N', k', e, S', x, e', x.grow, x.km, q⟩

/-- the call of a def of the text whose body has no cells -/
theorem PureCall.body {gl bl : List (Str × Value)} {f : Addr} {o : Obj} {fd : FuncData} {body : List Stmt} {vs : List Value} {binds : List (Str × Value)} {G : Addr → Option Obj} {m₀ : List (Str × Option Value)} {k : Nat}
    {Q : Value → (Addr → Option Obj) → Nat → Prop} {d : Nat} (K : Base C gl bl) (hr : Room A (d + 1)) (ho : C.B.get? f = some o) (hdata : o.data = .func fd) (hcd : C.B.CodeRec fd.code fd.qualname)
    (hbind : Binds C fd vs binds) (hm : m₀ = (m₀.map (·.1)).map fun x => (x, binds.reverse.lookup x)) (hs : (binds.all fun q => (m₀.map (·.1)).contains q.1) = true) (hnd : (m₀.map (·.1)).Nodup)
    (hbody : fd.body = .stmts body) (hcell : ∀ x ∈ fd.scope.names, x.2 ≠ .cell) (hloc : ∀ x ∈ binds, fd.scope.names.lookup x.1 = some .local)
    (h : ∀ L, Room (A.deeper (callEnv fd L f)) d → Run C (A.deeper (callEnv fd L f)) L (execs body (callEnv fd L f)) ⟨G, m₀, [], k⟩ fun fl p' => Q (retOf fl) p'.G p'.k)
    (hco : fd.scope.isCoroutine = false := by rfl) (hgen : fd.scope.isGenerator = false := by rfl) (hk : fd.scope.kind = .function := by rfl) : PureCall C A f vs G k Q :=
  .of (CallRun.body K hr ho hdata hcd hbind hm hs hnd hbody hcell hloc h hco hgen hk)

def nd : List Str → Bool
  | [] => true
  | x :: r => !(r.contains x) && nd r
theorem nodup_of : ∀ {b : List Str}, nd b = true → b.Nodup
  | [], _ => List.nodup_nil
  | x :: r, h => by
    simp only [nd, Bool.and_eq_true, Bool.not_eq_true'] at h
    refine List.nodup_cons.mpr ⟨fun hm => ?_, nodup_of h.2⟩
    have := List.contains_iff_mem.mpr hm
    rw [h.1] at this; cases this
def okB (m₀ : List (Str × Option Value)) (binds : List (Str × Value)) (names : List (Str × NameKind)) : Bool :=
  (binds.all fun q => (m₀.map (·.1)).contains q.1) && nd (m₀.map (·.1)) && binds.all fun q => names.lookup q.1 == some .local
theorem okB.split {m₀ : List (Str × Option Value)} {binds : List (Str × Value)} {names : List (Str × NameKind)} (h : okB m₀ binds names = true) :
    (binds.all fun q => (m₀.map (·.1)).contains q.1) = true ∧ (m₀.map (·.1)).Nodup ∧ ∀ x ∈ binds, names.lookup x.1 = some .local := by
  simp only [okB, Bool.and_eq_true] at h
  exact ⟨h.1.1, nodup_of h.1.2, fun x hx => eq_of_beq (List.all_eq_true.mp h.2 x hx)⟩
theorem PureCall.go {gl bl : List (Str × Value)} {f : Addr} {o : Obj} {fd : FuncData} {body : List Stmt} {vs : List Value} {binds : List (Str × Value)} {G : Addr → Option Obj} (m₀ : List (Str × Option Value)) {k : Nat}
    {Q : Value → (Addr → Option Obj) → Nat → Prop} {d : Nat} (K : Base C gl bl) (hr : Room A (d + 1)) (ho : C.B.get? f = some o) (hdata : o.data = .func fd) (hcd : C.B.CodeRec fd.code fd.qualname)
    (hbind : Binds C fd vs binds) (h : ∀ L, Room (A.deeper (callEnv fd L f)) d → Run C (A.deeper (callEnv fd L f)) L (execs body (callEnv fd L f)) ⟨G, m₀, [], k⟩ fun fl p' => Q (retOf fl) p'.G p'.k)
    (hm : m₀ = (m₀.map (·.1)).map fun x => (x, binds.reverse.lookup x) := by rfl) (hok : okB m₀ binds fd.scope.names = true := by rfl)
    (hbody : fd.body = .stmts body := by rfl) (hcell : ∀ x ∈ fd.scope.names, x.2 ≠ .cell := by decide)
    (hco : fd.scope.isCoroutine = false := by rfl) (hgen : fd.scope.isGenerator = false := by rfl) (hk : fd.scope.kind = .function := by rfl) : PureCall C A f vs G k Q :=
  .body K hr ho hdata hcd hbind hm (okB.split hok).1 (okB.split hok).2.1 hbody hcell (okB.split hok).2.2 h hco hgen hk
end
end Mine

open PySem PySem.Calls PyProof.Rows
set_option Elab.async false
set_option linter.unusedVariables false
namespace Mine

/-! a dict of texts, its keys' tokens told -/
abbrev Ent := Str × Tok × Value
def entOf (w : World) (q : Ent) : DictEntry := ⟨hashStr w q.1, .str q.1 q.2.1, q.2.2⟩
def dput : List Ent → Str → Tok → Value → List Ent
  | [], k, t, v => [(k, t, v)]
  | q :: r, k, t, v => if q.1 = k then (k, q.2.1, v) :: r else q :: dput r k t v
def dget : List Ent → Str → Option Value
  | [], _ => none
  | q :: r, k => if q.1 = k then some q.2.2 else dget r k
def kvOf (es : List Ent) : List (Str × Value) := es.map fun q => (q.1, q.2.2)
def dictC (w : World) (es : List Ent) : Cell := fun o => ∃ ep, o.ExactDict ∧ o.data = .dict (es.map (entOf w)).toArray ep ∧ (es.map (·.1)).Nodup

theorem dput_names : ∀ (es : List Ent) (k : Str) (t : Tok) (v : Value), (dput es k t v).map (·.1) = if k ∈ es.map (·.1) then es.map (·.1) else es.map (·.1) ++ [k]
  | [], k, t, v => rfl
  | q :: r, k, t, v => by
    have ih := dput_names r k t v
    unfold dput
    by_cases h : q.1 = k
    · subst h; simp
    · rw [if_neg h]
      simp only [List.map_cons, ih, List.mem_cons]
      have : ¬ k = q.1 := fun e => h e.symm
      by_cases h2 : k ∈ r.map (·.1) <;> simp [this, h2]
theorem dput_nodup {es : List Ent} {k : Str} {t : Tok} {v : Value} (h : (es.map (·.1)).Nodup) : ((dput es k t v).map (·.1)).Nodup := by
  rw [dput_names]
  split
  · exact h
  · rename_i hn
    refine List.nodup_append.mpr ⟨h, by simp, fun a ha b hb e => ?_⟩
    rw [List.mem_singleton.mp hb] at e
    exact hn (e ▸ ha)
theorem dput_length : ∀ (es : List Ent) (k : Str) (t : Tok) (v : Value), (dput es k t v).length ≤ es.length + 1
  | [], k, t, v => Nat.le_refl _
  | q :: r, k, t, v => by
    have ih := dput_length r k t v
    unfold dput
    split <;> simp <;> omega

section
variable {prog : Program} {w : World}
theorem isKey (q : Ent) (k : Str) : (strKind prog w).is k (entOf w q).key = decide (q.1 = k) := by
  show Value.isStrOf k (.str q.1 q.2.1) = _
  show (q.1 == k) = decide (q.1 = k)
  by_cases h : q.1 = k
  · subst h; simp
  · rw [decide_eq_false h]; exact beq_eq_false_iff_ne.mpr h
theorem dput_arr : ∀ (es : List Ent) (k : Str) (t : Tok) (v : Value),
    match (es.map (entOf w)).findIdx? (fun e => (strKind prog w).is k e.key) with
    | some i => (es.map (entOf w)).modify i (fun e => { e with val := v }) = (dput es k t v).map (entOf w)
    | none => es.map (entOf w) ++ [⟨(strKind prog w).hash k, .str k t, v⟩] = (dput es k t v).map (entOf w)
  | [], k, t, v => rfl
  | q :: r, k, t, v => by
    have ih := dput_arr r k t v
    rw [List.map_cons, List.findIdx?_cons, isKey]
    unfold dput
    by_cases h : q.1 = k
    · subst h; simp [entOf]
    · rw [if_neg h]
      simp only [decide_eq_false h, Bool.false_eq_true, if_false]
      cases hf : (r.map (entOf w)).findIdx? (fun e => (strKind prog w).is k e.key) with
      | none => rw [hf] at ih; simpa using ih
      | some i => rw [hf] at ih; simpa using ih
theorem findBy_dget (es : List Ent) (k : Str) : findBy (strKind prog w).is (es.map (entOf w)).toArray k = dget es k := by
  simp only [findBy, List.find?_toArray]
  induction es with
  | nil => rfl
  | cons q r ih =>
    rw [List.map_cons, List.find?_cons, isKey]
    unfold dget
    by_cases h : q.1 = k
    · subst h; simp [entOf]
    · rw [if_neg h, decide_eq_false h]; exact ih
theorem keysOf_ent (es : List Ent) : KeysOf (strKind prog w) (es.map (entOf w)).toArray := fun e he => by
  have he' : e ∈ es.map (entOf w) := by simpa using he
  obtain ⟨q, _, rfl⟩ := List.mem_map.mp he'
  exact ⟨q.1, by rw [isKey]; simp, rfl⟩
theorem pairs_ent : ∀ (es : List Ent), Pairs (strKind prog w) (es.map (entOf w)) (kvOf es)
  | [] => .nil
  | q :: r => .cons (by rw [isKey]; simp) rfl (pairs_ent r)
theorem kvOf_names (es : List Ent) : (kvOf es).map (·.1) = es.map (·.1) := by simp [kvOf]
theorem dictC.isDictOf {es : List Ent} {o : Obj} (h : dictC w es o) : o.IsDictOf (strKind prog w) (kvOf es) :=
  let ⟨ep, h1, h2, h3⟩ := h; ⟨_, ep, h1, h2, keysOf_ent es, by simpa using pairs_ent es, by rw [kvOf_names]; exact h3⟩

variable {A : Around} {E : Value → Shared → Prop} {s : Shared}
theorem wp_put {d : Addr} {o : Obj} {es : List Ent} {k : Str} {t : Tok} {v : Value} {n : Nat} {Q : Option Nat → Shared → Prop} (ho : s.heap.get? d = some o) (hc : dictC w es o) (hq : Q ((es.map (entOf w)).findIdx? (fun e => (strKind prog w).is k e.key)) s) :
    wpAny (model prog w) A (dictFind d (.str k t) (hashStr w k)) Q E s := by
  obtain ⟨ep, hx, hd, hn⟩ := hc
  refine wpAny_dictFind_of (knd := strKind prog w) (strKind_is prog w k t) ho hd (keysOf_ent es) ?_
  rw [List.findIdx?_toArray]; exact hq
theorem wp_dictPut {d : Addr} {o : Obj} {es : List Ent} {k : Str} {t : Tok} {v : Value} {Q : Unit → Shared → Prop} (ho : s.heap.get? d = some o) (hc : dictC w es o) (hz : es.length ≤ sizeLine)
    (hQ : ∀ h' o', h'.get? d = some o' → dictC w (dput es k t v) o' → Heap.SameBut d s.heap h' → Q () { s with heap := h' }) : wpAny (model prog w) A (dictPut d (hashStr w k) (.str k t) v) Q E s := by
  unfold dictPut
  refine wpAny_bind (wp_put (n := 0) ho hc ?_ (v := v))
  obtain ⟨ep, hx, hd, hn⟩ := id hc
  have key := dput_arr (prog := prog) (w := w) es k t v
  cases hi : (es.map (entOf w)).findIdx? (fun e => (strKind prog w).is k e.key) with
  | some i =>
    rw [hi] at key
    dsimp only at key
    refine wpAny_updateDict ho hd (hQ _ _ (Heap.get?_update_self _ ho (Obj.isFreed_of_dict (Obj.data_mapDict hd _))) ⟨ep, hx.mapDict _, ?_, dput_nodup hn⟩ (Heap.SameBut.update ..))
    rw [Obj.data_mapDict hd, ← key]; simp
  | none =>
    rw [hi] at key
    dsimp only at key
    refine wpAny_updateDictKeys (hz := by simpa using hz) ho hd (hQ _ _ (Heap.get?_update_self _ ho (Obj.isFreed_of_dict (Obj.data_mapDictKeys hd _))) ⟨ep + 1, hx.mapDictKeys _, ?_, dput_nodup hn⟩ (Heap.SameBut.update ..))
    rw [Obj.data_mapDictKeys hd, ← key]
    simp; rfl
theorem wp_dictSet {d : Addr} {o : Obj} {es : List Ent} {k : Str} {t : Tok} {v : Value} {Q : Unit → Shared → Prop} (ho : s.heap.get? d = some o) (hc : dictC w es o) (hz : es.length ≤ sizeLine)
    (hQ : ∀ h' o', h'.get? d = some o' → dictC w (dput es k t v) o' → Heap.SameBut d s.heap h' → Q () { s with heap := h', toks := s.toks + 1 }) : wpAny (model prog w) A (dictSet d (.str k t) v) Q E s := by
  unfold dictSet
  refine wpAny_holding (wpAny_bind ((strKind prog w).pyHash (strKind_is prog w k t) ?_))
  unfold dictSetHashed
  refine wpAny_holding (wpAny_bind (wp_put (s := { s with toks := s.toks + 1 }) (n := 0) ho hc ?_ (v := v)))
  obtain ⟨ep, hx, hd, hn⟩ := id hc
  have key := dput_arr (prog := prog) (w := w) es k t v
  cases hi : (es.map (entOf w)).findIdx? (fun e => (strKind prog w).is k e.key) with
  | some i =>
    rw [hi] at key
    dsimp only at key
    refine wpAny_bind (wpAny_rule (wpAny_bind (wpAny_updateDict (s := { s with toks := s.toks + 1 }) ho hd (wpAny_point (hQ _ _ (Heap.get?_update_self _ ho (Obj.isFreed_of_dict (Obj.data_mapDict hd _))) ⟨ep, hx.mapDict _, ?_, dput_nodup hn⟩ (Heap.SameBut.update ..))))))
    rw [Obj.data_mapDict hd, ← key]; simp
  | none =>
    rw [hi] at key
    dsimp only at key
    refine wpAny_bind (wpAny_rule (wpAny_updateDictKeys (s := { s with toks := s.toks + 1 }) (hz := by simpa using hz) ho hd (hQ _ _ (Heap.get?_update_self _ ho (Obj.isFreed_of_dict (Obj.data_mapDictKeys hd _))) ⟨ep + 1, hx.mapDictKeys _, ?_, dput_nodup hn⟩ (Heap.SameBut.update ..))))
    rw [Obj.data_mapDictKeys hd, ← key]
    simp
theorem typeIs_dict {d : Addr} {o : Obj} (ho : s.heap.get? d = some o) (hx : o.ExactDict) : s.TypeIs (.ref d) "dict" := ⟨o, ho, hx.1⟩
theorem wp_setItem {d : Addr} {o : Obj} {es : List Ent} {k : Str} {t : Tok} {v : Value} {Q : Unit → Shared → Prop} (ho : s.heap.get? d = some o) (hc : dictC w es o) (hz : es.length ≤ sizeLine)
    (hQ : ∀ h' o', h'.get? d = some o' → dictC w (dput es k t v) o' → Heap.SameBut d s.heap h' → Q () { s with heap := h', toks := s.toks + 1 }) : wpAny (model prog w) A (setItem (.ref d) (.str k t) v) Q E s := by
  have hT : s.TypeIs (.ref d) "dict" := let ⟨_, hx, _⟩ := hc; typeIs_dict ho hx
  unfold setItem
  refine wpAny_holding (wpAny_bind (wpAny_sequenceKey hT (by decide) ?_))
  refine wpAny_bind (wpAny_callSpecial?_slot (name := Str.ofString "__setitem__") hT slot_dict_setitem
    (wpAny_call_entry slot_dict_setitem hT entry_dict_setitem ?_ (args_dict_setitem _ _ _)))
  show wpAny _ _ (Builtin.Dict.notOrdered "__setitem__" ⟨[.ref d, .str k t, v], []⟩ >>= _) _ _ s
  refine wpAny_bind (wpAny_notOrdered_dict hT ?_)
  show wpAny _ _ (dictSet d (.str k t) v >>= _) _ _ s
  exact wpAny_bind (wp_dictSet ho hc hz fun h' o' ho' hc' hs' => wpAny_pure ⟨.none, rfl, wpAny_pure (hQ h' o' ho' hc' hs')⟩)

def dputs (es more : List Ent) : List Ent := more.foldl (fun acc q => dput acc q.1 q.2.1 q.2.2) es
theorem dputs_length : ∀ (more es : List Ent), (dputs es more).length ≤ es.length + more.length
  | [], es => Nat.le_refl _
  | q :: r, es => by
    have h1 := dputs_length r (dput es q.1 q.2.1 q.2.2)
    have h2 := dput_length es q.1 q.2.1 q.2.2
    show (dputs (dput es q.1 q.2.1 q.2.2) r).length ≤ _
    simp only [List.length_cons]; omega
theorem dputs_take (es more : List Ent) (i : Nat) (q : Ent) (h : more[i]? = some q) : dputs es (more.take (i + 1)) = dput (dputs es (more.take i)) q.1 q.2.1 q.2.2 := by
  simp [dputs, List.take_add_one, h, List.foldl_append]

inductive MergeI (w : World) (s : Shared) (d : Addr) (es ea : List Ent) (rest : List Nat) : Shared → Prop
  | mk (i : Nat) (h' : Heap) (o' : Obj) (h1 : i ≤ ea.length) (h2 : rest = List.range' i (ea.length - i)) (h3 : h'.get? d = some o') (h4 : dictC w (dputs es (ea.take i)) o') (h5 : Heap.SameBut d s.heap h') : MergeI w s d es ea rest { s with heap := h' }
theorem wp_merge {d a : Addr} {oa o : Obj} {es ea : List Ent} {Q : Unit → Shared → Prop} (had : a ≠ d) (hsm : (a == sysModules) = false) (ho : s.heap.get? d = some o) (hc : dictC w es o) (hoa : s.heap.get? a = some oa) (hca : dictC w ea oa)
    (hz : es.length + ea.length ≤ sizeLine) (hQ : ∀ h' o', h'.get? d = some o' → dictC w (dputs es ea) o' → Heap.SameBut d s.heap h' → Q () { s with heap := h' }) :
    wpAny (model prog w) A (mergeMapping d (.ref a) false) Q E s := by
  obtain ⟨epa, hxa, hda, hna⟩ := id hca
  obtain ⟨epd, hxd, hdd, hnd⟩ := id hc
  have hT := typeIs_dict (s := s) hoa hxa
  unfold mergeMapping
  refine wpAny_bind (wpAny_isInstance hT isSubtype_dict_dict ?_)
  simp only [if_true]
  refine wpAny_bind (wpAny_specialOf hT F.slot_dict_iter.lookup (wpAny_bind (wpAny_pure ?_)))
  simp only [beq_self_eq_true, hsm, Bool.false_eq_true, if_false]
  refine wpAny_bind (wpAny_dictEntries ho hdd ?_)
  have rest : wpAny (model prog w) A (do
      let __do_lift ← dictEntries a
      let epoch ← dictEpoch a
      forIn (List.range __do_lift.size) PUnit.unit fun i (__s : PUnit) => do
        let __do_lift ← dictEntries a
        match __do_lift[i]? with
        | some e => do
          PySem.holding [e.key, e.val] (dictPut d e.hash e.key e.val)
          let __do_lift ← dictEpoch a
          if (__do_lift != epoch) = true then do
              unsupported "dict.changed-during-merge"
              Pure.pure (ForInStep.yield PUnit.unit)
            else Pure.pure (ForInStep.yield PUnit.unit)
        | x => do
          unsupported "dict.changed-during-merge"
          Pure.pure (ForInStep.yield PUnit.unit)
      Pure.pure ()) Q E s := by
    refine wpAny_bind (wpAny_dictEntries hoa hda (wpAny_bind (wpAny_dictEpoch hoa hda (wpAny_bind ?_))))
    refine wpAny_forIn_list _ (fun rest _ s' => MergeI w s d es ea rest s') _ ?_ ?_ _ _
      ⟨0, s.heap, o, Nat.zero_le _, by rw [List.range_eq_range']; simp, ho, hc, Heap.SameBut.refl _ _⟩
    · intro x rest _ s' hI9
      refine hI9.casesOn ?_
      intro i h' o' hi hr ho' hc' hs'
      have hlt : i < ea.length := by
        rcases Nat.lt_or_ge i ea.length with h | h
        · exact h
        · rw [show ea.length - i = 0 from by omega] at hr; cases hr
      rw [show ea.length - i = (ea.length - (i + 1)) + 1 from by omega, List.range'_succ] at hr
      injection hr with hx hr
      subst hx
      have hoa' : h'.get? a = some oa := hs'.extBut a oa had hoa
      refine wpAny_bind (wpAny_dictEntries (s := { s with heap := h' }) hoa' hda ?_)
      have e1 : (ea.map (entOf w)).toArray[x]? = some (entOf w ea[x]) := by simp [hlt]
      rw [e1]
      dsimp only
      have tl : (dputs es (ea.take x)).length ≤ sizeLine := by
        have h1 := dputs_length (ea.take x) es
        have h2 : (ea.take x).length ≤ ea.length := by rw [List.length_take]; omega
        omega
      refine wpAny_bind (wpAny_holding (wp_dictPut (s := { s with heap := h' }) ho' hc' tl fun h'' o'' ho'' hc'' hs'' => ?_))
      have hoa'' : h''.get? a = some oa := hs''.extBut a oa had hoa'
      refine wpAny_bind (wpAny_dictEpoch (s := { s with heap := h'' }) hoa'' hda ?_)
      rw [if_neg (by simp)]
      refine wpAny_pure ⟨x + 1, h'', o'', hlt, hr, ho'', ?_, hs'.trans hs''⟩
      rw [dputs_take es ea x ea[x] (by simp [hlt])]
      exact hc''
    · intro _ s' hI9
      refine hI9.casesOn ?_
      intro i h' o' hi hr ho' hc' hs'
      have hin : i = ea.length := by
        rcases Nat.lt_or_ge i ea.length with h | h
        · rw [show ea.length - i = (ea.length - (i + 1)) + 1 from by omega, List.range'_succ] at hr; cases hr
        · omega
      subst hin
      rw [List.take_length] at hc'
      exact wpAny_pure (hQ h' o' ho' hc' hs')
  split
  · refine wpAny_bind (wpAny_dictEntries hoa hda (wpAny_bind ?_))
    rw [List.forIn_toArray]
    refine wpAny_forIn_list _ (fun l _ s' => s' = s ∧ ∀ e ∈ l, ∃ q : Ent, e = entOf w q) _ ?_ ?_ _ _ ⟨rfl, fun e he => ?_⟩
    · rintro e l _ s' ⟨rfl, hl⟩
      obtain ⟨q, rfl⟩ := hl e List.mem_cons_self
      exact wpAny_pure ⟨rfl, fun e he => hl e (List.mem_cons_of_mem _ he)⟩
    · rintro _ s' ⟨rfl, _⟩
      exact rest
    · have he' : e ∈ ea.map (entOf w) := by simpa using he
      obtain ⟨q, _, rfl⟩ := List.mem_map.mp he'
      exact ⟨q, rfl⟩
  · exact rest
end
end Mine

open PySem PySem.Calls PyProof.Rows
set_option Elab.async false
set_option linter.unusedVariables false
namespace Mine

section
variable {prog : Program} {w : World} {A : Around} {E : Value → Shared → Prop} {s : Shared}
theorem dictC.at {h : Heap} {d : Addr} {o : Obj} {es : List Ent} (ho : h.get? d = some o) (hc : dictC w es o) : ∃ ep, h.DictAt (PySem.strKind prog w) d (kvOf es) ep ∧ o.ExactDict ∧ o.data = .dict (es.map (entOf w)).toArray ep := by
  obtain ⟨ep, h1, h2, h3⟩ := hc
  exact ⟨ep, ⟨o, _, ho, h1, h2, keysOf_ent es, by simpa using pairs_ent es, by rw [kvOf_names]; exact h3⟩, h1, h2⟩

/-- the next pair of a dict's items, its key to the token -/
theorem wp_items_next {it d : Addr} {od : Obj} {i ep : Nat} {es : List Ent} {q : Ent} {ok ov : Value} {Q : Option Value → Shared → Prop} (hit : IsItemIter s.heap it d i es.length ep ok ov) (hod : s.heap.get? d = some od)
    (hdd : od.data = .dict (es.map (entOf w)).toArray ep) (hx : es[i]? = some q)
    (hQ : ∀ h', IsItemIterOut h' it d (i + 1) es.length ep (.str q.1 q.2.1) q.2.2 s.heap.objs.size → h'.get? s.heap.objs.size = some { cls := .type "tuple", data := .seq #[.str q.1 q.2.1, q.2.2] } →
      (∀ b o, b ≠ it → s.heap.get? b = some o → h'.get? b = some o) → Q (some (.ref s.heap.objs.size)) { s with heap := h' }) : wpAny (model prog w) A (pyNext (.ref it)) Q E s := by
  have hT : s.TypeIs (.ref it) "dict_itemiterator" := ⟨_, hit, rfl⟩
  have hlt : i < es.length := (List.getElem?_eq_some_iff.mp hx).1
  have hown : Builtin.Dict_items.ownsTuple "dict_itemiterator" = true := by decide
  have e1 : (es.map (entOf w)).toArray[i]? = some (entOf w q) := by simp [hx]
  unfold pyNext
  refine wpAny_bind (wpAny_attempt (wpAny_callSpecial?_slot (name := Str.ofString "__next__") hT F.slot_dict_itemiterator_next
    (wpAny_call_entry F.slot_dict_itemiterator_next hT F.entry_dict_itemiterator_next ?_ (F.args_dict_itemiterator_next_1 _))))
  refine wpAny_bind (wpAny_pure (wpAny_bind (wpAny_bind (wpAny_bind ?_))))
  refine wpAny_typeNameOfWhole_itemiter hT (wpAny_pure ?_)
  refine wpAny_bind (wpAny_fieldsOf hit rfl ?_)
  simp only [hown, if_true]
  show wpAny _ _ (if (Value.ref d == Value.none) = true then _ else _) _ _ _
  rw [if_neg (show ¬ ((Value.ref d == Value.none) = true) from Bool.false_ne_true)]
  refine wpAny_bind (wpAny_pure (wpAny_bind (wpAny_dictEntries hod hdd ?_)))
  rw [if_neg (by simp)]
  refine wpAny_bind (wpAny_pure (wpAny_bind (wpAny_dictEpoch hod hdd ?_)))
  rw [if_neg (by simp)]
  refine wpAny_pure ?_
  simp only [show ¬ ((i : Int) < 0) from by omega, if_false, Int.toNat_natCast, e1]
  refine wpAny_bind (wpAny_bind (wpAny_typeNameOfWhole_itemiter hT (wpAny_pure ?_)))
  refine wpAny_bind (wpAny_isOneOf_itemiter hT ?_)
  show wpAny _ _ (setField (.ref it) 3 (rawInt ((i : Int) + 1)) >>= _) _ _ s
  refine wpAny_bind (wpAny_setField_rec hit (by simp) fun h₁ he₁ hs₁ => ?_)
  replace he₁ : IsItemIter h₁ it d (i + 1) es.length ep ok ov := by
    have e : ((i + 1 : Nat) : Int) = (i : Int) + 1 := by omega
    unfold IsItemIter; rw [e]; simpa [rawInt] using he₁
  have hT₁ : Shared.TypeIs { s with heap := h₁ } (.ref it) "dict_itemiterator" := ⟨_, he₁, rfl⟩
  refine wpAny_bind (wpAny_holding (wpAny_bind (wpAny_isOneOf_itemiter hT₁ (wpAny_bind (wpAny_isOneOf_itemiter hT₁ ?_)))))
  show wpAny _ _ (Builtin.Dict_items.pairFromOwner (.ref it) 6 (.str q.1 q.2.1) q.2.2) _ _ _
  unfold Builtin.Dict_items.pairFromOwner
  have hz₁ : h₁.objs.size = s.heap.objs.size := hs₁.1
  have hil : it < s.heap.objs.size := Heap.lt_size hit
  refine wpAny_bind (wpAny_newTuple ?_)
  have he₂ : IsItemIter (h₁.push { cls := .type "tuple", data := .seq #[.str q.1 q.2.1, q.2.2] }) it d (i + 1) es.length ep ok ov := Heap.get?_push_of_some _ he₁
  have ht₂ : (h₁.push { cls := .type "tuple", data := .seq #[.str q.1 q.2.1, q.2.2] }).get? s.heap.objs.size = some { cls := .type "tuple", data := .seq #[.str q.1 q.2.1, q.2.2] } := by rw [← hz₁]; exact Heap.get?_push_size _ rfl
  have hk₂ : ∀ b o, b ≠ it → s.heap.get? b = some o → (h₁.push { cls := .type "tuple", data := .seq #[.str q.1 q.2.1, q.2.2] }).get? b = some o := fun b o hb e => Heap.get?_push_of_some _ (hs₁.extBut b o hb e)
  generalize h₁.push { cls := .type "tuple", data := .seq #[.str q.1 q.2.1, q.2.2] } = h₂ at he₂ ht₂ hk₂ ⊢
  show wpAny _ _ (Builtin.Dict_items.ownedTupleIsFree (.ref it) >>= _) _ _ _
  rw [show ({ s with heap := h₁ } : Shared).heap.objs.size = s.heap.objs.size from hz₁]
  unfold Builtin.Dict_items.ownedTupleIsFree
  refine wpAny_bind (wpAny_bind (wpAny_field he₂ rfl (x := .none) rfl (wpAny_pure ?_)))
  simp only [if_true]
  refine wpAny_bind (wpAny_field he₂ rfl (x := ok) rfl (wpAny_bind (wpAny_field he₂ rfl (x := ov) rfl ?_)))
  refine wpAny_bind (wpAny_setField_rec he₂ (by simp) fun h₃ he₃ hs₃ => ?_)
  refine wpAny_bind (wpAny_setField_rec he₃ (by simp) fun h₄ he₄ hs₄ => ?_)
  refine wpAny_bind (wpAny_setField_rec he₄ (by simp) fun h₅ he₅ hs₅ => ?_)
  refine wpAny_bind (wpAny_setField_rec he₅ (by simp) fun h₆ he₆ hs₆ => ?_)
  have up : ∀ b o, b ≠ it → h₂.get? b = some o → h₆.get? b = some o := fun b o hb e => hs₆.extBut b o hb (hs₅.extBut b o hb (hs₄.extBut b o hb (hs₃.extBut b o hb e)))
  exact wpAny_bind (wpAny_letGo (wpAny_pure (wpAny_pure ⟨_, rfl, wpAny_pure (hQ h₆ he₆ (up _ _ (Nat.ne_of_gt hil) ht₂) fun b o hb e => up b o hb (hk₂ b o hb e))⟩)))
end

/-- a frozen dict -/
def DictG (w : World) (G : Addr → Option Obj) (d : Addr) (es : List Ent) : Prop := (d == sysModules) = false ∧ ∃ o, G d = some o ∧ dictC w es o
theorem DictG.mono {w : World} {G G' : Addr → Option Obj} {d : Addr} {es : List Ent} (h : DictG w G d es) (x : GLe G G') : DictG w G' d es := let ⟨h1, o, e, c⟩ := h; ⟨h1, o, x _ _ e, c⟩

section
variable {C : Cx} {A : Around} {L : Addr} {p : Pt} {env : Env}
theorem DictG.map {d : Addr} {es : List Ent} {h : Heap} (x : DictG C.w p.G d es) (S : Sat C.B L p h) : h.MapOf (PySem.strKind C.prog C.w) d (dget es) := by
  obtain ⟨_, o, e, ep, hx, hd, hn⟩ := x
  exact ⟨o, _, ep, S.s0.gs _ _ e, hx, hd, keysOf_ent es, findBy_dget es⟩
theorem DictG.dictAt {d : Addr} {es : List Ent} {h : Heap} (x : DictG C.w p.G d es) (S : Sat C.B L p h) : ∃ o ep, h.get? d = some o ∧ o.data = .dict (es.map (entOf C.w)).toArray ep ∧ h.DictAt (PySem.strKind C.prog C.w) d (kvOf es) ep := by
  obtain ⟨_, o, e, hc⟩ := x
  obtain ⟨ep, h1, h2, h3⟩ := dictC.at (prog := C.prog) (S.s0.gs _ _ e) hc
  exact ⟨o, ep, S.s0.gs _ _ e, h3, h1⟩
theorem G_dict {d : Addr} {es : List Ent} {k : Str} {t : Tok} {v : Value} {Q : Value → Pt → Prop} (x : DictG C.w p.G d es) (hv : dget es k = some v) (h : Q v p) : Run C A L (getItem (.ref d) (.str k t)) p Q := .of fun s S T =>
  wpAny_getItem_of (PySem.strKind_is _ _ k t) (x.map S) hv (Post.same S h)
theorem truthy_dict {d : Addr} {es : List Ent} {Q : Bool → Pt → Prop} (x : DictG C.w p.G d es) (hz : es.length ≤ sizeLine) (h : Q (!es.isEmpty) p) : Run C A L (truthy (.ref d)) p Q := .of fun s S T => by
  obtain ⟨o, ep, e1, e2, e3⟩ := x.dictAt S
  have hl : (kvOf es).length = es.length := by simp [kvOf]
  refine wpAny_truthy_dict x.1 e3.dictOf (by rw [hl]; rw [sizeLine_eq] at hz; omega) ?_
  have : (kvOf es).isEmpty = es.isEmpty := by simp [kvOf]
  rw [this]
  exact Post.same S h
theorem HasT.dict {d : Addr} {es : List Ent} (x : DictG C.w p.G d es) : HasT C L p (.ref d) "dict" := fun s S => by
  obtain ⟨_, o, e, ep, hx, hd, hn⟩ := x
  exact ⟨⟨o, S.s0.gs _ _ e, hx.1⟩, fun b q => by cases q; exact ⟨o, S.s0.gs _ _ e, hx.2.1⟩⟩
theorem HasTy.dict {d : Addr} {es : List Ent} (x : DictG C.w p.G d es) : HasTy C L p (.ref d) "dict" := fun s S => (HasT.dict x s S).1

/-- a view of a dict's items -/
def ViewG (G : Addr → Option Obj) (v d : Addr) : Prop := ∃ o, G v = some o ∧ o.cls = .type "dict_items" ∧ o.data = .fields #[.ref d]
theorem R_items {d : Addr} {es : List Ent} {Q : Value → Pt → Prop} (x : DictG C.w p.G d es) (h : ∀ v G', GLe p.G G' → ViewG G' v d → Q (.ref v) { p with G := G' }) : Run C A L (PySem.call (.builtin "dict.items") [.ref d]) p Q :=
  R_meets F.slot_dict_items F.entry_dict_items (F.args_dict_items_1 _) (HasT.dict x) fun s S T => by
    obtain ⟨o, ep, e1, e2, e3⟩ := x.dictAt S
    have nn := S.none_at (get_size_none s.heap)
    refine ⟨_, meets_dict_items (PySem.strKind C.prog C.w) d x.1, ⟨_, e3.dictOf⟩, ?_⟩
    exact ⟨_, S.pushG rfl, Ext.pushG S, h _ _ (GLe.add nn.2.1) ⟨_, addG_self, rfl, rfl⟩⟩

/-- a pair that a dict's items hand out -/
def PairAt (es : List Ent) (i : Nat) (v : Value) (h : Heap) : Prop := ∃ T q, v = .ref T ∧ es[i]? = some q ∧ h.IsTuple T #[.str q.1 q.2.1, q.2.2]
theorem items_turns {elts : List Expr} {kk : Nat} {pos : Pos} (hh : A.handled = none) (I d : Addr) (hne : d ≠ I) (es : List Ent) (ep : Nat) (od : Obj) (hdd : od.data = .dict (es.map (entOf C.w)).toArray ep) :
    PySem.W.KTurns C.prog C.w A (.Tuple elts kk pos) I [I, d] [I] es.length (PairAt es)
      (fun i v h => ∃ T q ok ov, v = .ref T ∧ es[i]? = some q ∧ h.IsTuple T #[.str q.1 q.2.1, q.2.2] ∧ IsItemIterOut h I d (i + 1) es.length ep ok ov T ∧ h.get? d = some od ∧ h.DictAt (PySem.strKind C.prog C.w) d (kvOf es) ep ∧ T ≠ I)
      (fun i h => (∃ ok ov, IsItemIter h I d i es.length ep ok ov) ∧ h.get? d = some od ∧ h.DictAt (PySem.strKind C.prog C.w) d (kvOf es) ep) where
  sub := fun b hb => by simp at hb; simp [hb]
  frame := fun i h h' st hk => by
    obtain ⟨⟨ok, ov, he⟩, hd, hm⟩ := st
    exact ⟨⟨ok, ov, hk I (by simp) _ he⟩, hk d (by simp) _ hd, hm.at' fun o e => hk d (by simp) o e⟩
  item := fun i s Q E hi st hQ => by
    obtain ⟨⟨ok, ov, he⟩, hd, hm⟩ := st
    refine wp_items_next (q := es[i]) he hd hdd (by simp [hi]) fun h' ho hT hk => ?_
    exact hQ (.ref s.heap.objs.size) h' s.toks ⟨s.heap.objs.size, es[i], _, _, rfl, by simp [hi], ⟨_, hT, rfl, _, rfl⟩, ho, hk d od hne hd, hm.at' (fun o e => hk d o hne e), Nat.ne_of_gt (Heap.lt_size he)⟩ fun b o hb e => hk b o (fun h => hb (by simp [h])) e
  go := fun i v s Q E hm hQ => by
    obtain ⟨T, q, ok, ov, rfl, hx, hT, ho, hd, hda, hTI⟩ := hm
    refine wpAny_letOwnedTupleGo_items ho fun h' he hs => ?_
    exact hQ h' ⟨T, q, rfl, hx, hT.at fun o e => hs.extBut T o hTI e⟩ ⟨⟨ok, ov, he⟩, hs.extBut d _ hne hd, hda.extBut hs.extBut hne⟩ fun b o hb e => hs.extBut b o (fun h => hb (by simp [h])) e
  done := fun s Q E st hQ => by
    obtain ⟨⟨ok, ov, he⟩, hd, hm⟩ := st
    have he' : IsItemIter s.heap I d es.length (kvOf es).length ep ok ov := by rw [show (kvOf es).length = es.length by simp [kvOf]]; exact he
    exact wpAny_pyNext_items_end hh he' hm (by simp [kvOf]) fun h' hx => hQ h' s.toks fun b o hb e => hx b o (fun h => hb (by simp [h])) e
theorem IterOn.items {elts : List Expr} {kk : Nat} {pos : Pos} {v d : Addr} {es : List Ent} (hh : A.handled = none) (hv : ViewG p.G v d) (x : DictG C.w p.G d es) : IterOn C A L p (.Tuple elts kk pos) (.ref v) es.length (PairAt es) := fun s S T => by
  obtain ⟨od, ep, e1, e2, e3⟩ := x.dictAt S
  obtain ⟨ov, g1, g2, g3⟩ := hv
  have hlt := Heap.lt_size e1
  have hne : d ≠ s.heap.objs.size := Nat.ne_of_lt hlt
  refine wpAny_pyIter_items ⟨ov, S.s0.gs _ _ g1, g2, g3⟩ e3 ?_
  have hl : (kvOf es).length = es.length := by simp [kvOf]
  rw [hl]
  refine ⟨_, _, _, _, _, _, _, rfl, rfl, items_turns hh s.heap.objs.size d hne es ep od e2, ⟨⟨.none, .none, Heap.get?_push_size _ rfl⟩, Heap.get?_push_of_some _ e1, e3.push _⟩,
    fun b o e => Heap.get?_push_of_some _ e, fun b hb => by rw [List.mem_singleton.mp hb]; exact get_size_none _, fun b hb => ?_, fun i h st b hb => ?_, fun i s Q E st hQ => ?_⟩
  · rcases List.mem_cons.mp hb with q | q
    · exact .inl (List.mem_singleton.mpr q)
    · obtain ⟨_, o, e, _⟩ := x
      exact .inr ⟨o, by rw [List.mem_singleton.mp q]; exact e⟩
  · obtain ⟨⟨ok, ov, he⟩, _⟩ := st
    rw [List.mem_singleton.mp hb, he]; exact fun h => nomatch h
  · obtain ⟨⟨ok, ov, he⟩, _⟩ := st
    exact PySem.W.kcp_self he hQ

/-- a dict's keys -/
theorem IterOn.keys {y : Str} {py : Pos} {d : Addr} {es : List Ent} (hh : A.handled = none) (x : DictG C.w p.G d es) : IterOn C A L p (.Name y py) (.ref d) es.length fun i v _ => ∃ q t, es[i]? = some q ∧ v = .str q.1 t := fun s S T => by
  obtain ⟨od, ep, e1, e2, e3⟩ := x.dictAt S
  have hne : d ≠ s.heap.objs.size := Nat.ne_of_lt (Heap.lt_size e1)
  have hl : (kvOf es).length = es.length := by simp [kvOf]
  refine wpAny_pyIter_dict x.1 e3 ?_
  have W := Walks.dictKeys (knd := PySem.strKind C.prog C.w) hh s.heap.objs.size d hne (kvOf es) ep
  have W' := PySem.W.KTurns.ofWalks (target := .Name y py) W fun i v s Q E st hQ => wpAny_pure hQ
  rw [hl] at W' ⊢
  refine ⟨_, _, _, _, _, _, _, rfl, rfl, { W' with item := fun i s Q E hi st hQ => W'.item i s Q E hi st hQ, go := fun i v s Q E hm hQ => W'.go i v s Q E hm fun h' hP st hk => hQ h' ?_ st hk }, ⟨⟨_, Heap.get?_push_size _ rfl, rfl, rfl⟩, e3.push _⟩,
    fun b o e => Heap.get?_push_of_some _ e, fun b hb => by rw [List.mem_singleton.mp hb]; exact get_size_none _, fun b hb => ?_, fun i h st b hb => ?_, fun i s Q E st hQ => W.self i s Q E (by rw [hl]; exact st) hQ⟩
  · obtain ⟨k, xv, h1, h2⟩ := hP
    simp only [kvOf, List.getElem?_map, Option.map_eq_some_iff] at h1
    obtain ⟨q, h3, h4⟩ := h1
    obtain ⟨t, rfl⟩ := Value.isStrOf_shape h2
    cases h4
    exact ⟨q, t, h3, rfl⟩
  · rcases List.mem_cons.mp hb with q | q
    · exact .inl (List.mem_singleton.mpr q)
    · obtain ⟨_, o, e, _⟩ := x
      exact .inr ⟨o, by rw [List.mem_singleton.mp q]; exact e⟩
  · rw [List.mem_singleton.mp hb]
    obtain ⟨_, ho, _⟩ := st.1
    rw [ho]; exact fun h => nomatch h

/-- range of one number -/
def RangeG (G : Addr → Option Obj) (r : Addr) (n : Nat) : Prop := ∃ t u v, G r = some { cls := .type "range", dict := none, data := .fields #[.int 0 t, .int n u, .int 1 v], slots := #[] }
theorem R_range {n : Nat} {t : Tok} {Q : Value → Pt → Prop} (h : ∀ r G', GLe p.G G' → RangeG G' r n → Q (.ref r) { p with G := G' }) : Run C A L (PySem.call (.type "range") [.int n t]) p Q := .of fun s S T => by
  have nn := S.none_at (get_size_none s.heap)
  refine call_range_1 ?_
  exact ⟨_, S.pushG rfl, Ext.pushG S, h _ _ (GLe.add nn.2.1) ⟨_, _, _, addG_self⟩⟩
theorem IterOn.range {y : Str} {py : Pos} {r : Addr} {n : Nat} (hh : A.handled = none) (x : RangeG p.G r n) (hn : n < 2 ^ 60) : IterOn C A L p (.Name y py) (.ref r) n fun i v _ => ∃ t, v = .int i t := fun s S T => by
  obtain ⟨t, u, v, e⟩ := x
  have e' := S.s0.gs _ _ e
  have hsz : Builtin.Range.rangeSize 0 n 1 = (n : Int) := by unfold Builtin.Range.rangeSize; split <;> simp <;> omega
  refine wpAny_pyIter_range e' (small_one (by omega) (by omega) (by omega) (by omega)) ?_
  have W := Walks.range (prog := C.prog) (w := C.w) hh s.heap.objs.size 0 1 n
  have W' := PySem.W.KTurns.ofWalks (target := .Name y py) W fun i v s Q E st hQ => wpAny_pure hQ
  refine ⟨_, _, _, _, _, _, _, rfl, rfl, { W' with item := fun i s Q E hi st hQ => W'.item i s Q E hi st hQ, go := fun i v s Q E hm hQ => W'.go i v s Q E hm fun h' hP st hk => hQ h' (by simpa using hP) st hk }, ?_,
    fun b o e => Heap.get?_push_of_some _ e, fun b hb => by rw [List.mem_singleton.mp hb]; exact get_size_none _, fun b hb => .inl hb, fun i h st b hb => ?_, fun i s Q E st hQ => W.self i s Q E st hQ⟩
  · show IsRangeIter _ _ _ _ _
    rw [hsz]; simpa using Heap.get?_push_size _ rfl
  · rw [List.mem_singleton.mp hb, st]; exact fun h => nomatch h
end
end Mine

open PySem PySem.Calls PyProof.Rows
set_option Elab.async false
set_option linter.unusedVariables false
namespace Mine

/-- a frozen list, its object to the letter -/
def ListG (G : Addr → Option Obj) (l : Addr) (vs : List Value) : Prop := ∃ o, G l = some o ∧ listC vs o
theorem ListG.mono {G G' : Addr → Option Obj} {l : Addr} {vs : List Value} (h : ListG G l vs) (x : GLe G G') : ListG G' l vs := let ⟨o, e, c⟩ := h; ⟨o, x _ _ e, c⟩
theorem ListG.at {G : Addr → Option Obj} {l : Addr} {vs : List Value} (h : ListG G l vs) : ListAt G l vs := let ⟨o, e, n, c⟩ := h; ⟨o, n, e, by rw [c], by rw [c]⟩
theorem ListG.new {G : Addr → Option Obj} {a : Addr} {vs : List Value} {o : Obj} (h : listC vs o) : ListG (addG G a o) a vs := ⟨o, addG_self, h⟩

theorem listC_map {f : Array Value → Array Value} {vs ys : List Value} {n : Nat} (h : f vs.toArray = ys.toArray) : listC ys (Obj.mapSeq f { cls := .type "list", data := .seq vs.toArray n }) := Exists.intro _ (by rw [← h]; rfl)
section
variable {C : Cx} {A : Around} {L : Addr} {p : Pt} {env : Env}
theorem ListG.isL {B : Heap} {h : Heap} {l : Addr} {vs : List Value} (x : ListG p.G l vs) (S : Sat B L p h) : ∃ n, IsL h l vs.toArray n := by
  obtain ⟨o, e, n, rfl⟩ := x
  exact ⟨n, S.s0.gs _ _ e⟩
theorem own_isL {B : Heap} {h : Heap} {l : Addr} {vs : List Value} (x : (l, listC vs) ∈ p.N) (S : Sat B L p h) : ∃ n, IsL h l vs.toArray n := by
  obtain ⟨o, e, n, rfl⟩ := S.s0.own _ x
  exact ⟨n, e⟩
theorem HasT.list {l : Addr} {vs : List Value} (x : ListG p.G l vs ∨ (l, listC vs) ∈ p.N) : HasT C L p (.ref l) "list" := fun s S => by
  rcases x with x | x
  · obtain ⟨n, e⟩ := x.isL S
    exact ⟨⟨_, e, rfl⟩, fun b q => by cases q; exact ⟨_, e, rfl⟩⟩
  · obtain ⟨n, e⟩ := own_isL x S
    exact ⟨⟨_, e, rfl⟩, fun b q => by cases q; exact ⟨_, e, rfl⟩⟩
theorem HasTy.listG {l : Addr} {vs : List Value} (x : ListG p.G l vs) : HasTy C L p (.ref l) "list" := fun s S => (HasT.list (.inl x) s S).1

structure SbQ (C : Cx) (A : Around) (L : Addr) (T : String) (Q : Value → Pt → Prop) (o i : Value) (p₂ : Pt) : Prop where
  ty : HasTy C L p₂ o T
  go : Run C A L (getItem o i) p₂ Q
theorem E_Sb {value slice : Expr} {pos : Pos} {T id : String} {Q : Value → Pt → Prop} (hl : typeLookup (.type T) "__getitem__" = Pure.pure (some (.builtin id)))
    (h : Run C A L (eval value env) p fun o p₁ => Run C A L (eval slice env) p₁ (SbQ C A L T Q o)) : Run C A L (eval (.Subscript value slice pos) env) p Q :=
  Run.of_eq (eval_Subscript ..) (.bind (h.mono fun o p₁ h₁ => .bind (.holding (h₁.mono fun i p₂ h₂ => .bind (.standAt (.bind (R_gip' h₂.1 hl (.bind (R_subscripted (h₂.2.mono fun r p₃ h₃ =>
    .bind (.of fun s S T => wpAny_letTemporaryGo ⟨p₃, S, .refl, Run.pure h₃⟩))))))))))) 

theorem R_append {l : Addr} {vs : List Value} {x : Value} {N' : List (Addr × Cell)} {Q : Value → Pt → Prop} (P : PutN p.N l (listC vs) (listC (vs ++ [x])) N') (hz : vs.length ≤ sizeLine) (h : Q .none { p with N := N' }) :
    Run C A L (PySem.call (.builtin "list.append") [.ref l, x]) p Q := .of fun s S T => by
  obtain ⟨n, e⟩ := own_isL P.mem S
  refine wpAny_list_append_plain ⟨n, e⟩ (fun h' hp hs => ?_) (by simpa using hz)
  obtain ⟨n', e'⟩ := hp
  exact ⟨_, S.putN P hs.extBut e' ⟨n', by simp⟩, Ext.putN P hs.extBut, h⟩
theorem R_pop {l : Addr} {vs : List Value} {x : Value} {N' : List (Addr × Cell)} {Q : Value → Pt → Prop} (P : PutN p.N l (listC (vs ++ [x])) (listC vs) N') (hz : vs.length < sizeLine) (h : Q x { p with N := N' }) :
    Run C A L (PySem.call (.builtin "list.pop") [.ref l]) p Q :=
  R_meets F.slot_list_pop F.entry_list_pop (F.args_list_pop_1 _) (HasT.list (.inr P.mem)) fun s S T => by
    obtain ⟨n, e⟩ := own_isL P.mem S
    have e1 : (vs ++ [x]).toArray.size - 1 = vs.length := by simp
    refine ⟨_, (MeetsSeq.list_pop_last l (vs ++ [x]).toArray n x (by rw [e1]; simp) (by simp; omega)).inModel _ _, e, ?_⟩
    rw [e1]
    refine ⟨_, S.putN P (Heap.SameBut.update ..).extBut (Heap.get?_update_self _ e rfl) ?_, Ext.putN P (Heap.SameBut.update ..).extBut, h⟩
    refine listC_map ?_
    simp [List.eraseIdx_append_of_length_le]
theorem B_addL {l b : Addr} {vs ws : List Value} {Q : Value → Pt → Prop} (hl : ListG p.G l vs) (hb : ListG p.G b ws) (hz : vs.length + ws.length ≤ sizeLine) (h : ∀ a, Q (.ref a) { p with N := (a, listC (vs ++ ws)) :: p.N }) :
    Run C A L (binaryOp .Add (.ref l) (.ref b)) p Q := .of fun s S T => by
  obtain ⟨n, e⟩ := hl.isL S
  obtain ⟨n2, e2⟩ := hb.isL S
  exact P.add_list e e2 ⟨_, S.pushN rfl ⟨0, by simp⟩, Ext.pushN, h _⟩ (by simpa using hz)

/-! slices -/
def SliceG (G : Addr → Option Obj) (a : Addr) (l u st : Value) : Prop := ∃ o, G a = some o ∧ o.cls = .type "slice" ∧ o.data = .fields #[l, u, st]
theorem E_Slice {lower upper step : Option Expr} {pos : Pos} {Q : Value → Pt → Prop}
    (h : Run C A L (evalPart lower env) p fun l p₁ => Run C A L (evalPart upper env) p₁ fun u p₂ => Run C A L (evalPart step env) p₂ fun st p₃ => ∀ a G', GLe p₃.G G' → SliceG G' a l u st → Q (.ref a) { p₃ with G := G' }) :
    Run C A L (eval (.Slice lower upper step pos) env) p Q := .of fun s S T => by
  refine wpAny_Slice (wpAny_mono (wpAny_toks (h.go s S T)) (fun l s₁ ⟨t₁, p₁, S₁, x₁, h₁⟩ => ?_) fun _ _ e => e.2)
  have T₁ := T.next x₁ t₁
  refine wpAny_mono (wpAny_toks (h₁.go s₁ S₁ T₁)) (fun u s₂ ⟨t₂, p₂, S₂, x₂, h₂⟩ => ?_) fun _ _ e => e.2.elim
  have T₂ := T₁.next x₂ t₂
  have y₂ := x₁.trans S S₁ x₂ t₂
  refine wpAny_mono (wpAny_toks (h₂.go s₂ S₂ T₂)) (fun st s₃ ⟨t₃, p₃, S₃, x₃, h₃⟩ => ?_) fun _ _ e => e.2.elim
  have y₃ := y₂.trans S S₂ x₃ t₃
  have nn := S₃.none_at (get_size_none s₃.heap)
  refine ⟨_, S₃.pushG rfl, y₃.trans S S₃ (Ext.pushG S₃) (Nat.le_refl _), h₃ _ _ (GLe.add nn.2.1) ⟨_, addG_self, rfl, rfl⟩⟩
theorem G_listS {l a : Addr} {vs : List Value} {vl vu vst : Value} {lo hi st : Option Int} {Q : Value → Pt → Prop} (hl : ListAt p.G l vs ∨ (l, listC vs) ∈ p.N) (hs : SliceG p.G a vl vu vst) (pl : IsPart vl lo) (pu : IsPart vu hi) (ps : IsPart vst st) (h0 : st ≠ some 0)
    (hz : vs.length ≤ sizeLine) (h : ∀ b, Q (.ref b) { p with N := (b, listC (slicePick vs.toArray lo hi st).toList) :: p.N }) : Run C A L (getItem (.ref l) (.ref a)) p Q := .of fun s S T => by
  obtain ⟨o, e, e2, e3⟩ := hs
  exact wpAny_getItem_list_slice (isList_of hl S) ⟨o, S.s0.gs _ _ e, e2, e3⟩ pl pu ps h0 ⟨_, S.pushN rfl ⟨0, by simp⟩, Ext.pushN, h _⟩ (by simpa using hz)
/-! lists against lists -/
theorem C_neL {l b : Addr} {vs : List Value} {Q : Value → Pt → Prop} (hu : A.units < cLine) (hl : ListAt p.G l vs ∨ (l, listC vs) ∈ p.N) (hb : (b, listC []) ∈ p.N) (h : Q (.bool (!vs.isEmpty)) p) : Run C A L (compareOp .NotEq (.ref l) (.ref b)) p Q := .of fun s S T => by
  have h1 := isList_of hl S
  have h2 := isList_of (.inr hb) S
  show wpAny _ A (richCompare .NotEq (.ref l) (.ref b)) _ _ s
  cases vs with
  | nil => exact SeqAt.RcNeAt.lists (e := fun _ => true) h1 h2 rfl hu (fun j a b => by simp at a) _ _ _ _ ⟨p, S, .refl, h⟩
  | cons v r => exact SeqAt.RcNeAt.lists_lengths h1 h2 (by simp) hu _ _ _ _ ⟨p, S, .refl, h⟩

/-- two frozen lists of pairs of texts -/
def PairsG (G : Addr → Option Obj) (vs : List Value) (xs : List (Str × Str)) : Prop := vs.length = xs.length ∧ ∀ (i : Nat) (q : Str × Str), xs[i]? = some q → ∃ a t u, vs[i]? = some (Value.ref a) ∧ TupAt G a [Value.str q.1 t, Value.str q.2 u]
theorem PairsG.mono {G G' : Addr → Option Obj} {vs : List Value} {xs : List (Str × Str)} (h : PairsG G vs xs) (x : GLe G G') : PairsG G' vs xs := ⟨h.1, fun i q hq => let ⟨a, t, u, e, ht⟩ := h.2 i q hq; ⟨a, t, u, e, ht.mono x⟩⟩
end
end Mine

open PySem PySem.Calls PyProof.Rows
set_option Elab.async false
set_option linter.unusedVariables false
namespace Mine

/-- an address that the law's own run has made -/
def Fresh (C : Cx) (a : Addr) : Prop := ∀ b o, C.B.get? b = some o → b < a
theorem Sat.fresh {C : Cx} {L : Addr} {p : Pt} {h : Heap} (S : Sat C.B L p h) : Fresh C h.objs.size := fun b o e => Heap.lt_size (S.s0.base b o e)
section
variable {C : Cx} {A : Around} {L : Addr} {p : Pt} {env : Env}
theorem E_Dict0 {pos : Pos} {Q : Value → Pt → Prop} (h : ∀ a, Fresh C a → Q (.ref a) { p with N := (a, dictC C.w []) :: p.N }) : Run C A L (eval (.Dict [] [] pos) env) p Q :=
  Run.of_eq (eval_Dict_empty pos) (.bind (.standAt <| .of fun s S T => wpAny_newObj_type ⟨_, S.pushN rfl ⟨0, ⟨rfl, rfl, rfl⟩, rfl, List.nodup_nil⟩, Ext.pushN, h _ S.fresh⟩))
theorem S_dict {d : Addr} {es : List Ent} {k : Str} {t : Tok} {v : Value} {N' : List (Addr × Cell)} {Q : Unit → Pt → Prop} (P : PutN p.N d (dictC C.w es) (dictC C.w (dput es k t v)) N') (hz : es.length ≤ sizeLine) (h : Q () { p with N := N' }) :
    Run C A L (setItem (.ref d) (.str k t) v) p Q := .of fun s S T => by
  obtain ⟨o, ho, hc⟩ := S.s0.own _ P.mem
  exact wp_setItem ho hc hz fun h' o' ho' hc' hs' => ⟨_, S.putN P hs'.extBut ho' hc', Ext.putN P hs'.extBut, h⟩

def asPair (q : Ent) : Value × Value := (.str q.1 q.2.1, q.2.2)
theorem wp_storeAll {prog : Program} {w : World} {A : Around} {E : Value → Shared → Prop} {d : Addr} : ∀ (more es : List Ent) (o : Obj) (s : Shared) (Q : PUnit → Shared → Prop), s.heap.get? d = some o → dictC w es o → es.length + more.length ≤ sizeLine →
    (∀ h' o' tk, h'.get? d = some o' → dictC w (dputs es more) o' → Heap.SameBut d s.heap h' → Q PUnit.unit { s with heap := h', toks := tk }) →
    wpAny (model prog w) A (forIn (more.map asPair) PUnit.unit fun (x : Value × Value) (_ : PUnit) => (do dictSet d x.1 x.2; pure (ForInStep.yield PUnit.unit) : Sem (ForInStep PUnit))) Q E s
  | [], es, o, s, Q, ho, hc, _, hQ => wpAny_pure (by simpa using hQ s.heap o s.toks ho hc (Heap.SameBut.refl _ _))
  | q :: r, es, o, s, Q, ho, hc, hz, hQ => by
    rw [List.map_cons, List.forIn_cons]
    simp only [List.length_cons] at hz
    refine wpAny_bind (wpAny_bind (wp_dictSet ho hc (by omega) fun h₁ o₁ ho₁ hc₁ hs₁ => wpAny_pure ?_))
    refine wp_storeAll r _ o₁ _ Q ho₁ hc₁ (by have := dput_length es q.1 q.2.1 (asPair q).2; omega) fun h' o' tk ho' hc' hs' => ?_
    exact hQ h' o' tk ho' hc' (hs₁.trans hs')

theorem R_pairs_nil {Q : List (Value × Value) → Pt → Prop} (h : Q [] p) : Run C A L (evalPairs []) p Q := Run.pure h
theorem R_pairs_cons {k v : Sem Value} {rest : List (Sem Value × Sem Value)} {Q : List (Value × Value) → Pt → Prop} (h : Run C A L k p fun kv p₁ => Run C A L v p₁ fun vv p₂ => Run C A L (evalPairs rest) p₂ fun vs p₃ => Q ((kv, vv) :: vs) p₃) :
    Run C A L (evalPairs ((k, v) :: rest)) p Q := by
  rw [evalPairs]
  exact .bind (h.mono fun kv p₁ h₁ => .bind (.holding (h₁.mono fun vv p₂ h₂ => .bind (.holding (h₂.mono fun vs p₃ h₃ => .pure h₃)))))

theorem R_allocD {Q : Addr → Pt → Prop} (h : ∀ a, Fresh C a → a ∉ dom p.N → Q a { p with N := (a, dictC C.w []) :: p.N }) : Run C A L (alloc { cls := .type "dict", data := .dict #[] }) p Q := .of fun s S T =>
  wpAny_alloc ⟨_, S.pushN rfl ⟨0, ⟨rfl, rfl, rfl⟩, rfl, List.nodup_nil⟩, Ext.pushN, h _ S.fresh (S.none_at (get_size_none _)).2.2.1⟩
theorem R_subDict {pairs : List (Sem Value × Sem Value)} {Q : Addr → Pt → Prop} (hlen : pairs.length ≤ 15)
    (h : ∀ d, Fresh C d → d ∉ dom p.N → Run C A L (evalPairs pairs) { p with N := (d, dictC C.w []) :: p.N } fun vs p₁ => ∃ more N', vs = more.map asPair ∧ more.length ≤ 15 ∧ PutN p₁.N d (dictC C.w []) (dictC C.w (dputs [] more)) N' ∧ Q d { p₁ with N := N' }) :
    Run C A L (subDict pairs) p Q := by
  unfold subDict
  refine .bind (R_allocD fun d hd hn => .bind (.holding ?_))
  rw [if_pos hlen]
  refine .bind ((h d hd hn).mono fun vs p₁ ⟨more, N', e, hz, P, hq⟩ => .holding (.bind ?_))
  subst e
  refine .of fun s₁ S₁ T₁ => ?_
  obtain ⟨o, ho, hc⟩ := S₁.s0.own _ P.mem
  refine wp_storeAll more [] o s₁ _ ho hc (by rw [sizeLine_eq]; simp; omega) fun h' o' tk ho' hc' hs' => ?_
  exact ⟨_, S₁.putN P hs'.extBut ho' hc', Ext.putN P hs'.extBut, .pure (.pure hq)⟩

/-- a display of pairs alone -/
theorem E_DictP {keys : List (Option Expr)} {values : List Expr} {pos : Pos} {pairs : List (Sem Value × Sem Value)} {Q : Value → Pt → Prop}
    (hshape : (evalEachOpt keys env).zip ((evalEach values env).map fun v => do let x ← v; PySem.standAt pos; Pure.pure x) = pairs.map fun p => (some p.1, p.2)) (h0 : pairs ≠ []) (hlen : pairs.length ≤ 15)
    (h : Run C A L (subDict pairs) p fun d p₁ => Q (.ref d) p₁) : Run C A L (eval (.Dict keys values pos) env) p Q := by
  rw [arm_eval_Dict, hshape, dictDisplay_pairs pairs h0 (by omega)]
  exact .bind (.standAt (.bind (h.mono fun d p₁ h₁ => .pure h₁)))

/-- a dict that may be read -/
theorem R_merge {d a : Addr} {es ea : List Ent} {N' : List (Addr × Cell)} {Q : Unit → Pt → Prop} (ha : DictG C.w p.G a ea ∨ ((a, dictC C.w ea) ∈ p.N ∧ (a == sysModules) = false ∧ a ≠ d)) (P : PutN p.N d (dictC C.w es) (dictC C.w (dputs es ea)) N') (hz : es.length + ea.length ≤ sizeLine)
    (h : Q () { p with N := N' }) : Run C A L (mergeMapping d (.ref a) false) p Q := .of fun s S T => by
  obtain ⟨o, ho, hc⟩ := S.s0.own _ P.mem
  rcases ha with ⟨hsm, oa, ea', hca⟩ | ⟨hm, hsm, hne⟩
  · refine wp_merge (fun e => ?_) hsm ho hc (S.s0.gs _ _ ea') hca hz fun h' o' ho' hc' hs' => ⟨_, S.putN P hs'.extBut ho' hc', Ext.putN P hs'.extBut, h⟩
    have := S.s0.nG d (mem_dom P.mem)
    rw [← e, ea'] at this; cases this
  · obtain ⟨oa, hoa, hca⟩ := S.s0.own _ hm
    exact wp_merge hne hsm ho hc hoa hca hz fun h' o' ho' hc' hs' => ⟨_, S.putN P hs'.extBut ho' hc', Ext.putN P hs'.extBut, h⟩

theorem R_tryCatch {α : Type} {t : Sem α} {k : Value → Sem α} {Q : α → Pt → Prop} (h : Run C A L t p Q) : Run C A L (tryCatch t k) p Q := .of fun s S T => wpAny_tryCatch (wpAny_mono (h.go s S T) (fun _ _ e => e) fun _ _ e => e.elim)
theorem R_onRaise {α : Type} {t : Sem α} {k : Value → Sem Unit} {Q : α → Pt → Prop} (h : Run C A L t p Q) : Run C A L (t.onRaise k) p Q := .of fun s S T => wpAny_onRaise (wpAny_mono (h.go s S T) (fun _ _ e => e) fun _ _ e => e.elim)

/-- a display that opens with another dict, three pairs behind it -/
theorem R_dictStar3 {m k1 v1 k2 v2 k3 v3 : Sem Value} {Q : Value → Pt → Prop}
    (h : ∀ d, Fresh C d → Run C A L m { p with N := (d, dictC C.w []) :: p.N } fun mv p₁ => Run C A L (mergeMapping d mv false) p₁ fun _ p₂ => Run C A L (subDict [(k1, v1), (k2, v2), (k3, v3)]) p₂ fun sub p₃ =>
      Run C A L (mergeMapping d (.ref sub) false) p₃ fun _ p₄ => Q (.ref d) p₄) :
    Run C A L (dictDisplay [(none, m), (some k1, v1), (some k2, v2), (some k3, v3)]) p Q := by
  unfold dictDisplay
  simp only [List.forIn_cons, List.forIn_nil, List.isEmpty_nil, if_true, pure_bind, bind_assoc]
  refine .bind (R_allocD fun d hd _ => .bind (.holding ((h d hd).mono fun mv p₁ h₁ => .bind (R_onRaise (R_tryCatch (R_onRaise (.holding (h₁.mono fun _ p₂ h₂ => ?_))))))))
  have e1 : ((0 + 1 : Nat) == 17) = false := rfl
  have e2 : ((0 + 1 + 1 : Nat) == 17) = false := rfl
  have e3 : ((0 + 1 + 1 + 1 : Nat) == 17) = false := rfl
  simp only [List.nil_append, List.cons_append, List.length_cons, List.length_nil, e1, e2, e3, Bool.false_eq_true, if_false, pure_bind, List.isEmpty_cons, bind_assoc]
  exact .bind (.holding (h₂.mono fun sub p₃ h₃ => .bind (R_onRaise (.holding (h₃.mono fun _ p₄ h₄ => .pure h₄)))))
end
end Mine

open PySem PySem.Calls PyProof.Rows
set_option Elab.async false
set_option linter.unusedVariables false
namespace Mine

def addGs (G : Addr → Option Obj) (as : List Addr) (h : Heap) : Addr → Option Obj := fun b => if b ∈ as then h.get? b else G b
section
variable {B : Heap} {L : Addr} {p : Pt} {h h' : Heap} {s : Shared}
theorem Sat.adds (S : Sat B L p h) (hk : ∀ b o, h.get? b = some o → h'.get? b = some o) {as : List Addr} {a : Addr} {c : Cell} {o : Obj} (ha : h.get? a = none) (ho : h'.get? a = some o) (hc : c o) (hn : ∀ b ∈ as, h.get? b = none) (hna : a ∉ as) :
    Sat B L { p with G := addGs p.G as h', N := (a, c) :: p.N } h' := by
  obtain ⟨aB, aG, aN, aL⟩ := S.none_at ha
  have S' := S.keep hk
  refine ⟨⟨S'.s0.base, fun b o e => ?_, fun q hq => ?_, fun b hb => ?_, fun b hb => ?_, List.nodup_cons.mpr ⟨aN, S.s0.nd⟩⟩, S'.ns, S.bL, ?_, fun hm => ?_, S.mnd⟩
  · simp only [addGs] at e
    split at e
    · exact e
    · exact S'.s0.gs b o e
  · rcases List.mem_cons.mp hq with e | hq
    · subst e; exact ⟨o, ho, hc⟩
    · exact S'.s0.own q hq
  · rcases List.mem_cons.mp hb with e | hb
    · exact e ▸ aB
    · exact S.s0.nB b hb
  · simp only [addGs]
    rcases List.mem_cons.mp hb with e | hb
    · rw [e, if_neg hna]; exact aG
    · rw [if_neg fun hm => (S.none_at (hn b hm)).2.2.1 hb]; exact S.s0.nG b hb
  · simp only [addGs]
    rw [if_neg fun hm => (S.none_at (hn L hm)).2.2.2 rfl]; exact S.gL
  · rcases List.mem_cons.mp hm with e | hm
    · exact aL e.symm
    · exact S.nL hm
theorem Ext.adds (S : Sat B L p s.heap) {tk : Nat} (hk : ∀ b o, s.heap.get? b = some o → h'.get? b = some o) {as : List Addr} {a : Addr} {c : Cell} (ha : s.heap.get? a = none) (hn : ∀ b ∈ as, s.heap.get? b = none) :
    Ext L p s { p with G := addGs p.G as h', N := (a, c) :: p.N } { s with heap := h', toks := tk } :=
  ⟨fun b o e _ _ => hk b o e, fun b o e => by
      simp only [addGs]
      rw [if_neg fun hm => by (have := (S.none_at (hn b hm)).2.1; rw [e] at this; cases this)]; exact e,
    fun b hb => by
      rcases hb with hb | hb
      · simp only [addGs] at hb
        split at hb
        · rename_i hm; exact .inr (.inr (hn b hm))
        · exact .inl hb
      · rcases List.mem_cons.mp hb with e | hb
        · exact .inr (.inr (e ▸ ha))
        · exact .inr (.inl hb), fun b hb => .inl (List.mem_cons_of_mem _ hb), rfl, rfl, Nat.le_refl _, .inl (Nat.le_refl _)⟩
theorem GLe.adds (S : Sat B L p h) {as : List Addr} (hn : ∀ b ∈ as, h.get? b = none) : GLe p.G (addGs p.G as h') := fun b o e => by
  simp only [addGs]
  rw [if_neg fun hm => by (have := (S.none_at (hn b hm)).2.1; rw [e] at this; cases this)]; exact e
end

section
variable {C : Cx} {A : Around} {L : Addr} {p : Pt} {env : Env}
/-- list(d.items()) -/
theorem R_listItems {v d : Addr} {es : List Ent} {Q : Value → Pt → Prop} (hh : A.handled = none) (hv : ViewG p.G v d) (x : DictG C.w p.G d es) (hz : es.length ≤ sizeLine)
    (h : ∀ a G' (as : List Addr), GLe p.G G' → as.length = es.length → (∀ (i : Nat) (q : Ent), es[i]? = some q → ∃ b t, as[i]? = some b ∧ TupAt G' b [Value.str q.1 t, q.2.2]) → Q (.ref a) { p with G := G', N := (a, listC (as.map Value.ref)) :: p.N }) :
    Run C A L (PySem.call (.type "list") [.ref v]) p Q := .of fun s S T => by
  obtain ⟨od, ep, e1, e2, e3⟩ := x.dictAt S
  obtain ⟨ov, g1, g2, g3⟩ := hv
  have hl : (kvOf es).length = es.length := by simp [kvOf]
  refine PySem.W.kdx_call (knd := PySem.strKind C.prog C.w) hh ⟨ov, S.s0.gs _ _ g1, g2, g3⟩ e3 (by rw [hl]; exact hz) fun h' tk acc c as hk hS hal hG hacc => ?_
  have fresh : ∀ b, s.heap.objs.size ≤ b → s.heap.get? b = none := fun b hb => by
    cases e : s.heap.get? b with
    | none => rfl
    | some o => exact absurd (Heap.lt_size e) (Nat.not_lt.mpr hb)
  have hn : ∀ b ∈ as, s.heap.get? b = none := fun b hb => fresh b (Nat.le_of_lt (hG.above b hb))
  have hna : s.heap.objs.size ∉ as := fun hm => Nat.lt_irrefl _ (hG.above _ hm)
  have hc : listC (as.map Value.ref) { cls := .type "list", dict := none, data := .seq acc c, slots := #[] } := ⟨c, by
    have : acc = (as.map Value.ref).toArray := by rw [← hacc]
    rw [this]⟩
  refine ⟨_, S.adds hk (fresh _ (Nat.le_refl _)) hS hc hn hna, Ext.adds S hk (fresh _ (Nat.le_refl _)) hn, h _ _ as (GLe.adds S hn) (by rw [hal, hl]) fun i q hq => ?_⟩
  have hi : i < as.length := by rw [hal, hl]; exact (List.getElem?_eq_some_iff.mp hq).1
  obtain ⟨key, k, xv, f1, f2, f3⟩ := hG.pairs i as[i] (by simp [hi])
  simp only [kvOf, List.getElem?_map, hq, Option.map_some, Option.some.injEq] at f1
  cases f1
  obtain ⟨t, rfl⟩ := Value.isStrOf_shape f2
  refine ⟨as[i], t, by simp [hi], ⟨{ cls := .type "tuple", data := .seq #[.str q.1 t, q.2.2] }, 0, ?_, rfl, rfl⟩⟩
  simp only [addGs]
  rw [if_pos (List.getElem_mem hi), f3]

theorem booked_keep {B h : Heap} (x : NoneBooked B) (hk : ∀ b o, B.get? b = some o → h.get? b = some o) : NoneBooked h := let ⟨mc, hn, hm⟩ := x; ⟨mc, hn.keeps hk, hm⟩
theorem R_replace {x y z : Str} {t u v : Tok} {Q : Value → Pt → Prop} (hnb : NoneBooked C.B) (hu : u ≠ 0) (hv : v ≠ 0) (huv : u ≠ v) (hb : x.length + (x.length + 1) * z.length ≤ 16777216) (h : ∀ tk, Q (.str (Txt.replace x y z) tk) p) :
    Run C A L (PySem.call (.builtin "str.replace") [.str x t, .str y u, .str z v]) p Q := .of fun s S T =>
  SC.replaceA hu hv huv hb (fun t' k => Post.same S (h t')) (booked_keep hnb S.s0.base)
end
end Mine

open PySem PySem.Calls PyProof.Rows
set_option Elab.async false
set_option linter.unusedVariables false
namespace Mine

section
variable {C : Cx} {A : Around} {L : Addr} {p : Pt} {env : Env}

/-- the values so far, each as it should be -/
def Made (R : Nat → Value → (Addr → Option Obj) → Nat → Prop) (idx : List Nat) (ys : List Value) (G : Addr → Option Obj) (k : Nat) : Prop :=
  ys.length = idx.length ∧ ∀ (j a : Nat) (y : Value), idx[j]? = some a → ys[j]? = some y → R a y G k
theorem Made.push {R : Nat → Value → (Addr → Option Obj) → Nat → Prop} {idx : List Nat} {ys : List Value} {G G' : Addr → Option Obj} {k k' a : Nat} {y : Value} (hm : ∀ a y G G' k k', R a y G k → GLe G G' → k ≤ k' → R a y G' k')
    (h : Made R idx ys G k) (hG : GLe G G') (hk : k ≤ k') (hy : R a y G' k') : Made R (idx ++ [a]) (ys ++ [y]) G' k' := by
  refine ⟨by simp [h.1], fun j b z hb hz => ?_⟩
  rcases Nat.lt_trichotomy j idx.length with hj | hj | hj
  · rw [List.getElem?_append_left hj] at hb
    rw [List.getElem?_append_left (by rw [h.1]; exact hj)] at hz
    exact hm _ _ _ _ _ _ (h.2 j b z hb hz) hG hk
  · subst hj
    rw [List.getElem?_append_right (Nat.le_refl _)] at hb
    rw [List.getElem?_append_right (by rw [h.1]; exact Nat.le_refl _), h.1] at hz
    simp at hb hz
    subst hb; subst hz
    exact hy
  · rw [List.getElem?_eq_none (by simp; omega)] at hb; cases hb
theorem Made.mono {R : Nat → Value → (Addr → Option Obj) → Nat → Prop} {idx : List Nat} {ys : List Value} {G G' : Addr → Option Obj} {k k' : Nat} (hm : ∀ a y G G' k k', R a y G k → GLe G G' → k ≤ k' → R a y G' k')
    (h : Made R idx ys G k) (hG : GLe G G') (hk : k ≤ k') : Made R idx ys G' k' := ⟨h.1, fun j a y h1 h2 => hm _ _ _ _ _ _ (h.2 j a y h1 h2) hG hk⟩
theorem Made.nil {R : Nat → Value → (Addr → Option Obj) → Nat → Prop} {G : Addr → Option Obj} {k : Nat} : Made R [] [] G k := ⟨rfl, fun j a y h => by simp at h⟩

abbrev MonoR (R : Nat → Value → (Addr → Option Obj) → Nat → Prop) : Prop := ∀ a y G G' k k', R a y G k → GLe G G' → k ≤ k' → R a y G' k'

/-- a comprehension's invariant: nothing owned changes -/
def CompI (R : Nat → Value → (Addr → Option Obj) → Nat → Prop) (sel : Nat → Bool) (p₁ : Pt) (M : List (Str × Option Value) → Prop) (i : Nat) (ys : List Value) (p : Pt) : Prop :=
  ∃ G' m' k', p = ⟨G', m', p₁.N, k'⟩ ∧ M m' ∧ GLe p₁.G G' ∧ p₁.k ≤ k' ∧ Made R ((List.range i).filter sel) ys G' k'
abbrev OneM (x : Str) (m : List (Str × Option Value)) : Prop := ∃ o, m = [(x, o)]
/-- what an element does -/
inductive EltQ (R : Nat → Value → (Addr → Option Obj) → Nat → Prop) (i : Nat) (p : Pt) (y : Value) (p₄ : Pt) : Prop
  | mk (G' : Addr → Option Obj) (k' : Nat) (e : p₄ = ⟨G', p.m, p.N, k'⟩) (h1 : GLe p.G G') (h2 : p.k ≤ k') (h3 : R i y G' k') : EltQ R i p y p₄
inductive TstQ (b : Bool) (p : Pt) (Q : Pt → Prop) (b' : Bool) (p₄ : Pt) : Prop
  | mk (e : b' = b) (G' : Addr → Option Obj) (k' : Nat) (e' : p₄ = ⟨G', p.m, p.N, k'⟩) (h1 : GLe p.G G') (h2 : p.k ≤ k') (h3 : Q p₄) : TstQ b p Q b' p₄
def Elt (C : Cx) (A : Around) (Cc : Addr) (elt : Expr) (cenv : Env) (R : Nat → Value → (Addr → Option Obj) → Nat → Prop) (i : Nat) (p : Pt) : Prop :=
  Run C A Cc (eval elt cenv) p (EltQ R i p)
/-- what a test does -/
def Tst (C : Cx) (A : Around) (Cc : Addr) (ifs : List Expr) (cenv : Env) (b : Bool) (p : Pt) (Q : Pt → Prop) : Prop :=
  Run C A Cc (forIn ifs true fun c r => if r = true then do let ok ← isTrue c cenv (eval c cenv); Pure.pure (ForInStep.yield ok) else Pure.pure (ForInStep.yield r)) p (TstQ b p Q)

theorem filter_range_succ (sel : Nat → Bool) (i : Nat) : (List.range (i + 1)).filter sel = (List.range i).filter sel ++ if sel i then [i] else [] := by
  rw [List.range_succ, List.filter_append]
  congr 1
  cases h : sel i <;> simp [h]

theorem comp_step1 {R : Nat → Value → (Addr → Option Obj) → Nat → Prop} {sel : Nat → Bool} (hm : MonoR R) {elt : Expr} {ifs : List Expr} {x : Str} {px : Pos} {scope : Scope} {cl : List (Str × Addr)} {P : Nat → Value → Heap → Prop} {p₁ : Pt} {n : Nat}
    (hx : (compEnvC scope cl 0 env).kindOf x = some .local) (hk : (relabel scope env).kind = .function)
    (h : ∀ Cc i v G' k', i < n → (∃ h', P i v h') → GLe p₁.G G' → p₁.k ≤ k' → Tst C A Cc ifs (compEnvC scope cl Cc env) (sel i) ⟨G', [(x, some v)], p₁.N, k'⟩ fun p₄ => sel i = true → Elt C A Cc elt (compEnvC scope cl Cc env) R i p₄)
    (Cc : Addr) (i : Nat) (ys : List Value) (p₂ : Pt) (hi : i < n) (hI : CompI R sel p₁ (OneM x) i ys p₂) : AsgRun C A Cc (.Name x px) (compEnvC scope cl Cc env) (P i) p₂ fun p₃ =>
      Run C A Cc (forIn ifs true fun c r => if r = true then do let ok ← isTrue c (compEnvC scope cl Cc env) (eval c (compEnvC scope cl Cc env)); Pure.pure (ForInStep.yield ok) else Pure.pure (ForInStep.yield r)) p₃ fun b p₄ =>
        if b then Run C A Cc (eval elt (compEnvC scope cl Cc env)) p₄ (fun y p₅ => CompI R sel p₁ (OneM x) (i + 1) (ys ++ [y]) p₅) else CompI R sel p₁ (OneM x) (i + 1) ys p₄ := by
  obtain ⟨G', m', k', rfl, ⟨o, rfl⟩, hG, hk', hM⟩ := hI
  refine AsgRun.name fun v hv => storeLoc .head ?_ rfl hk hx
  refine (h Cc i v G' k' hi hv hG hk').mono fun b p₄ ⟨hb, G₄, k₄, e4, hG4, hk4, hq⟩ => ?_
  subst hb; subst e4
  cases hs : sel i with
  | true =>
    refine (hq hs).mono fun y p₅ ⟨G₅, k₅, e5, hG5, hk5, hy⟩ => ?_
    subst e5
    refine ⟨G₅, _, k₅, rfl, ⟨_, rfl⟩, hG.trans (GLe.trans hG4 hG5), Nat.le_trans hk' (Nat.le_trans hk4 hk5), ?_⟩
    rw [filter_range_succ, hs]
    exact hM.push hm (GLe.trans hG4 hG5) (Nat.le_trans hk4 hk5) hy
  | false =>
    refine ⟨G₄, _, k₄, rfl, ⟨_, rfl⟩, hG.trans hG4, Nat.le_trans hk' hk4, ?_⟩
    rw [filter_range_succ, hs]
    simpa using hM.mono hm hG4 hk4
theorem Tst.none {Cc : Addr} {cenv : Env} {Q : Pt → Prop} (h : Q p) : Tst C A Cc [] cenv true p Q := R_tests_nil ⟨rfl, p.G, p.k, rfl, GLe.refl _, Nat.le_refl _, h⟩

/-- [elt for x in iter], and with a test -/
inductive Comp1Q (C : Cx) (A : Around) (env : Env) (R : Nat → Value → (Addr → Option Obj) → Nat → Prop) (sel : Nat → Bool) (cl : List (Str × Addr)) (elt : Expr) (ifs : List Expr) (x : Str) (px : Pos) (scope : Scope) (L : Addr) (Q : Value → Pt → Prop) (xv : Value) (p₁ : Pt) : Prop
  | mk (n : Nat) (P : Nat → Value → Heap → Prop) (it : IterOn C A L p₁ (.Name x px) xv n P) (hn : n ≤ sizeLine)
      (step : ∀ Cc i v G' k', i < n → (∃ h', P i v h') → GLe p₁.G G' → p₁.k ≤ k' → Tst C A Cc ifs (compEnvC scope cl Cc env) (sel i) ⟨G', [(x, some v)], p₁.N, k'⟩ fun p₄ => sel i = true → Elt C A Cc elt (compEnvC scope cl Cc env) R i p₄)
      (fin : ∀ D ys G' k', GLe p₁.G G' → p₁.k ≤ k' → Made R ((List.range n).filter sel) ys G' k' → Q (.ref D) ⟨G', p₁.m, (D, listC ys) :: p₁.N, k'⟩) : Comp1Q C A env R sel cl elt ifs x px scope L Q xv p₁
end
end Mine

open PySem PySem.Calls PyProof.Rows
set_option Elab.async false
set_option linter.unusedVariables false
set_option maxRecDepth 100000
namespace Mine
open PySem.W (Frag InstAt findIn typeIn specialIn clsIn plainGet hasDictIn plainOver takerIn noGet handedIn getL putL putN dictOf slotIn takesIn instObj emptyDict isClsIn makesIn)
open Builtin Builtin.ObjectAttr Builtin.Getset_descriptor

/-! state-level stores into a made object -/
section
variable {prog : Program} {w : World} {A : Around} {E : Value → Shared → Prop} {s : Shared} {K : Frag} {x Cc p : Addr} {ox : Obj} {name : Str} {v : Value} {i : Nat}
theorem wp_osaOwn {R : Result → Shared → Prop} {es : List DictEntry} {n : Nat} {dx : Addr} {tk : Tok} (X : K.In s.heap) (I : InstAt s.heap x ox Cc (some (dictOf es n))) (hd : ox.dict = some dx) (hD : s.heap.get? dx = some (dictOf es n))
    (hp : plainOver K Cc = true) (ht : takerIn K Cc name = some none) (hh : hasDictIn K Cc = true) (hl : (getL name es).isSome = true) (hz : es.length ≤ 900)
    (hR : R (.ok (.ret .none)) { s with heap := s.heap.update dx (Obj.putName name (PyData.keyHash w.params name) (.str name s.toks) v), toks := s.toks + 1 }) :
    codeAny (model prog w) A (.call (.builtin "object.__setattr__") ⟨[.ref x, .str name tk, v], []⟩) R s := by
  refine PySem.W.osa_open X I hp ht fun b => ?_
  obtain ⟨cd, hc, hd'⟩ := PySem.W.any_some hh
  obtain ⟨hx, hcl, hn, -⟩ := I
  obtain ⟨oc, odi, oda, osl⟩ := ox
  dsimp only at hcl hd
  subst hcl hd
  refine wpAny_bind (wpAny_pure (wpAny_bind (wpAny_bind (wpAny_loadPart hx (wpAny_bind ((PySem.W.looks_clsIn X hc).here ?_))))))
  rw [hd']
  refine wpAny_pure (a := some dx) (wpAny_bind (wpAny_pure (wpAny_bind ?_)))
  unfold nsSet
  refine wpAny_bind (wpAny_bind (wpAny_askSetting (wpAny_pure (wpAny_bind (wpAny_mkText (wpAny_bind (wpAny_loadPart hD ?_)))))))
  dsimp only
  have c : (!es.toArray.any (·.key.isStr name) && es.toArray.any (·.refKey)) = false := by
    rw [← Array.any_toList, ← Array.any_toList]
    unfold getL at hl
    split at hl
    · rename_i en he
      rw [List.any_eq_true.mpr ⟨en, List.mem_of_find?_eq_some he, List.find?_some he⟩]; rfl
    · split at hl
      · cases hl
      · rename_i z; rw [Bool.not_eq_true] at z; rw [z, Bool.and_false]
  rw [aRefKeyMayBeTheName_at, c]
  refine wpAny_updatePart hD ?_
  have e := PySem.W.putName_dict name (PyData.keyHash w.params name) (.str name s.toks) v es n
  have D' : (s.heap.update dx (Obj.putName name (PyData.keyHash w.params name) (.str name s.toks) v)).get? dx = some (dictOf (putL name (PyData.keyHash w.params name) (.str name s.toks) v es) (putN name es n)) := by
    rw [← e]; exact Heap.get?_update_self _ hD (by rw [e]; rfl)
  have hlen : ∀ (hsh : Int) (key : Value) (l : List DictEntry), (putL name hsh key v l).length ≤ l.length + 1 := by
    intro hsh key l
    induction l with
    | nil => exact Nat.le_refl _
    | cons a r ih =>
      unfold putL
      split <;> simp <;> omega
  have hl2 := hlen (PyData.keyHash w.params name) (.str name s.toks) es
  refine wpAny_bind (wpAny_lookBehind D' (pastItsLine_dict (by rw [List.size_toArray, sizeLine_eq]; omega)) ?_)
  exact wpAny_pure hR
theorem wp_setOwn {es : List DictEntry} {n : Nat} {dx : Addr} {Q : Unit → Shared → Prop} (X : K.In s.heap) (I : InstAt s.heap x ox Cc (some (dictOf es n))) (hd : ox.dict = some dx) (hD : s.heap.get? dx = some (dictOf es n))
    (hs : findIn K (.ref Cc) "__setattr__" = some (some (.builtin "object.__setattr__"))) (hp : plainOver K Cc = true) (ht : takerIn K Cc name = some none) (hh : hasDictIn K Cc = true) (hl : (getL name es).isSome = true) (hz : es.length ≤ 900)
    (hQ : Q () { s with heap := s.heap.update dx (Obj.putName name (PyData.keyHash w.params name) (.str name (s.toks + 1)) v), toks := s.toks + 1 + 1 }) : wpAny (model prog w) A (setAttr (.ref x) name v) Q E s :=
  PySem.W.set_plain X I hs (wp_osaOwn (s := { s with toks := s.toks + 1 }) X I hd hD hp ht hh hl hz hQ)

/-- a slot's store -/
theorem wp_slotSet {R : Result → Shared → Prop} {od : Option Obj} (X : K.In s.heap) (I : InstAt s.heap x ox Cc od) (hp : slotIn K p Cc = some i) (hi : i < 1000)
    (hR : R (.ok (.ret .none)) { s with heap := s.heap.update x fun o => { o with slots := (o.slots ++ Array.replicate (i + 1 - o.slots.size) none).setIfInBounds i (some v) } }) :
    codeAny (model prog w) A (.call (.builtin "member_descriptor.__set__") ⟨[.ref p, .ref x, v], []⟩) R s := by
  obtain ⟨n, tn, owner, behind, tb, d, sl, cd, ho, hc, hm, hb, rfl⟩ := PySem.W.slot_of X hp
  obtain ⟨hh, g, dr, t, os⟩ := s
  have L0 := I.type (M := model prog w)
  have L1 := PySem.W.looks_mroIn (M := model prog w) X hm
  have L2 : PySem.W.Looks (model prog w) hh (Slots.slotNamesOf (.ref Cc)) cd.slotNames := (PySem.W.looks_clsIn X hc).andThen .now
  have hx := I.at_
  dsimp only at ho hx L0 L1
  have f0 := PySem.W.looks_field (M := model prog w) ho 0 (v := .str n tn) rfl
  have f1 := PySem.W.looks_field (M := model prog w) ho 1 (v := owner) rfl
  have f3 := PySem.W.looks_field (M := model prog w) ho 3 (v := .builtin "proto.slot#set") rfl
  have f4 := PySem.W.looks_field (M := model prog w) ho 4 (v := .int behind tb) rfl
  refine codeAny_call_builtin PySem.W.KF.slot_mset.plain PySem.W.KF.entry_mset (PySem.W.KF.slot_mset.check _ _ _ _ _ _ _ _ ⟨_, ho, rfl⟩ (PySem.W.KF.args_mset _ _ _) ?_)
  unfold Builtin.«member_descriptor.__set__» descrSet descrStoreThrough descrCheckInstance descrNameAndClass isInstance
  have f5 : PySem.W.Looks (model prog w) hh (descrItself (.ref p)) [.ref p] := ((PySem.W.Looks.ld (part := none) ho).andThen .now).andThen (PySem.W.Looks.of_pure (by kernel_rfl))
  repeat lk
  refine ⟨Code.quiet_builtin _ (by decide +kernel), codeAny_builtin PySem.W.KF.entry_slotset ?_⟩
  unfold Builtin.«proto.slot#set» Slots.target
  repeat lk
  rw [if_neg hb]
  refine wpAny_pure (wpAny_bind ?_)
  unfold setSlotAt
  dsimp only
  rw [if_neg (by rw [sizeLine_eq]; omega)]
  exact wpAny_updatePart hx (wpAny_pure hR)
theorem wp_setSlot {od : Option Obj} {Q : Unit → Shared → Prop} (X : K.In s.heap) (I : InstAt s.heap x ox Cc od) (hs : findIn K (.ref Cc) "__setattr__" = some (some (.builtin "object.__setattr__"))) (hp : plainOver K Cc = true)
    (ht : takerIn K Cc name = some (some (.ref p))) (hT : typeIn K (.ref p) = some (.type "member_descriptor")) (hsl : slotIn K p Cc = some i) (hi : i < 1000)
    (hQ : Q () { s with heap := s.heap.update x fun o => { o with slots := (o.slots ++ Array.replicate (i + 1 - o.slots.size) none).setIfInBounds i (some v) }, toks := s.toks + 1 }) : wpAny (model prog w) A (setAttr (.ref x) name v) Q E s :=
  PySem.W.set_plain X I hs (PySem.W.osa_descr (s := { s with toks := s.toks + 1 }) PySem.W.KF.slot_mset X I hp ht hT (wp_slotSet (s := { s with toks := s.toks + 1 }) X I hsl hi hQ))
theorem wp_getSlot {od : Obj} {expr : Bool} {Q : Value → Shared → Prop} (X : K.In s.heap) (I : InstAt s.heap x ox Cc (some od)) (hg : plainGet K Cc name = true) (hc : isClsIn K Cc = true)
    (ha : findIn K (.ref Cc) name = some (some (.ref p))) (hn : specialIn K (.ref p) "__get__" = some (some (.builtin "member_descriptor.__get__"))) (ht : takesIn K (.ref p) = some true) (hp : slotIn K p Cc = some i)
    (hv : (ox.slots[i]?).join = some v) (hh : handedIn v = true) (h : Q v { s with toks := s.toks + 1 }) : wpAny (model prog w) A (getAttr (.ref x) name expr) Q E s :=
  PySem.W.get_bind X I (PySem.W.plainGet_of hg).1 (PySem.W.findObj_data hc ha hn ht) (PySem.W.plainGet_of hg).2 (wpAny_call (PySem.W.slot_get (s := { s with toks := s.toks + 1 }) X I hp hv (PySem.W.handed_on hh h)))
end
end Mine

open PySem PySem.Calls PyProof.Rows
set_option Elab.async false
set_option linter.unusedVariables false
set_option maxRecDepth 100000
namespace Mine
open PySem.W (Frag InstAt findIn typeIn specialIn clsIn plainGet hasDictIn plainOver takerIn noGet handedIn getL putL putN dictOf slotIn takesIn instObj emptyDict isClsIn makesIn isFn)

/-- an attribute that lives in the object's own dict -/
structure OwnAttr (K : Frag) (Cc : Addr) (name : Str) : Prop where
  get : plainGet K Cc name = true
  hd : hasDictIn K Cc = true
  fnd : findIn K (.ref Cc) name = some none
  set : findIn K (.ref Cc) "__setattr__" = some (some (.builtin "object.__setattr__"))
  po : plainOver K Cc = true
  tk : takerIn K Cc name = some none
/-- an attribute that lives in a slot -/
structure SlotAttr (K : Frag) (Cc : Addr) (name : Str) (p i : Nat) : Prop where
  get : plainGet K Cc name = true
  cls : isClsIn K Cc = true
  fnd : findIn K (.ref Cc) name = some (some (.ref p))
  spec : specialIn K (.ref p) "__get__" = some (some (.builtin "member_descriptor.__get__"))
  takes : takesIn K (.ref p) = some true
  set : findIn K (.ref Cc) "__setattr__" = some (some (.builtin "object.__setattr__"))
  po : plainOver K Cc = true
  tk : takerIn K Cc name = some (some (.ref p))
  ty : typeIn K (.ref p) = some (.type "member_descriptor")
  sl : slotIn K p Cc = some i
  hi : i < 1000
structure MethAttr (K : Frag) (Cc : Addr) (name : Str) (f : Addr) : Prop where
  get : plainGet K Cc name = true
  fnd : findIn K (.ref Cc) name = some (some (.ref f))
  ty : typeIn K (.ref f) = some (.type "function")

inductive AttrEs : List DictEntry → List (Str × Value) → Prop
  | nil : AttrEs [] []
  | cons {h : Int} {x : Str} {t : Tok} {v : Value} {es : List DictEntry} {kv : List (Str × Value)} : AttrEs es kv → AttrEs (⟨h, .str x t, v⟩ :: es) ((x, v) :: kv)
def kvput : List (Str × Value) → Str → Value → List (Str × Value)
  | [], x, v => [(x, v)]
  | q :: r, x, v => if q.1 = x then (x, v) :: r else q :: kvput r x v
def kvget : List (Str × Value) → Str → Option Value
  | [], _ => none
  | q :: r, x => if q.1 = x then some q.2 else kvget r x
def attrC (kv : List (Str × Value)) : Cell := fun o => ∃ es n, o = dictOf es n ∧ AttrEs es kv
theorem isStr_eq (x y : Str) (t : Tok) : (Value.str x t).isStr y = decide (x = y) := by
  show (x == y) = _
  by_cases h : x = y
  · subst h; simp
  · rw [decide_eq_false h]; exact beq_eq_false_iff_ne.mpr h
theorem AttrEs.noref {es : List DictEntry} {kv : List (Str × Value)} (h : AttrEs es kv) : es.any (·.refKey) = false := by
  induction h with
  | nil => rfl
  | cons _ ih => rw [List.any_cons, ih]; rfl
theorem AttrEs.getL {es : List DictEntry} {kv : List (Str × Value)} (h : AttrEs es kv) (x : Str) : PySem.W.getL x es = some (kvget kv x) := by
  have hr := h.noref
  unfold PySem.W.getL
  rw [if_neg (by rw [hr]; exact Bool.false_ne_true)]
  clear hr
  induction h with
  | nil => rfl
  | @cons hs y t v es kv _ ih =>
    have e1 : (⟨hs, Value.str y t, v⟩ : DictEntry).key.isStr x = decide (y = x) := isStr_eq ..
    unfold kvget
    by_cases hy : y = x
    · rw [List.find?_cons_of_pos (by rw [e1]; exact decide_eq_true hy), if_pos hy]
    · rw [List.find?_cons_of_neg (by rw [e1, decide_eq_false hy]; exact Bool.false_ne_true), if_neg hy]; exact ih
theorem AttrEs.put {es : List DictEntry} {kv : List (Str × Value)} (h : AttrEs es kv) (x : Str) (hs : Int) (t : Tok) (v : Value) : AttrEs (PySem.W.putL x hs (.str x t) v es) (kvput kv x v) := by
  induction h with
  | nil => exact .cons .nil
  | @cons h' y t' v' es kv hr ih =>
    unfold PySem.W.putL kvput
    rw [show (⟨h', Value.str y t', v'⟩ : DictEntry).key.isStr x = decide (y = x) from isStr_eq ..]
    by_cases hy : y = x
    · subst hy; simp only [decide_true, if_true]; exact .cons hr
    · rw [if_neg (by simpa using hy), if_neg hy]; exact .cons ih
theorem AttrEs.len {es : List DictEntry} {kv : List (Str × Value)} (h : AttrEs es kv) : es.length = kv.length := by
  induction h with
  | nil => rfl
  | cons _ ih => simp [ih]

/-- an object with slots -/
def slotC (Cc dx : Addr) (vs : List (Option Value)) : Cell := fun o => o = { instObj Cc dx with slots := vs.toArray }
/-- an own dict, as it is made -/
def emptyC : Cell := fun o => o = emptyDict
def slput (vs : List (Option Value)) (i : Nat) (v : Value) : List (Option Value) := (vs ++ List.replicate (i + 1 - vs.length) none).set i (some v)

section
variable {C : Cx} {A : Around} {L : Addr} {p : Pt} {env : Env} {K : Frag} {x dx Cc : Addr} {name : Str}
theorem R_getOwn {kv : List (Str × Value)} {v : Value} {expr : Bool} {Q : Value → Pt → Prop} (X : K.In C.B) (a : OwnAttr K Cc name) (hx : p.G x = some (instObj Cc dx)) (hd : (dx, attrC kv) ∈ p.N) (hv : kvget kv name = some v) (hh : handedIn v = true) (h : Q v p) :
    Run C A L (getAttr (.ref x) name expr) p Q := .of fun s S T => by
  obtain ⟨o, ho, es, n, rfl, hE⟩ := S.s0.own _ hd
  have I : InstAt s.heap x (instObj Cc dx) Cc (some (dictOf es n)) := ⟨S.s0.gs _ _ hx, rfl, rfl, ho⟩
  have hl : PySem.W.getL name es = some (some v) := by rw [hE.getL, hv]
  exact PySem.W.get_value (X.keeps S.s0.base) I (PySem.W.plainGet_of a.get).1 (PySem.W.findObj_own a.hd a.fnd rfl hl) hh (Post.same S h)
theorem R_setOwn {kv : List (Str × Value)} {v : Value} {N' : List (Addr × Cell)} {Q : Unit → Pt → Prop} (X : K.In C.B) (a : OwnAttr K Cc name) (hx : p.G x = some (instObj Cc dx)) (P : PutN p.N dx (attrC kv) (attrC (kvput kv name v)) N') (hz : kv.length ≤ 900) (h : Q () { p with N := N' }) :
    Run C A L (setAttr (.ref x) name v) p Q := .of fun s S T => by
  obtain ⟨o, ho, es, n, rfl, hE⟩ := S.s0.own _ P.mem
  have I : InstAt s.heap x (instObj Cc dx) Cc (some (dictOf es n)) := ⟨S.s0.gs _ _ hx, rfl, rfl, ho⟩
  refine wp_setOwn (X.keeps S.s0.base) I rfl ho a.set a.po a.tk a.hd (by rw [hE.getL]; rfl) (by rw [hE.len]; exact hz) ?_
  have e := PySem.W.putName_dict name (PyData.keyHash C.w.params name) (.str name (s.toks + 1)) v es n
  refine ⟨_, S.putN P (Heap.SameBut.update ..).extBut (Heap.get?_update_self _ ho (by rw [e]; rfl)) ⟨_, _, e, hE.put ..⟩, Ext.putN P (Heap.SameBut.update ..).extBut, h⟩
theorem R_getSlot {q i : Nat} {vs : List (Option Value)} {v : Value} {expr : Bool} {Q : Value → Pt → Prop} (X : K.In C.B) (a : SlotAttr K Cc name q i) (hx : (x, slotC Cc dx vs) ∈ p.N ∨ ∃ o, p.G x = some o ∧ slotC Cc dx vs o) (hd : p.G dx = some emptyDict) (hv : vs[i]? = some (some v)) (hh : handedIn v = true) (h : Q v p) :
    Run C A L (getAttr (.ref x) name expr) p Q := .of fun s S T => by
  have ho : s.heap.get? x = some { instObj Cc dx with slots := vs.toArray } := by
    rcases hx with hx | ⟨o, e, rfl⟩
    · obtain ⟨o, ho, rfl⟩ := S.s0.own _ hx; exact ho
    · exact S.s0.gs _ _ e
  have I : InstAt s.heap x { instObj Cc dx with slots := vs.toArray } Cc (some emptyDict) := ⟨ho, rfl, rfl, S.s0.gs _ _ hd⟩
  exact wp_getSlot (X.keeps S.s0.base) I a.get a.cls a.fnd a.spec a.takes a.sl (by show (vs.toArray[i]?).join = _; simp [hv]) hh (Post.same S h)
theorem R_setSlot {q i : Nat} {vs : List (Option Value)} {v : Value} {N' : List (Addr × Cell)} {Q : Unit → Pt → Prop} (X : K.In C.B) (a : SlotAttr K Cc name q i) (P : PutN p.N x (slotC Cc dx vs) (slotC Cc dx (slput vs i v)) N') (hd : p.G dx = some emptyDict) (h : Q () { p with N := N' }) :
    Run C A L (setAttr (.ref x) name v) p Q := .of fun s S T => by
  obtain ⟨o, ho, rfl⟩ := S.s0.own _ P.mem
  have I : InstAt s.heap x { instObj Cc dx with slots := vs.toArray } Cc (some emptyDict) := ⟨ho, rfl, rfl, S.s0.gs _ _ hd⟩
  refine wp_setSlot (X.keeps S.s0.base) I a.set a.po a.tk a.ty a.sl a.hi ?_
  refine ⟨_, S.putN P (Heap.SameBut.update ..).extBut (Heap.get?_update_self _ ho rfl) ?_, Ext.putN P (Heap.SameBut.update ..).extBut, h⟩
  show ({ instObj Cc dx with slots := (vs.toArray ++ Array.replicate (i + 1 - vs.toArray.size) none).setIfInBounds i (some v) } : Obj) = _
  have : (vs.toArray ++ Array.replicate (i + 1 - vs.toArray.size) none).setIfInBounds i (some v) = (slput vs i v).toArray := by
    apply Array.toList_inj.mp
    simp [slput]
  rw [this]
/-- the method of an object whose dict does not hide it -/
theorem R_method {f : Addr} {kv : List (Str × Value)} {pl : Sem Bool} {Q : Value × List Value → Pt → Prop} (X : K.In C.B) (a : MethAttr K Cc name f) (hx : p.G x = some (instObj Cc dx)) (hd : (dx, attrC kv) ∈ p.N) (hv : kvget kv name = none) (h : Q (.ref f, [.ref x]) p) :
    Run C A L (getMethod (.ref x) name pl) p Q := .of fun s S T => by
  obtain ⟨o, ho, es, n, rfl, hE⟩ := S.s0.own _ hd
  have I : InstAt s.heap x (instObj Cc dx) Cc (some (dictOf es n)) := ⟨S.s0.gs _ _ hx, rfl, rfl, ho⟩
  refine PySem.W.method_fn (X.keeps S.s0.base) I (PySem.W.plainGet_of a.get).1 (PySem.W.plainGet_of a.get).2 a.fnd a.ty ?_ ⟨p, S, .refl, h⟩
  show (PySem.W.lookIn name (dictOf es n)).map _ = _
  rw [PySem.W.lookIn_dict, hE.getL, hv]; rfl
theorem E_Attr {e : Expr} {pos : Pos} {Q : Value → Pt → Prop} (h : Run C A L (eval e env) p fun o p₁ => Run C A L (getAttr o name true) p₁ Q) (hb : attributeBase e name env (eval e env) = eval e env := by rfl) :
    Run C A L (eval (.Attribute e name pos) env) p Q := by
  refine Run.of_eq (arm_eval_Attribute ..) ?_
  rw [hb]
  exact .bind (h.mono fun o p₁ h₁ => .bind (.standAt (.bind (.holding (h₁.mono fun r p₂ h₂ => .bind (.of fun s S T => wpAny_letTemporaryGo ⟨p₂, S, .refl, Run.pure h₂⟩))))))
/-- a method that is a def of the text -/
structure MethFQ (C : Cx) (A : Around) (L : Addr) (env : Env) (f : Addr) (pos : Pos) (args : List Expr) (Q : Value → Pt → Prop) (fx : Value × List Value) (p₂ : Pt) : Prop where
  e : fx.1 = .ref f
  go : Run C A L (spliced (backTo pos (starEach args env))) p₂ fun vs p₃ => Run C A L (PySem.call (.ref f) (fx.2 ++ vs)) p₃ Q
theorem E_methF {f : Addr} {of : Obj} {fd : FuncData} {o : Expr} {apos pos : Pos} {args : List Expr} {Q : Value → Pt → Prop} {pl : Sem Bool} (ho : C.B.get? f = some of) (hd : of.data = .func fd)
    (h : Run C A L (eval o env) p fun ov p₁ => Run C A L (getMethod ov name pl) p₁ (MethFQ C A L env f pos args Q))
    (hp : (args.all fun e => !PySem.W.isStarred e) = true := by rfl)
    (he : eval (.Call (.Attribute o name apos) args [] pos) env = (do
      let ov ← eval o env
      PySem.standAt apos.atName
      let (f, first) ← PySem.holding [ov] (getMethod ov name pl)
      callWith pos f first (backTo pos (starEach args env)) (backToKw pos (keywordEach [] env))) := by rfl) :
    Run C A L (eval (.Call (.Attribute o name apos) args [] pos) env) p Q := by
  refine Run.of_eq he (.bind (h.mono fun ov p₁ h₁ => .bind (.standAt (.bind (.holding (h₁.mono fun fx p₂ ⟨hf, h₂⟩ => ?_))))))
  obtain ⟨g, first⟩ := fx
  dsimp only at hf h₂ ⊢
  subst hf
  exact R_callF ho hd (plainTrees hp) h₂
/-- an object of a class of the text is made -/
theorem R_make {fI : Addr} {vs : List Value} {Q : Value → Pt → Prop} (X : K.In C.B) (hm : makesIn K Cc = true) (hi : findIn K (.ref Cc) "__init__" = some (some (.ref fI))) (hf : typeIn K (.ref fI) = some (.type "function"))
    (h : ∀ x dx, CallRun C (A.under (.builtin "type.__call__" ⟨.ref Cc :: vs, []⟩)) fI (.ref x :: vs) p.G [(x, slotC Cc dx []), (dx, emptyC)] p.k fun v G' N' k' => v = .none ∧ Q (.ref x) { p with G := G', N := N' ++ p.N, k := k' }) :
    Run C A L (PySem.call (.ref Cc) vs) p Q := .of fun s S T => by
  have X' := X.keeps S.s0.base
  have S1 := S.pushN (o := emptyDict) (c := emptyC) rfl rfl
  have S2 := S1.pushN (o := instObj Cc s.heap.objs.size) (c := slotC Cc s.heap.objs.size []) rfl rfl
  rw [Heap.size_push] at S2
  have x1 : Ext L p s { p with N := (s.heap.objs.size, emptyC) :: p.N } { s with heap := s.heap.push emptyDict } := Ext.pushN
  have x2 : Ext L { p with N := (s.heap.objs.size, emptyC) :: p.N } { s with heap := s.heap.push emptyDict } { p with N := (s.heap.objs.size + 1, slotC Cc s.heap.objs.size []) :: (s.heap.objs.size, emptyC) :: p.N }
      { s with heap := (s.heap.push emptyDict).push (instObj Cc s.heap.objs.size) } := by
    have := Ext.pushN (L := L) (p := { p with N := (s.heap.objs.size, emptyC) :: p.N }) (s := { s with heap := s.heap.push emptyDict }) (o := instObj Cc s.heap.objs.size) (c := slotC Cc s.heap.objs.size []) (tk := s.toks)
    rwa [show ({ s with heap := s.heap.push emptyDict } : Shared).heap.objs.size = s.heap.objs.size + 1 from Heap.size_push ..] at this
  have x12 := x1.trans S S1 x2 (Nat.le_refl _)
  obtain ⟨hh, g, d, t, os⟩ := s
  refine wpAny_with_toks (Nat.le_refl _) ?_
  refine wpAny_call (PySem.W.make_core (PySem.W.makes_of X' hm) (PySem.W.looks_findIn X' hi) (fun self => PySem.W.bind_fn X' self hf) (.inl rfl) ?_)
  have S3 : Sat0 C.B p.G [(hh.objs.size + 1, slotC Cc hh.objs.size []), (hh.objs.size, emptyC)] ((hh.push emptyDict).push (instObj Cc hh.objs.size)) :=
    S2.s0.sub (fun q hq => List.mem_append_left p.N hq) (by simp [dom])
  refine codeAny_mono (h (hh.objs.size + 1) hh.objs.size ⟨(hh.push emptyDict).push (instObj Cc hh.objs.size), g, d, t, os⟩ S3 ⟨T.le⟩) fun r s' hr => ?_
  obtain ⟨v, G', N', k', rfl, S', x', rfl, q⟩ := hr
  obtain ⟨S'', x''⟩ := Sat0.framed (p := { p with N := (hh.objs.size + 1, slotC Cc hh.objs.size []) :: (hh.objs.size, emptyC) :: p.N }) (Nc := [(hh.objs.size + 1, slotC Cc hh.objs.size []), (hh.objs.size, emptyC)]) (Nr := p.N) (s := ⟨(hh.push emptyDict).push (instObj Cc hh.objs.size), g, d, t, os⟩) S2 (List.Perm.refl _) S' x'
  exact ⟨rfl, fun ht => ⟨_, S'', x12.trans S S2 x'' ht, q⟩⟩
theorem Room.under {A : Around} {d : Nat} {Cc : Addr} {vs : List Value} (h : Room A (d + 1)) : Room (A.under (.builtin "type.__call__" ⟨.ref Cc :: vs, []⟩)) d := by
  have e1 : (A.under (.builtin "type.__call__" ⟨.ref Cc :: vs, []⟩)).depth = A.depth + 1 := rfl
  have e2 : (A.under (.builtin "type.__call__" ⟨.ref Cc :: vs, []⟩)).units = A.units + (Code.builtin "type.__call__" ⟨.ref Cc :: vs, []⟩).cUnits := rfl
  have e3 : (Code.builtin "type.__call__" ⟨.ref Cc :: vs, []⟩).cUnits = (Code.builtin "type.__call__" ⟨[], []⟩).cUnits := rfl
  have e4 : (Code.builtin "type.__call__" ⟨[], []⟩).cUnits ≤ 8 := by decide +kernel
  refine ⟨by rw [e1]; have := h.depth; omega, by rw [e2]; have := h.units; omega, h.hd⟩
end
end Mine

open PySem PySem.Calls PyProof.Rows
set_option Elab.async false
set_option linter.unusedVariables false
set_option maxRecDepth 100000
namespace Mine

section
variable {C : Cx} {A : Around} {L : Addr} {α β : Type} {p : Pt} {env : Env}

/-! assignments to attributes, to several targets, in expressions -/
theorem S_Attr {o : Expr} {attr : Str} {pos : Pos} {v : Value} {Q : Unit → Pt → Prop} (h : Run C A L (eval o env) p fun ov p₁ => Run C A L (setAttr ov attr v) p₁ Q) : Run C A L (assign (.Attribute o attr pos) env v) p Q :=
  Run.of_eq (arm_assign_Attribute ..) (.bind (.holding (h.mono fun ov p₁ h₁ => .bind (.standAt (.bind (.holding (h₁.mono fun _ p₂ h₂ => .release h₂)))))))
theorem S_Name {x : Str} {pos : Pos} {v : Value} {Q : Unit → Pt → Prop} (h : Run C A L (bindName env x v) p Q) : Run C A L (assign (.Name x pos) env v) p Q :=
  Run.of_eq (arm_assign_Name ..) (.bind (.standAt h))
theorem S_Sub {o i : Expr} {pos : Pos} {v : Value} {Q : Unit → Pt → Prop} (h : Run C A L (eval o env) p fun ov p₁ => Run C A L (eval i env) p₁ fun iv p₂ => Run C A L (setItem ov iv v) p₂ Q) : Run C A L (assign (.Subscript o i pos) env v) p Q :=
  Run.of_eq (arm_assign_Subscript ..) (.bind (.holding (h.mono fun ov p₁ h₁ => .bind (.holding (h₁.mono fun iv p₂ h₂ => .bind (.standAt (.bind (.holding (h₂.mono fun _ p₃ h₃ => .release h₃)))))))))
theorem X_AssignAttr {o : Expr} {attr : Str} {pos pos' : Pos} {e : Expr} {Q : Flow → Pt → Prop} (h : Run C A L (eval e env) p fun v p₁ => Run C A L (eval o env) p₁ fun ov p₂ => Run C A L (setAttr ov attr v) p₂ fun _ p₃ => Q .next p₃)
    (hs : swapsWith e (some (.Attribute o attr pos')) pos.line env = Pure.pure false := by rfl) : Run C A L (exec (.Assign [.Attribute o attr pos'] e pos) env) p Q :=
  Run.of_eq (plainObj_exec_Assign_Attribute _ _ _ _ _ hs) (.bind (.standAt (.bind (h.mono fun v p₁ h₁ => .bind ((S_Attr h₁).mono fun _ p₂ h₂ => .pure h₂)))))
theorem X_Assign2 {t₁ t₂ e : Expr} {pos : Pos} {Q : Flow → Pt → Prop} (h : Run C A L (eval e env) p fun v p₁ => Run C A L (assign t₁ env v) p₁ fun _ p₂ => Run C A L (assign t₂ env v) p₂ fun _ p₃ => Q .next p₃)
    (he : (assignEach [t₁, t₂] env).map (·.2) = [assign t₁ env, assign t₂ env] := by rfl)
    (hw : swappedStores [t₁, t₂] e env = Pure.pure none := by rfl) : Run C A L (exec (.Assign [t₁, t₂] e pos) env) p Q := .of fun s S T =>
  wpAny_Assign_two (wpAny_mono (wpAny_toks (h.go s S T)) (fun v s₁ ⟨k₁, p₁, S₁, x₁, h₁⟩ => wpAny_mono (wpAny_toks (Run.after S T S₁ x₁ k₁ h₁)) (fun _ s₂ ⟨k₂, p₂, S₂, x₂, h₂⟩ => Run.after S T S₂ x₂ (Nat.le_trans k₁ k₂) h₂) fun _ _ e => e.2) fun _ _ e => e.2) he hw
theorem X_AugAttr {o e : Expr} {attr : Str} {tpos pos : Pos} {op : Operator} {Q : Flow → Pt → Prop}
    (h : Run C A L (eval o env) p fun ov p₁ => Run C A L (getAttr ov attr true) p₁ fun old p₂ => Run C A L (eval e env) p₂ fun v p₃ => Run C A L (inplaceOp op old v) p₃ fun z p₄ => Run C A L (setAttr ov attr z) p₄ fun _ p₅ => Q .next p₅) :
    Run C A L (exec (.AugAssign (.Attribute o attr tpos) op e pos) env) p Q := .of fun s S T =>
  wpAny_AugAssign_AttributeAny (wpAny_mono (wpAny_toks (h.go s S T)) (fun ov s₁ ⟨k₁, p₁, S₁, x₁, h₁⟩ => wpAny_mono (wpAny_toks (Run.after S T S₁ x₁ k₁ h₁)) (fun old s₂ ⟨k₂, p₂, S₂, x₂, h₂⟩ =>
    wpAny_mono (wpAny_toks (Run.after S T S₂ x₂ (Nat.le_trans k₁ k₂) h₂)) (fun v s₃ ⟨k₃, p₃, S₃, x₃, h₃⟩ => wpAny_mono (wpAny_toks (Run.after S T S₃ x₃ (Nat.le_trans (Nat.le_trans k₁ k₂) k₃) h₃)) (fun z s₄ ⟨k₄, p₄, S₄, x₄, h₄⟩ =>
      Run.after S T S₄ x₄ (Nat.le_trans (Nat.le_trans (Nat.le_trans k₁ k₂) k₃) k₄) h₄) fun _ _ e => e.2) fun _ _ e => e.2) fun _ _ e => e.2) fun _ _ e => e.2)
theorem E_Named {x : Str} {px pos : Pos} {e : Expr} {Q : Value → Pt → Prop} (h : Run C A L (eval e env) p fun v p₁ => Run C A L (bindName env x v) p₁ fun _ p₂ => Q v p₂) : Run C A L (eval (.NamedExpr (.Name x px) e pos) env) p Q :=
  Run.of_eq (arm_eval_NamedExpr ..) (.bind (h.mono fun v p₁ h₁ => .bind (.holding ((S_Name h₁).mono fun _ p₂ h₂ => .pure h₂))))
theorem C_isN {v : Value} {Q : Value → Pt → Prop} (h : Q (.bool (v == .none)) p) : Run C A L (compareOp .Is v .none) p Q := .of fun s S T => is_none_gen ⟨p, S, .refl, h⟩
theorem C_isnN {v : Value} {Q : Value → Pt → Prop} (h : Q (.bool (!(v == .none))) p) : Run C A L (compareOp .IsNot v .none) p Q := .of fun s S T => isnot_none_gen ⟨p, S, .refl, h⟩

/-! the order of what is owned -/
theorem Sat0.perm {B : Heap} {G : Addr → Option Obj} {N N' : List (Addr × Cell)} {h : Heap} (S : Sat0 B G N h) (hp : N.Perm N') : Sat0 B G N' h := by
  have hd : (dom N).Perm (dom N') := by unfold dom; exact hp.map _
  exact ⟨S.base, S.gs, fun q hq => S.own q (hp.mem_iff.mpr hq), fun b hb => S.nB b (hd.mem_iff.mpr hb), fun b hb => S.nG b (hd.mem_iff.mpr hb), hd.nodup_iff.mp S.nd⟩
theorem Run.perm {t : Sem α} {N' : List (Addr × Cell)} {Q : α → Pt → Prop} (hp : p.N.Perm N') (h : Run C A L t { p with N := N' } Q) : Run C A L t p Q := .of fun s S T => by
  have hd : (dom p.N).Perm (dom N') := by unfold dom; exact hp.map _
  have S' : Sat C.B L { p with N := N' } s.heap := ⟨S.s0.perm hp, S.ns, S.bL, S.gL, fun hm => S.nL (hd.mem_iff.mpr hm), S.mnd⟩
  have x : Ext L p s { p with N := N' } s := ⟨fun _ _ e _ _ => e, fun _ _ e => e, fun _ h => h.elim .inl fun h => .inr (.inl (hd.mem_iff.mpr h)), fun _ h => .inl (hd.mem_iff.mp h), rfl, rfl, Nat.le_refl _, .inl (Nat.le_refl _)⟩
  exact Run.after S T S' x (Nat.le_refl _) h

/-! a frame that is lent to a callee -/
def frameC (m : List (Str × Option Value)) : Cell := fun o => ∃ es ep, o.data = .dict es ep ∧ StrKeys es ∧ ∀ name, nsFind es name = look m name
theorem Sat.lend {B : Heap} {h : Heap} {Nc Nr : List (Addr × Cell)} (S : Sat B L p h) (hp : p.N.Perm (Nc ++ Nr)) : Sat0 B p.G ((L, frameC p.m) :: Nc) h := by
  have hd : (dom p.N).Perm (dom Nc ++ dom Nr) := by have := hp.map (·.1); simpa [dom] using this
  have nd := hd.nodup_iff.mp S.s0.nd
  have Lc : L ∉ dom Nc := fun h => S.nL (hd.mem_iff.mpr (List.mem_append_left _ h))
  have mcN : ∀ q ∈ Nc, q ∈ p.N := fun q hq => hp.mem_iff.mpr (List.mem_append_left _ hq)
  have Sc : Sat0 B p.G Nc h := S.s0.sub mcN (List.nodup_append.mp nd).1
  refine ⟨S.s0.base, S.s0.gs, fun q hq => ?_, fun b hb => ?_, fun b hb => ?_, List.nodup_cons.mpr ⟨Lc, Sc.nd⟩⟩
  · rcases List.mem_cons.mp hq with e | hq
    · subst e
      obtain ⟨o, es, ep, ho, hd, hk, hl⟩ := S.ns
      exact ⟨o, ho, es, ep, hd, hk, hl⟩
    · exact Sc.own q hq
  · rcases List.mem_cons.mp hb with e | hb
    · exact e ▸ S.bL
    · exact Sc.nB b hb
  · rcases List.mem_cons.mp hb with e | hb
    · exact e ▸ S.gL
    · exact Sc.nG b hb
theorem Sat.unlend {B : Heap} {s s' : Shared} {Nc Nr N'' : List (Addr × Cell)} {G' : Addr → Option Obj} {k' : Nat} (S : Sat B L p s.heap) (hp : p.N.Perm (Nc ++ Nr)) (S' : Sat0 B G' ((L, frameC p.m) :: N'') s'.heap)
    (x : Ext0 (fun _ => False) p.G ((L, frameC p.m) :: Nc) p.k s G' ((L, frameC p.m) :: N'') k' s') : Sat B L { p with G := G', N := N'' ++ Nr, k := k' } s'.heap ∧ Ext L p s { p with G := G', N := N'' ++ Nr, k := k' } s' := by
  have hd : (dom p.N).Perm (dom Nc ++ dom Nr) := by have := hp.map (·.1); simpa [dom] using this
  have nd := hd.nodup_iff.mp S.s0.nd
  have Lc : L ∉ dom Nc := fun h => S.nL (hd.mem_iff.mpr (List.mem_append_left _ h))
  have mr : ∀ b ∈ dom Nr, b ∈ dom p.N := fun b hb => hd.mem_iff.mpr (List.mem_append_right _ hb)
  have notc : ∀ b ∈ dom Nr, b ∉ dom ((L, frameC p.m) :: Nc) := fun b hr hc => by
    rcases List.mem_cons.mp hc with e | hc
    · have e : b = L := e
      subst e
      exact S.nL (mr _ hr)
    · exact (List.nodup_append.mp nd).2.2 b hc b hr rfl
  have alive : ∀ b ∈ dom Nr, s.heap.get? b ≠ none := fun b hb => by
    obtain ⟨q, hq, rfl⟩ := List.mem_map.mp (mr b hb)
    obtain ⟨o, ho, _⟩ := S.s0.own q hq
    rw [ho]; exact fun h => nomatch h
  have offG : ∀ b ∈ dom Nr, G' b = none := fun b hb => by
    cases h : G' b with
    | none => rfl
    | some o =>
      rcases x.fresh b (.inl (by rw [h]; exact fun h => nomatch h)) with e | e | e
      · exact absurd (S.s0.nG b (mr b hb)) e
      · exact absurd e (notc b hb)
      · exact absurd e (alive b hb)
  have offN : ∀ b ∈ dom Nr, b ∉ dom ((L, frameC p.m) :: N'') := fun b hb h => by
    rcases x.fresh b (.inr h) with e | e | e
    · exact e (S.s0.nG b (mr b hb))
    · exact notc b hb e
    · exact alive b hb e
  have nd' := List.nodup_cons.mp S'.nd
  have da : dom (N'' ++ Nr) = dom N'' ++ dom Nr := by simp [dom]
  have gL : G' L = none := S'.nG L (by simp [dom])
  refine ⟨⟨⟨S'.base, S'.gs, fun q hq => ?_, fun b hb => ?_, fun b hb => ?_, ?_⟩, ?_, S.bL, gL, fun hm => ?_, S.mnd⟩, ⟨fun b o e h1 h2 => ?_, x.grow, fun b h => ?_, fun b h => ?_, x.gens, x.os, x.km, x.kk⟩⟩
  · rcases List.mem_append.mp hq with h | h
    · exact S'.own q (List.mem_cons_of_mem _ h)
    · have hm : q.1 ∈ dom Nr := List.mem_map_of_mem (f := (·.1)) h
      obtain ⟨o, ho, hc⟩ := S.s0.own q (hp.mem_iff.mpr (List.mem_append_right _ h))
      exact ⟨o, x.keep _ _ ho id (notc _ hm), hc⟩
  · rw [da] at hb
    rcases List.mem_append.mp hb with h | h
    · exact S'.nB b (List.mem_cons_of_mem _ h)
    · exact S.s0.nB b (mr b h)
  · rw [da] at hb
    rcases List.mem_append.mp hb with h | h
    · exact S'.nG b (List.mem_cons_of_mem _ h)
    · exact offG b h
  · show (dom (N'' ++ Nr)).Nodup
    rw [da]
    refine List.nodup_append.mpr ⟨nd'.2, (List.nodup_append.mp nd).2.1, fun a ha b hb e => ?_⟩
    subst e
    exact offN a hb (List.mem_cons_of_mem _ ha)
  · obtain ⟨o, ho, es, ep, h1, h2, h3⟩ := S'.own (L, frameC p.m) List.mem_cons_self
    exact ⟨o, es, ep, ho, h1, h2, h3⟩
  · rw [da] at hm
    rcases List.mem_append.mp hm with h | h
    · exact nd'.1 h
    · exact S.nL (mr L h)
  · exact x.keep b o e id fun h => by
      rcases List.mem_cons.mp h with h | h
      · exact h1 h
      · exact h2 (hd.mem_iff.mpr (List.mem_append_left _ h))
  · have fix : b ∈ dom ((L, frameC p.m) :: Nc) → G' b ≠ none ∨ b ∈ dom (N'' ++ Nr) → b ∈ dom p.N := fun hb h => by
      rcases List.mem_cons.mp hb with e | hb
      · exfalso
        have e : b = L := e
        rw [e] at h
        rcases h with h | h
        · exact h gL
        · rw [da] at h
          rcases List.mem_append.mp h with h | h
          · exact nd'.1 h
          · exact S.nL (mr _ h)
      · exact hd.mem_iff.mpr (List.mem_append_left _ hb)
    rcases h with h | h
    · rcases x.fresh b (.inl h) with e | e | e
      · exact .inl e
      · exact .inr (.inl (fix e (.inl h)))
      · exact .inr (.inr e)
    · change b ∈ dom (N'' ++ Nr) at h
      have h0 := h
      rw [da] at h
      rcases List.mem_append.mp h with h | h
      · rcases x.fresh b (.inr (List.mem_cons_of_mem _ h)) with e | e | e
        · exact .inl e
        · exact .inr (.inl (fix e (.inr h0)))
        · exact .inr (.inr e)
      · exact .inr (.inl (mr b h))
  · show b ∈ dom (N'' ++ Nr) ∨ _
    rw [da]
    rcases List.mem_append.mp (hd.mem_iff.mp h) with h | h
    · rcases x.noleak b (List.mem_cons_of_mem _ h) with e | e
      · rcases List.mem_cons.mp e with e | e
        · have e : b = L := e
          rw [e] at h
          exact absurd h Lc
        · exact .inl (List.mem_append_left _ e)
      · exact .inr e
    · exact .inl (List.mem_append_right _ h)
theorem R_callL {f : Addr} {vs : List Value} {Nc Nr : List (Addr × Cell)} {Q : Value → Pt → Prop} (hp : p.N.Perm (Nc ++ Nr))
    (h : CallRun C A f vs p.G ((L, frameC p.m) :: Nc) p.k fun v G' N' k' => ∃ N'', N' = (L, frameC p.m) :: N'' ∧ Q v { p with G := G', N := N'' ++ Nr, k := k' }) : Run C A L (PySem.call (.ref f) vs) p Q := .of fun s S T => by
  refine wpAny_call (codeAny_mono (h s (S.lend hp) T) fun r s' hr => ?_)
  obtain ⟨v, G', N', k', rfl, S', x, N'', rfl, q⟩ := hr
  obtain ⟨S'', x'⟩ := S.unlend hp S' x
  exact ⟨_, S'', x', q⟩
end
end Mine

open PySem PySem.Calls PyProof.Rows
set_option Elab.async false
set_option linter.unusedVariables false
set_option maxRecDepth 100000
namespace Mine
open PySem.W (hideAll hideAll_get hideAll_none of_hideAll)

/-- with an exceptional end -/
structure RunE (C : Cx) (A : Around) (L : Addr) {α : Type} (t : Sem α) (p : Pt) (Q : α → Pt → Prop) (E : Value → Pt → Prop) : Prop where
  of :: go : ∀ s, Sat C.B L p s.heap → TokOk p.k s → wpAny (model C.prog C.w) A t (Post C L p s Q) (Post C L p s E) s

section
variable {C : Cx} {A : Around} {L : Addr} {α β : Type} {p : Pt} {env : Env}
theorem Run.toE {t : Sem α} {Q : α → Pt → Prop} {E : Value → Pt → Prop} (h : Run C A L t p Q) : RunE C A L t p Q E := .of fun s S T => wpAny_mono (h.go s S T) (fun _ _ e => e) fun _ _ e => e.elim
theorem RunE.mono {t : Sem α} {Q Q' : α → Pt → Prop} {E E' : Value → Pt → Prop} (h : RunE C A L t p Q E) (hq : ∀ a p', Q a p' → Q' a p') (he : ∀ a p', E a p' → E' a p') : RunE C A L t p Q' E' :=
  .of fun s S T => wpAny_mono (h.go s S T) (fun a _ ⟨p', S', x, q⟩ => ⟨p', S', x, hq a p' q⟩) fun a _ ⟨p', S', x, q⟩ => ⟨p', S', x, he a p' q⟩
theorem RunE.after {t : Sem β} {p₁ : Pt} {Q : β → Pt → Prop} {E : Value → Pt → Prop} {s s₁ : Shared} (S : Sat C.B L p s.heap) (T : TokOk p.k s) (S₁ : Sat C.B L p₁ s₁.heap) (x : Ext L p s p₁ s₁) (ht : s.toks ≤ s₁.toks) (h : RunE C A L t p₁ Q E) :
    wpAny (model C.prog C.w) A t (Post C L p s Q) (Post C L p s E) s₁ :=
  wpAny_mono (wpAny_toks (h.go s₁ S₁ (T.next x ht))) (fun b s₂ ⟨ht₂, p₂, S₂, y, r⟩ => ⟨p₂, S₂, x.trans S S₁ y ht₂, r⟩) fun b s₂ ⟨ht₂, p₂, S₂, y, r⟩ => ⟨p₂, S₂, x.trans S S₁ y ht₂, r⟩
theorem RunE.bind {m : Sem α} {f : α → Sem β} {Q : β → Pt → Prop} {E : Value → Pt → Prop} (h : RunE C A L m p (fun a p₁ => RunE C A L (f a) p₁ Q E) E) : RunE C A L (m >>= f) p Q E :=
  .of fun s S T => wpAny_bind (wpAny_mono (wpAny_toks (h.go s S T)) (fun a s₁ ⟨ht, p₁, S₁, x, q⟩ => RunE.after S T S₁ x ht q) fun _ _ e => e.2)
theorem RunE.of_eq {t t' : Sem α} {Q : α → Pt → Prop} {E : Value → Pt → Prop} (e : t = t') (h : RunE C A L t' p Q E) : RunE C A L t p Q E := e ▸ h
theorem RunE.holding {vs : List Value} {t : Sem α} {Q : α → Pt → Prop} {E : Value → Pt → Prop} (h : RunE C A L t p Q E) : RunE C A L (PySem.holding vs t) p Q E := .of fun s S T => wpAny_holding (h.go s S T)
theorem RunE.pure {a : α} {Q : α → Pt → Prop} {E : Value → Pt → Prop} (h : Q a p) : RunE C A L (Pure.pure a : Sem α) p Q E := (Run.pure h).toE
theorem RunE.standAt {pos : Pos} {Q : Unit → Pt → Prop} {E : Value → Pt → Prop} (h : Q () p) : RunE C A L (PySem.standAt pos) p Q E := (Run.standAt h).toE

theorem XE_cons {st : Stmt} {r : List Stmt} {Q : Flow → Pt → Prop} {E : Value → Pt → Prop} (h : RunE C A L (exec st env) p (fun f p₁ => match f with | .next => RunE C A L (execs r env) p₁ Q E | f => Q f p₁) E) : RunE C A L (execs (st :: r) env) p Q E :=
  RunE.of_eq (execs_cons ..) (.bind (h.mono (fun f p₁ h₁ => by cases f <;> first | exact h₁ | exact .pure h₁) fun _ _ e => e))
theorem XE_one {st : Stmt} {Q : Flow → Pt → Prop} {E : Value → Pt → Prop} (h : RunE C A L (exec st env) p Q E) : RunE C A L (execs [st] env) p Q E :=
  RunE.of_eq (execs_cons ..) (.bind (h.mono (fun f p₁ h₁ => by cases f <;> exact .pure h₁) fun _ _ e => e))
theorem XE_If {t : Expr} {b o : List Stmt} {pos : Pos} {Q : Flow → Pt → Prop} {E : Value → Pt → Prop} (h : RunE C A L (isTrue t env (eval t env)) p (fun c p₁ => if c then RunE C A L (execs b env) p₁ Q E else RunE C A L (execs o env) p₁ Q E) E) :
    RunE C A L (exec (.If t b o pos) env) p Q E :=
  RunE.of_eq (exec_If ..) (.bind (.standAt (.bind (h.mono (fun c p₁ h₁ => by cases c <;> exact h₁) fun _ _ e => e))))
theorem XE_Assign {x : Str} {e : Expr} {pos pos' : Pos} {Q : Flow → Pt → Prop} {E : Value → Pt → Prop} (h : RunE C A L (eval e env) p (fun v p₁ => Run C A L (bindName env x v) p₁ fun _ p₂ => Q .next p₂) E)
    (hs : swapsWith e (some (.Name x pos')) pos.line env = Pure.pure false := by rfl) : RunE C A L (exec (.Assign [.Name x pos'] e pos) env) p Q E :=
  RunE.of_eq (exec_Assign_Name _ _ _ _ _ hs) (.bind (.standAt (.bind (h.mono (fun v p₁ h₁ => .bind (.standAt (.bind ((Run.mono h₁ fun _ p₂ h₂ => RunE.pure h₂).toE)))) fun _ _ e => e))))
theorem XE_Expr {e : Expr} {pos : Pos} {Q : Flow → Pt → Prop} {E : Value → Pt → Prop} (h : RunE C A L (eval e env) p (fun v p₁ => (∀ a, v ≠ .ref a) ∧ Q .next p₁) E)
    (hi : interactive env = false := by rfl) (hs : swapsWith e none pos.line env = Pure.pure false := by rfl) : RunE C A L (exec (.Expr e pos) env) p Q E :=
  RunE.of_eq (exec_Expr _ _ _ hi hs) (.bind (.standAt (.bind (h.mono (fun v p₁ h₁ => RunE.of_eq (dropValue_plain h₁.1) (.pure h₁.2)) fun _ _ e => e))))

/-! exceptions as objects -/
def excC (cls tb : Value) : Cell := fun o => o.cls = cls ∧ ∃ vs a0, o.data = .fields vs ∧ vs[0]? = some a0 ∧ vs[1]? = some tb
def tbC : Cell := fun o => ∃ ts, o.data = .fields ts ∧ ts[3]? = some .none

/-- the frames above are owned -/
def Outer (l : List Env) (N : List (Addr × Cell)) : Prop := ∀ en ∈ l, en.scope.kind ≠ .module ∧ ∃ L' m', en.frame = some L' ∧ (L', frameC m') ∈ N

theorem Outer.fun {B : Heap} {G : Addr → Option Obj} {N : List (Addr × Cell)} {h base : Heap} {l : List Env} (O : Outer l N) (S : Sat0 B G N h) (hb : ∀ a ∈ l.filterMap (·.frame), base.get? a = none) : h.FunFrames base l := by
  induction l with
  | nil => trivial
  | cons en r ih =>
    obtain ⟨hk, L', m', hf, hm⟩ := O en List.mem_cons_self
    obtain ⟨o, ho, es, ep, hd, _⟩ := S.own _ hm
    refine ⟨hk, ⟨L', o, hf, hb L' (by rw [List.filterMap_cons, hf]; exact List.mem_cons_self), ho, fun vs q => by rw [hd] at q; cases q⟩, ih (fun en' h' => O en' (List.mem_cons_of_mem _ h')) fun a ha => hb a ?_⟩
    rw [List.filterMap_cons, hf]; exact List.mem_cons_of_mem _ ha

theorem eq_of_key {N : List (Addr × Cell)} {q : Addr × Cell} {a : Addr} {c : Cell} (hq : q ∈ N) (hm : (a, c) ∈ N) (e : q.1 = a) (hn : (N.map (·.1)).Nodup) : q = (a, c) := by
  induction N with
  | nil => cases hq
  | cons x r ih =>
    have h1 := List.nodup_cons.mp hn
    rcases List.mem_cons.mp hq with rfl | hq
    · rcases List.mem_cons.mp hm with e2 | hm
      · exact e2.symm
      · exact absurd (List.mem_map_of_mem (f := (·.1)) hm) (by rw [← e]; exact h1.1)
    · rcases List.mem_cons.mp hm with e2 | hm
      · exact absurd (List.mem_map_of_mem (f := (·.1)) hq) (by subst e2; have h2 := h1.1; rw [← e] at h2; exact h2)
      · exact ih hq hm h1.2

/-- a traceback entry is made -/
theorem entryE {outer : List Env} {e : Addr} {cls tb head : Value} {hadNext : Bool} {N₀ : List (Addr × Cell)} {s : Shared} {Q : Unit → Shared → Prop} {E : Value → Shared → Prop} (hfr : A.frames = some (env :: outer)) (hf : env.frame = some L) (hk : env.scope.kind ≠ .module)
    (S : Sat C.B L { p with N := (e, excC cls tb) :: N₀ } s.heap) (O : Outer outer N₀)
    (h : ∀ h' T, Sat C.B L { p with N := (T, tbC) :: (e, excC cls (.ref T)) :: N₀ } h' → Ext L { p with N := (e, excC cls tb) :: N₀ } s { p with N := (T, tbC) :: (e, excC cls (.ref T)) :: N₀ } { s with heap := h' } → Q () { s with heap := h' }) :
    wpAny (model C.prog C.w) A (do let a ← frameOf env; let pl ← entryPlaceOf L hadNext; let b ← EntryCells.newEntry head a .none (rawInt L) .none pl; setField (.ref e) 1 b) (fun _ s' => wpAny (model C.prog C.w) A (setFlight (.ref e) none) Q E s') E s := by
  have hid := (env :: outer).filterMap (·.frame)
  obtain ⟨oe, hoe, hcls, vs, a0, hd, h0, h1⟩ := S.s0.own (e, excC cls tb) List.mem_cons_self
  have hfs : ∀ a ∈ (env :: outer).filterMap (·.frame), a = L ∨ ∃ m', (a, frameC m') ∈ N₀ := fun a ha => by
    rw [List.filterMap_cons, hf] at ha
    rcases List.mem_cons.mp ha with rfl | ha
    · exact .inl rfl
    · obtain ⟨en, hen, hfa⟩ := List.mem_filterMap.mp ha
      obtain ⟨_, L', m', hf', hm⟩ := O en hen
      rw [hf'] at hfa; cases hfa
      exact .inr ⟨m', hm⟩
  have O' : Outer outer ((e, excC cls tb) :: N₀) := fun en hen => let ⟨a, L', m', b, c⟩ := O en hen; ⟨a, L', m', b, List.mem_cons_of_mem _ c⟩
  obtain ⟨oL, eL, epL, hoL, hdL, hkL, hlL⟩ := S.ns
  have F : s.heap.FunFrames (hideAll s.heap (e :: (env :: outer).filterMap (·.frame))) (env :: outer) :=
    ⟨hk, ⟨L, oL, hf, hideAll_none _ (by rw [List.filterMap_cons, hf]; simp), hoL, fun vs q => by rw [hdL] at q; cases q⟩,
      O'.fun S.s0 fun a ha => hideAll_none _ (by rw [List.filterMap_cons, hf]; simp only [List.mem_cons]; exact .inr (.inr ha))⟩
  refine wpAny_newEntryW hfr F hf hoe (fun b o q => of_hideAll _ q) (hideAll_none _ List.mem_cons_self) hd (Array.getElem?_eq_some_iff.mp h1).1 h0 fun h' hL => ?_
  obtain ⟨k1, k2, ⟨oe', vs', T, oT, ts, g1, ⟨g2, g3⟩, g4, g5, g6, g7, g8, g9, g10⟩, k4⟩ := hL
  have nd := List.nodup_cons.mp S.s0.nd
  have Tnf : T ∉ (env :: outer).filterMap (·.frame) := fun hm => by
    obtain ⟨_, o, ho, hn⟩ := k2.mem hm
    rw [g8] at ho; cases ho; exact hn ts g9
  have Tn : s.heap.get? T = none := by
    cases q : s.heap.get? T with
    | none => rfl
    | some o =>
      have := hideAll_get (e :: (env :: outer).filterMap (·.frame)) q (by simp only [List.mem_cons]; exact fun h => h.elim g7 Tnf)
      rw [g6] at this; cases this
  have kp : ∀ b o, s.heap.get? b = some o → b ≠ L → b ∉ dom ((e, excC cls tb) :: N₀) → h'.get? b = some o := fun b o hb n1 n2 => k1 b o (hideAll_get _ hb fun hm => by
    rcases List.mem_cons.mp hm with e1 | hm
    · exact n2 (by rw [e1]; simp [dom])
    · rcases hfs b hm with e1 | ⟨m', hm'⟩
      · exact n1 e1
      · exact n2 (List.mem_cons_of_mem _ (List.mem_map_of_mem (f := (·.1)) hm')))
  obtain ⟨tB, tG, tN, tL⟩ := S.none_at Tn
  have tE : T ≠ e := g7
  have tN₀ : T ∉ dom N₀ := fun hm => tN (List.mem_cons_of_mem _ hm)
  have sub : ∀ b ∈ dom N₀, b ∈ dom ((e, excC cls tb) :: N₀) := fun b hb => List.mem_cons_of_mem _ hb
  have S' : Sat C.B L { p with N := (T, tbC) :: (e, excC cls (.ref T)) :: N₀ } h' := by
    refine ⟨⟨fun b o q => kp b o (S.s0.base b o q) (fun z => by rw [z, S.bL] at q; cases q) (fun z => by rw [S.s0.nB b z] at q; cases q),
      fun b o q => kp b o (S.s0.gs b o q) (fun z => by rw [z] at q; have := S.gL; rw [this] at q; cases q) (fun z => by have := S.s0.nG b z; rw [this] at q; cases q), fun q hq => ?_, fun b hb => ?_, fun b hb => ?_, ?_⟩, ?_, S.bL, S.gL, fun hm => ?_, S.mnd⟩
    · rcases List.mem_cons.mp hq with rfl | hq
      · exact ⟨oT, g8, ts, g9, g10⟩
      · rcases List.mem_cons.mp hq with rfl | hq
        · exact ⟨oe', g1, g2.trans hcls, vs', a0, g4, g3, g5⟩
        · obtain ⟨o, ho, hc⟩ := S.s0.own q (List.mem_cons_of_mem _ hq)
          by_cases hm : q.1 ∈ e :: (env :: outer).filterMap (·.frame)
          · rcases List.mem_cons.mp hm with e1 | hm
            · exact absurd (List.mem_map_of_mem (f := (·.1)) hq) (by rw [e1]; exact nd.1)
            · rcases hfs _ hm with e1 | ⟨m', hm'⟩
              · exact absurd (List.mem_cons_of_mem _ (List.mem_map_of_mem (f := (·.1)) hq)) (by rw [e1]; exact S.nL)
              · have : q = (q.1, frameC m') := eq_of_key hq hm' rfl nd.2
                rw [this] at hc ⊢
                obtain ⟨es, ep, d1, d2, d3⟩ := hc
                obtain ⟨sl, hs⟩ := k4 _ _ ho (fun vs z => by rw [d1] at z; cases z)
                exact ⟨_, hs, es, ep, d1, d2, d3⟩
          · exact ⟨o, k1 _ _ (hideAll_get _ ho hm), hc⟩
    · rcases List.mem_cons.mp hb with e1 | hb
      · exact e1 ▸ tB
      · exact S.s0.nB b hb
    · rcases List.mem_cons.mp hb with e1 | hb
      · exact e1 ▸ tG
      · exact S.s0.nG b hb
    · exact List.nodup_cons.mpr ⟨tN, S.s0.nd⟩
    · obtain ⟨sl, hs⟩ := k4 _ _ hoL (fun vs z => by rw [hdL] at z; cases z)
      exact ⟨_, eL, epL, hs, hdL, hkL, hlL⟩
    · rcases List.mem_cons.mp hm with e1 | hm
      · exact tL e1.symm
      · exact S.nL hm
  refine h h' T S' ⟨fun b o hb n1 n2 => kp b o hb n1 n2, fun _ _ z => z, fun b hb => ?_, fun b hb => .inl (List.mem_cons_of_mem _ hb), rfl, rfl, Nat.le_refl _, .inl (Nat.le_refl _)⟩
  rcases hb with hb | hb
  · exact .inl hb
  · rcases List.mem_cons.mp hb with e1 | hb
    · exact .inr (.inr (e1 ▸ Tn))
    · exact .inr (.inl hb)
end
end Mine

open PySem PySem.Calls PyProof.Rows
set_option Elab.async false
set_option linter.unusedVariables false
set_option maxRecDepth 100000
namespace Mine

section
variable {C : Cx} {A : Around} {L : Addr} {α β : Type} {p : Pt} {env : Env}

theorem PutN.mid {a : Addr} {c c' : Cell} {B₀ : List (Addr × Cell)} : ∀ A₀ : List (Addr × Cell), PutN (A₀ ++ (a, c) :: B₀) a c c' (A₀ ++ (a, c') :: B₀)
  | [] => .head
  | q :: r => .tail (PutN.mid r)
theorem note_new {outer : List Env} {e : Addr} {cls : Value} {N₀ : List (Addr × Cell)} {s : Shared} {Q : Unit → Shared → Prop} {E : Value → Shared → Prop} (hfr : A.frames = some (env :: outer)) (hf : env.frame = some L) (hk : env.scope.kind ≠ .module)
    (S : Sat C.B L { p with N := (e, excC cls .none) :: N₀ } s.heap) (O : Outer outer N₀)
    (h : ∀ h' T, Sat C.B L { p with N := (T, tbC) :: (e, excC cls (.ref T)) :: N₀ } h' → Ext L { p with N := (e, excC cls .none) :: N₀ } s { p with N := (T, tbC) :: (e, excC cls (.ref T)) :: N₀ } { s with heap := h' } → Q () { s with heap := h' }) :
    wpAny (model C.prog C.w) A (noteFrame (.ref e) env) (fun _ s' => wpAny (model C.prog C.w) A (setFlight (.ref e) none) Q E s') E s := by
  obtain ⟨oe, hoe, hcls, vs, a0, hd, h0, h1⟩ := S.s0.own (e, excC cls .none) List.mem_cons_self
  unfold noteFrame
  simp only [hf]
  refine wpAny_bind (wpAny_field hoe hd h1 ?_)
  rw [if_neg (by decide)]
  exact entryE hfr hf hk S O h
theorem note_next {outer : List Env} {e T₀ : Addr} {cls : Value} {N₀ : List (Addr × Cell)} {s : Shared} {Q : Unit → Shared → Prop} {E : Value → Shared → Prop} (hfr : A.frames = some (env :: outer)) (hf : env.frame = some L) (hk : env.scope.kind ≠ .module)
    (S : Sat C.B L { p with N := (e, excC cls (.ref T₀)) :: N₀ } s.heap) (O : Outer outer N₀) (hT : (T₀, tbC) ∈ N₀)
    (h : ∀ h' T, Sat C.B L { p with N := (T, tbC) :: (e, excC cls (.ref T)) :: N₀ } h' → Ext L { p with N := (e, excC cls (.ref T₀)) :: N₀ } s { p with N := (T, tbC) :: (e, excC cls (.ref T)) :: N₀ } { s with heap := h' } → Q () { s with heap := h' }) :
    wpAny (model C.prog C.w) A (noteFrame (.ref e) env) (fun _ s' => wpAny (model C.prog C.w) A (setFlight (.ref e) none) Q E s') E s := by
  obtain ⟨oe, hoe, hcls, vs, a0, hd, h0, h1⟩ := S.s0.own (e, excC cls (.ref T₀)) List.mem_cons_self
  have hm : (T₀, tbC) ∈ (e, excC cls (.ref T₀)) :: N₀ := List.mem_cons_of_mem _ hT
  obtain ⟨oT, hoT, ts, hts, h3⟩ := S.s0.own (T₀, tbC) hm
  have hsz := (Array.getElem?_eq_some_iff.mp h3).1
  unfold noteFrame
  simp only [hf]
  refine wpAny_bind (wpAny_field hoe hd h1 ?_)
  rw [if_pos (show (Value.ref T₀ != Value.none) = true from by simp)]
  refine wpAny_bind (wpAny_field hoT hts h3 ?_)
  rw [if_neg (show ¬ ((Value.none == rawInt L) = true) from by simp [rawInt])]
  refine wpAny_bind (wpAny_setField hoT hts hsz ?_)
  have hne : T₀ ≠ e := fun q => (List.nodup_cons.mp S.s0.nd).1 (by rw [← q]; exact List.mem_map_of_mem (f := (·.1)) hT)
  obtain ⟨A₀, B₀, rfl⟩ := List.append_of_mem hT
  have P : PutN ((e, excC cls (.ref T₀)) :: (A₀ ++ (T₀, tbC) :: B₀)) T₀ tbC tbC ((e, excC cls (.ref T₀)) :: (A₀ ++ (T₀, tbC) :: B₀)) := .tail (PutN.mid A₀)
  have dd := Obj.data_mapFields hts (·.setIfInBounds 3 Value.none)
  have S' : Sat C.B L { p with N := (e, excC cls (.ref T₀)) :: (A₀ ++ (T₀, tbC) :: B₀) } (s.heap.update T₀ (Obj.mapFields (·.setIfInBounds 3 Value.none))) :=
    S.putN P (Heap.SameBut.update ..).extBut (Heap.get?_update_self _ hoT (Obj.isFreed_of_fields dd)) ⟨_, dd, by simp [hsz]⟩
  have x' : Ext L { p with N := (e, excC cls (.ref T₀)) :: (A₀ ++ (T₀, tbC) :: B₀) } s { p with N := (e, excC cls (.ref T₀)) :: (A₀ ++ (T₀, tbC) :: B₀) } { s with heap := s.heap.update T₀ (Obj.mapFields (·.setIfInBounds 3 Value.none)) } :=
    Ext.putN P (Heap.SameBut.update ..).extBut
  exact entryE (s := { s with heap := s.heap.update T₀ (Obj.mapFields (·.setIfInBounds 3 Value.none)) }) hfr hf hk S' O fun h' T S'' x'' => h h' T S'' (x'.trans S S' x'' (Nat.le_refl _))
theorem flight_off {e T : Addr} {cls : Value} {N₀ : List (Addr × Cell)} {s : Shared} {Q : Unit → Shared → Prop} {E : Value → Shared → Prop} (S : Sat C.B L { p with N := (T, tbC) :: (e, excC cls (.ref T)) :: N₀ } s.heap)
    (h : ∀ h', Sat C.B L { p with N := (T, tbC) :: (e, excC cls (.ref T)) :: N₀ } h' → Ext L { p with N := (T, tbC) :: (e, excC cls (.ref T)) :: N₀ } s { p with N := (T, tbC) :: (e, excC cls (.ref T)) :: N₀ } { s with heap := h' } → Q () { s with heap := h' }) :
    wpAny (model C.prog C.w) A (setFlight (.ref e) none) Q E s := by
  obtain ⟨oe, hoe, hcls, vs, a0, hd, h0, h1⟩ := S.s0.own (e, excC cls (.ref T)) (.tail _ (.head _))
  obtain ⟨oT, hoT, ts, hts, h3⟩ := S.s0.own (T, tbC) (.head _)
  have hsz := (Array.getElem?_eq_some_iff.mp h3).1
  have dd := Obj.data_mapFields hts (·.setIfInBounds 3 Value.none)
  refine wpAny_setFlight_none hoe hd h1 hoT hts hsz (h _ (S.putN .head (Heap.SameBut.update ..).extBut (Heap.get?_update_self _ hoT (Obj.isFreed_of_fields dd)) ⟨_, dd, by simp [hsz]⟩) (Ext.putN .head (Heap.SameBut.update ..).extBut))

/-- in flight, as a frame's end or a handler finds it -/
inductive Flown (e : Addr) (cls : Value) : List (Addr × Cell) → List (Addr × Cell) → Prop
  | new {N₀ : List (Addr × Cell)} : Flown e cls ((e, excC cls .none) :: N₀) N₀
  | next {T₀ : Addr} {N₀ : List (Addr × Cell)} : (T₀, tbC) ∈ N₀ → Flown e cls ((e, excC cls (.ref T₀)) :: N₀) N₀
theorem note {outer : List Env} {e : Addr} {cls : Value} {N₀ : List (Addr × Cell)} {s : Shared} {Q : Unit → Shared → Prop} {E : Value → Shared → Prop} (hfr : A.frames = some (env :: outer)) (hf : env.frame = some L) (hk : env.scope.kind ≠ .module)
    (S : Sat C.B L p s.heap) (F : Flown e cls p.N N₀) (O : Outer outer N₀)
    (h : ∀ h' T, Sat C.B L { p with N := (T, tbC) :: (e, excC cls (.ref T)) :: N₀ } h' → Ext L p s { p with N := (T, tbC) :: (e, excC cls (.ref T)) :: N₀ } { s with heap := h' } → Q () { s with heap := h' }) :
    wpAny (model C.prog C.w) A (noteFrame (.ref e) env) (fun _ s' => wpAny (model C.prog C.w) A (setFlight (.ref e) none) Q E s') E s := by
  obtain ⟨G, m, N, k⟩ := p
  dsimp only at F
  cases F with
  | new => exact note_new hfr hf hk S O h
  | next hT => exact note_next hfr hf hk S O hT h

/-- the frame's end by an exception -/
theorem leave {outer : List Env} {e : Addr} {cls : Value} {N₀ : List (Addr × Cell)} {s : Shared} {Q : Unit → Shared → Prop} {E : Value → Shared → Prop} (hfr : A.frames = some (env :: outer)) (hf : env.frame = some L) (hk : env.scope.kind ≠ .module)
    (S : Sat C.B L p s.heap) (F : Flown e cls p.N N₀) (O : Outer outer N₀)
    (h : ∀ h' T, Sat C.B L { p with N := (T, tbC) :: (e, excC cls (.ref T)) :: N₀ } h' → Ext L p s { p with N := (T, tbC) :: (e, excC cls (.ref T)) :: N₀ } { s with heap := h' } → Q () { s with heap := h' }) :
    wpAny (model C.prog C.w) A (leaving env (.ref e)) Q E s := by
  unfold leaving
  exact wpAny_bind (note hfr hf hk S F O h)

/-- try with handlers, as far as the search of a clause -/
theorem X_Try {outer : List Env} {body orelse : List Stmt} {h₀ : ExceptHandler} {hs : List ExceptHandler} {pos : Pos} {Q : Flow → Pt → Prop} (hfr : A.frames = some (env :: outer)) (hf : env.frame = some L) (hk : env.scope.kind ≠ .module)
    (h : RunE C A L (execs body env) p (fun f p₁ => match f with | .next => Run C A L (execs orelse env) p₁ Q | f => Q f p₁)
      fun v p₁ => ∃ e cls N₀, v = .ref e ∧ Flown e cls p₁.N N₀ ∧ Outer outer N₀ ∧ ∀ T, Run C A L (handleBy (.ref e) env (h₀ :: hs)) { p₁ with N := (T, tbC) :: (e, excC cls (.ref T)) :: N₀ } Q) :
    Run C A L (exec (.Try body (h₀ :: hs) orelse [] pos) env) p Q := .of fun s S T => by
  refine wpAny_Try_except (wpAny_mono (wpAny_toks (h.go s S T)) (fun f s₁ ⟨t₁, p₁, S₁, x₁, q⟩ => ?_) fun v s₁ ⟨t₁, p₁, S₁, x₁, q⟩ => ?_)
  · cases f with
    | next => exact Run.after S T S₁ x₁ t₁ q
    | _ => exact ⟨p₁, S₁, x₁, q⟩
  · obtain ⟨e, cls, N₀, rfl, F, O, q⟩ := q
    exact note hfr hf hk S₁ F O fun h' T' S₂ x₂ => Run.after S T S₂ (x₁.trans S S₁ x₂ (Nat.le_refl _)) t₁ (q T')

/-- a clause that names a built-in class, without a name for the exception -/
theorem H_builtin {e T₀ : Addr} {X Ty : String} {N₀ : List (Addr × Cell)} {t : Expr} {b₀ : Stmt} {suite : List Stmt} {pos : Pos} {rest : List ExceptHandler} {Q : Flow → Pt → Prop}
    (hexc : isSubtype (.type Ty) (.type "BaseException") = Pure.pure true) (hnt : isSubtype (.type ((Manifest.find? Ty).elim "type" fun x => x.metatype)) (.type "tuple") = Pure.pure false) (hsub : isSubtype (.type X) (.type Ty) = Pure.pure true)
    (ht : ∀ {A' : Around} {p' : Pt} {Q : Value → Pt → Prop}, Q (.type Ty) p' → Run C A' L (eval t env) p' Q) (hN : p.N = (T₀, tbC) :: (e, excC (.type X) (.ref T₀)) :: N₀)
    (h : ∀ G', GLe p.G G' → Run C (A.mark (some (.ref e))) L (execs (b₀ :: suite) env) { p with G := G', N := N₀ } Q) :
    Run C A L (handleBy (.ref e) env (.ExceptHandler (some t) none (b₀ :: suite) pos :: rest)) p Q := .of fun s S T => by
  refine wpAny_handleBy_builtin (b := true) hexc hnt hsub (wpAny_mono (wpAny_toks ((ht (A' := A.mark (some (.ref e))) (p' := p) (Q := fun v p' => v = .type Ty ∧ p' = p) ⟨rfl, rfl⟩).go s S T)) (fun v s₁ ⟨t₁, p₁, S₁, x₁, e1, e2⟩ => ?_) fun _ _ z => z.2.elim)
  subst e1 e2
  obtain ⟨G, m, N, k⟩ := p₁
  dsimp only at hN
  subst hN
  obtain ⟨oe, hoe, hcls, vs, a0, hd, h0, h1⟩ := S₁.s0.own (e, excC (.type X) (.ref T₀)) (.tail _ (.head _))
  refine ⟨rfl, ⟨oe, hoe, hcls⟩, ?_⟩
  rw [if_pos rfl]
  refine flight_off (p := ⟨G, m, [], k⟩) S₁ fun h' S₂ x₂ => ?_
  have x₁₂ := x₁.trans S S₁ x₂ (Nat.le_refl _)
  refine wpAny_mono (Run.after S T S₂ x₁₂ t₁ (Run.freeze (DelN.head) fun o₁ G₁ _ eG₁ n₁ => Run.freeze (DelN.head) fun o₂ G₂ _ eG₂ n₂ => h G₂ ?_)) (fun f s₃ q => q) fun _ _ z => z.elim
  rw [eG₂]
  dsimp only at n₂ eG₁ ⊢
  rw [eG₁] at n₂ ⊢
  exact (GLe.add n₁).trans (GLe.add n₂)
/-- a clause that names a class of the text -/
theorem H_own {e T₀ Cc : Addr} {x : Str} {bmB : List Value} {newId : String} {mg : Str → Option Value} {N₀ : List (Addr × Cell)} {t : Expr} {b₀ : Stmt} {suite : List Stmt} {pos : Pos} {rest : List ExceptHandler} {Q : Flow → Pt → Prop}
    (hbase : bmB.contains (.type "BaseException") = true) (O : OwnClsQ x Cc bmB newId mg C.B)
    (ht : ∀ {A' : Around} {p' : Pt} {Q : Value → Pt → Prop}, Q (.ref Cc) p' → Run C A' L (eval t env) p' Q) (hN : p.N = (T₀, tbC) :: (e, excC (.ref Cc) (.ref T₀)) :: N₀)
    (h : ∀ G', GLe p.G G' → Run C (A.mark (some (.ref e))) L (execs (b₀ :: suite) env) { p with G := G', N := N₀ } Q) :
    Run C A L (handleBy (.ref e) env (.ExceptHandler (some t) none (b₀ :: suite) pos :: rest)) p Q := .of fun s S T => by
  refine handleBy_own (C := Cc) (x := x) (newId := newId) (mg := mg) hbase (wpAny_mono (wpAny_toks ((ht (A' := A.mark (some (.ref e))) (p' := p) (Q := fun v p' => v = .ref Cc ∧ p' = p) ⟨rfl, rfl⟩).go s S T)) (fun v s₁ ⟨t₁, p₁, S₁, x₁, e1, e2⟩ => ?_) fun _ _ z => z.2.elim)
  subst e1 e2
  obtain ⟨G, m, N, k⟩ := p₁
  dsimp only at hN
  subst hN
  obtain ⟨oe, hoe, hcls, vs, a0, hd, h0, h1⟩ := S₁.s0.own (e, excC (.ref Cc) (.ref T₀)) (.tail _ (.head _))
  refine ⟨rfl, O.keeps S₁.s0.base, ⟨oe, hoe, hcls⟩, ?_⟩
  refine flight_off (p := ⟨G, m, [], k⟩) S₁ fun h' S₂ x₂ => ?_
  have x₁₂ := x₁.trans S S₁ x₂ (Nat.le_refl _)
  refine wpAny_mono (Run.after S T S₂ x₁₂ t₁ (Run.freeze (DelN.head) fun o₁ G₁ _ eG₁ n₁ => Run.freeze (DelN.head) fun o₂ G₂ _ eG₂ n₂ => h G₂ ?_)) (fun f s₃ q => q) fun _ _ z => z.elim
  rw [eG₂]
  dsimp only at n₂ eG₁ ⊢
  rw [eG₁] at n₂ ⊢
  exact (GLe.add n₁).trans (GLe.add n₂)
end
end Mine

open PySem PySem.Calls PyProof.Rows
set_option Elab.async false
set_option maxRecDepth 100000
set_option maxHeartbeats 4000000
namespace Mine
namespace LI
theorem ga : Slot "list_iterator" "__getattribute__" "object.__getattribute__" :=
  .of (owner := "object") (n := "__getattribute__") (by rw [typeLookup_type, builtinLookup_eq_fast]; kernel_rfl) (by decide +kernel) (by decide +kernel) (by decide +kernel)
    (by first | exact .inl (by decide +kernel) | exact .inr (by decide +kernel)) (by rw [isSubtype_type]; kernel_rfl)
theorem entry_ga : entryFor table "object.__getattribute__" = some Builtin.«object.__getattribute__» := entryFor_of_tree (by kernel_rfl)
theorem args_ga (a b : Value) : argsOk "object.__getattribute__" ⟨[a, b], []⟩ := by unfold argsOk; kernel_rfl
theorem lk : typeLookup (.type "list_iterator") "__next__" = pure (some (.builtin "list_iterator.__next__")) := by rw [typeLookup_type, builtinLookup_eq_fast]; kernel_rfl
theorem ty : typeOf (.builtin "list_iterator.__next__") = pure (.type "wrapper_descriptor") := by kernel_rfl
theorem get : Slot "wrapper_descriptor" "__get__" "wrapper_descriptor.__get__" :=
  .of (owner := "wrapper_descriptor") (n := "__get__") (by rw [typeLookup_type, builtinLookup_eq_fast]; kernel_rfl) (by decide +kernel) (by decide +kernel) (by decide +kernel)
    (by first | exact .inl (by decide +kernel) | exact .inr (by decide +kernel)) (by rw [isSubtype_type]; kernel_rfl)
theorem entry_get : entryFor table "wrapper_descriptor.__get__" = some Builtin.«wrapper_descriptor.__get__» := entryFor_of_tree (by kernel_rfl)
theorem args_get (a b c : Value) : argsOk "wrapper_descriptor.__get__" ⟨[a, b, c], []⟩ := by unfold argsOk; kernel_rfl
theorem noSet : typeLookup (.type "wrapper_descriptor") "__set__" = pure none := by rw [typeLookup_type, builtinLookup_eq_fast]; kernel_rfl
theorem noDel : typeLookup (.type "wrapper_descriptor") "__delete__" = pure none := by rw [typeLookup_type, builtinLookup_eq_fast]; kernel_rfl
theorem own : (".".intercalate ("list_iterator.__next__".cutAt '.').dropLast) = "list_iterator" := by
  have e0 : "list_iterator.__next__".cutAt '.' = ["list_iterator", "__next__"] := by first | rfl | decide +kernel
  rw [e0]; decide +kernel
theorem sub : isSubtype (.type "list_iterator") (.type "list_iterator") = pure true := by rw [isSubtype_type]; kernel_rfl

section
variable {prog : Program} {w : World} {A : Around} {E : Value → Shared → Prop} {h : Heap} {g : Array GenState} {d : Drawn} {t : Nat} {os : OsState} {a : Addr} {o : Obj}
theorem wget {R : Result → Shared → Prop} (hx : h.get? a = some o) (hc : o.cls = .type "list_iterator")
    (hq : R (.ok (.ret (.ref h.objs.size))) ⟨h.push { cls := .type "method-wrapper", data := .fields #[.builtin "list_iterator.__next__", .ref a] }, g, d, t, os⟩) :
    codeAny (model prog w) A (.call (.builtin "wrapper_descriptor.__get__") ⟨[.builtin "list_iterator.__next__", .ref a, .type "list_iterator"], []⟩) R ⟨h, g, d, t, os⟩ := by
  have hT : (⟨h, g, d, t, os⟩ : Shared).TypeIs (.ref a) "list_iterator" := ⟨_, hx, hc⟩
  have hT5 : (⟨h, g, d, t, os⟩ : Shared).TypeIs (.builtin "list_iterator.__next__") "wrapper_descriptor" := ty
  have f8 : isSubtype (.type "list_iterator") (.type (".".intercalate ("list_iterator.__next__".cutAt '.').dropLast)) = pure true := by rw [own]; exact sub
  refine codeAny_call_builtin get.plain entry_get (get.check _ _ _ _ _ _ _ _ hT5 (args_get _ _ _) ?_)
  repeat (any_goals (first | assumption | wp_step))
theorem entry {tk : Tok} {Q : Fin → Shared → Prop} {fs : Array Value} (hx : h.get? a = some { cls := .type "list_iterator", data := .fields fs })
    (hq : Q (.done (.ret (.ref h.objs.size))) ⟨h.push { cls := .type "method-wrapper", data := .fields #[.builtin "list_iterator.__next__", .ref a] }, g, d, t, os⟩) :
    wpAny (model prog w) A (Builtin.«object.__getattribute__» ⟨[.ref a, .str "__next__" tk], []⟩) Q E ⟨h, g, d, t, os⟩ := by
  have hT : (⟨h, g, d, t, os⟩ : Shared).TypeIs (.ref a) "list_iterator" := ⟨_, hx, rfl⟩
  have hT5 : (⟨h, g, d, t, os⟩ : Shared).TypeIs (.builtin "list_iterator.__next__") "wrapper_descriptor" := ty
  have f4 := lk
  have f5 := ty
  have f6 := get.lookup
  have f7 := noSet
  have f8 := noDel
  repeat (any_goals (first | assumption | wp_step))
  refine wget hx rfl ?_
  repeat (any_goals (first | assumption | wp_step))
theorem attr {fs : Array Value} {expr : Bool} {Q : Value → Shared → Prop} (hx : h.get? a = some { cls := .type "list_iterator", data := .fields fs })
    (hq : Q (.ref h.objs.size) ⟨h.push { cls := .type "method-wrapper", data := .fields #[.builtin "list_iterator.__next__", .ref a] }, g, d, t + 1, os⟩) :
    wpAny (model prog w) A (getAttr (.ref a) "__next__" expr) Q E ⟨h, g, d, t, os⟩ := by
  have hT : ∀ t, (⟨h, g, d, t, os⟩ : Shared).TypeIs (.ref a) "list_iterator" := fun _ => ⟨_, hx, rfl⟩
  have hT1 := hT (t + 1)
  have f2 := ga.lookup
  have f3 := ga.bind (.ref a)
  have hx0 : (expr && onTheHeap (Value.builtin "object.__getattribute__")) = false := by cases expr <;> rfl
  unfold getAttr
  repeat (any_goals (first | assumption | wp_step))
  refine codeAny_call_builtin ga.plain entry_ga (ga.check _ _ _ _ _ _ _ _ hT1 (args_ga _ _) (entry hx ?_))
  repeat (any_goals (first | assumption | wp_step))

theorem bound (v : Value) : checkBoundCall "list_iterator.__next__" ⟨[v], []⟩ = pure () := by unfold checkBoundCall; kernel_rfl
/-- the call of the bound method -/
theorem step {b it : Addr} {s : Shared} {Q : Value → Shared → Prop} (hb : s.heap.get? b = some { cls := .type "method-wrapper", data := .fields #[.builtin "list_iterator.__next__", .ref it] })
    (h : codeAny (model prog w) A (.builtin "list_iterator.__next__" ⟨[.ref it], []⟩) (fun r s' => match r with | .ok (.ret v) => Q v s' | .ok _ => False | .error e => E e s') s) :
    wpAny (model prog w) A (PySem.call (.ref b) []) Q E s := by
  refine wpAny_call (codeAny_of_tree ?_)
  show wpAny _ _ (callAny (.ref b) _) _ _ _
  unfold callAny
  refine wpAny_bind (wpAny_load hb ?_)
  dsimp only
  rw [if_pos (by decide)]
  show wpAny _ _ (if _ then _ else _) _ _ _
  rw [if_pos (by decide)]
  refine wpAny_bind (wpAny_of_eq (bound (.ref it)) ?_)
  refine wpAny_pure ⟨Code.quiet_builtin _ (by decide +kernel), h⟩
/-- the next item -/
theorem next_item {b it l : Addr} {i : Nat} {items : Array Value} {x : Value} {s : Shared} {Q : Value → Shared → Prop} (hb : s.heap.get? b = some { cls := .type "method-wrapper", data := .fields #[.builtin "list_iterator.__next__", .ref it] })
    (hit : s.heap.get? it = some { cls := .type "list_iterator", data := .fields #[.ref l, .int i 0] }) (hl : s.heap.IsList l items) (hx : items[i]? = some x)
    (hQ : ∀ h', h'.get? it = some { cls := .type "list_iterator", data := .fields #[.ref l, .int (i + 1 : Nat) 0] } → Heap.SameBut it s.heap h' → Q x { s with heap := h' }) :
    wpAny (model prog w) A (PySem.call (.ref b) []) Q E s := by
  obtain ⟨ol, hol, _, nl, hdl⟩ := hl
  refine step hb (codeAny_builtin entry_listiter_next ?_)
  show wpAny _ _ (field (.ref it) 0 >>= _) _ _ s
  refine wpAny_bind (wpAny_field hit rfl (x := .ref l) rfl ?_)
  show wpAny _ _ (if (Value.ref l == Value.none) = true then _ else _) _ _ s
  rw [if_neg (show ¬ ((Value.ref l == Value.none) = true) from Bool.false_ne_true)]
  show wpAny _ _ (field (.ref it) 1 >>= _) _ _ s
  refine wpAny_bind (wpAny_field hit rfl (x := .int i 0) rfl ?_)
  show wpAny _ _ (seqItems? (.ref l) >>= _) _ _ s
  refine wpAny_bind (wpAny_seqItems hol hdl ?_)
  simp only [Int.toNat_natCast, hx]
  refine wpAny_bind (wpAny_setField hit rfl (by simp) (wpAny_pure (hQ _ ?_ (Heap.SameBut.update ..))))
  rw [Heap.get?_update_self _ hit (Obj.isFreed_of_fields (Obj.data_mapFields rfl _))]
  rfl
/-- at the end -/
theorem next_end {b it l : Addr} {i : Nat} {items : Array Value} {s : Shared} {Q : Value → Shared → Prop} (hh : A.handled = none) (hb : s.heap.get? b = some { cls := .type "method-wrapper", data := .fields #[.builtin "list_iterator.__next__", .ref it] })
    (hit : s.heap.get? it = some { cls := .type "list_iterator", data := .fields #[.ref l, .int i 0] }) (hl : s.heap.IsList l items) (hx : items[i]? = none)
    (hE : ∀ h' e, Heap.ExtBut it s.heap h' → h'.get? it = some { cls := .type "list_iterator", data := .fields #[.none, .int i 0] } → s.heap.get? e = none →
      (∃ o, h'.get? e = some o ∧ excC (.type "StopIteration") .none o) → E (.ref e) { s with heap := h' }) :
    wpAny (model prog w) A (PySem.call (.ref b) []) Q E s := by
  obtain ⟨ol, hol, _, nl, hdl⟩ := hl
  refine step hb (codeAny_builtin entry_listiter_next ?_)
  show wpAny _ _ (field (.ref it) 0 >>= _) _ _ s
  refine wpAny_bind (wpAny_field hit rfl (x := .ref l) rfl ?_)
  show wpAny _ _ (if (Value.ref l == Value.none) = true then _ else _) _ _ s
  rw [if_neg (show ¬ ((Value.ref l == Value.none) = true) from Bool.false_ne_true)]
  show wpAny _ _ (field (.ref it) 1 >>= _) _ _ s
  refine wpAny_bind (wpAny_field hit rfl (x := .int i 0) rfl ?_)
  show wpAny _ _ (seqItems? (.ref l) >>= _) _ _ s
  refine wpAny_bind (wpAny_seqItems hol hdl ?_)
  simp only [Int.toNat_natCast, hx]
  refine wpAny_bind (wpAny_rule (wpAny_bind (wpAny_setField hit rfl (by simp) ?_)))
  show wpAny _ _ (newExc (.type "StopIteration") [] >>= _) _ _ _
  refine wpAny_bind ?_
  simp only [newExc, newTuple]
  refine wpAny_bind (wpAny_newObj_type ?_ (by size_fits))
  refine wpAny_bind (m := firstArgMember _ _) (wpAny_of_eq (a := Value.none) (by first | rfl | (simp only [firstArgMember]; rfl)) ?_)
  refine wpAny_newObj_type ?_ (by size_fits)
  simp only [raiseNew]
  refine wpAny_bind (wpAny_handled ?_)
  rw [show (A.under (Code.builtin "list_iterator.__next__" ⟨[.ref it], []⟩)).handled = none from hh]
  refine wpAny_bind (wpAny_pure (wpAny_throw ?_))
  have e1 : (s.heap.update it (Obj.mapFields (·.setIfInBounds 0 Value.none))).get? it = some { cls := .type "list_iterator", data := .fields #[.none, .int i 0] } := by
    rw [Heap.get?_update_self _ hit (Obj.isFreed_of_fields (Obj.data_mapFields rfl _))]; rfl
  refine hE _ _ (((Heap.SameBut.update ..).extBut.push _).push _) (Heap.get?_push_of_some _ (Heap.get?_push_of_some _ e1)) (Heap.get?_none_of_le ?_) ⟨_, Heap.get?_push_size _ rfl, rfl, _, _, rfl, rfl, rfl⟩
  simp only [Heap.size_push, Heap.size_after_update]; omega
end
end LI
end Mine

open PySem PySem.Calls PyProof.Rows
set_option Elab.async false
set_option linter.unusedVariables false
set_option maxRecDepth 100000
namespace Mine

/-- a dict, by its pairs -/
def kvC (C : Cx) (kvs : List (Str × Value)) : Cell := fun o => o.IsDictOf (PySem.strKind C.prog C.w) kvs
/-- a set of strings -/
def setC (C : Cx) (S : Str → Bool) (n : Nat) : Cell := fun o => ∃ es ep t, o.ExactSet ∧ o.data = .set es ep t ∧ ElemsOf (PySem.strKind C.prog C.w) es.toList ∧ (∀ k, S k = true ↔ ∃ e ∈ es.toList, (PySem.strKind C.prog C.w).is k e.2 = true)
    ∧ es.size < scanBound ∧ t.fits es.size = true ∧ es.size = n

section
variable {C : Cx} {A : Around} {L : Addr} {α β : Type} {p : Pt} {env : Env}

/-- a cell is known less well -/
theorem Run.weak {t : Sem α} {a : Addr} {c c' : Cell} {N' : List (Addr × Cell)} {Q : α → Pt → Prop} (P : PutN p.N a c c' N') (hc : ∀ o, c o → c' o) (h : Run C A L t { p with N := N' } Q) : Run C A L t p Q := .of fun s S T => by
  obtain ⟨o, ho, hco⟩ := S.s0.own _ P.mem
  have S' := S.putN P (fun b ob hb e => e) ho (hc o hco)
  exact Run.after S T S' (Ext.putN P (fun b ob hb e => e)) (Nat.le_refl _) h

def DictA (C : Cx) (p : Pt) (d : Addr) (es : List Ent) : Prop := (d == sysModules) = false ∧ ((∃ o, p.G d = some o ∧ dictC C.w es o) ∨ (d, dictC C.w es) ∈ p.N)
theorem DictG.a {d : Addr} {es : List Ent} (x : DictG C.w p.G d es) : DictA C p d es := ⟨x.1, .inl x.2⟩
theorem DictA.map {d : Addr} {es : List Ent} {h : Heap} (x : DictA C p d es) (S : Sat C.B L p h) : h.MapOf (PySem.strKind C.prog C.w) d (dget es) := by
  obtain ⟨_, ⟨o, e, ep, hx, hd, hn⟩ | hm⟩ := x
  · exact ⟨o, _, ep, S.s0.gs _ _ e, hx, hd, keysOf_ent es, findBy_dget es⟩
  · obtain ⟨o, ho, ep, hx, hd, hn⟩ := S.s0.own _ hm
    exact ⟨o, _, ep, ho, hx, hd, keysOf_ent es, findBy_dget es⟩
theorem DictA.hasT {d : Addr} {es : List Ent} (x : DictA C p d es) : HasT C L p (.ref d) "dict" := fun s S => by
  obtain ⟨o, es', ep, ho, hx, r⟩ := x.map S
  exact ⟨⟨o, ho, hx.1⟩, fun b q => by cases q; exact ⟨o, ho, hx.2.1⟩⟩
theorem R_dictGet {d : Addr} {es : List Ent} {k : Str} {t : Tok} {Q : Value → Pt → Prop} (x : DictA C p d es) (h : Q ((dget es k).getD .none) p) : Run C A L (PySem.call (.builtin "dict.get") [.ref d, .str k t]) p Q :=
  R_meets F.slot_dict_get F.entry_dict_get (F.args_dict_get_2 _ _) x.hasT fun s S T =>
    ⟨_, meets_dict_get (PySem.strKind C.prog C.w) d (PySem.strKind_is _ _ k t) x.1, dget es, x.map S, Post.same S h⟩

/-! the pairs' dict -/
theorem kv_of {d : Addr} {kvs : List (Str × Value)} {h : Heap} (x : (d, kvC C kvs) ∈ p.N) (S : Sat C.B L p h) : h.DictOf (PySem.strKind C.prog C.w) d kvs := Heap.dictOf_iff.mpr (S.s0.own _ x)
theorem C_inK {d : Addr} {kvs : List (Str × Value)} {k : Str} {t : Tok} {Q : Value → Pt → Prop} (x : (d, kvC C kvs) ∈ p.N) (hd : (d == sysModules) = false) (h : Q (.bool (valueAt kvs k).isSome) p) : Run C A L (compareOp .In (.str k t) (.ref d)) p Q := .of fun s S T =>
  wpAny_in_of (PySem.strKind_is _ _ k t) hd (kv_of x S).mapOf (Post.same S h)
theorem G_kv {d : Addr} {kvs : List (Str × Value)} {k : Str} {t : Tok} {v : Value} {Q : Value → Pt → Prop} (x : (d, kvC C kvs) ∈ p.N) (hv : valueAt kvs k = some v) (h : Q v p) : Run C A L (getItem (.ref d) (.str k t)) p Q := .of fun s S T =>
  wpAny_getItem_of (PySem.strKind_is _ _ k t) (kv_of x S).mapOf hv (Post.same S h)
theorem S_kv {d : Addr} {kvs : List (Str × Value)} {k : Str} {t : Tok} {v : Value} {N' : List (Addr × Cell)} {Q : Unit → Pt → Prop} (P : PutN p.N d (kvC C kvs) (kvC C (stored kvs k v)) N') (hz : kvs.length ≤ sizeLine) (h : Q () { p with N := N' }) :
    Run C A L (setItem (.ref d) (.str k t) v) p Q := .of fun s S T => by
  refine wpAny_setItem_pairs (hsz := hz) (PySem.strKind_is _ _ k t) (kv_of P.mem S) fun h' hd hs => ?_
  obtain ⟨o, ho, hc⟩ := Heap.dictOf_iff.mp hd
  exact ⟨_, S.putN P hs.extBut ho hc, Ext.putN P hs.extBut, h⟩
theorem S_delkv {d : Addr} {kvs : List (Str × Value)} {k : Str} {t : Tok} {v : Value} {N' : List (Addr × Cell)} {Q : Unit → Pt → Prop} (P : PutN p.N d (kvC C kvs) (kvC C (without kvs k)) N') (hz : kvs.length ≤ sizeLine) (hv : valueAt kvs k = some v) (h : Q () { p with N := N' }) :
    Run C A L (delItem (.ref d) (.str k t)) p Q := .of fun s S T => by
  have hD := kv_of P.mem S
  unfold delItem
  try with_reducible refine wpAny_holding ?_
  refine wpAny_bind (wpAny_sequenceKey hD.typeIs (by decide) ?_)
  refine wpAny_bind (wpAny_callSpecial?_slot (name := Str.ofString "__delitem__") hD.typeIs PySem.F.slot_dict_delitem
    (call_meetsIn PySem.F.slot_dict_delitem hD.typeIs PySem.F.entry_dict_delitem (PySem.F.args_dict_delitem_2 _ _) (meets_dict_delitem_pairs (PySem.strKind C.prog C.w) d (PySem.strKind_is _ _ k t)) ⟨kvs, hD, hz, by rw [hv]; rfl, fun h' hmm hs => ?_⟩))
  obtain ⟨o', ho', hd'⟩ := Heap.dictOf_iff.mp hmm
  exact wpAny_pure ⟨_, S.putN P hs.extBut ho' hd', Ext.putN P hs.extBut, h⟩
theorem X_DelSub {o i : Expr} {pos pos' : Pos} {Q : Flow → Pt → Prop} (h : Run C A L (eval o env) p fun ov p₁ => Run C A L (eval i env) p₁ fun iv p₂ => Run C A L (delItem ov iv) p₂ fun _ p₃ => Q .next p₃) :
    Run C A L (exec (.Delete [.Subscript o i pos'] pos) env) p Q := by
  have e : delete (.Subscript o i pos') env = (do
      let ov ← eval o env
      let iv ← PySem.holding [ov] (eval i env)
      PySem.standAt pos'
      PySem.holding [ov, iv] (delItem ov iv)
      release [ov, iv] []) := rfl
  have e2 : exec (.Delete [.Subscript o i pos'] pos) env = (do PySem.standAt pos; deleteEach [.Subscript o i pos'] env; Pure.pure .next) := rfl
  have e3 : deleteEach [.Subscript o i pos'] env = (do delete (.Subscript o i pos') env; deleteEach [] env) := rfl
  rw [e2, e3, e]
  refine .bind (.standAt (.bind (.bind ?_)))
  exact .bind (h.mono fun ov p₁ h₁ => .bind (.holding (h₁.mono fun iv p₂ h₂ => .bind (.standAt (.bind (.holding (h₂.mono fun _ p₃ h₃ => .release (.pure (.pure h₃)))))))))

/-! sets -/
theorem set_of {a : Addr} {Sf : Str → Bool} {n : Nat} {h : Heap} (x : (a, setC C Sf n) ∈ p.N) (S : Sat C.B L p h) : h.SetOf (PySem.strKind C.prog C.w) a Sf n := by
  obtain ⟨o, ho, es, ep, t, r⟩ := S.s0.own _ x
  exact ⟨o, es, ep, t, ho, r⟩
theorem HasT.set {a : Addr} {Sf : Str → Bool} {n : Nat} (x : (a, setC C Sf n) ∈ p.N) : HasT C L p (.ref a) "set" := fun s S => ⟨(set_of x S).typeIs, (set_of x S).noDict⟩
theorem C_inSet {a : Addr} {Sf : Str → Bool} {n : Nat} {k : Str} {t : Tok} {Q : Value → Pt → Prop} (x : (a, setC C Sf n) ∈ p.N) (h : Q (.bool (Sf k)) p) : Run C A L (compareOp .In (.str k t) (.ref a)) p Q := .of fun s S T =>
  wpAny_inSet_of (PySem.strKind_is _ _ k t) rfl (set_of x S) (Post.same S h)
theorem R_setAdd {a : Addr} {Sf : Str → Bool} {n : Nat} {k : Str} {t : Tok} {N' : List (Addr × Cell)} {Q : Value → Pt → Prop} (P : PutN p.N a (setC C Sf n) (setC C (fun k' => Sf k' || decide (k' = k)) (if Sf k then n else n + 1)) N') (hz : n + 1 < scanBound) (h : Q .none { p with N := N' }) :
    Run C A L (PySem.call (.builtin "set.add") [.ref a, .str k t]) p Q := .of fun s S T =>
  call_set_add (PySem.strKind_is _ _ k t) rfl (set_of P.mem S) hz fun h' hs hS => by
    obtain ⟨o, es, ep, tt, ho, r⟩ := hS
    exact ⟨_, S.putN P hs.extBut ho ⟨es, ep, tt, r⟩, Ext.putN P hs.extBut, h⟩
theorem R_setNew {Q : Value → Pt → Prop} (h : ∀ a, Fresh C a → Q (.ref a) { p with N := (a, setC C (fun _ => false) 0) :: p.N }) : Run C A L (PySem.call (.type "set") []) p Q := .of fun s S T =>
  call_set_0 fun led => ⟨_, S.pushN rfl ⟨#[], 0, .fresh 0 0 led, ⟨rfl, rfl, rfl⟩, rfl, (fun e he => by simp at he), (fun k => by simp), by decide, by cases led <;> decide, rfl⟩, Ext.pushN, h _ S.fresh⟩
end
end Mine

open PySem PySem.Calls PyProof.Rows
set_option Elab.async false
set_option linter.unusedVariables false
set_option maxRecDepth 100000
namespace Mine

abbrev CQ := Value → (Addr → Option Obj) → List (Addr × Cell) → Nat → Prop
/-- a call's end -/
def CallPost (C : Cx) (s : Shared) (G : Addr → Option Obj) (N : List (Addr × Cell)) (k : Nat) (Q E : CQ) (r : Result) (s' : Shared) : Prop :=
  ∃ v G' N' k', Sat0 C.B G' N' s'.heap ∧ Ext0 (fun _ => False) G N k s G' N' k' s' ∧ ((r = .ok (.ret v) ∧ Q v G' N' k') ∨ (r = .error v ∧ E v G' N' k'))
/-- a def of the text, called with vs; it may raise -/
def CallX (C : Cx) (A : Around) (f : Addr) (vs : List Value) (G : Addr → Option Obj) (N : List (Addr × Cell)) (k : Nat) (Q E : CQ) : Prop :=
  ∀ s, Sat0 C.B G N s.heap → TokOk k s → codeAny (model C.prog C.w) A (.call (.ref f) ⟨vs, []⟩) (CallPost C s G N k Q E) s

section
variable {C : Cx} {A : Around} {L : Addr} {α β : Type} {p : Pt} {env : Env}
theorem CallX.run {f : Addr} {vs : List Value} {G : Addr → Option Obj} {N : List (Addr × Cell)} {k : Nat} {Q : CQ} (h : CallX C A f vs G N k Q fun _ _ _ _ => False) : CallRun C A f vs G N k Q := fun s S T =>
  codeAny_mono (h s S T) fun r s' hr => by
    obtain ⟨v, G', N', k', S', x, q⟩ := hr
    exact q.elim (fun q => ⟨v, G', N', k', q.1, S', x, q.2⟩) fun q => q.2.elim

/-- what a body's exceptional end must offer -/
def Leaves (outer : List Env) (E : CQ) (v : Value) (p' : Pt) : Prop := ∃ e cls N₀, v = .ref e ∧ Flown e cls p'.N N₀ ∧ Outer outer N₀ ∧ ∀ T, E v p'.G ((T, tbC) :: (e, excC cls (.ref T)) :: N₀) p'.k

theorem call_rest {gl bl : List (Str × Value)} {f : Addr} {fd : FuncData} {body : List Stmt} {binds : List (Str × Value)} {G : Addr → Option Obj} {N : List (Addr × Cell)} {m₀ : List (Str × Option Value)} {k : Nat} {s : Shared} {outer : List Env}
    {Q E : CQ} {d : Nat} {Z : Value → Shared → Prop} (K : Base C gl bl) (hr : Room A (d + 1)) (hA : A.frames = some outer) (S : Sat0 C.B G N s.heap) (T : TokOk k s)
    (hm : m₀ = (m₀.map (·.1)).map fun x => (x, binds.reverse.lookup x)) (hs : (binds.all fun q => (m₀.map (·.1)).contains q.1) = true) (hnd : (m₀.map (·.1)).Nodup)
    (hcell : ∀ x ∈ fd.scope.names, x.2 ≠ .cell) (hloc : ∀ x ∈ binds, fd.scope.names.lookup x.1 = some .local)
    (h : ∀ L, Room (A.deeper (callEnv fd L f)) d → RunE C (A.deeper (callEnv fd L f)) L (execs body (callEnv fd L f)) ⟨G, m₀, N, k⟩ (fun fl p' => Q (retOf fl) p'.G p'.N p'.k) (Leaves outer E))
    (hk : fd.scope.kind = .function) :
    wpAny (model C.prog C.w) A.in1 (newFunctionEnv fd.scope fd.globals fd.closure binds (fd.qualname ++ ".<locals>.") (some f) fd.code none fd.builtins)
        (fun env s₂ => s₂.heap.NoLimit ∧ codeAny (model C.prog C.w) A (.func body env) (CallPost C s G N k Q E) s₂) Z s := by
  refine wpAny_newFunctionEnv hcell hloc (fun h₁ hns hsb => ⟨(K.lim.keeps S.base).fresh _ hsb, codeAny_func ?_⟩) hk
  have hk₁ : ∀ b o, s.heap.get? b = some o → h₁.get? b = some o := fun b o e => hsb.extBut b o (Nat.ne_of_lt (Heap.lt_size e)) (Heap.get?_push_of_some _ e)
  have Lnone : s.heap.get? s.heap.objs.size = none := get_size_none _
  have S1 := S.keep hk₁
  have Sat1 : Sat C.B s.heap.objs.size ⟨G, m₀, N, k⟩ h₁ := ⟨S1, by rw [look_of_binds hm hs]; exact hns, by
      cases e : C.B.get? s.heap.objs.size with
      | none => rfl
      | some o => (have := S.base _ _ e; rw [Lnone] at this; cases this), by
      show G s.heap.objs.size = none
      cases e : G s.heap.objs.size with
      | none => rfl
      | some o => (have := S.gs _ _ e; rw [Lnone] at this; cases this), fun hL => Nat.lt_irrefl _ (S.lt hL), hnd⟩
  have fin : ∀ (p' : Pt) (s' : Shared), Ext s.heap.objs.size ⟨G, m₀, N, k⟩ { s with heap := h₁, toks := s.toks + binds.length } p' s' → Ext0 (fun _ => False) G N k s p'.G p'.N p'.k s' := fun p' s' x =>
    ⟨fun b o e _ hb => x.keep b o (hk₁ b o e) (Nat.ne_of_lt (Heap.lt_size e)) hb, x.grow, fun b hb => (by
      rcases x.fresh b hb with e | e | e
      · exact .inl e
      · exact .inr (.inl e)
      · refine .inr (.inr ?_)
        cases e2 : s.heap.get? b with
        | none => rfl
        | some o => rw [hk₁ b o e2] at e; cases e), x.noleak, x.gens, x.os, x.km, x.kk⟩
  refine wpAny_mono ((h s.heap.objs.size (hr.deeper _)).go _ Sat1 ⟨Nat.le_trans T.le (Nat.le_add_right _ _)⟩) (fun fl s' hq => ?_) fun v s' hq => ?_
  · obtain ⟨p', S', x, q⟩ := hq
    exact ⟨_, p'.G, p'.N, p'.k, S'.s0, fin p' s' x, .inl ⟨by cases fl <;> rfl, q⟩⟩
  · obtain ⟨p', S', x, e, cls, N₀, rfl, F, O, q⟩ := hq
    refine leave (outer := outer) (Around.frames_deeper hA) rfl (by show fd.scope.kind ≠ _; rw [hk]; decide) S' F O fun h' T' S'' x'' => ?_
    have x₁₂ := x.trans Sat1 S' x'' (Nat.le_refl _)
    exact ⟨.ref e, _, _, _, S''.s0, fin _ _ x₁₂, .inr ⟨rfl, q T'⟩⟩

theorem CallX.body {gl bl : List (Str × Value)} {f : Addr} {o : Obj} {fd : FuncData} {body : List Stmt} {vs : List Value} {binds : List (Str × Value)} {G : Addr → Option Obj} {N : List (Addr × Cell)} {m₀ : List (Str × Option Value)} {k : Nat} {outer : List Env}
    {Q E : CQ} {d : Nat} (K : Base C gl bl) (hr : Room A (d + 1)) (hA : A.frames = some outer) (ho : C.B.get? f = some o) (hdata : o.data = .func fd) (hcd : C.B.CodeRec fd.code fd.qualname)
    (hbind : Binds C fd vs binds) (hm : m₀ = (m₀.map (·.1)).map fun x => (x, binds.reverse.lookup x)) (hs : (binds.all fun q => (m₀.map (·.1)).contains q.1) = true) (hnd : (m₀.map (·.1)).Nodup)
    (hbody : fd.body = .stmts body) (hcell : ∀ x ∈ fd.scope.names, x.2 ≠ .cell) (hloc : ∀ x ∈ binds, fd.scope.names.lookup x.1 = some .local)
    (h : ∀ L, Room (A.deeper (callEnv fd L f)) d → RunE C (A.deeper (callEnv fd L f)) L (execs body (callEnv fd L f)) ⟨G, m₀, N, k⟩ (fun fl p' => Q (retOf fl) p'.G p'.N p'.k) (Leaves outer E))
    (hco : fd.scope.isCoroutine = false := by rfl) (hgen : fd.scope.isGenerator = false := by rfl) (hk : fd.scope.kind = .function := by rfl) : CallX C A f vs G N k Q E := fun s S T => by
  obtain ⟨c, oc, x, y, e1, e2, e3⟩ := hcd
  have hroom : A.depth < recursionLimit := by have := hr.depth; omega
  exact codeAny_call_function hroom (S.base _ _ ho) hdata hco hgen hbody ⟨c, oc, x, y, e1, S.base _ _ e2, e3⟩ (hbind s S.base _ _ _ _ (call_rest K hr hA S T hm hs hnd hcell hloc h hk))
/-- with *rest -/
theorem CallX.bodyV {gl bl : List (Str × Value)} {f : Addr} {o : Obj} {fd : FuncData} {body : List Stmt} {vs rest : List Value} {front : List (Str × Value)} {nm : Str} {G : Addr → Option Obj} {N : List (Addr × Cell)} {m₀ : Addr → List (Str × Option Value)} {k : Nat} {outer : List Env}
    {Q E : CQ} {d : Nat} (K : Base C gl bl) (hr : Room A (d + 1)) (hA : A.frames = some outer) (ho : C.B.get? f = some o) (hdata : o.data = .func fd) (hcd : C.B.CodeRec fd.code fd.qualname)
    (hbind : bindArgs fd ⟨vs, []⟩ = (newTuple rest >>= fun t => Pure.pure (front ++ [(nm, t)]))) (hz : rest.length ≤ sizeLine)
    (hm : ∀ t, m₀ t = ((m₀ t).map (·.1)).map fun x => (x, (front ++ [(nm, Value.ref t)]).reverse.lookup x)) (hs : ∀ t, ((front ++ [(nm, Value.ref t)]).all fun q => ((m₀ t).map (·.1)).contains q.1) = true) (hnd : ∀ t, ((m₀ t).map (·.1)).Nodup)
    (hbody : fd.body = .stmts body) (hcell : ∀ x ∈ fd.scope.names, x.2 ≠ .cell) (hloc : ∀ t, ∀ x ∈ front ++ [(nm, Value.ref t)], fd.scope.names.lookup x.1 = some .local)
    (h : ∀ L t G', GLe G G' → TupAt G' t rest → Room (A.deeper (callEnv fd L f)) d → RunE C (A.deeper (callEnv fd L f)) L (execs body (callEnv fd L f)) ⟨G', m₀ t, N, k⟩ (fun fl p' => Q (retOf fl) p'.G p'.N p'.k) (Leaves outer E))
    (hco : fd.scope.isCoroutine = false := by rfl) (hgen : fd.scope.isGenerator = false := by rfl) (hk : fd.scope.kind = .function := by rfl) : CallX C A f vs G N k Q E := fun s S T => by
  obtain ⟨c, oc, x, y, e1, e2, e3⟩ := hcd
  have hroom : A.depth < recursionLimit := by have := hr.depth; omega
  refine codeAny_call_function hroom (S.base _ _ ho) hdata hco hgen hbody ⟨c, oc, x, y, e1, S.base _ _ e2, e3⟩ ?_
  rw [hbind]
  have Tn : s.heap.get? s.heap.objs.size = none := get_size_none _
  have gn : G s.heap.objs.size = none := by
    cases e : G s.heap.objs.size with
    | none => rfl
    | some o => have := S.gs _ _ e; rw [Tn] at this; cases this
  have nn : s.heap.objs.size ∉ dom N := fun hm => Nat.lt_irrefl _ (S.lt hm)
  have hkp : ∀ b ob, s.heap.get? b = some ob → (s.heap.push (tupO rest)).get? b = some ob := fun b ob e => Heap.get?_push_of_some _ e
  have S1 := S.keep hkp
  have S2 : Sat0 C.B (addG G s.heap.objs.size (tupO rest)) N (s.heap.push (tupO rest)) := by
    refine ⟨S1.base, fun b ob e => ?_, S1.own, S.nB, fun b hb => ?_, S.nd⟩
    · simp only [addG] at e
      split at e
      · rename_i q; cases e; rw [q]; exact Heap.get?_push_size _ rfl
      · exact S1.gs b ob e
    · simp only [addG]; rw [if_neg (by rintro rfl; exact nn hb)]; exact S.nG b hb
  have x1 : Ext0 (fun _ => False) G N k s (addG G s.heap.objs.size (tupO rest)) N k { s with heap := s.heap.push (tupO rest) } :=
    ⟨fun b o e _ _ => hkp b o e, fun b ob e => GLe.add gn b ob e, fun b h => h.elim (fun h => by
      simp only [addG] at h
      split at h
      · rename_i q; exact .inr (.inr (q ▸ Tn))
      · exact .inl h) fun h => .inr (.inl h), fun b h => .inl h, rfl, rfl, Nat.le_refl _, .inl (Nat.le_refl _)⟩
  refine wpAny_bind (wpAny_newObj_type (wpAny_pure ?_) (by show rest.toArray.size ≤ sizeLine; rw [List.size_toArray]; exact hz))
  refine wpAny_mono (call_rest (Z := fun _ _ => False) (s := { s with heap := s.heap.push (tupO rest) }) K hr hA S2 ⟨T.le⟩ (hm _) (hs _) (hnd _) hcell (hloc _) (fun L rm => h L _ _ (GLe.add gn) TupAt.new rm) hk) (fun env s₂ ⟨h1, h2⟩ => ⟨h1, codeAny_mono h2 fun r s' hr => ?_⟩) fun _ _ e => e.elim
  obtain ⟨v, G', N', k', S', x', q⟩ := hr
  have y : Ext0 (fun _ => False) (addG G s.heap.objs.size (tupO rest)) N k { s with heap := s.heap.push (tupO rest) } G' N' k { s' with toks := s.toks } := ⟨x'.keep, x'.grow, x'.fresh, x'.noleak, x'.gens, x'.os, Nat.le_refl _, .inl (Nat.le_refl _)⟩
  have z := Ext0.trans S S2 (fun b hb => hb.elim) x1 y (Nat.le_refl _)
  exact ⟨v, G', N', k', S', ⟨z.keep, z.grow, z.fresh, z.noleak, z.gens, z.os, x'.km, x'.kk⟩, q⟩

/-- such a call, its caller's frame lent -/
theorem RE_callL {f : Addr} {vs : List Value} {Nc Nr : List (Addr × Cell)} {Q : Value → Pt → Prop} {E : Value → Pt → Prop} (hp : p.N.Perm (Nc ++ Nr))
    (h : CallX C A f vs p.G ((L, frameC p.m) :: Nc) p.k (fun v G' N' k' => ∃ N'', N' = (L, frameC p.m) :: N'' ∧ Q v { p with G := G', N := N'' ++ Nr, k := k' })
      fun v G' N' k' => ∃ N'', N'.Perm ((L, frameC p.m) :: N'') ∧ E v { p with G := G', N := N'' ++ Nr, k := k' }) : RunE C A L (PySem.call (.ref f) vs) p Q E := .of fun s S T => by
  refine wpAny_call (codeAny_mono (h s (S.lend hp) T) fun r s' hr => ?_)
  obtain ⟨v, G', N', k', S', x, ⟨rfl, N'', rfl, q⟩ | ⟨rfl, N'', hP, q⟩⟩ := hr
  · obtain ⟨S'', x'⟩ := S.unlend hp S' x
    exact ⟨_, S'', x', q⟩
  · have hd : (dom N').Perm (dom ((L, frameC p.m) :: N'')) := by unfold dom; exact hP.map _
    have x2 : Ext0 (fun _ => False) p.G ((L, frameC p.m) :: Nc) p.k s G' ((L, frameC p.m) :: N'') k' s' :=
      ⟨x.keep, x.grow, fun b hb => x.fresh b (hb.imp id fun h => hd.mem_iff.mpr h), fun b hb => (x.noleak b hb).imp (fun h => hd.mem_iff.mp h) id, x.gens, x.os, x.km, x.kk⟩
    obtain ⟨S'', x'⟩ := S.unlend hp (S'.perm hP) x2
    exact ⟨_, S'', x', q⟩
end
end Mine

open PySem PySem.Calls PyProof.Rows
set_option Elab.async false
set_option linter.unusedVariables false
set_option maxRecDepth 100000
namespace Mine

/-- a list's iterator, at place i; and at its end -/
def liC (l : Addr) (i : Nat) : Cell := fun o => o = { cls := .type "list_iterator", data := .fields #[.ref l, .int i 0] }
def liEnd (i : Nat) : Cell := fun o => o = { cls := .type "list_iterator", data := .fields #[.none, .int i 0] }
/-- the bound __next__ -/
def MwG (G : Addr → Option Obj) (b it : Addr) : Prop := G b = some { cls := .type "method-wrapper", data := .fields #[.builtin "list_iterator.__next__", .ref it] }
theorem MwG.mono {G G' : Addr → Option Obj} {b it : Addr} (h : MwG G b it) (x : GLe G G') : MwG G' b it := x _ _ h

section
variable {C : Cx} {A : Around} {L : Addr} {α β : Type} {p : Pt} {env : Env}
theorem R_iter {l : Addr} {vs : List Value} {Q : Value → Pt → Prop} (hl : ListAt p.G l vs ∨ (l, listC vs) ∈ p.N) (h : ∀ it, Q (.ref it) { p with N := (it, liC l 0) :: p.N }) : Run C A L (PySem.call (.builtin "iter") [.ref l]) p Q := .of fun s S T => by
  refine call_function_entry (by decide +kernel) (by decide +kernel) PySem.W.kdk_entry_iter (PySem.W.kdk_args_iter _) ?_
  unfold Builtin.«iter»
  refine wpAny_bind (m := someArgs "iter" 1 2 _) (wpAny_of_eq (a := [Value.ref l]) (by first | rfl | kernel_rfl!) ?_)
  show wpAny _ _ (pyIter (.ref l) >>= _) _ _ _
  refine wpAny_bind (wpAny_pyIter_list (isList_of hl S) ?_)
  exact wpAny_pure ⟨_, rfl, { p with N := (s.heap.objs.size, liC l 0) :: p.N }, S.pushN (c := liC l 0) rfl rfl, Ext.pushN, h _⟩
theorem R_getNext {it l : Addr} {i : Nat} {expr : Bool} {Q : Value → Pt → Prop} (hi : (it, liC l i) ∈ p.N) (h : ∀ b G', GLe p.G G' → MwG G' b it → Q (.ref b) { p with G := G' }) : Run C A L (getAttr (.ref it) "__next__" expr) p Q := .of fun s S T => by
  obtain ⟨o, ho, rfl⟩ := S.s0.own _ hi
  have nn := S.none_at (get_size_none s.heap)
  obtain ⟨hh, g, d, t, os⟩ := s
  exact LI.attr ho ⟨_, S.pushG rfl, Ext.pushG S, h _ _ (GLe.add nn.2.1) addG_self⟩
theorem keeper_mw {b it : Addr} {s : Shared} {Q : Keeper → Shared → Prop} {E : Value → Shared → Prop} {M : Model} (hb : s.heap.get? b = some { cls := .type "method-wrapper", data := .fields #[.builtin "list_iterator.__next__", .ref it] }) (h : Q .machine s) :
    wpAny M A (keeperOf (.ref b)) Q E s := by
  unfold keeperOf
  refine wpAny_bind (wpAny_load hb ?_)
  exact wpAny_pure h
theorem RE_next {pos : Pos} {b it l : Addr} {i : Nat} {vs : List Value} {N' : List (Addr × Cell)} {Q : Value → Pt → Prop} {E : Value → Pt → Prop} (hh : A.handled = none) (hb : MwG p.G b it) (hl : ListAt p.G l vs ∨ (l, listC vs) ∈ p.N) (c' : Cell)
    (hc : c' = if i < vs.length then liC l (i + 1) else liEnd i) (P : PutN p.N it (liC l i) c' N')
    (h : ∀ v, vs[i]? = some v → Q v { p with N := N' }) (he : vs[i]? = none → ∀ e, E (.ref e) { p with N := (e, excC (.type "StopIteration") .none) :: N' }) :
    RunE C A L (callWith pos (.ref b) [] [] []) p Q E := .of fun s S T => by
  have hb' := S.s0.gs _ _ hb
  obtain ⟨o, ho, rfl⟩ := S.s0.own _ P.mem
  unfold callWith
  refine wpAny_bind (wpAny_holding (wpAny_mono (Q := fun a s₁ => a = ⟨[], []⟩ ∧ s₁ = s) (wpAny_pure ⟨rfl, rfl⟩) (fun a s₁ ⟨ea, es⟩ => wpAny_bind (wpAny_standAt ?_)) fun _ _ z => z))
  rw [ea, es]
  simp only [List.any_nil, Bool.or_false]
  refine wpAny_bind (keeper_mw hb' ?_)
  cases hv : vs[i]? with
  | some v =>
    have hi : i < vs.length := (List.getElem?_eq_some_iff.mp hv).1
    rw [if_pos hi] at hc
    subst hc
    refine wpAny_bind (LI.next_item (x := v) hb' ho (isList_of hl S) (by rw [List.getElem?_toArray]; exact hv) fun h' ho' hs => ?_)
    exact wpAny_bind (wpAny_holding (wpAny_point (wpAny_pure ⟨_, S.putN P hs.extBut ho' rfl, Ext.putN P hs.extBut, h v hv⟩)))
  | none =>
    have hi : ¬ i < vs.length := fun hlt => by rw [List.getElem?_eq_getElem hlt] at hv; cases hv
    rw [if_neg hi] at hc
    subst hc
    refine wpAny_bind (LI.next_end hh hb' ho (isList_of hl S) (by rw [List.getElem?_toArray]; exact hv) fun h' e hx hit hen hee => ?_)
    obtain ⟨oe, hoe, hce⟩ := hee
    have S1 := S.putN P hx hit rfl
    have x1 : Ext L p s { p with N := N' } { s with heap := h' } := Ext.putN P hx
    have nn := S.none_at hen
    have eN : e ∉ dom N' := by rw [P.dom]; exact nn.2.2.1
    refine ⟨{ p with N := (e, excC (.type "StopIteration") .none) :: N' }, ⟨⟨S1.s0.base, S1.s0.gs, fun q hq => ?_, fun b hb => ?_, fun b hb => ?_, List.nodup_cons.mpr ⟨eN, S1.s0.nd⟩⟩, S1.ns, S1.bL, S1.gL, fun hm => ?_, S1.mnd⟩,
      ⟨x1.keep, x1.grow, fun b hb => ?_, fun b hb => (x1.noleak b hb).imp (List.mem_cons_of_mem _) id, rfl, rfl, Nat.le_refl _, .inl (Nat.le_refl _)⟩, he hv e⟩
    · rcases List.mem_cons.mp hq with rfl | hq
      · exact ⟨oe, hoe, hce⟩
      · exact S1.s0.own q hq
    · rcases List.mem_cons.mp hb with rfl | hb
      · exact nn.1
      · exact S1.s0.nB b hb
    · rcases List.mem_cons.mp hb with rfl | hb
      · exact nn.2.1
      · exact S1.s0.nG b hb
    · rcases List.mem_cons.mp hm with e1 | hm
      · exact nn.2.2.2 e1.symm
      · exact S1.nL hm
    · rcases hb with hb | hb
      · exact x1.fresh b (.inl hb)
      · rcases List.mem_cons.mp hb with rfl | hb
        · exact .inr (.inr hen)
        · exact x1.fresh b (.inr hb)
end
end Mine

open PySem PySem.Calls PyProof.Rows
set_option Elab.async false
set_option linter.unusedVariables false
set_option maxRecDepth 100000
namespace Mine

section
variable {C : Cx} {A : Around} {L : Addr} {α β : Type} {p : Pt} {env : Env}

/-- a value that * opens -/
def StarRun (C : Cx) (A : Around) (L : Addr) (v : Value) (p : Pt) (Q : List Value → Pt → Prop) : Prop :=
  Run C A L (notIterableAtAll v) p fun b p₁ => b = false ∧ Run C A L (collect v) p₁ Q
theorem StarRun.go {v : Value} {Q : List Value → Pt → Prop} (h : StarRun C A L v p Q) {s : Shared} (S : Sat C.B L p s.heap) (T : TokOk p.k s) : PySem.W.StarOf (model C.prog C.w) A (fun _ _ => False) v (Post C L p s Q) s :=
  wpAny_mono (wpAny_toks (Run.go h s S T)) (fun b s₁ ⟨t, p₁, S₁, x, e, q⟩ => ⟨e, Run.after S T S₁ x t q⟩) fun _ _ z => z.2
theorem StarRun.seq {a : Addr} {ws : List Value} {Q : List Value → Pt → Prop} (ha : (ListAt p.G a ws ∨ (a, listC ws) ∈ p.N) ∨ TupAt p.G a ws) (hz : ws.length ≤ sizeLine) (h : Q ws p) : StarRun C A L (.ref a) p Q := .of fun s S T => by
  have key : ∃ o T n, s.heap.get? a = some o ∧ (T = "list" ∨ T = "tuple") ∧ o.cls = .type T ∧ o.data = .seq ws.toArray n := by
    rcases ha with ha | ha
    · obtain ⟨o, ho, hc, n, hd⟩ := isList_of ha S
      exact ⟨o, _, n, ho, .inl rfl, hc, hd⟩
    · obtain ⟨o, ho, hc, n, hd⟩ := ha.isTup S
      exact ⟨o, _, n, ho, .inr rfl, hc, hd⟩
  obtain ⟨o, T, n, ho, hT, hc, hd⟩ := key
  have hT' : s.TypeIs (.ref a) T := ⟨o, ho, hc⟩
  have fin : Run C A L (collect (.ref a)) p Q := .of fun s₁ S₁ T₁ => by
    have key : ∃ o T n, s₁.heap.get? a = some o ∧ (T = "list" ∨ T = "tuple") ∧ o.cls = .type T ∧ o.data = .seq ws.toArray n := by
      rcases ha with ha | ha
      · obtain ⟨o, ho, hc, n, hd⟩ := isList_of ha S₁
        exact ⟨o, _, n, ho, .inl rfl, hc, hd⟩
      · obtain ⟨o, ho, hc, n, hd⟩ := ha.isTup S₁
        exact ⟨o, _, n, ho, .inr rfl, hc, hd⟩
    obtain ⟨o, T, n, ho, hT, hc, hd⟩ := key
    refine wpAny_collect_seq a hT ho hc hd (fun h' hk => ⟨p, S₁.keep hk, Ext.heap hk, by simpa using h⟩) (by simpa using hz)
  unfold notIterableAtAll
  rcases hT with rfl | rfl
  · exact wpAny_bind (wpAny_specialOf hT' PySem.F.slot_list_iter.lookup (wpAny_pure ⟨p, S, .refl, rfl, fin⟩))
  · exact wpAny_bind (wpAny_specialOf hT' PySem.F.slot_tuple_iter.lookup (wpAny_pure ⟨p, S, .refl, rfl, fin⟩))
/-- * in a row of arguments -/
theorem E_items_star {e : Expr} {sp pos : Pos} {rest : List Expr} {Q : List Value → Pt → Prop} (h : Run C A L (eval e env) p fun v p₁ => StarRun C A L v p₁ fun here p₂ => Run C A L (spliced (backTo pos (starEach rest env))) p₂ fun vs p₃ => Q (here ++ vs) p₃) :
    Run C A L (spliced (backTo pos (starEach (.Starred e sp :: rest) env))) p Q := .of fun s S T => by
  rw [arm_starEach_Starred]
  refine PySem.W.ks_spliced (wpAny_mono (wpAny_toks (h.go s S T)) (fun v s₁ ⟨t₁, p₁, S₁, x₁, q⟩ => ?_) fun _ _ z => z.2)
  refine wpAny_mono (wpAny_toks (q.go S₁ (T.next x₁ t₁))) (fun b s₂ ⟨t₂, e, q₂⟩ => ⟨e, ?_⟩) fun _ _ z => z.2
  refine wpAny_mono (wpAny_toks q₂) (fun here s₃ ⟨t₃, p₃, S₃, x₃, q₃⟩ => ?_) fun _ _ z => z.2
  exact Run.after S T S₃ (x₁.trans S S₁ x₃ (Nat.le_trans t₂ t₃)) (Nat.le_trans t₁ (Nat.le_trans t₂ t₃)) q₃

/-! more of lists -/
theorem R_clear {l : Addr} {vs : List Value} {N' : List (Addr × Cell)} {Q : Value → Pt → Prop} (P : PutN p.N l (listC vs) (listC []) N') (hz : vs.length ≤ sizeLine) (h : Q .none { p with N := N' }) : Run C A L (PySem.call (.builtin "list.clear") [.ref l]) p Q := .of fun s S T => by
  obtain ⟨o, ho, n, rfl⟩ := S.s0.own _ P.mem
  refine call_meets PySem.F.slot_list_clear ⟨_, ho, rfl⟩ PySem.F.entry_list_clear (PySem.F.args_list_clear_1 _) (PySem.AutoSeq1.list_clear_list_0 l vs.toArray n (by simpa using hz)) ⟨ho, ⟨_, S.putN P (Heap.SameBut.update ..).extBut (Heap.get?_update_self _ ho rfl) ?_, Ext.putN P (Heap.SameBut.update ..).extBut, h⟩⟩
  exact ⟨_, rfl⟩
theorem R_tupleL {l : Addr} {vs : List Value} {Q : Value → Pt → Prop} (hl : ListAt p.G l vs ∨ (l, listC vs) ∈ p.N) (hz : vs.length ≤ sizeLine) (h : ∀ t G', GLe p.G G' → G' t = some (tupO vs) → Q (.ref t) { p with G := G' }) : Run C A L (PySem.call (.type "tuple") [.ref l]) p Q := .of fun s S T => by
  refine call_tuple_list (isList_of hl S) (fun h' hk => ?_) (by simpa using hz)
  have S1 := S.keep hk
  have x1 : Ext L p s p { s with heap := h' } := Ext.heap hk
  have nn := S1.none_at (get_size_none h')
  exact ⟨_, S1.pushG (o := tupO vs) rfl, x1.trans S S1 (Ext.pushG (s := { s with heap := h' }) S1) (Nat.le_refl _), h _ _ (GLe.add nn.2.1) addG_self⟩
theorem TupAt.ofX {G : Addr → Option Obj} {t : Addr} {vs : List Value} (h : G t = some (tupO vs)) : TupAt G t vs := ⟨_, 0, h, rfl, rfl⟩
end
end Mine

open PySem PySem.Calls PyProof.Rows
set_option Elab.async false
set_option linter.unusedVariables false
set_option maxRecDepth 100000
namespace Mine

/-- a class of the text that stands straight on ValueError, without an __init__ of its own -/
def ExcOf (C : Cx) (Cc : Addr) : Prop := ∃ nm q N bs hdct sn sub ab col dd k0 k1 k2 k3 k5 mN, C.B.get? Cc = some (excClassObj nm q Cc N bs [.type "ValueError", .type "Exception", .type "BaseException", .type "object"] hdct sn sub ab col dd k0 k1 k2 k3 k5 "ValueError.__new__") ∧ C.B.Ns N mN ∧ mN "__init__" = none

section
variable {C : Cx} {A : Around} {L : Addr} {α β : Type} {p : Pt} {env : Env}
theorem Sat.made {cls : Value} {vs : List Value} {s : Shared} {h' : Heap} {e : Addr} (S : Sat C.B L p s.heap) (hx : Heap.MadeExcOf s.heap h' e cls vs) : Sat C.B L { p with N := (e, excC cls .none) :: p.N } h' ∧ Ext L p s { p with N := (e, excC cls .none) :: p.N } { s with heap := h' } := by
  obtain ⟨t, hoe, -, -⟩ := hx.there
  have nn := S.none_at hx.new
  have S1 := S.keep hx.keeps
  refine ⟨⟨⟨S1.s0.base, S1.s0.gs, fun q hq => ?_, fun b hb => ?_, fun b hb => ?_, List.nodup_cons.mpr ⟨nn.2.2.1, S1.s0.nd⟩⟩, S1.ns, S1.bL, S1.gL, fun hm => ?_, S1.mnd⟩, ?_⟩
  · rcases List.mem_cons.mp hq with rfl | hq
    · exact ⟨_, hoe, rfl, _, _, rfl, rfl, rfl⟩
    · exact S1.s0.own q hq
  · rcases List.mem_cons.mp hb with rfl | hb
    · exact nn.1
    · exact S1.s0.nB b hb
  · rcases List.mem_cons.mp hb with rfl | hb
    · exact nn.2.1
    · exact S1.s0.nG b hb
  · rcases List.mem_cons.mp hm with e1 | hm
    · exact nn.2.2.2 e1.symm
    · exact S1.nL hm
  · refine ⟨fun b o e _ _ => hx.keeps b o e, fun _ _ e => e, fun b hb => ?_, fun b hb => .inl (List.mem_cons_of_mem _ hb), rfl, rfl, Nat.le_refl _, .inl (Nat.le_refl _)⟩
    rcases hb with hb | hb
    · exact .inl hb
    · rcases List.mem_cons.mp hb with rfl | hb
      · exact .inr (.inr hx.new)
      · exact .inr (.inl hb)
theorem XE_Raise {Cc : Addr} {x : Str} {np cpos pos : Pos} {args : List Expr} {Q : Flow → Pt → Prop} {E : Value → Pt → Prop} (X : ExcOf C Cc) (hh : A.handled = none)
    (hn : ∀ {Q : Value → Pt → Prop}, Q (.ref Cc) p → Run C A L (eval (.Name x np) env) p Q)
    (h : Run C A L (spliced (backTo cpos (starEach args env))) p fun vs p₁ => vs.length ≤ sizeLine ∧ ∀ e, E (.ref e) { p₁ with N := (e, excC (.ref Cc) .none) :: p₁.N }) (hp : (args.all fun e => !PySem.W.isStarred e) = true := by rfl) :
    RunE C A L (exec (.Raise (some (.Call (.Name x np) args [] cpos)) none pos) env) p Q E := .of fun s S T => by
  obtain ⟨nm, q, N, bs, hdct, sn, sub, ab, col, dd, k0, k1, k2, k3, k5, mN, hC, hN, hni⟩ := X
  refine wpAny_Raise_call_subU (C := Cc) (N := N) (mN := mN) (nm := nm) (q := q) (bs := bs) (hdct := hdct) (sn := sn) (sub := sub) (ab := ab) (col := col) (dd := dd) (k0 := k0) (k1 := k1) (k2 := k2) (k3 := k3) (k5 := k5) (bm := [.type "ValueError", .type "Exception", .type "BaseException", .type "object"]) F.excBase_ValueError (by decide) F.excBase_ValueError (by decide) hh (plainTrees hp) hni ?_
  refine wpAny_mono (wpAny_toks ((hn (Q := fun v p' => v = .ref Cc ∧ p' = p) ⟨rfl, rfl⟩).go s S T)) (fun v s₁ ⟨t₁, p₁, S₁, x₁, e1, e2⟩ => ⟨e1, ?_⟩) fun _ _ z => z.2.elim
  subst e2
  have hr : Run C A L (PySem.evalArgs (.ref Cc) true (backTo cpos (starEach args env)) []) p₁ fun a p₂ => a.kw = [] ∧ a.pos.length ≤ sizeLine ∧ ∀ e, E (.ref e) { p₂ with N := (e, excC (.ref Cc) .none) :: p₂.N } :=
    R_evalArgs (plainTrees hp) (h.mono fun vs p₂ h₂ => ⟨rfl, h₂⟩)
  refine wpAny_mono (wpAny_toks (hr.go s₁ S₁ (T.next x₁ t₁)))
    (fun a s₂ ⟨t₂, p₂, S₂, x₂, hk, hz, hE⟩ => ⟨hk, hz, S₂.s0.base _ _ hC, hN.keeps S₂.s0.base, .base, fun h' e hm => ?_⟩) fun _ _ z => z.2.elim
  obtain ⟨S₃, x₃⟩ := S₂.made hm
  exact ⟨_, S₃, (x₁.trans S S₁ x₂ t₂).trans S S₂ x₃ (Nat.le_refl _), hE e⟩
end
end Mine

open PySem PySem.Calls PyProof.Rows
set_option Elab.async false
set_option linter.unusedVariables false
set_option maxRecDepth 100000
namespace Mine
section
variable {C : Cx} {A : Around} {L : Addr} {α β : Type} {p : Pt} {env : Env}
theorem R_callK {K : PySem.W.Frag} {f : Value} {first : List Value} {args : List (Bool × Sem Value)} {pos : Pos} {Q : Value → Pt → Prop} (X : K.In C.B) (hk : PySem.W.keepIn K f = true) (hp : args.any (·.1) = false)
    (h : Run C A L (spliced args) p fun vs p₁ => Run C A L (PySem.call f (first ++ vs)) p₁ Q) : Run C A L (callWith pos f first args []) p Q := .of fun s S T => by
  have hr : Run C A L (PySem.evalArgs f true args []) p fun a p₁ => a.kw = [] ∧ Run C A L (PySem.call f (first ++ a.pos)) p₁ Q := R_evalArgs hp (h.mono fun vs p₁ h₁ => ⟨rfl, h₁⟩)
  refine PySem.W.callWith_of (P := fun h => K.In h) (by rw [hp]; rfl) (PySem.W.keeps_K hk) (wpAny_mono (wpAny_toks (hr.go s S T)) (fun a s₁ ⟨t₁, p₁, S₁, x₁, e, q⟩ => ⟨X.keeps S₁.s0.base, ?_⟩) fun _ _ z => z.2)
  rw [e]
  exact Run.after S T S₁ x₁ t₁ q
/-- a name is called: a class of the text -/
theorem E_callC {K : PySem.W.Frag} {id : Str} {np pos : Pos} {args : List Expr} {f : Value} {Q : Value → Pt → Prop} (X : K.In C.B) (hk : PySem.W.keepIn K f = true) (hf : ∀ {Q : Value → Pt → Prop}, Q f p → Run C A L (eval (.Name id np) env) p Q)
    (h : Run C A L (spliced (backTo pos (starEach args env))) p fun vs p₁ => Run C A L (PySem.call f vs) p₁ Q) (hp : (args.all fun e => !PySem.W.isStarred e) = true := by rfl) :
    Run C A L (eval (.Call (.Name id np) args [] pos) env) p Q :=
  Run.of_eq (arm_eval_Call_Name' ..) (.bind (hf (R_callK (first := []) X hk (plainTrees hp) h)))
end
end Mine

open PySem PySem.Calls PyProof.Rows
set_option Elab.async false
set_option linter.unusedVariables false
set_option maxRecDepth 100000
namespace Mine
section
variable {C : Cx} {A : Around} {L : Addr} {p : Pt}
theorem R_len_tup {l : Addr} {vs : List Value} {Q : Value → Pt → Prop} (hl : TupAt p.G l vs) (hz : vs.length < 2 ^ 62) (h : ∀ tk, Q (.int vs.length tk) p) : Run C A L (PySem.call (.builtin "len") [.ref l]) p Q := .of fun s S T => by
  refine PyProof.Rows.len_tuple (hl.isTup S) (by rw [List.size_toArray]; omega) ?_
  rw [List.size_toArray]
  exact Post.same S (h _)
end
end Mine

open PySem PySem.Calls PyProof.Rows
set_option Elab.async false
set_option linter.unusedVariables false
set_option maxRecDepth 100000
namespace Mine
theorem meets_bool_list (prog : Program) (w : World) (l : Addr) (items : Array Value) (hz : (items.size : Int) < 2 ^ 63) :
    Meets (Builtin.«bool.__new__» ⟨[.type "bool", .ref l], []⟩) (fun _ R s => s.heap.IsList l items ∧ R (.ok (.ret (.bool (!items.isEmpty)))) { s with toks := s.toks + 1 + 1 }) :=
  Meets.of_wp fun prog w A R s ⟨hl, hs⟩ => by
    obtain ⟨hp, g, d, tk, os⟩ := s
    have f1 := F.conv_sub_bool
    repeat (any_goals (first | assumption | (with_reducible refine wpAny_truthy_list hl hz ?_) | wp_step))
    all_goals first | exact ⟨_, rfl, hs⟩ | exact hs | skip

theorem Run.abs {C : Cx} {A : Around} {L : Addr} {α : Type} {t : Sem α} {p : Pt} {Q : α → Pt → Prop} (h : ∀ Q' : α → Pt → Prop, (∀ a p, Q a p → Q' a p) → Run C A L t p Q') : Run C A L t p Q := h Q fun _ _ h => h
theorem RunE.abs {C : Cx} {A : Around} {L : Addr} {α : Type} {t : Sem α} {p : Pt} {Q : α → Pt → Prop} {E : Value → Pt → Prop} (h : ∀ (Q' : α → Pt → Prop) (E' : Value → Pt → Prop), (∀ a p, Q a p → Q' a p) → (∀ v p, E v p → E' v p) → RunE C A L t p Q' E') : RunE C A L t p Q E := h Q E (fun _ _ h => h) fun _ _ h => h
/-- a loop over what a value names: the invariant stands once -/
theorem X_ForV {C : Cx} {A : Around} {L : Addr} {p : Pt} {env : Env} {target iter : Expr} {body orelse : List Stmt} {pos : Pos} {Q : Flow → Pt → Prop} (I : Nat → Pt → Prop) {v : Value} {n : Nat} {P : Nat → Value → Heap → Prop}
    (he : ∀ {Q : Value → Pt → Prop}, Q v p → Run C A L (eval iter env) p Q) (it : IterOn C A L p target v n P) (h0 : I 0 p)
    (h : ∀ i p₂, i < n → I i p₂ → AsgRun C A L target env (P i) p₂ fun p₃ => Run C A L (execs body env) p₃ fun f p₄ => match f with
        | .next | .cont => I (i + 1) p₄
        | .brk => Q .next p₄
        | .ret v => Q (.ret v) p₄)
    (hn : ∀ p₂, I n p₂ → Run C A L (execs orelse env) p₂ Q) (hs : ∀ x, foldedSetIterable iter env x = pure x := by intro _; rfl) : Run C A L (exec (.For target iter body orelse pos) env) p Q :=
  X_For I (he ⟨n, P, it, h0, fun i p₂ a b _ => h i p₂ a b, fun p₂ a _ => hn p₂ a⟩) hs
section
variable {C : Cx} {A : Around} {L : Addr} {α β : Type} {p : Pt} {env : Env}
/-- what is called is no name -/
theorem E_callSub {o i : Expr} {spos pos : Pos} {args : List Expr} {Q : Value → Pt → Prop} {E : Value → Pt → Prop} (h : Run C A L (eval (.Subscript o i spos) env) p fun f p₁ => RunE C A L (callWith pos f [] (backTo pos (starEach args env)) []) p₁ Q E) :
    RunE C A L (eval (.Call (.Subscript o i spos) args [] pos) env) p Q E := by
  refine RunE.of_eq (t' := eval (.Subscript o i spos) env >>= fun f => callWith pos f [] (backTo pos (starEach args env)) (backToKw pos (keywordEach [] env))) rfl ?_
  exact .bind (h.toE.mono (fun f p₁ h₁ => h₁) fun _ _ e => e)
theorem E_FStr1 {v : Expr} {pos : Pos} {Q : Value → Pt → Prop} (h : Run C A L (eval v env) p Q) : Run C A L (eval (.JoinedStr [v] pos) env) p Q := Run.of_eq (arm_eval_JoinedStr ..) h
theorem U_neg {a : Int} {t : Tok} {Q : Value → Pt → Prop} (h : ∀ tk, Q (.int (-a) tk) p) : Run C A L (unaryOp .USub (.int a t)) p Q := .of fun s S T => neg_int (Post.same S (h _))
theorem G_listN {l : Addr} {vs : List Value} {i : Int} {u : Tok} {x : Value} {Q : Value → Pt → Prop} (hl : ListAt p.G l vs ∨ (l, listC vs) ∈ p.N) (h0 : i < 0) (h1 : -(vs.length : Int) ≤ i) (h2 : -(2 ^ 63) ≤ i) (hx : vs[(i + vs.length).toNat]? = some x) (h : Q x p) :
    Run C A L (getItem (.ref l) (.int i u)) p Q := .of fun s S T => wpAny_getItem_list_neg (isList_of hl S) h0 (by simpa using h1) h2 (by simpa using hx) ⟨p, S, .refl, h⟩
theorem truthy_list {l : Addr} {vs : List Value} {Q : Bool → Pt → Prop} (hl : ListAt p.G l vs ∨ (l, listC vs) ∈ p.N) (hz : vs.length < 2 ^ 60) (h : Q (!vs.isEmpty) p) : Run C A L (truthy (.ref l)) p Q := .of fun s S T => by
  refine wpAny_truthy_list (isList_of hl S) (by rw [List.size_toArray]; omega) ?_
  rw [List.isEmpty_toArray]
  exact Post.same S h
theorem truthy_N {Q : Bool → Pt → Prop} (h : Q false p) : Run C A L (truthy .none) p Q := Run.pure h
theorem R_boolL {l : Addr} {vs : List Value} {Q : Value → Pt → Prop} (hl : ListAt p.G l vs ∨ (l, listC vs) ∈ p.N) (hz : vs.length < 2 ^ 60) (h : Q (.bool (!vs.isEmpty)) p) : Run C A L (PySem.call (.type "bool") [.ref l]) p Q := .of fun s S T => by
  refine call_bool_1 (meets_bool_list C.prog C.w l vs.toArray (by rw [List.size_toArray]; omega)) ⟨isList_of hl S, ?_⟩
  rw [List.isEmpty_toArray]
  exact ⟨rfl, Post.same S h⟩

/-- a view of a dict's values -/
def ViewV (G : Addr → Option Obj) (v d : Addr) : Prop := ∃ o, G v = some o ∧ o.cls = .type "dict_values" ∧ o.data = .fields #[.ref d]
theorem R_values {d : Addr} {es : List Ent} {Q : Value → Pt → Prop} (x : DictG C.w p.G d es) (h : ∀ v G', GLe p.G G' → ViewV G' v d → Q (.ref v) { p with G := G' }) : Run C A L (PySem.call (.builtin "dict.values") [.ref d]) p Q :=
  R_meets F.slot_dict_values F.entry_dict_values (F.args_dict_values_1 _) (HasT.dict x) fun s S T => by
    obtain ⟨o, ep, e1, e2, e3⟩ := x.dictAt S
    have nn := S.none_at (get_size_none s.heap)
    refine ⟨_, meets_dict_values (PySem.strKind C.prog C.w) d x.1, ⟨_, e3.dictOf⟩, ?_⟩
    exact ⟨_, S.pushG rfl, Ext.pushG S, h _ _ (GLe.add nn.2.1) ⟨_, addG_self, rfl, rfl⟩⟩
theorem IterOn.values {y : Str} {py : Pos} {d v : Addr} {es : List Ent} (hh : A.handled = none) (hv : ViewV p.G v d) (x : DictG C.w p.G d es) : IterOn C A L p (.Name y py) (.ref v) es.length fun i v _ => ∃ q, es[i]? = some q ∧ v = q.2.2 := fun s S T => by
  obtain ⟨od, ep, e1, e2, e3⟩ := x.dictAt S
  obtain ⟨ov, g1, g2, g3⟩ := hv
  have hne : d ≠ s.heap.objs.size := Nat.ne_of_lt (Heap.lt_size e1)
  have hl : (kvOf es).length = es.length := by simp [kvOf]
  refine wpAny_pyIter_values ⟨ov, S.s0.gs _ _ g1, g2, g3⟩ e3 ?_
  have W := Walks.dictValues (knd := PySem.strKind C.prog C.w) hh s.heap.objs.size d hne (kvOf es) ep
  have W' := PySem.W.KTurns.ofWalks (target := .Name y py) W fun i v s Q E st hQ => wpAny_pure hQ
  rw [hl] at W' ⊢
  refine ⟨_, _, _, _, _, _, _, rfl, rfl, { W' with item := fun i s Q E hi st hQ => W'.item i s Q E hi st hQ, go := fun i v s Q E hm hQ => W'.go i v s Q E hm fun h' hP st hk => hQ h' ?_ st hk }, ⟨⟨_, Heap.get?_push_size _ rfl, rfl, rfl⟩, e3.push _⟩,
    fun b o e => Heap.get?_push_of_some _ e, fun b hb => by rw [List.mem_singleton.mp hb]; exact get_size_none _, fun b hb => ?_, fun i h st b hb => ?_, fun i s Q E st hQ => W.self i s Q E (by rw [hl]; exact st) hQ⟩
  · obtain ⟨k, h1⟩ := hP
    simp only [kvOf, List.getElem?_map, Option.map_eq_some_iff] at h1
    obtain ⟨q, h3, h4⟩ := h1
    cases h4
    exact ⟨q, h3, rfl⟩
  · rcases List.mem_cons.mp hb with q | q
    · exact .inl (List.mem_singleton.mpr q)
    · obtain ⟨_, o, e, _⟩ := x
      exact .inr ⟨o, by rw [List.mem_singleton.mp q]; exact e⟩
  · rw [List.mem_singleton.mp hb]
    obtain ⟨_, ho, _⟩ := st.1
    rw [ho]; exact fun h => nomatch h
end
end Mine

open PySem PySem.Calls PyProof.Rows
set_option Elab.async false
set_option linter.unusedVariables false
set_option maxRecDepth 100000
namespace Mine
/-! the abstract graph: a node's name, the number of what it waits for, and whom it goes before -/
abbrev Gr := List (Str × Int × List Str)
def touch (g : Gr) (n : Str) : Gr := if n ∈ g.map (·.1) then g else g ++ [(n, 0, [])]
def addNp (g : Gr) (n : Str) (z : Int) : Gr := g.map fun q => if q.1 = n then (q.1, q.2.1 + z, q.2.2) else q
def setNp (g : Gr) (n : Str) (z : Int) : Gr := g.map fun q => if q.1 = n then (q.1, z, q.2.2) else q
def addSc (g : Gr) (n m : Str) : Gr := g.map fun q => if q.1 = n then (q.1, q.2.1, q.2.2 ++ [m]) else q
def gAdd (g : Gr) (n : Str) (ps : List Str) : Gr := ps.foldl (fun g p => addSc (touch g p) p n) (addNp (touch g n) n ps.length)

theorem map_fst_upd {g : Gr} {n : Str} {f : Str × Int × List Str → Str × Int × List Str} (hf : ∀ q, (f q).1 = q.1) : (g.map fun q => if q.1 = n then f q else q).map (·.1) = g.map (·.1) := by
  rw [List.map_map]
  apply List.map_congr_left
  intro q _
  show (if q.1 = n then f q else q).1 = q.1
  split
  · exact hf q
  · rfl
theorem addNp_names {g : Gr} {n : Str} {z : Int} : (addNp g n z).map (·.1) = g.map (·.1) := map_fst_upd (f := fun q => (q.1, q.2.1 + z, q.2.2)) fun _ => rfl
theorem setNp_names {g : Gr} {n : Str} {z : Int} : (setNp g n z).map (·.1) = g.map (·.1) := map_fst_upd (f := fun q => (q.1, z, q.2.2)) fun _ => rfl
theorem addSc_names {g : Gr} {n m : Str} : (addSc g n m).map (·.1) = g.map (·.1) := map_fst_upd (f := fun q => (q.1, q.2.1, q.2.2 ++ [m])) fun _ => rfl
theorem touch_nodup {g : Gr} {n : Str} (h : (g.map (·.1)).Nodup) : ((touch g n).map (·.1)).Nodup := by
  unfold touch
  split
  · exact h
  · rename_i hn
    rw [List.map_append]
    refine List.nodup_append.mpr ⟨h, by simp, fun a ha b hb => ?_⟩
    simp only [List.map_cons, List.map_nil, List.mem_singleton] at hb
    subst hb
    exact fun e => hn (e ▸ ha)
theorem upd_split {A B : Gr} {q : Str × Int × List Str} {f : Str × Int × List Str → Str × Int × List Str} (h : ((A ++ q :: B).map (·.1)).Nodup) : ((A ++ q :: B).map fun z => if z.1 = q.1 then f z else z) = A ++ f q :: B := by
  rw [List.map_append, List.map_cons] at h
  obtain ⟨hA, hB, hd⟩ := List.nodup_append.mp h
  have hB' := List.nodup_cons.mp hB
  have e1 : (A.map fun z => if z.1 = q.1 then f z else z) = A := by
    conv => rhs; rw [← List.map_id A]
    apply List.map_congr_left
    intro z hz
    rw [if_neg fun e => hd _ (List.mem_map_of_mem (f := (·.1)) hz) _ List.mem_cons_self e]; rfl
  have e2 : (B.map fun z => if z.1 = q.1 then f z else z) = B := by
    conv => rhs; rw [← List.map_id B]
    apply List.map_congr_left
    intro z hz
    rw [if_neg fun e => hB'.1 (by rw [← e]; exact List.mem_map_of_mem (f := (·.1)) hz)]; rfl
  rw [List.map_append, List.map_cons, e1, e2, if_pos rfl]

def Small (g : Gr) (b : Nat) : Prop := ∀ q ∈ g, q.2.2.length ≤ b
theorem Small.touch {g : Gr} {b : Nat} (h : Small g b) (n : Str) : Small (touch g n) b := by
  unfold Mine.touch
  split
  · exact h
  · intro q hq
    rcases List.mem_append.mp hq with hq | hq
    · exact h q hq
    · rw [List.mem_singleton.mp hq]; exact Nat.zero_le _
theorem Small.addSc {g : Gr} {b : Nat} (h : Small g b) (n m : Str) : Small (addSc g n m) (b + 1) := by
  intro q hq
  obtain ⟨z, hz, rfl⟩ := List.mem_map.mp hq
  have := h z hz
  split
  · show (z.2.2 ++ [m]).length ≤ _
    rw [List.length_append]
    exact Nat.succ_le_succ this
  · omega
theorem Small.addNp {g : Gr} {b : Nat} (h : Small g b) (n : Str) (z : Int) : Small (addNp g n z) b := by
  intro q hq
  obtain ⟨z', hz, rfl⟩ := List.mem_map.mp hq
  have := h z' hz
  split
  · exact this
  · exact this
end Mine

open PySem PySem.Calls PyProof.Rows
set_option Elab.async false
set_option linter.unusedVariables false
set_option maxRecDepth 100000
namespace Mine
namespace Dfs
/-! the search for a cycle, without the program: what is finished, the stack (its top first) with the places of its iterators -/
section
variable (sc : Str → List Str)
def Fin (F : List Str) : Prop := ∀ A n B, F = A ++ n :: B → ∀ m ∈ sc n, m ∈ A
def Ch (F : List Str) : List (Str × Nat) → Str → Prop
  | [], _ => True
  | q :: r, m => (∃ j, q.2 = j + 1 ∧ (sc q.1)[j]? = some m ∧ ∀ x ∈ (sc q.1).take j, x ∈ F) ∧ Ch F r q.1
def Op (F : List Str) : List (Str × Nat) → Prop
  | [] => True
  | q :: r => (∀ x ∈ (sc q.1).take q.2, x ∈ F) ∧ Ch sc F r q.1
inductive Reach : Nat → Str → Str → Prop
  | zero {n : Str} : Reach 0 n n
  | step {k : Nat} {n m x : Str} : m ∈ sc n → Reach k m x → Reach (k + 1) n x
end
variable {sc : Str → List Str}
theorem Reach.snoc {k : Nat} {n m x : Str} (h : Reach sc k n m) (hx : x ∈ sc m) : Reach sc (k + 1) n x := by
  induction h with
  | zero => exact .step hx .zero
  | step h _ ih => exact .step h (ih hx)
theorem Ch.mono {F F' : List Str} (hF : ∀ x ∈ F, x ∈ F') : ∀ {st : List (Str × Nat)} {m : Str}, Ch sc F st m → Ch sc F' st m
  | [], _, _ => trivial
  | _ :: _, _, ⟨⟨j, h1, h2, h3⟩, h4⟩ => ⟨⟨j, h1, h2, fun x hx => hF x (h3 x hx)⟩, Ch.mono hF h4⟩
theorem Ch.reach {F : List Str} : ∀ {st : List (Str × Nat)} {p m : Str}, Ch sc F st p → m ∈ st.map (·.1) → ∃ k, Reach sc (k + 1) m p
  | [], _, _, _, h => by simp at h
  | q :: r, p, m, ⟨⟨j, h1, h2, h3⟩, h4⟩, h => by
    have hp : p ∈ sc q.1 := List.mem_of_getElem? h2
    rcases List.mem_cons.mp h with rfl | h
    · exact ⟨0, .step hp .zero⟩
    · obtain ⟨k, hk⟩ := Ch.reach h4 h
      exact ⟨k + 1, hk.snoc hp⟩
theorem Ch.push {F : List Str} {st : List (Str × Nat)} {m : Str} (h : Ch sc F st m) : Op sc F ((m, 0) :: st) := ⟨fun x hx => by simp at hx, h⟩
theorem Ch.pass {F : List Str} {m : Str} (hm : m ∈ F) : ∀ {st : List (Str × Nat)}, Ch sc F st m → Op sc F st
  | [], _ => trivial
  | q :: r, ⟨⟨j, h1, h2, h3⟩, h4⟩ => by
    refine ⟨fun x hx => ?_, h4⟩
    rw [h1, List.take_add_one, h2] at hx
    rcases List.mem_append.mp hx with hx | hx
    · exact h3 x hx
    · simp at hx; rw [hx]; exact hm
theorem Op.read {F : List Str} {n m : Str} {i : Nat} {r : List (Str × Nat)} (h : Op sc F ((n, i) :: r)) (hm : (sc n)[i]? = some m) : Ch sc F ((n, i + 1) :: r) m := ⟨⟨i, rfl, hm, h.1⟩, h.2⟩
theorem Op.all {F : List Str} {n : Str} {i : Nat} {r : List (Str × Nat)} (h : Op sc F ((n, i) :: r)) (hm : (sc n)[i]? = none) : ∀ x ∈ sc n, x ∈ F := fun x hx =>
  h.1 x (by rw [List.take_of_length_le (List.getElem?_eq_none_iff.mp hm)]; exact hx)
theorem Op.pop {F : List Str} {n : Str} {i : Nat} {r : List (Str × Nat)} (h : Op sc F ((n, i) :: r)) : Op sc (F ++ [n]) r :=
  Ch.pass (m := n) (by simp) (h.2.mono fun x hx => List.mem_append_left _ hx)
theorem Fin.snoc {F : List Str} {n : Str} (h : Fin sc F) (hn : ∀ x ∈ sc n, x ∈ F) : Fin sc (F ++ [n]) := fun A n' B e m hm => by
  rcases List.eq_nil_or_concat B with rfl | ⟨B', b, rfl⟩
  · obtain ⟨rfl, e2⟩ := List.append_inj' e rfl
    cases e2; exact hn m hm
  · rw [List.concat_eq_append, ← List.cons_append, ← List.append_assoc] at e
    obtain ⟨e1, e2⟩ := List.append_inj' e rfl
    exact h A n' B' e1 m hm

/-! the measure -/
section
variable (sc : Str → List Str) (nodes : List Str)
def U (S : List Str) : Nat := (nodes.map fun n => if n ∈ S then 0 else (sc n).length + 1).sum
def V (st : List (Str × Nat)) : Nat := (st.map fun q => (sc q.1).length - q.2).sum
def M (F : List Str) (st : List (Str × Nat)) : Nat := U sc nodes (F ++ st.map (·.1)) + V sc st
end
theorem U_congr {nodes S S' : List Str} (h : ∀ x, x ∈ S ↔ x ∈ S') : U sc nodes S = U sc nodes S' := by
  unfold U
  congr 1
  apply List.map_congr_left
  intro x _
  by_cases hx : x ∈ S
  · rw [if_pos hx, if_pos ((h x).mp hx)]
  · rw [if_neg hx, if_neg fun e => hx ((h x).mpr e)]
theorem U_skip : ∀ {nodes S : List Str} {m : Str}, m ∉ nodes → U sc nodes (m :: S) = U sc nodes S
  | [], _, _, _ => rfl
  | a :: r, S, m, h => by
    simp only [List.mem_cons, not_or] at h
    have ih := U_skip (S := S) h.2
    unfold U at ih ⊢
    rw [List.map_cons, List.map_cons, List.sum_cons, List.sum_cons, ih]
    have : (a ∈ m :: S) ↔ a ∈ S := by
      have : ¬ a = m := fun e => h.1 e.symm
      simp [this]
    by_cases ha : a ∈ S
    · rw [if_pos ha, if_pos (this.mpr ha)]
    · rw [if_neg ha, if_neg fun h => ha (this.mp h)]
theorem U_push : ∀ {nodes S : List Str} {m : Str}, nodes.Nodup → m ∈ nodes → m ∉ S → U sc nodes (m :: S) + ((sc m).length + 1) = U sc nodes S
  | [], _, _, _, h, _ => by simp at h
  | a :: r, S, m, nd, h, hS => by
    obtain ⟨n1, n2⟩ := List.nodup_cons.mp nd
    have cons : ∀ S, U sc (a :: r) S = (if a ∈ S then 0 else (sc a).length + 1) + U sc r S := fun S => by unfold U; simp
    rw [cons, cons]
    by_cases e : a = m
    · subst e
      rw [U_skip n1, if_pos (by simp), if_neg hS]; omega
    · have hr : m ∈ r := by
        rcases List.mem_cons.mp h with h | h
        · exact absurd h.symm e
        · exact h
      have ih := U_push n2 hr hS
      have : (a ∈ m :: S) ↔ a ∈ S := by simp [e]
      by_cases ha : a ∈ S
      · rw [if_pos ha, if_pos (this.mpr ha)]; omega
      · rw [if_neg ha, if_neg fun h => ha (this.mp h)]; omega
theorem M_push {nodes F : List Str} {st : List (Str × Nat)} {m : Str} (nd : nodes.Nodup) (hm : m ∈ nodes) (hS : m ∉ F ++ st.map (·.1)) : M sc nodes F ((m, 0) :: st) + 1 = M sc nodes F st := by
  have h := U_push (sc := sc) nd hm hS
  have e : U sc nodes (F ++ ((m, 0) :: st).map (·.1)) = U sc nodes (m :: (F ++ st.map (·.1))) := U_congr fun x => by simp only [List.map_cons, List.mem_append, List.mem_cons]; constructor <;> (intro h; rcases h with h | h | h <;> simp [h])
  have v : V sc ((m, 0) :: st) = (sc m).length + V sc st := by unfold V; simp
  unfold M
  rw [e, v]; omega
theorem M_read {nodes F : List Str} {r : List (Str × Nat)} {n : Str} {i : Nat} (hi : i < (sc n).length) : M sc nodes F ((n, i + 1) :: r) + 1 = M sc nodes F ((n, i) :: r) := by
  unfold M
  simp only [List.map_cons]
  have v : ∀ i, V sc ((n, i) :: r) = ((sc n).length - i) + V sc r := fun i => by unfold V; simp
  rw [v, v]; omega
theorem M_pop {nodes F : List Str} {r : List (Str × Nat)} {n : Str} {i : Nat} (hi : (sc n)[i]? = none) : M sc nodes (F ++ [n]) r = M sc nodes F ((n, i) :: r) := by
  have hi' := List.getElem?_eq_none_iff.mp hi
  unfold M
  have v : V sc ((n, i) :: r) = ((sc n).length - i) + V sc r := by unfold V; simp
  rw [v, show (sc n).length - i = 0 by omega, Nat.zero_add]
  congr 1
  exact U_congr fun x => by simp [List.mem_append]; 

/-! the two places of the loop -/
structure HS (sc : Str → List Str) (nodes : List Str) (s : Str) (F : List Str) (st : List (Str × Nat)) (node : Str) : Prop where
  nd : (F ++ st.map (·.1)).Nodup
  sub : ∀ x ∈ F ++ st.map (·.1), x ∈ nodes
  fin : Fin sc F
  ch : Ch sc F st node
  nin : node ∈ nodes
  start : (st = [] ∧ node = s ∧ s ∉ F) ∨ s ∈ F ++ st.map (·.1)
structure OS (sc : Str → List Str) (nodes : List Str) (s : Str) (F : List Str) (st : List (Str × Nat)) : Prop where
  nd : (F ++ st.map (·.1)).Nodup
  sub : ∀ x ∈ F ++ st.map (·.1), x ∈ nodes
  fin : Fin sc F
  op : Op sc F st
  start : s ∈ F ++ st.map (·.1)
variable {nodes F : List Str} {st r : List (Str × Nat)} {s node : Str}
theorem HS.push (h : HS sc nodes s F st node) (hn : node ∉ F ++ st.map (·.1)) : OS sc nodes s F ((node, 0) :: st) := by
  have hp : (F ++ ((node, 0) :: st).map (·.1)).Perm (node :: (F ++ st.map (·.1))) := by simp only [List.map_cons]; exact List.perm_middle
  refine ⟨hp.nodup_iff.mpr (List.nodup_cons.mpr ⟨hn, h.nd⟩), fun x hx => ?_, h.fin, h.ch.push, hp.mem_iff.mpr ?_⟩
  · rcases List.mem_cons.mp (hp.mem_iff.mp hx) with rfl | hx
    · exact h.nin
    · exact h.sub x hx
  · rcases h.start with ⟨_, e, _⟩ | h
    · rw [e]; exact List.mem_cons_self
    · exact List.mem_cons_of_mem _ h
theorem HS.pass (h : HS sc nodes s F st node) (hn : node ∈ F) : OS sc nodes s F st :=
  ⟨h.nd, h.sub, h.fin, h.ch.pass hn, h.start.elim (fun e => absurd (e.2.1 ▸ hn) e.2.2) id⟩
theorem HS.cyc (h : HS sc nodes s F st node) (hn : node ∈ st.map (·.1)) : ∃ n k, n ∈ nodes ∧ Reach sc (k + 1) n n := by
  obtain ⟨k, hk⟩ := h.ch.reach hn
  exact ⟨node, k, h.nin, hk⟩
theorem OS.read {n m : Str} {i : Nat} (h : OS sc nodes s F ((n, i) :: r)) (hm : (sc n)[i]? = some m) (hc : ∀ n ∈ nodes, ∀ m ∈ sc n, m ∈ nodes) : HS sc nodes s F ((n, i + 1) :: r) m :=
  ⟨h.nd, h.sub, h.fin, h.op.read hm, hc n (h.sub n (by simp)) m (List.mem_of_getElem? hm), .inr h.start⟩
theorem OS.pop {n : Str} {i : Nat} (h : OS sc nodes s F ((n, i) :: r)) (hm : (sc n)[i]? = none) : OS sc nodes s (F ++ [n]) r := by
  have e : F ++ [n] ++ r.map (·.1) = F ++ ((n, i) :: r).map (·.1) := by simp
  exact ⟨by rw [e]; exact h.nd, by rw [e]; exact h.sub, h.fin.snoc (h.op.all hm), h.op.pop, by rw [e]; exact h.start⟩
theorem OS.stop (h : OS sc nodes s F []) : s ∈ F := by simpa using h.start
theorem HS.first (nd : F.Nodup) (sub : ∀ x ∈ F, x ∈ nodes) (fin : Fin sc F) (hs : s ∈ nodes) (hF : s ∉ F) : HS sc nodes s F [] s := ⟨by simpa using nd, by simpa using sub, fin, trivial, hs, .inl ⟨rfl, rfl, hF⟩⟩
end Dfs
end Mine

open PySem PySem.Calls PyProof.Rows
set_option Elab.async false
set_option linter.unusedVariables false
set_option maxRecDepth 100000
namespace Mine
section
variable {C : Cx} {A : Around} {L : Addr} {α β : Type} {p : Pt} {env : Env}
/-- an expression whose value falls -/
theorem X_ExprA {e : Expr} {pos : Pos} {Q : Flow → Pt → Prop} (h : Run C A L (eval e env) p fun v p₁ => Q .next p₁)
    (hi : interactive env = false := by rfl) (hs : swapsWith e none pos.line env = Pure.pure false := by rfl) : Run C A L (exec (.Expr e pos) env) p Q :=
  Run.of_eq (exec_Expr _ _ _ hi hs) (.bind (.standAt (.bind (h.mono fun v p₁ h₁ => .of fun s S T => wpAny_dropValue ⟨p₁, S, .refl, h₁⟩))))
theorem E_partNone {Q : Value → Pt → Prop} (h : Q .none p) : Run C A L (evalPart none env) p Q := Run.pure h
theorem E_partSome {e : Expr} {Q : Value → Pt → Prop} (h : Run C A L (eval e env) p Q) : Run C A L (evalPart (some e) env) p Q := h
theorem HasTy.kv {d : Addr} {kvs : List (Str × Value)} (x : (d, kvC C kvs) ∈ p.N) : HasTy C L p (.ref d) "dict" := fun s S => (kv_of x S).typeIs
end
/-- what is owned may be forgotten -/
theorem CallRun.dropS {C : Cx} {A : Around} {f : Addr} {vs : List Value} {G : Addr → Option Obj} {N : List (Addr × Cell)} {k : Nat} {Q : Value → (Addr → Option Obj) → List (Addr × Cell) → Nat → Prop}
    (h : CallRun C A f vs G N k fun v G' N' k' => ∃ N'', N''.Sublist N' ∧ (∀ b ∈ dom N, b ∈ dom N'' ∨ G' b ≠ none) ∧ Q v G' N'' k') : CallRun C A f vs G N k Q := fun s S T =>
  codeAny_mono (h s S T) fun r s' hr => by
    obtain ⟨v, G', N', k', e, S', x, N'', h1, h3, q⟩ := hr
    exact ⟨v, G', N'', k', e, S'.sub (fun q hq => h1.subset hq) (List.Nodup.sublist (List.Sublist.map (fun q : Addr × Cell => q.1) h1) S'.nd), ⟨x.keep, x.grow, fun b hb => x.fresh b (hb.imp id fun hb => by
      obtain ⟨q, hq, rfl⟩ := List.mem_map.mp hb
      exact List.mem_map_of_mem (f := (·.1)) (h1.subset hq)), h3, x.gens, x.os, x.km, x.kk⟩, q⟩
/-- the frames above, at once -/
theorem Outer.mono {l : List Env} {N N' : List (Addr × Cell)} (O : Outer l N) (h : ∀ q ∈ N, q ∈ N') : Outer l N' := fun en hen => let ⟨h1, L', m', h2, h3⟩ := O en hen; ⟨h1, L', m', h2, h _ h3⟩
theorem stopIter_exc : isSubtype (.type "StopIteration") (.type "BaseException") = Pure.pure true := by kernel_rfl
theorem stopIter_nt : isSubtype (.type ((Manifest.find? "StopIteration").elim "type" fun x => x.metatype)) (.type "tuple") = Pure.pure false := by kernel_rfl
theorem stopIter_self : isSubtype (.type "StopIteration") (.type "StopIteration") = Pure.pure true := by kernel_rfl
/-! the dict of places -/
theorem stored_new {kvs : List (Str × Value)} {k : Str} {v : Value} (h : k ∉ kvs.map (·.1)) : stored kvs k v = kvs ++ [(k, v)] := by
  unfold stored
  rw [if_neg]
  simp only [List.any_eq_true, decide_eq_true_eq, not_exists, not_and]
  exact fun q hq e => h (e ▸ List.mem_map_of_mem (f := (·.1)) hq)
theorem without_last {kvs : List (Str × Value)} {k : Str} {v : Value} (h : k ∉ kvs.map (·.1)) : without (kvs ++ [(k, v)]) k = kvs := by
  have := without_of_not_mem kvs k h
  unfold without at this ⊢
  rw [List.filter_append, this]; simp
theorem valueAt_mem {kvs : List (Str × Value)} {k : Str} : (valueAt kvs k).isSome = decide (k ∈ kvs.map (·.1)) := by
  unfold valueAt
  rw [Option.isSome_map]
  by_cases h : k ∈ kvs.map (·.1)
  · rw [decide_eq_true h, List.find?_isSome]
    obtain ⟨q, hq, e⟩ := List.mem_map.mp h
    exact ⟨q, hq, by simpa using e⟩
  · rw [decide_eq_false h, Bool.eq_false_iff]
    intro hs
    rw [List.find?_isSome] at hs
    obtain ⟨q, hq, e⟩ := hs
    exact h (by simp only [decide_eq_true_eq] at e; exact e ▸ List.mem_map_of_mem (f := (·.1)) hq)
theorem valueAt_last {kvs : List (Str × Value)} {k : Str} {v : Value} (h : k ∉ kvs.map (·.1)) : valueAt (kvs ++ [(k, v)]) k = some v := by
  unfold valueAt
  rw [List.find?_append]
  have : kvs.find? (fun kv => decide (kv.1 = k)) = none := List.find?_eq_none.mpr fun q hq => by
    simp only [decide_eq_true_eq]; exact fun e => h (e ▸ List.mem_map_of_mem (f := (·.1)) hq)
  rw [this]; simp
/-! places in a row -/
section
variable {α : Type} {a b c d e f g h i j : α} {r : List α}
theorem at0 : a ∈ a :: r := .head _
theorem at1 : b ∈ a :: b :: r := .tail _ (.head _)
theorem at2 : c ∈ a :: b :: c :: r := .tail _ at1
theorem at3 : d ∈ a :: b :: c :: d :: r := .tail _ at2
theorem at4 : e ∈ a :: b :: c :: d :: e :: r := .tail _ at3
theorem at5 : f ∈ a :: b :: c :: d :: e :: f :: r := .tail _ at4
theorem at6 : g ∈ a :: b :: c :: d :: e :: f :: g :: r := .tail _ at5
theorem at7 : h ∈ a :: b :: c :: d :: e :: f :: g :: h :: r := .tail _ at6
theorem at8 : i ∈ a :: b :: c :: d :: e :: f :: g :: h :: i :: r := .tail _ at7
theorem at9 : j ∈ a :: b :: c :: d :: e :: f :: g :: h :: i :: j :: r := .tail _ at8
end
end Mine

open PySem PySem.Calls PyProof.Rows
set_option Elab.async false
set_option linter.unusedVariables false
set_option maxRecDepth 100000
namespace Mine
section
variable {C : Cx} {A : Around} {L : Addr} {α β : Type} {p : Pt} {env : Env}
theorem Ext0.permR {Lk : Addr → Prop} {G G' : Addr → Option Obj} {N N' N₁ : List (Addr × Cell)} {k k' : Nat} {s s' : Shared} (x : Ext0 Lk G N k s G' N' k' s') (hp : N'.Perm N₁) : Ext0 Lk G N k s G' N₁ k' s' := by
  have hd : (dom N').Perm (dom N₁) := by unfold dom; exact hp.map _
  exact ⟨x.keep, x.grow, fun b hb => x.fresh b (hb.imp id fun h => hd.mem_iff.mpr h), fun b hb => (x.noleak b hb).imp (fun h => hd.mem_iff.mp h) id, x.gens, x.os, x.km, x.kk⟩
theorem Ext0.permL {Lk : Addr → Prop} {G G' : Addr → Option Obj} {N N' N₁ : List (Addr × Cell)} {k k' : Nat} {s s' : Shared} (x : Ext0 Lk G N₁ k s G' N' k' s') (hp : N.Perm N₁) : Ext0 Lk G N k s G' N' k' s' := by
  have hd : (dom N).Perm (dom N₁) := by unfold dom; exact hp.map _
  exact ⟨fun b o h1 h2 h3 => x.keep b o h1 h2 fun h => h3 (hd.mem_iff.mpr h), x.grow, fun b hb => (x.fresh b hb).imp id fun h => h.imp (fun h => hd.mem_iff.mpr h) id, fun b hb => x.noleak b (hd.mem_iff.mp hb), x.gens, x.os, x.km, x.kk⟩
theorem CallRun.perm {f : Addr} {vs : List Value} {G : Addr → Option Obj} {N N₁ : List (Addr × Cell)} {k : Nat} {Q : CQ} (hp : N.Perm N₁) (h : CallRun C A f vs G N₁ k fun v G' N' k' => ∃ N₂, N'.Perm N₂ ∧ Q v G' N₂ k') : CallRun C A f vs G N k Q := fun s S T =>
  codeAny_mono (h s (S.perm hp) T) fun r s' hr => by
    obtain ⟨v, G', N', k', e, S', x, N₂, hp₂, q⟩ := hr
    exact ⟨v, G', N₂, k', e, S'.perm hp₂, (x.permR hp₂).permL hp, q⟩
theorem CallX.perm {f : Addr} {vs : List Value} {G : Addr → Option Obj} {N N₁ : List (Addr × Cell)} {k : Nat} {Q E : CQ} (hp : N.Perm N₁) (h : CallX C A f vs G N₁ k (fun v G' N' k' => ∃ N₂, N'.Perm N₂ ∧ Q v G' N₂ k') fun v G' N' k' => ∃ N₂, N'.Perm N₂ ∧ E v G' N₂ k') : CallX C A f vs G N k Q E := fun s S T =>
  codeAny_mono (h s (S.perm hp) T) fun r s' hr0 => by
    obtain ⟨v, G', N', k', S', x, hr⟩ := hr0
    rcases hr with ⟨e, N₂, hp₂, q⟩ | ⟨e, N₂, hp₂, q⟩
    · exact ⟨v, G', N₂, k', S'.perm hp₂, (x.permR hp₂).permL hp, .inl ⟨e, q⟩⟩
    · exact ⟨v, G', N₂, k', S'.perm hp₂, (x.permR hp₂).permL hp, .inr ⟨e, q⟩⟩
theorem CallX.mono {f : Addr} {vs : List Value} {G : Addr → Option Obj} {N : List (Addr × Cell)} {k : Nat} {Q Q' E E' : CQ} (h : CallX C A f vs G N k Q E) (hq : ∀ v G' N' k', Q v G' N' k' → Q' v G' N' k') (he : ∀ v G' N' k', E v G' N' k' → E' v G' N' k') : CallX C A f vs G N k Q' E' := fun s S T =>
  codeAny_mono (h s S T) fun r s' hr0 => by
    obtain ⟨v, G', N', k', S', x, hr⟩ := hr0
    exact ⟨v, G', N', k', S', x, hr.imp (fun h => ⟨h.1, hq _ _ _ _ h.2⟩) fun h => ⟨h.1, he _ _ _ _ h.2⟩⟩
/-- a lent frame, the rest in any order -/
theorem R_callLP {f : Addr} {vs : List Value} {Nc Nr : List (Addr × Cell)} {Q : Value → Pt → Prop} (hp : p.N.Perm (Nc ++ Nr))
    (h : CallRun C A f vs p.G ((L, frameC p.m) :: Nc) p.k fun v G' N' k' => ∃ N'', N'.Perm ((L, frameC p.m) :: N'') ∧ Q v { p with G := G', N := N'' ++ Nr, k := k' }) : Run C A L (PySem.call (.ref f) vs) p Q :=
  R_callL hp (CallRun.perm (.refl _) (h.mono fun v G' N' k' ⟨N'', hN, q⟩ => ⟨_, hN, N'', rfl, q⟩))
/-! a call that may raise, in an expression -/
theorem RE_chain {t : Sem α} {k : α → Sem β} {P : α → Shared → Prop} {Q : β → Pt → Prop} {E : Value → Pt → Prop} {s : Shared} (S : Sat C.B L p s.heap) (T : TokOk p.k s) (h : Run C A L t p fun a p₁ => (∀ s₁, Sat C.B L p₁ s₁.heap → P a s₁) ∧ RunE C A L (k a) p₁ Q E) :
    wpAny (model C.prog C.w) A t (fun a s₁ => P a s₁ ∧ wpAny (model C.prog C.w) A (k a) (Post C L p s Q) (Post C L p s E) s₁) (Post C L p s E) s :=
  wpAny_mono (wpAny_toks (h.go s S T)) (fun a s₁ ⟨t₁, p₁, S₁, x₁, h1, h2⟩ => ⟨h1 s₁ S₁, RunE.after S T S₁ x₁ t₁ h2⟩) fun _ _ e => e.2.elim
theorem RE_callF {f : Addr} {o : Obj} {fd : FuncData} {first : List Value} {args : List (Bool × Sem Value)} {pos : Pos} {Q : Value → Pt → Prop} {E : Value → Pt → Prop} (ho : C.B.get? f = some o) (hd : o.data = .func fd) (hp : args.any (·.1) = false)
    (h : Run C A L (spliced args) p fun vs p₁ => RunE C A L (PySem.call (.ref f) (first ++ vs)) p₁ Q E) : RunE C A L (callWith pos (.ref f) first args []) p Q E := .of fun s S T => by
  refine callWith_function (o := o) (fd := fd) (wpAny_mono (RE_chain (P := fun a s₁ => (s₁.heap.get? f = some o ∧ o.data = .func fd) ∧ a.kw = []) (k := fun a => PySem.call (.ref f) (first ++ a.pos)) S T
    (R_evalArgs hp (h.mono fun vs p₁ h₁ => ⟨fun s₁ S₁ => ⟨⟨S₁.s0.base _ _ ho, hd⟩, rfl⟩, h₁⟩))) (fun a s₁ h₁ => ⟨h₁.1.1, ?_⟩) fun _ _ e => e)
  rw [h₁.1.2]; exact h₁.2
theorem E_methFX {f : Addr} {of : Obj} {fd : FuncData} {o : Expr} {name : Str} {apos pos : Pos} {args : List Expr} {Q : Value → Pt → Prop} {E : Value → Pt → Prop} {pl : Sem Bool} (ho : C.B.get? f = some of) (hd : of.data = .func fd)
    (h : Run C A L (eval o env) p fun ov p₁ => Run C A L (getMethod ov name pl) p₁ fun fx p₂ => fx.1 = .ref f ∧ Run C A L (spliced (backTo pos (starEach args env))) p₂ fun vs p₃ => RunE C A L (PySem.call (.ref f) (fx.2 ++ vs)) p₃ Q E)
    (hp : (args.all fun e => !PySem.W.isStarred e) = true := by rfl)
    (he : eval (.Call (.Attribute o name apos) args [] pos) env = (do
      let ov ← eval o env
      PySem.standAt apos.atName
      let (f, first) ← PySem.holding [ov] (getMethod ov name pl)
      callWith pos f first (backTo pos (starEach args env)) (backToKw pos (keywordEach [] env))) := by rfl) :
    RunE C A L (eval (.Call (.Attribute o name apos) args [] pos) env) p Q E := by
  refine RunE.of_eq he (.bind (h.toE.mono (fun ov p₁ h₁ => .bind (.standAt (.bind (.holding (h₁.toE.mono (fun fx p₂ ⟨hf, h₂⟩ => ?_) fun _ _ z => z)))) ) fun _ _ z => z))
  obtain ⟨g, first⟩ := fx
  dsimp only at hf h₂ ⊢
  subst hf
  exact RE_callF ho hd (plainTrees hp) h₂
end
theorem CallX.go {C : Cx} {A : Around} {gl bl : List (Str × Value)} {f : Addr} {o : Obj} {fd : FuncData} {body : List Stmt} {vs : List Value} {binds : List (Str × Value)} {G : Addr → Option Obj} {N : List (Addr × Cell)} (m₀ : List (Str × Option Value)) {k : Nat} {outer : List Env}
    {Q E : CQ} {d : Nat} (K : Base C gl bl) (hr : Room A (d + 1)) (hA : A.frames = some outer) (ho : C.B.get? f = some o) (hdata : o.data = .func fd) (hcd : C.B.CodeRec fd.code fd.qualname)
    (hbind : Binds C fd vs binds) (h : ∀ L, Room (A.deeper (callEnv fd L f)) d → RunE C (A.deeper (callEnv fd L f)) L (execs body (callEnv fd L f)) ⟨G, m₀, N, k⟩ (fun fl p' => Q (retOf fl) p'.G p'.N p'.k) (Leaves outer E))
    (hm : m₀ = (m₀.map (·.1)).map fun x => (x, binds.reverse.lookup x) := by rfl) (hok : okB m₀ binds fd.scope.names = true := by rfl)
    (hbody : fd.body = .stmts body := by rfl) (hcell : ∀ x ∈ fd.scope.names, x.2 ≠ .cell := by decide)
    (hco : fd.scope.isCoroutine = false := by rfl) (hgen : fd.scope.isGenerator = false := by rfl) (hk : fd.scope.kind = .function := by rfl) : CallX C A f vs G N k Q E :=
  CallX.body K hr hA ho hdata hcd hbind hm (okB.split hok).1 (okB.split hok).2.1 hbody hcell (okB.split hok).2.2 h hco hgen hk
/-! what a comprehension made -/
theorem Made.vals {R : Nat → Value → (Addr → Option Obj) → Nat → Prop} {val : Nat → Option Value} {G : Addr → Option Obj} {k : Nat} (hR : ∀ a y, R a y G k → val a = some y) : ∀ {idx : List Nat} {ys : List Value}, Made R idx ys G k → ys = idx.filterMap val
  | [], [], _ => rfl
  | [], _ :: _, h => by have := h.1; simp at this
  | _ :: _, [], h => by have := h.1; simp at this
  | a :: idx, y :: ys, h => by
    have e := hR a y (h.2 0 a y rfl rfl)
    have ih := Made.vals hR (idx := idx) (ys := ys) ⟨by have := h.1; simpa using this, fun j b z hb hz => h.2 (j + 1) b z (by simpa using hb) (by simpa using hz)⟩
    rw [List.filterMap_cons, e, ← ih]
theorem range_sel {α : Type} (f : α → Bool) : ∀ (l : List α), ((List.range l.length).filter fun a => (l[a]?.map f).getD false).filterMap (fun a => l[a]?) = l.filter f
  | [] => rfl
  | x :: l => by
    have ih := range_sel f l
    rw [List.length_cons, List.range_succ_eq_map, List.filter_cons]
    have e : (((List.range l.length).map Nat.succ).filter fun a => ((x :: l)[a]?.map f).getD false).filterMap (fun a => (x :: l)[a]?) = l.filter f := by
      rw [List.filter_map, List.filterMap_map]
      exact ih
    cases hx : f x with
    | true => simp only [List.getElem?_cons_zero, Option.map_some, Option.getD_some, hx, if_true, List.filterMap_cons, List.filter_cons]; rw [e]
    | false => simp only [List.getElem?_cons_zero, Option.map_some, Option.getD_some, hx, Bool.false_eq_true, if_false, List.filter_cons]; rw [e]
end Mine

open PySem PySem.Calls PyProof.Rows
set_option Elab.async false
set_option linter.unusedVariables false
set_option maxRecDepth 100000
namespace Mine
/-! comprehensions with two fors -/
section
variable {C : Cx} {A : Around} {L : Addr} {α β : Type} {p : Pt} {env : Env}
/-- inside a comprehension: the frame Cc, the list D so far, what is hidden besides -/
structure CSt (C : Cx) (Cc D : Addr) (W : List Addr) (p₀ : Pt) (s₁ : Shared) (ys : List Value) (p : Pt) (s : Shared) : Prop where
  S : Sat C.B Cc p s.heap
  x : Ext Cc p₀ s₁ p s
  t : s₁.toks ≤ s.toks
  H : Hid C.B Cc (D :: W) p s.heap
  l : s.heap.PlainList D ys.toArray
/-- what stands fast: the start -/
structure CIn (C : Cx) (Cc D : Addr) (p₀ : Pt) (s₁ : Shared) : Prop where
  S₁ : Sat0 C.B p₀.G p₀.N s₁.heap
  T₁ : TokOk p₀.k s₁
  hC : s₁.heap.get? Cc = none
  hD : s₁.heap.get? D = none
variable {Cc D : Addr} {W : List Addr} {p₀ : Pt} {s₁ : Shared}
theorem CSt.tok {ys : List Value} {s : Shared} (I : CIn C Cc D p₀ s₁) (c : CSt C Cc D W p₀ s₁ ys p s) : TokOk p.k s := I.T₁.next c.x c.t
/-- what was not there at the start is not there later if it is not there now -/
theorem CIn.back {s : Shared} (I : CIn C Cc D p₀ s₁) {ys : List Value} (c : CSt C Cc D W p₀ s₁ ys p s) {b : Addr} (hb : s.heap.get? b = none) : s₁.heap.get? b = none := by
  cases e : s₁.heap.get? b with
  | none => rfl
  | some o =>
    have hne : ¬ b = Cc := fun h => by rw [h, I.hC] at e; cases e
    by_cases h2 : b ∈ dom p₀.N
    · rcases c.x.noleak b h2 with h3 | h3
      · obtain ⟨q, hq, rfl⟩ := List.mem_map.mp h3
        obtain ⟨o', ho', _⟩ := c.S.s0.own q hq
        rw [ho'] at hb; cases hb
      · cases hg : p.G b with
        | none => exact absurd hg h3
        | some o' => rw [c.S.s0.gs b o' hg] at hb; cases hb
    · rw [c.x.keep b o e hne h2] at hb; cases hb
theorem CIn.tr {s s' : Shared} {p' : Pt} {ys : List Value} (I : CIn C Cc D p₀ s₁) (c : CSt C Cc D W p₀ s₁ ys p s) (y : Ext Cc p s p' s') (t : s.toks ≤ s'.toks) : Ext Cc p₀ s₁ p' s' :=
  Ext0.trans I.S₁ c.S.s0 (fun b hb h => absurd (by rw [hb]; exact I.hC) h) c.x y t
/-- hidden objects and frozen ones stand -/
def Kept (W : List Addr) (G : Addr → Option Obj) (s s' : Shared) : Prop := (∀ b ∈ W, ∀ o, s.heap.get? b = some o → s'.heap.get? b = some o) ∧ ∀ b o, G b = some o → s'.heap.get? b = some o
theorem CSt.post {t : Sem α} {ys : List Value} {s : Shared} {Q : α → Pt → Prop} (I : CIn C Cc D p₀ s₁) (c : CSt C Cc D W p₀ s₁ ys p s) (h : wpAny (model C.prog C.w) A t (Post C Cc p s Q) (fun _ _ => False) s) :
    wpAny (model C.prog C.w) A t (fun a s' => ∃ p', CSt C Cc D W p₀ s₁ ys p' s' ∧ Kept W p.G s s' ∧ (∀ b o, p.G b = some o → p'.G b = some o) ∧ Q a p') (fun _ _ => False) s := by
  refine wpAny_mono (wpAny_toks h) (fun a s' ⟨t', p', S', y, q⟩ => ?_) fun _ _ e => e.2
  obtain ⟨H', hk⟩ := Hid.step c.H y
  exact ⟨p', ⟨S', I.tr c y t', Nat.le_trans c.t t', H', c.l.at fun o e => hk D List.mem_cons_self o e⟩, ⟨fun b hb o e => hk b (List.mem_cons_of_mem _ hb) o e, fun b o e => S'.s0.gs b o (y.grow b o e)⟩, y.grow, q⟩
theorem CSt.run {t : Sem α} {ys : List Value} {s : Shared} {Q : α → Pt → Prop} (I : CIn C Cc D p₀ s₁) (c : CSt C Cc D W p₀ s₁ ys p s) (h : Run C A Cc t p Q) :
    wpAny (model C.prog C.w) A t (fun a s' => ∃ p', CSt C Cc D W p₀ s₁ ys p' s' ∧ Kept W p.G s s' ∧ (∀ b o, p.G b = some o → p'.G b = some o) ∧ Q a p') (fun _ _ => False) s :=
  c.post I (h.go s c.S (c.tok I))
/-- a change to what is hidden -/
theorem CSt.hid {ys ys' : List Value} {s : Shared} {h' : Heap} {tk : Nat} (I : CIn C Cc D p₀ s₁) (c : CSt C Cc D W p₀ s₁ ys p s) (hk : ∀ b o, b ∉ D :: W → s.heap.get? b = some o → h'.get? b = some o) (ha : ∀ b ∈ D :: W, h'.get? b ≠ none) (hl : h'.PlainList D ys'.toArray) (ht : s.toks ≤ tk)
    (hW : ∀ b ∈ D :: W, s₁.heap.get? b = none) : CSt C Cc D W p₀ s₁ ys' p { s with heap := h', toks := tk } :=
  ⟨c.S.hid c.H hk, c.x.hid hW ht hk, Nat.le_trans c.t ht, c.H.only ha, hl⟩
theorem CSt.weak {W' : List Addr} {ys : List Value} {s : Shared} (c : CSt C Cc D W p₀ s₁ ys p s) (h : ∀ b ∈ W', b ∈ W) : CSt C Cc D W' p₀ s₁ ys p s :=
  ⟨c.S, c.x, c.t, fun b hb => c.H b (by rcases List.mem_cons.mp hb with e | hb; exact e ▸ List.mem_cons_self; exact List.mem_cons_of_mem _ (h b hb)), c.l⟩
theorem Kept.trans {W : List Addr} {G G' : Addr → Option Obj} {s s' s'' : Shared} (a : Kept W G s s') (b : Kept W G' s' s'') (hG : ∀ b o, G b = some o → G' b = some o) : Kept W G s s'' := ⟨fun x hx o e => b.1 x hx o (a.1 x hx o e), fun x o e => b.2 x o (hG x o e)⟩
theorem Kept.of {W W' : List Addr} {G : Addr → Option Obj} {s s' : Shared} (a : Kept W G s s') (h : ∀ b ∈ W', b ∈ W) : Kept W' G s s' := ⟨fun x hx o e => a.1 x (h x hx) o e, a.2⟩

/-- one level's loop: emit is what a turn does behind its tests -/
theorem comp_loopG {R : Result → Shared → Prop} {elt : Expr} {gens : List Comprehension} {scope : Scope} {pos : Pos} {dep : Nat} {target iter : Expr} {ifs : List Expr} {cenv : Env} {s : Shared} {Ia : Addr} {fp wr V : List Addr} {n : Nat} {P Md : Nat → Value → Heap → Prop} {St : Nat → Heap → Prop} {emit : Sem Unit}
    (I : Nat → List Value → Pt → Prop) (Em : Nat → List Value → Pt → Prop) {pS : Pt} {yS : List Value} (N : CIn C Cc D p₀ s₁) (KT : PySem.W.KTurns C.prog C.w A target Ia fp wr n P Md St)
    (hturn : compTurn (.ListComp elt gens scope pos) dep (.ref Ia) (.ref D) cenv = (do
      PySem.standAt iter.pos
      match ← pyNext (.ref Ia) with
      | none => Pure.pure (.done .next)
      | some v =>
        letOwnedTupleGo target (.ref Ia) v
        assign target cenv v
        let mut ok := true
        for c in ifs do
          if ok then ok ← isTrue c cenv (eval c cenv)
        if ok then
          emit
        again (.compLoop (.ListComp elt gens scope pos) dep (.ref Ia) (.ref D) cenv)))
    (hW : ∀ b ∈ D :: (wr ++ V), s₁.heap.get? b = none) (hDw : D ∉ wr) (hwV : ∀ b ∈ V, b ∉ wr) (hf : ∀ b ∈ fp, b ∈ wr ∨ ∃ o, pS.G b = some o) (hal : ∀ i h, St i h → ∀ b ∈ wr, h.get? b ≠ none)
    (c₀ : CSt C Cc D (wr ++ V) p₀ s₁ yS pS s) (st0 : St 0 s.heap) (hI : I 0 yS pS)
    (step : ∀ i ys p₂, i < n → I i ys p₂ → (∀ b o, pS.G b = some o → p₂.G b = some o) → AsgRun C A Cc target cenv (P i) p₂ fun p₃ =>
      Run C A Cc (forIn ifs true fun c r => if r = true then do let ok ← isTrue c cenv (eval c cenv); Pure.pure (ForInStep.yield ok) else Pure.pure (ForInStep.yield r)) p₃ fun b p₄ =>
        if b then Em i ys p₄ else I (i + 1) ys p₄)
    (he : ∀ i ys p₄ s', i < n → Em i ys p₄ → CSt C Cc D (wr ++ V) p₀ s₁ ys p₄ s' → wpAny (model C.prog C.w) A emit (fun _ s'' => ∃ ys' p', CSt C Cc D (wr ++ V) p₀ s₁ ys' p' s'' ∧ Kept (wr ++ V) p₄.G s' s'' ∧ (∀ b o, p₄.G b = some o → p'.G b = some o) ∧ I (i + 1) ys' p') (fun _ _ => False) s')
    (fin : ∀ ys p' s', I n ys p' → (∀ b o, pS.G b = some o → p'.G b = some o) → CSt C Cc D V p₀ s₁ ys p' s' → Kept V pS.G s s' → R (.ok .next) s') :
    codeAny (model C.prog C.w) A (.compLoop (.ListComp elt gens scope pos) dep (.ref Ia) (.ref D) cenv) R s := by
  have stK : ∀ {i : Nat} {p₅ : Pt} {s₅ s₆ : Shared}, St i s₅.heap → (∀ b o, pS.G b = some o → p₅.G b = some o) → Sat C.B Cc p₅ s₅.heap → Kept (wr ++ V) p₅.G s₅ s₆ → St i s₆.heap := fun st g S₅ K =>
    KT.frame _ _ _ st fun b hb o e => by
      rcases hf b hb with hb | ⟨o', ho'⟩
      · exact K.1 b (List.mem_append_left _ hb) o e
      · have e1 := S₅.s0.gs b o' (g b o' ho')
        have e2 := K.2 b o' (g b o' ho')
        rw [e1] at e; cases e; exact e2
  have vw : ∀ b ∈ V, b ∈ wr ++ V := fun b hb => List.mem_append_right _ hb
  have Dout : ∀ {h h' : Heap} {ys : List Value}, (∀ b o, b ∉ wr → h.get? b = some o → h'.get? b = some o) → h.PlainList D ys.toArray → h'.PlainList D ys.toArray := fun hk hl => hl.at fun o e => hk D o hDw e
  have al : ∀ {i : Nat} {h h' : Heap} {p₂ : Pt} {ys : List Value}, St i h' → Hid C.B Cc (D :: (wr ++ V)) p₂ h → (∀ b o, b ∉ wr → h.get? b = some o → h'.get? b = some o) → h'.PlainList D ys.toArray → ∀ b ∈ D :: (wr ++ V), h'.get? b ≠ none := fun {i h h' p₂ ys} st H hk hl b hb => by
    rcases List.mem_cons.mp hb with e | hb'
    · obtain ⟨n, e'⟩ := hl; rw [e, e']; exact fun h => nomatch h
    · by_cases hbw : b ∈ wr
      · exact hal _ _ st b hbw
      · have := (H b hb).2.2.2.2
        cases e : h.get? b with
        | none => exact absurd e this
        | some o => rw [hk b o hbw e]; exact fun h => nomatch h
  refine codeAny_loop rfl (fun k s' => ∃ i ys p₂, St i s'.heap ∧ CSt C Cc D (wr ++ V) p₀ s₁ ys p₂ s' ∧ Kept V pS.G s s' ∧ (∀ b o, pS.G b = some o → p₂.G b = some o) ∧ I i ys p₂ ∧ i ≤ n ∧ k = n + 1 - i) (fun k s' hinv => ?_) (n + 1)
    ⟨0, yS, pS, st0, c₀, ⟨fun _ _ _ e => e, fun b o e => c₀.S.s0.gs b o e⟩, fun _ _ e => e, hI, Nat.zero_le _, rfl⟩
  obtain ⟨i, ys, p₂, st, c₂, K₂, g₂, hI₂, hi, rfl⟩ := hinv
  show wpAny _ A ((compTurn (.ListComp elt gens scope pos) dep (.ref Ia) (.ref D) cenv).onRaise (fun x => do noteFrame x cenv; theTreesLotGoes x)) _ _ s'
  refine wpAny_noted ?_
  rw [hturn]
  refine wpAny_bind (wpAny_standAt (wpAny_bind ?_))
  by_cases hlt : i < n
  · refine wpAny_with_toks (Nat.le_refl _) (KT.item i _ _ _ hlt st fun v h₄ tk₄ hMd hk₄ ht₄ => ?_)
    refine wpAny_bind (KT.go i v _ _ _ hMd fun h₅ hP st₅ hk₅ => ?_)
    have hk : ∀ b o, b ∉ wr → s'.heap.get? b = some o → h₅.get? b = some o := fun b o hb e => hk₅ b o hb (hk₄ b o hb e)
    have hl₅ := Dout hk c₂.l
    have c₅ : CSt C Cc D (wr ++ V) p₀ s₁ ys p₂ { s' with heap := h₅, toks := tk₄ } := c₂.hid N (fun b o hb e => hk b o (fun h => hb (List.mem_cons_of_mem _ (List.mem_append_left _ h))) e) (al st₅ c₂.H hk hl₅) hl₅ ht₄ hW
    have K₅ : Kept V pS.G s { s' with heap := h₅, toks := tk₄ } := ⟨fun b hb o e => hk b o (hwV b hb) (K₂.1 b hb o e), fun b o e => c₅.S.s0.gs b o (g₂ b o e)⟩
    refine wpAny_bind (wpAny_mono (c₅.post N (step i ys p₂ hlt hI₂ g₂ v { s' with heap := h₅, toks := tk₄ } hP c₅.S (c₅.tok N))) (fun _ s₆ ⟨p₆, c₆, k₆, g₆, run⟩ => ?_) fun _ _ e => e.elim)
    have st₆ := stK (s₅ := { s' with heap := h₅, toks := tk₄ }) st₅ g₂ c₅.S k₆
    have K₆ := K₅.trans (k₆.of vw) g₂
    have g₆' : ∀ b o, pS.G b = some o → p₆.G b = some o := fun b o e => g₆ b o (g₂ b o e)
    refine wpAny_bind (wpAny_mono (c₆.run N run) (fun ok s₇ ⟨p₇, c₇, k₇, g₇, q⟩ => ?_) fun _ _ e => e.elim)
    have st₇ := stK st₆ g₆' c₆.S k₇
    have K₇ := K₆.trans (k₇.of vw) g₆'
    have g₇' : ∀ b o, pS.G b = some o → p₇.G b = some o := fun b o e => g₇ b o (g₆' b o e)
    cases ok with
    | false =>
      simp only [Bool.false_eq_true, if_false] at q ⊢
      exact wpAny_pure ⟨rfl, n + 1 - (i + 1), by omega, i + 1, ys, p₇, st₇, c₇, K₇, g₇', q, hlt, rfl⟩
    | true =>
      simp only [if_true] at q ⊢
      refine wpAny_bind (wpAny_mono (he i ys p₇ s₇ hlt q c₇) (fun _ s₈ ⟨ys', p₈, c₈, k₈, g₈, q₈⟩ => ?_) fun _ _ e => e.elim)
      exact wpAny_pure ⟨rfl, n + 1 - (i + 1), by omega, i + 1, ys', p₈, stK st₇ g₇' c₇.S k₈, c₈, K₇.trans (k₈.of vw) g₇', fun b o e => g₈ b o (g₇' b o e), q₈, hlt, rfl⟩
  · have hin : i = n := by omega
    subst hin
    refine wpAny_with_toks (Nat.le_refl _) (KT.done _ _ _ st fun h₄ tk₄ hk₄ ht₄ => wpAny_pure ?_)
    have hl₄ := Dout hk₄ c₂.l
    have cV := c₂.weak (W' := V) vw
    have aV : ∀ b ∈ D :: V, h₄.get? b ≠ none := fun b hb => by
      rcases List.mem_cons.mp hb with e | hb'
      · obtain ⟨n, e'⟩ := hl₄; rw [e, e']; exact fun h => nomatch h
      · have := (cV.H b hb).2.2.2.2
        cases e : s'.heap.get? b with
        | none => exact absurd e this
        | some o => rw [hk₄ b o (hwV b hb') e]; exact fun h => nomatch h
    have aW : ∀ b o, b ∉ D :: (wr ++ V) → s'.heap.get? b = some o → h₄.get? b = some o := fun b o hb e => hk₄ b o (fun h => hb (List.mem_cons_of_mem _ (List.mem_append_left _ h))) e
    refine fin ys p₂ _ hI₂ g₂ ⟨c₂.S.hid c₂.H aW, c₂.x.hid hW ht₄ aW, Nat.le_trans c₂.t ht₄, fun b hb => ?_, hl₄⟩ ⟨fun b hb o e => hk₄ b o (hwV b hb) (K₂.1 b hb o e), fun b o e => ?_⟩
    · obtain ⟨h1, h2, h3, h4, _⟩ := cV.H b hb
      exact ⟨h1, h2, h3, h4, aV b hb⟩
    · exact (c₂.S.hid c₂.H aW).s0.gs b o (g₂ b o e)
/-- the last level's element goes to the list -/
theorem emit_last {elt : Expr} {cenv : Env} {ys : List Value} {p₄ : Pt} {s' : Shared} {I : List Value → Pt → Prop} (N : CIn C Cc D p₀ s₁) (hW : ∀ b ∈ D :: W, s₁.heap.get? b = none) (hDW : D ∉ W)
    (c : CSt C Cc D W p₀ s₁ ys p₄ s') (hz : ys.length ≤ sizeLine) (h : Run C A Cc (eval elt cenv) p₄ fun y p₅ => I (ys ++ [y]) p₅) :
    wpAny (model C.prog C.w) A (do let _ ← PySem.call (.builtin "list.append") [.ref D, ← eval elt cenv]) (fun _ s'' => ∃ ys' p', CSt C Cc D W p₀ s₁ ys' p' s'' ∧ Kept W p₄.G s' s'' ∧ (∀ b o, p₄.G b = some o → p'.G b = some o) ∧ I ys' p') (fun _ _ => False) s' := by
  refine wpAny_bind (wpAny_mono (c.run N h) (fun y s₈ ⟨p₈, c₈, k₈, g₈, q⟩ => ?_) fun _ _ e => e)
  refine wpAny_bind (wpAny_list_append_plain (hsz := by rw [List.size_toArray]; exact hz) c₈.l fun h₉ hl₉ hs₉ => wpAny_pure ?_)
  have hl' : h₉.PlainList D (ys ++ [y]).toArray := by rw [show (ys ++ [y]).toArray = ys.toArray.push y by simp]; exact hl₉
  have upD : ∀ b o, b ∉ D :: W → s₈.heap.get? b = some o → h₉.get? b = some o := fun b o hb e => hs₉.extBut b o (fun q => hb (q ▸ List.mem_cons_self)) e
  have kW : ∀ b ∈ W, ∀ o, s₈.heap.get? b = some o → h₉.get? b = some o := fun b hb o e => hs₉.extBut b o (fun q => hDW (q ▸ hb)) e
  have al : ∀ b ∈ D :: W, h₉.get? b ≠ none := fun b hb => by
    rcases List.mem_cons.mp hb with e | hb'
    · obtain ⟨n, e'⟩ := hl'; rw [e, e']; exact fun h => nomatch h
    · have := (c₈.H b hb).2.2.2.2
      cases e : s₈.heap.get? b with
      | none => exact absurd e this
      | some o => rw [kW b hb' o e]; exact fun h => nomatch h
  have c₉ := c₈.hid (tk := s₈.toks) N upD al hl' (Nat.le_refl _) hW
  exact ⟨ys ++ [y], p₈, c₉, k₈.trans (G' := p₈.G) ⟨kW, fun b o e => c₉.S.s0.gs b o e⟩ g₈, g₈, q⟩
theorem codeAny_compStart2 {R : Result → Shared → Prop} {elt : Expr} {g1 : Comprehension} {target iter : Expr} {ifs : List Expr} {scope : Scope} {pos : Pos} {it acc : Value} {cenv : Env} {s : Shared} {prog : Program} {w : World}
    (h0 : codeAny (model prog w) A (.compLoop (.ListComp elt [g1, ⟨target, iter, ifs, 0⟩] scope pos) 1 it acc cenv) R s)
    (h : wpAny (model prog w) A (pyIter it) (fun it' s' => codeAny (model prog w) A (.compLoop (.ListComp elt [g1, ⟨target, iter, ifs, 0⟩] scope pos) 1 it' acc cenv) R s') (notedBy (model prog w) A cenv fun x s' => R (.error x) s') s) :
    codeAny (model prog w) A (.compStart (.ListComp elt [g1, ⟨target, iter, ifs, 0⟩] scope pos) 1 it acc cenv) R s := by
  refine codeAny_of_tree ?_
  show wpAny _ _ ((compStart (.ListComp elt [g1, ⟨target, iter, ifs, 0⟩] scope pos) 1 it acc cenv).onRaise (fun x => do noteFrame x cenv; standAt theWindowsPlace)) _ _ s
  refine wpAny_notedAt ?_
  unfold compStart
  show wpAny _ _ (ask >>= _) _ _ s
  refine wpAny_bind (wpAny_askSetting (wpAny_ite ?_))
  split
  · first
      | exact wpAny_bind (wpAny_pure (wpAny_pure (And.intro rfl h0)))
      | exact wpAny_pure (And.intro rfl h0)
  · first
      | exact wpAny_bind (wpAny_rule (wpAny_bind (wpAny_standAt (wpAny_bind (wpAny_mono h (fun it' s' h' => wpAny_pure (And.intro rfl h')) fun _ _ x => x)))))
      | (refine wpAny_bind (wpAny_rule ?_); show wpAny _ _ (standAt iter.pos >>= _) _ _ s; exact wpAny_bind (wpAny_standAt (wpAny_bind (wpAny_mono h (fun it' s' h' => wpAny_pure (And.intro rfl h')) fun _ _ x => x))))
/-- the second for, as a turn of the first meets it -/
inductive InnerQ (C : Cx) (A : Around) (Cc : Addr) (elt t2 : Expr) (if2 : List Expr) (cenv : Env) (ys : List Value) (I : List Value → Pt → Prop) (xv : Value) (p₅ : Pt) : Prop
  | mk (n : Nat) (P : Nat → Value → Heap → Prop) (J : Nat → List Value → Pt → Prop) (it : IterOn C A Cc p₅ t2 xv n P) (hz : ∀ j zs p, J j zs p → zs.length ≤ sizeLine) (h0 : J 0 ys p₅)
      (step : ∀ j zs p₆, j < n → J j zs p₆ → (∀ b o, p₅.G b = some o → p₆.G b = some o) → AsgRun C A Cc t2 cenv (P j) p₆ fun p₇ =>
        Run C A Cc (forIn if2 true fun c r => if r = true then do let ok ← isTrue c cenv (eval c cenv); Pure.pure (ForInStep.yield ok) else Pure.pure (ForInStep.yield r)) p₇ fun b p₈ =>
          if b then Run C A Cc (eval elt cenv) p₈ (fun y p₉ => J (j + 1) (zs ++ [y]) p₉) else J (j + 1) zs p₈)
      (fin : ∀ zs p₆, J n zs p₆ → (∀ b o, p₅.G b = some o → p₆.G b = some o) → I zs p₆) : InnerQ C A Cc elt t2 if2 cenv ys I xv p₅
def InnerRun (C : Cx) (A : Around) (Cc : Addr) (elt t2 it2 : Expr) (if2 : List Expr) (cenv : Env) (ys : List Value) (p₄ : Pt) (I : List Value → Pt → Prop) : Prop :=
  Run C A Cc (eval it2 cenv) p₄ (InnerQ C A Cc elt t2 if2 cenv ys I)
theorem emit_inner {elt t2 it2 : Expr} {if2 : List Expr} {g1 : Comprehension} {scope : Scope} {pos : Pos} {cenv : Env} {ys : List Value} {p₄ : Pt} {s' : Shared} {I : List Value → Pt → Prop} (N : CIn C Cc D p₀ s₁) (hW : ∀ b ∈ D :: W, s₁.heap.get? b = none) (hDW : D ∉ W)
    (c : CSt C Cc D W p₀ s₁ ys p₄ s') (hs : ∀ x, foldedSetIterable it2 cenv x = Pure.pure x) (h : InnerRun C A Cc elt t2 it2 if2 cenv ys p₄ I) :
    wpAny (model C.prog C.w) A (do
        let x ← eval it2 cenv
        PySem.standAt it2.pos
        let x ← foldedSetIterable it2 cenv x
        let _ ← runOwn (.compStart (.ListComp elt [g1, ⟨t2, it2, if2, 0⟩] scope pos) 1 (← PySem.holding [x] (pyIter x)) (.ref D) cenv) cenv)
      (fun _ s'' => ∃ ys' p', CSt C Cc D W p₀ s₁ ys' p' s'' ∧ Kept W p₄.G s' s'' ∧ (∀ b o, p₄.G b = some o → p'.G b = some o) ∧ I ys' p') (fun _ _ => False) s' := by
  refine wpAny_bind (wpAny_mono (c.run N h) (fun xv s₅ ⟨p₅, c₅, k₅, g₅, n, P, J, it, hz, hJ0, step, fin⟩ => ?_) fun _ _ e => e)
  refine wpAny_bind (wpAny_standAt (wpAny_bind (wpAny_of_eq (hs xv) (wpAny_bind (wpAny_holding (wpAny_mono (wpAny_toks (it s₅ c₅.S (c₅.tok N))) (fun itv s₆ h₆ => ?_) fun _ _ e => e.2))))))
  obtain ⟨t₆, Ia, fp, wr, Md, St, h', tk, rfl, rfl, KT, st0, hk, hw, hf, hal, self⟩ := h₆
  have Dal : ∀ b ∈ D :: W, s₅.heap.get? b ≠ none := fun b hb => (c₅.H b hb).2.2.2.2
  have hDw : D ∉ wr := fun hb => Dal D List.mem_cons_self (hw D hb)
  have hwV : ∀ b ∈ W, b ∉ wr := fun b hb hb' => Dal b (List.mem_cons_of_mem _ hb) (hw b hb')
  have hl₆ : h'.PlainList D ys.toArray := c₅.l.at fun o e => hk D o e
  have hW' : ∀ b ∈ D :: (wr ++ W), s₁.heap.get? b = none := fun b hb => by
    rcases List.mem_cons.mp hb with e | hb
    · exact hW b (e ▸ List.mem_cons_self)
    · rcases List.mem_append.mp hb with hb | hb
      · exact N.back c₅ (hw b hb)
      · exact hW b (List.mem_cons_of_mem _ hb)
  have cA : CSt C Cc D W p₀ s₁ ys p₅ { s₅ with heap := h', toks := tk } := c₅.hid N (fun b o _ e => hk b o e) (fun b hb => by
    cases e : s₅.heap.get? b with
    | none => exact absurd e (Dal b hb)
    | some o => rw [hk b o e]; exact fun h => nomatch h) hl₆ t₆ hW
  have cB : CSt C Cc D (wr ++ W) p₀ s₁ ys p₅ { s₅ with heap := h', toks := tk } := ⟨cA.S, cA.x, cA.t, fun b hb => by
    rcases List.mem_cons.mp hb with e | hb'
    · exact cA.H b (e ▸ List.mem_cons_self)
    · rcases List.mem_append.mp hb' with hb' | hb'
      · have n5 := c₅.S.none_at (hw b hb')
        exact ⟨n5.1, n5.2.1, n5.2.2.1, n5.2.2.2, hal 0 _ st0 b hb'⟩
      · exact cA.H b (List.mem_cons_of_mem _ hb'), hl₆⟩
  have loop : codeAny (model C.prog C.w) A (.compLoop (.ListComp elt [g1, ⟨t2, it2, if2, 0⟩] scope pos) 1 (.ref Ia) (.ref D) cenv)
      (fun r s'' => match r with | .ok f => (∃ ys' p', CSt C Cc D W p₀ s₁ ys' p' s'' ∧ Kept W p₄.G s' s'' ∧ (∀ b o, p₄.G b = some o → p'.G b = some o) ∧ I ys' p') | .error e => cameBackBy (model C.prog C.w) A cenv (fun _ _ => False) e s'') { s₅ with heap := h', toks := tk } := by
    refine comp_loopG J (fun j zs p => zs.length ≤ sizeLine ∧ Run C A Cc (eval elt cenv) p fun y p₉ => J (j + 1) (zs ++ [y]) p₉) N KT (emit := do let _ ← PySem.call (.builtin "list.append") [.ref D, ← eval elt cenv]) rfl hW' hDw hwV hf hal cB st0 hJ0
      (fun j zs p₂ hj hJ g v s hP S T => wpAny_mono (step j zs p₂ hj hJ g v s hP S T) (fun _ s₂ ⟨p₃, S₃, x₃, r⟩ => ⟨p₃, S₃, x₃, r.mono fun b p₄ hb => by
        cases b with
        | false => exact hb
        | true => exact ⟨hz j zs p₂ hJ, hb⟩⟩) fun _ _ e => e)
      (fun j zs p₆ s'' hj ⟨hz', hr⟩ c' => emit_last N hW' (fun hb => (List.mem_append.mp hb).elim hDw hDW) c' hz' hr) fun zs p₆ s'' hJ g c' K => ?_
    refine ⟨zs, p₆, c', k₅.trans (G' := p₅.G) ⟨fun b hb o e => K.1 b hb o (hk b o e), fun b o e => K.2 b o e⟩ g₅, fun b o e => g b o (g₅ b o e), fin zs p₆ hJ g⟩
  refine wpAny_bind (wpAny_mono (wpAny_runOwn (Q := fun _ s'' => ∃ ys' p', CSt C Cc D W p₀ s₁ ys' p' s'' ∧ Kept W p₄.G s' s'' ∧ (∀ b o, p₄.G b = some o → p'.G b = some o) ∧ I ys' p') (E := fun _ _ => False) ?_) (fun _ _ q => wpAny_pure q) fun _ _ e => e)
  exact codeAny_compStart2 loop (self 0 { s₅ with heap := h', toks := tk } _ _ st0 loop)
theorem compTurn_two (elt target iter t2 it2 : Expr) (ifs if2 : List Expr) (scope : Scope) (pos : Pos) (it acc : Value) (env : Env) :
    compTurn (.ListComp elt [⟨target, iter, ifs, 0⟩, ⟨t2, it2, if2, 0⟩] scope pos) 0 it acc env = (do
      PySem.standAt iter.pos
      match ← pyNext it with
      | none => Pure.pure (PySem.Fin.done .next)
      | some v =>
        letOwnedTupleGo target it v
        assign target env v
        let mut ok := true
        for c in ifs do
          if ok then ok ← isTrue c env (eval c env)
        if ok then
          (do
            let x ← eval it2 env
            PySem.standAt it2.pos
            let x ← foldedSetIterable it2 env x
            let _ ← runOwn (.compStart (.ListComp elt [⟨target, iter, ifs, 0⟩, ⟨t2, it2, if2, 0⟩] scope pos) 1 (← PySem.holding [x] (pyIter x)) acc env) env)
        again (Code.compLoop (.ListComp elt [⟨target, iter, ifs, 0⟩, ⟨t2, it2, if2, 0⟩] scope pos) 0 it acc env)) := by
  show ((do
      PySem.standAt iter.pos
      match ← pyNext it with
      | none => Pure.pure (PySem.Fin.done .next)
      | some v =>
        letOwnedTupleGo target it v
        assign target env v
        let mut ok := true
        for c in ifs do
          if ok then ok ← isTrue c env (eval c env)
        if ok then
          let x ← eval it2 env
          PySem.standAt it2.pos
          let x ← foldedSetIterable it2 env x
          let _ ← runOwn (.compStart (.ListComp elt [⟨target, iter, ifs, 0⟩, ⟨t2, it2, if2, 0⟩] scope pos) 1 (← PySem.holding [x] (pyIter x)) acc env) env
        again (Code.compLoop (.ListComp elt [⟨target, iter, ifs, 0⟩, ⟨t2, it2, if2, 0⟩] scope pos) 0 it acc env)) : Sem PySem.Fin) = _
  simp only [bind_assoc, pure_bind]
end
end Mine

open PySem PySem.Calls PyProof.Rows
set_option Elab.async false
set_option linter.unusedVariables false
set_option maxRecDepth 100000
namespace Mine
section
variable {C : Cx} {A : Around} {L : Addr} {α β : Type} {p : Pt} {env : Env}
/-! lists of texts -/
theorem sv_eqAt {s : Shared} {A : Around} {ls : List (Str × Tok)} {k : Str} {t : Tok} : ∀ y, y ∈ (strValues ls).toArray → SeqAt.EqAt A s y (.str k t) (match y with | .str a _ => a == k | _ => false) := fun y hy => by
  have hy : y ∈ strValues ls := by simpa using hy
  obtain ⟨q, _, rfl⟩ := List.mem_map.mp hy
  exact SeqAt.EqAt.str_str _ _ _ _
theorem sv_any {ls : List (Str × Tok)} {k : Str} : (strValues ls).toArray.any (fun y => match y with | .str a _ => a == k | _ => false) = decide (k ∈ ls.map (·.1)) := by
  rw [List.any_toArray]
  unfold strValues
  rw [List.any_map]
  induction ls with
  | nil => rfl
  | cons q r ih =>
    rw [List.any_cons, ih, List.map_cons]
    by_cases h : q.1 = k
    · subst h; simp
    · have h2 : ¬ k = q.1 := fun e => h e.symm
      have e1 : (q.1 == k) = false := beq_eq_false_iff_ne.mpr h
      show ((q.1 == k) || _) = _
      rw [e1, Bool.false_or]
      simp only [List.mem_cons, h2, false_or]
theorem C_inSL {l : Addr} {ls : List (Str × Tok)} {k : Str} {t : Tok} {Q : Value → Pt → Prop} (hl : ListAt p.G l (strValues ls) ∨ (l, listC (strValues ls)) ∈ p.N) (h : Q (.bool (decide (k ∈ ls.map (·.1)))) p) : Run C A L (compareOp .In (.str k t) (.ref l)) p Q := .of fun s S T =>
  SeqAt.in_listAt _ (isList_of hl S) sv_eqAt (by rw [sv_any]; exact ⟨p, S, .refl, h⟩)
theorem C_notInSL {l : Addr} {ls : List (Str × Tok)} {k : Str} {t : Tok} {Q : Value → Pt → Prop} (hl : ListAt p.G l (strValues ls) ∨ (l, listC (strValues ls)) ∈ p.N) (h : Q (.bool (!decide (k ∈ ls.map (·.1)))) p) : Run C A L (compareOp .NotIn (.str k t) (.ref l)) p Q := .of fun s S T =>
  SeqAt.notIn_listAt _ (isList_of hl S) sv_eqAt (by rw [sv_any]; exact ⟨p, S, .refl, h⟩)
theorem R_indexS {l : Addr} {ls : List (Str × Tok)} {k : Str} {t : Tok} {j : Nat} {Q : Value → Pt → Prop} (hl : ListG p.G l (strValues ls) ∨ (l, listC (strValues ls)) ∈ p.N) (hz : ls.length < 2 ^ 60) (hj : (ls.map (·.1))[j]? = some k) (hno : ∀ m, m < j → (ls.map (·.1))[m]? ≠ some k) (h : ∀ tk, Q (.int j tk) p) :
    Run C A L (PySem.call (.builtin "list.index") [.ref l, .str k t]) p Q :=
  R_meets F.slot_list_index F.entry_list_index (F.args_list_index_2 _ _) (HasT.list hl) fun s S T => by
    obtain ⟨n, e⟩ : ∃ n, IsL s.heap l (strValues ls).toArray n := hl.elim (fun x => x.isL S) fun x => own_isL x S
    have hlen : (strValues ls).length = ls.length := by simp [strValues]
    have hjl : j < ls.length := by have := (List.getElem?_eq_some_iff.mp hj).1; simpa using this
    refine ⟨_, (SeqAt.list_indexAt l (strValues ls).toArray n none #[] (.str k t) (fun y => match y with | .str a _ => a == k | _ => false) j (by simp [hlen, hjl]) (by omega) ?_ ?_).inModel _ _, e, sv_eqAt, Post.same S (h _)⟩
    · rw [List.getElem?_map, List.getElem?_eq_getElem hjl] at hj
      have := Option.some.inj hj
      simp [strValues, this]
    · intro m hm hmj
      have hml : m < ls.length := by simpa [strValues] using hm
      have := hno m hmj
      rw [List.getElem?_map, List.getElem?_eq_getElem hml] at this
      have : ¬ ls[m].1 = k := fun e => this (by rw [← e]; rfl)
      simp [strValues, this]
theorem R_extendT {l b : Addr} {vs ws : List Value} {N' : List (Addr × Cell)} {Q : Value → Pt → Prop} (P : PutN p.N l (listC vs) (listC (vs ++ ws)) N') (hb : ∃ n, p.G b = some { cls := .type "tuple", dict := none, data := .seq ws.toArray n, slots := #[] }) (hz : vs.length + ws.length ≤ sizeLine) (h : Q .none { p with N := N' }) :
    Run C A L (PySem.call (.builtin "list.extend") [.ref l, .ref b]) p Q :=
  R_meets F.slot_list_extend F.entry_list_extend (F.args_list_extend_2 _ _) (HasT.list (.inr P.mem)) fun s S T => by
    obtain ⟨n, e⟩ := own_isL P.mem S
    obtain ⟨n2, e2⟩ := hb
    refine ⟨_, (AutoSeq1.list_extend_list_tuple_0 l vs.toArray n b ws.toArray n2 ?_ (by simp; omega) (by simp; omega)).inModel _ _, e, S.s0.gs _ _ e2, ?_⟩
    · simp only [Builtin.List.listTooLong, List.size_toArray]
      simp [sizeLine_eq] at hz ⊢; omega
    · refine ⟨_, S.putN P (Heap.SameBut.update ..).extBut (Heap.get?_update_self _ e rfl) ?_, Ext.putN P (Heap.SameBut.update ..).extBut, h⟩
      exact listC_map (by simp)
/-! bools, ints -/
theorem U_not {v : Value} {Q : Value → Pt → Prop} (h : Run C A L (truthy v) p fun b p₁ => Q (.bool (!b)) p₁) : Run C A L (unaryOp .Not v) p Q := .of fun s S T =>
  not_value (h.go s S T)
theorem B_mul {a b : Int} {t u : Tok} {Q : Value → Pt → Prop} (hm : IntMulOk a b) (h : ∀ tk, Q (.int (a * b) tk) p) : Run C A L (binaryOp .Mult (.int a t) (.int b u)) p Q := .of fun s S T => mul_int (Post.same S (h _)) hm
theorem R_abs {a : Int} {t : Tok} {Q : Value → Pt → Prop} (h : ∀ tk, Q (.int (if a < 0 then -a else a) tk) p) : Run C A L (PySem.call (.builtin "abs") [.int a t]) p Q := .of fun s S T => call_abs_int fun u tk => Post.same S (h u)
theorem R_divmod {a b : Int} {t u : Tok} {Q : Value → Pt → Prop} (hb : b ≠ 0) (hs : b.natAbs < 1073741824) (h : ∀ T G' t1 t2, GLe p.G G' → TupAt G' T [.int (a.fdiv b) t1, .int (a.fmod b) t2] → Q (.ref T) { p with G := G' }) : Run C A L (PySem.call (.builtin "divmod") [.int a t, .int b u]) p Q := .of fun s S T => by
  have nn := S.none_at (get_size_none s.heap)
  refine divmod_int hb ⟨_, S.pushG (o := tupO [.int (a.fdiv b) s.toks, .int (a.fmod b) (s.toks + 1)]) rfl, Ext.pushG S, h _ _ _ _ (GLe.add nn.2.1) TupAt.new⟩ (.inl (PyProof.noPylong_small hs))
/-! and, or as values -/
theorem O_last {x : Expr} {op : BoolOp} {pos : Pos} {Q : Value → Pt → Prop} (h : Run C A L (eval x env) p Q) : Run C A L (boolOp pos op [eval x env]) p Q := h
theorem O_and {x : Sem Value} {y : Sem Value} {r : List (Sem Value)} {pos : Pos} {Q : Value → Pt → Prop} (h : Run C A L x p fun v p₁ => Run C A L (truthy v) p₁ fun b p₂ => if b then Run C A L (boolOp pos .And (y :: r)) p₂ Q else Q v p₂) : Run C A L (boolOp pos .And (x :: y :: r)) p Q := by
  show Run C A L (do
    let v ← x
    PySem.standAt pos
    let t ← PySem.holding [v] (truthy v)
    match BoolOp.And, t with
    | .And, false | .Or, true => Pure.pure v
    | _, _ => boolOp pos .And (y :: r)) p Q
  refine .bind (h.mono fun v p₁ h₁ => .bind (.standAt (.bind (.holding (h₁.mono fun b p₂ h₂ => ?_)))))
  cases b with
  | true => exact h₂
  | false => exact Run.pure h₂
theorem O_or {x : Sem Value} {y : Sem Value} {r : List (Sem Value)} {pos : Pos} {Q : Value → Pt → Prop} (h : Run C A L x p fun v p₁ => Run C A L (truthy v) p₁ fun b p₂ => if b then Q v p₂ else Run C A L (boolOp pos .Or (y :: r)) p₂ Q) : Run C A L (boolOp pos .Or (x :: y :: r)) p Q := by
  show Run C A L (do
    let v ← x
    PySem.standAt pos
    let t ← PySem.holding [v] (truthy v)
    match BoolOp.Or, t with
    | .And, false | .Or, true => Pure.pure v
    | _, _ => boolOp pos .Or (y :: r)) p Q
  refine .bind (h.mono fun v p₁ h₁ => .bind (.standAt (.bind (.holding (h₁.mono fun b p₂ h₂ => ?_)))))
  cases b with
  | true => exact Run.pure h₂
  | false => exact h₂
theorem E_Bool {op : BoolOp} {vs : List Expr} {pos : Pos} {Q : Value → Pt → Prop} (h : Run C A L (boolOp pos op (evalEach vs env)) p Q) : Run C A L (eval (.BoolOp op vs pos) env) p Q := Run.of_eq (arm_eval_BoolOp ..) h
/-- a bool of a test -/
theorem O_andB {x : Sem Value} {y : Sem Value} {r : List (Sem Value)} {pos : Pos} {Q : Value → Pt → Prop} (h : Run C A L x p fun v p₁ => ∃ b, v = .bool b ∧ if b then Run C A L (boolOp pos .And (y :: r)) p₁ Q else Q (.bool false) p₁) : Run C A L (boolOp pos .And (x :: y :: r)) p Q :=
  O_and (h.mono fun v p₁ ⟨b, e, h₁⟩ => by subst e; exact truthy_bool (by cases b <;> exact h₁))
theorem O_orB {x : Sem Value} {y : Sem Value} {r : List (Sem Value)} {pos : Pos} {Q : Value → Pt → Prop} (h : Run C A L x p fun v p₁ => ∃ b, v = .bool b ∧ if b then Q (.bool true) p₁ else Run C A L (boolOp pos .Or (y :: r)) p₁ Q) : Run C A L (boolOp pos .Or (x :: y :: r)) p Q :=
  O_or (h.mono fun v p₁ ⟨b, e, h₁⟩ => by subst e; exact truthy_bool (by cases b <;> exact h₁))
/-! dicts -/
theorem R_dictGet3 {d : Addr} {es : List Ent} {k : Str} {t : Tok} {dv : Value} {Q : Value → Pt → Prop} (x : DictA C p d es) (h : Q ((dget es k).getD dv) p) : Run C A L (PySem.call (.builtin "dict.get") [.ref d, .str k t, dv]) p Q :=
  R_meets F.slot_dict_get F.entry_dict_get (F.args_dict_get_3 _ _ _) x.hasT fun s S T =>
    ⟨_, meets_dict_get_default (PySem.strKind C.prog C.w) d (PySem.strKind_is _ _ k t) x.1 dv, dget es, x.map S, Post.same S h⟩
/-! texts -/
theorem B_addSF {x y : Str} {t u : Tok} {Q : Value → Pt → Prop} (hx : x.length ≠ 0) (hy : y.length ≠ 0) (hz : x.length + y.length ≤ sizeLine) (h : ∀ tk, p.k ≤ tk → Q (.str (x ++ y) tk) { p with k := tk + 1 }) : Run C A L (binaryOp .Add (.str x t) (.str y u)) p Q := .of fun s S T => by
  refine PySem.P.add_str ?_
  rw [if_neg (by simpa using hx), if_neg (by simpa using hy)]
  exact ⟨by rw [strLen_append]; exact hz, Post.fresh S T (h _ T.le)⟩
/-- list == list, of texts -/
theorem C_eqSL {l b : Addr} {vs ws : List (Str × Tok)} {Q : Value → Pt → Prop} (hu : A.units < cLine) (hl : ListAt p.G l (strValues vs) ∨ (l, listC (strValues vs)) ∈ p.N) (hb : ListAt p.G b (strValues ws) ∨ (b, listC (strValues ws)) ∈ p.N) (h : Q (.bool (decide (vs.map (·.1) = ws.map (·.1)))) p) :
    Run C A L (compareOp .Eq (.ref l) (.ref b)) p Q := .of fun s S T => by
  have h1 := isList_of hl S
  have h2 := isList_of hb S
  have l1 : (strValues vs).toArray.size = vs.length := by simp [strValues]
  have l2 : (strValues ws).toArray.size = ws.length := by simp [strValues]
  by_cases hlen : vs.length = ws.length
  · refine SeqAt.eq_listAt (e := fun j => (vs.map (·.1))[j]? == (ws.map (·.1))[j]?) h1 h2 (by rw [l1, l2, hlen]) hu (fun j j1 j2 => ?_) ?_
    · have j1' : j < vs.length := by rw [l1] at j1; exact j1
      have j2' : j < ws.length := by rw [l2] at j2; exact j2
      have e : ((vs.map (·.1))[j]? == (ws.map (·.1))[j]?) = (vs[j].1 == ws[j].1) := by simp [j1', j2']
      rw [e]
      have a1 : (strValues vs).toArray[j] = .str vs[j].1 vs[j].2 := by simp [strValues]
      have a2 : (strValues ws).toArray[j] = .str ws[j].1 ws[j].2 := by simp [strValues]
      rw [a1, a2]
      exact SeqAt.EqAt.str_str _ _ _ _
    · have : ((List.range (strValues vs).toArray.size).all fun j => (vs.map (·.1))[j]? == (ws.map (·.1))[j]?) = decide (vs.map (·.1) = ws.map (·.1)) := by
        rw [l1, Bool.eq_iff_iff, List.all_eq_true, decide_eq_true_iff]
        constructor
        · intro hj
          apply List.ext_getElem? 
          intro i
          by_cases hi : i < vs.length
          · exact eq_of_beq (hj i (List.mem_range.mpr hi))
          · rw [List.getElem?_eq_none (by simpa using hi), List.getElem?_eq_none (by rw [List.length_map, ← hlen]; omega)]
        · intro e j _; rw [e]; exact beq_self_eq_true _
      rw [this]
      exact ⟨p, S, .refl, h⟩
  · refine SeqAt.eq_list_lengthsAt h1 h2 (by rw [l1, l2]; simpa using hlen) hu ?_
    have : decide (vs.map (·.1) = ws.map (·.1)) = false := decide_eq_false fun e => hlen (by simpa using congrArg List.length e)
    rw [this] at h
    exact ⟨p, S, .refl, h⟩
end
end Mine

open PySem PySem.Calls PyProof.Rows
set_option Elab.async false
set_option linter.unusedVariables false
set_option maxRecDepth 100000
namespace Mine
/-- a comprehension's own cells -/
def ownCells (scope : Scope) (Cc : Addr) : List (Addr × Cell) := (cellsFrom (Cc + 1) scope.names []).map fun q => (q.2, cellC none)
abbrev compEnvK (scope : Scope) (cl : List (Str × Addr)) (Cc : Addr) (env : Env) : Env := compEnvC scope (cellsFrom (Cc + 1) scope.names cl) Cc env
theorem wpAny_compEnv {M : Model} {A : Around} {E : Value → Shared → Prop} {s : Shared} {scope : Scope} {cl : List (Str × Addr)} {env : Env} {Q : Env → Shared → Prop}
    (h : Q { scope := scope, locals := s.heap.objs.size, globals := env.globals, cells := cellsFrom (s.heap.objs.size + 1) scope.names cl, qual := env.qual, func := none, code := env.code, frame := env.frame, builtins := env.builtins }
      { s with heap := pushCells (s.heap.push { cls := .type "dict", data := .dict #[] }) scope.names }) :
    wpAny M A (newFunctionEnv scope env.globals cl [] env.qual none .none (some env)) Q E s := by
  simp only [newFunctionEnv, Option.isSome_some, if_true]
  refine wpAny_bind (wpAny_alloc ?_)
  refine wpAny_bind (wpAny_layCells _ (fun name kind cells => by cases hkc : kind == NameKind.cell <;> simp [hkc]) _ _ _ _ ?_)
  rw [show ({ s with heap := s.heap.push { cls := .type "dict", data := .dict #[] } } : Shared).heap.objs.size = s.heap.objs.size + 1 from Heap.size_push ..]
  refine wpAny_bind ?_
  rw [List.forIn_nil]
  exact wpAny_pure (wpAny_pure h)
section
variable {C : Cx} {A : Around} {L : Addr} {α β : Type} {p : Pt} {env : Env}
/-- a comprehension's frame and cells are made, its loop runs -/
theorem comp_blockC {elt target iter : Expr} {ifs : List Expr} {rest : List Comprehension} {scope : Scope} {pos : Pos} {cl : List (Str × Addr)} {s₁ : Shared} {xv : Value} {n : Nat} {P : Nat → Value → Heap → Prop}
    (F : List Value → Pt → Prop) {p₁ : Pt} {mc : List (Str × Option Value)} {RR : Value → Addr → Result → Shared → Prop} (it : IterOn C A L p₁ target xv n P)
    (S₁ : Sat C.B L p₁ s₁.heap) (T₁ : TokOk p₁.k s₁) (hmc : ∀ q ∈ mc, q.2 = none) (hnd : (mc.map (·.1)).Nodup)
    (loop : ∀ (Cc D Ia : Addr) (fp wr : List Addr) (Md : Nat → Value → Heap → Prop) (St : Nat → Heap → Prop) (s₃ : Shared), CIn C Cc D { p₁ with m := mc } s₁ → PySem.W.KTurns C.prog C.w A target Ia fp wr n P Md St →
      (∀ b ∈ D :: wr, s₁.heap.get? b = none) → D ∉ wr → (∀ b ∈ fp, b ∈ wr ∨ ∃ o, p₁.G b = some o) → (∀ i h, St i h → ∀ b ∈ wr, h.get? b ≠ none) → CSt C Cc D wr { p₁ with m := mc } s₁ [] ⟨p₁.G, mc, ownCells scope Cc ++ p₁.N, p₁.k⟩ s₃ → St 0 s₃.heap →
      codeAny (model C.prog C.w) A (.compLoop (.ListComp elt (⟨target, iter, ifs, 0⟩ :: rest) scope pos) 0 (.ref Ia) (.ref D) (compEnvK scope cl Cc env))
        (fun r s' => r = .ok .next ∧ ∃ ys p', F ys p' ∧ (∀ b o, p₁.G b = some o → p'.G b = some o) ∧ CSt C Cc D [] { p₁ with m := mc } s₁ ys p' s') s₃)
    (fin : ∀ D Cc ys p₂ s', F ys p₂ → (∀ b o, p₁.G b = some o → p₂.G b = some o) → s'.heap.Ns Cc (look p₂.m) → s₁.heap.get? Cc = none → D ≠ Cc → Sat C.B L ⟨p₂.G, p₁.m, (D, listC ys) :: p₂.N, p₂.k⟩ s'.heap → Ext L p₁ s₁ ⟨p₂.G, p₁.m, (D, listC ys) :: p₂.N, p₂.k⟩ s' → s₁.toks ≤ s'.toks →
      (∀ h', Heap.SameBut Cc s'.heap h' → Sat C.B L ⟨p₂.G, p₁.m, (D, listC ys) :: p₂.N, p₂.k⟩ h' ∧ Ext L p₁ s₁ ⟨p₂.G, p₁.m, (D, listC ys) :: p₂.N, p₂.k⟩ { s' with heap := h' }) →
      (Cc ∉ dom p₂.N ∧ p₂.G Cc = none ∧ Cc ≠ L) → RR (.ref D) Cc (.ok .next) s') :
    wpAny (model C.prog C.w) A (pyIter xv) (fun it s₂ => wpAny (model C.prog C.w) A (newList []) (fun acc s₃ => wpAny (model C.prog C.w) A (newFunctionEnv scope env.globals cl [] env.qual none .none (some env)) (fun cenv s₄ =>
      codeAny (model C.prog C.w) A (.compStart (.ListComp elt (⟨target, iter, ifs, 0⟩ :: rest) scope pos) 0 it acc { cenv with scope := relabel scope env }) (RR acc cenv.locals) s₄) (fun _ _ => False) s₃) (fun _ _ => False) s₂) (fun _ _ => False) s₁ := by
  refine wpAny_mono (wpAny_toks (it s₁ S₁ T₁)) (fun itv s₂ h₂ => ?_) fun _ _ e => e.2.elim
  obtain ⟨t₂, Ia, fp, wr, Md, St, h', tk, rfl, rfl, W, st0, hk, hw, hf, hal, self⟩ := h₂
  refine wpAny_newObj_type (wpAny_compEnv ?_)
  dsimp only at t₂ ⊢
  generalize hH2 : h'.push { cls := .type "list", dict := none, data := .seq ([] : List Value).toArray } = H2
  generalize hH1 : pushCells (H2.push { cls := .type "dict", data := .dict #[] }) scope.names = h₁
  have hC : H2.objs.size = h'.objs.size + 1 := by rw [← hH2, Heap.size_push]
  have hDC : h'.objs.size ≠ H2.objs.size := by rw [hC]; exact Nat.ne_of_lt (Nat.lt_succ_self _)
  have up2 : ∀ b o, H2.get? b = some o → h₁.get? b = some o := fun b o e => hH1 ▸ pushCells_keeps _ _ _ _ (Heap.get?_push_of_some _ e)
  have old : ∀ b o, h'.get? b = some o → h₁.get? b = some o := fun b o e => up2 b o (hH2 ▸ Heap.get?_push_of_some _ e)
  have hacc : h₁.PlainList h'.objs.size #[] := ⟨0, up2 _ _ (hH2 ▸ Heap.get?_push_size _ rfl)⟩
  have hns₁ : h₁.Ns H2.objs.size (fun _ => none) := by rw [← hH1]; exact (Heap.Ns.new H2 (.type "dict")).keeps (pushCells_keeps _ _)
  have ok := cellsFrom_ok scope.names (H2.push { cls := .type "dict", data := .dict #[] }) (H2.objs.size + 1) [] ⟨fun _ _ hm => (nomatch hm), List.Pairwise.nil⟩ (by rw [Heap.size_push]; exact Nat.le_refl _)
  rw [Heap.size_push, hH1] at ok
  have st₁ : St 0 h₁ := W.frame _ _ _ st0 fun b _ o e => old b o e
  have S₂ : Sat C.B L p₁ h' := S₁.keep hk
  have freshOf : ∀ a, h'.objs.size ≤ a → s₁.heap.get? a = none := fun a ha => by
    cases e : s₁.heap.get? a with
    | none => rfl
    | some o => exact absurd (Heap.lt_size (hk a o e)) (Nat.not_lt.mpr ha)
  have hD1 := freshOf h'.objs.size (Nat.le_refl _)
  have hC1 := freshOf H2.objs.size (by rw [hC]; exact Nat.le_succ _)
  have nC := S₁.none_at hC1
  have nD := S₁.none_at hD1
  have hlive : ∀ b ∈ wr, h'.get? b ≠ none := hal 0 _ st0
  have ltw : ∀ b ∈ wr, b < h'.objs.size := fun b hb => by
    cases e : h'.get? b with
    | none => exact absurd e (hlive b hb)
    | some o => exact Heap.lt_size e
  have memO : ∀ b, b ∈ dom (ownCells scope H2.objs.size) → ∃ nm, (nm, b) ∈ cellsFrom (H2.objs.size + 1) scope.names [] := fun b hb => by
    simp only [dom, ownCells, List.map_map, List.mem_map] at hb
    obtain ⟨q, hq, rfl⟩ := hb
    exact ⟨q.1, hq⟩
  have abv : ∀ b, b ∈ dom (ownCells scope H2.objs.size) → H2.objs.size < b := fun b hb => by
    obtain ⟨nm, hn⟩ := memO b hb
    exact (ok.empty nm b hn).2
  have nn : ∀ b, b ∈ dom (ownCells scope H2.objs.size) → s₁.heap.get? b = none := fun b hb => freshOf b (by have := abv b hb; omega)
  have dapp : dom (ownCells scope H2.objs.size ++ p₁.N) = dom (ownCells scope H2.objs.size) ++ dom p₁.N := by simp [dom]
  have lookmc : look mc = fun _ => none := by funext y; rw [look_none hmc]
  have Sc : Sat C.B H2.objs.size ⟨p₁.G, mc, ownCells scope H2.objs.size ++ p₁.N, p₁.k⟩ h₁ := by
    have S2 := S₂.s0.keep old
    refine ⟨⟨S2.base, S2.gs, fun q hq => ?_, fun b hb => ?_, fun b hb => ?_, ?_⟩, by show h₁.Ns H2.objs.size (look mc); rw [lookmc]; exact hns₁, nC.1, nC.2.1, fun hm => ?_, hnd⟩
    · rcases List.mem_append.mp hq with hq | hq
      · obtain ⟨z, hz, rfl⟩ := List.mem_map.mp hq
        exact (ok.empty z.1 z.2 hz).1
      · exact S2.own q hq
    · change b ∈ dom (ownCells scope H2.objs.size ++ p₁.N) at hb
      rw [dapp] at hb
      rcases List.mem_append.mp hb with hb | hb
      · exact (S₁.none_at (nn b hb)).1
      · exact S2.nB b hb
    · change b ∈ dom (ownCells scope H2.objs.size ++ p₁.N) at hb
      rw [dapp] at hb
      rcases List.mem_append.mp hb with hb | hb
      · exact (S₁.none_at (nn b hb)).2.1
      · exact S2.nG b hb
    · show (dom (ownCells scope H2.objs.size ++ p₁.N)).Nodup
      rw [dapp]
      refine List.nodup_append.mpr ⟨?_, S2.nd, fun a ha b hb e => (S₁.none_at (nn a ha)).2.2.1 (e ▸ hb)⟩
      simp only [dom, ownCells, List.map_map]
      exact List.Pairwise.map _ (fun a b h => h) ok.apart
    · change H2.objs.size ∈ dom (ownCells scope H2.objs.size ++ p₁.N) at hm
      rw [dapp] at hm
      rcases List.mem_append.mp hm with hm | hm
      · exact Nat.lt_irrefl _ (abv _ hm)
      · exact nC.2.2.1 hm
  have N : CIn C H2.objs.size h'.objs.size { p₁ with m := mc } s₁ := ⟨S₁.s0, T₁, hC1, hD1⟩
  have DW : h'.objs.size ∉ wr := fun hb => Nat.lt_irrefl _ (ltw _ hb)
  have hWW : ∀ b ∈ h'.objs.size :: wr, s₁.heap.get? b = none := fun b hb => by
    rcases List.mem_cons.mp hb with e | hb
    · exact e ▸ hD1
    · exact hw b hb
  have c₀ : CSt C H2.objs.size h'.objs.size wr { p₁ with m := mc } s₁ [] ⟨p₁.G, mc, ownCells scope H2.objs.size ++ p₁.N, p₁.k⟩ { s₁ with heap := h₁, toks := tk } := by
    refine ⟨Sc, ⟨fun b o e _ _ => old b o (hk b o e), fun _ _ e => e, fun b hb => ?_, fun b hb => .inl ?_, rfl, rfl, Nat.le_refl _, .inl (Nat.le_refl _)⟩, t₂, fun b hb => ?_, hacc⟩
    · rcases hb with hb | hb
      · exact .inl hb
      · change b ∈ dom (ownCells scope H2.objs.size ++ p₁.N) at hb
        rw [dapp] at hb
        rcases List.mem_append.mp hb with hb | hb
        · exact .inr (.inr (nn b hb))
        · exact .inr (.inl hb)
    · show b ∈ dom (ownCells scope H2.objs.size ++ p₁.N)
      rw [dapp]; exact List.mem_append_right _ hb
    · have n1 := S₁.none_at (hWW b hb)
      have hlt : b < H2.objs.size := by
        rcases List.mem_cons.mp hb with e | hb
        · rw [e, hC]; exact Nat.lt_succ_self _
        · rw [hC]; exact Nat.lt_succ_of_lt (ltw b hb)
      refine ⟨n1.1, n1.2.1, fun hm => ?_, Nat.ne_of_lt hlt, ?_⟩
      · change b ∈ dom (ownCells scope H2.objs.size ++ p₁.N) at hm
        rw [dapp] at hm
        rcases List.mem_append.mp hm with hm | hm
        · exact absurd (abv b hm) (Nat.not_lt.mpr (Nat.le_of_lt hlt))
        · exact n1.2.2.1 hm
      · rcases List.mem_cons.mp hb with e | hb
        · obtain ⟨nl, e'⟩ := hacc; rw [e, e']; exact fun h => nomatch h
        · cases e : h'.get? b with
          | none => exact absurd e (hlive b hb)
          | some o => rw [old b o e]; exact fun h => nomatch h
  have run : ∀ s₃ : Shared, s₃ = { s₁ with heap := h₁, toks := tk } →
      codeAny (model C.prog C.w) A (.compLoop (.ListComp elt (⟨target, iter, ifs, 0⟩ :: rest) scope pos) 0 (.ref Ia) (.ref h'.objs.size) (compEnvK scope cl H2.objs.size env)) (RR (.ref h'.objs.size) H2.objs.size) s₃ := by
    rintro s₃ rfl
    refine codeAny_mono (loop H2.objs.size h'.objs.size Ia fp wr Md St _ N W hWW DW hf hal c₀ st₁) fun r s' hr => ?_
    obtain ⟨rfl, ys, p₂, hF, hG₂, c'⟩ := hr
    have S' := c'.S
    have x' := c'.x
    have t' := c'.t
    have H' := c'.H
    have hl' := c'.l
    obtain ⟨d1, d2, d3, d4, d5⟩ := H' h'.objs.size (List.mem_singleton.mpr rfl)
    have cN : H2.objs.size ∉ dom p₂.N := S'.nL
    have Ls : s₁.heap.get? L ≠ none := by
      obtain ⟨o, _, _, ho, _⟩ := S₁.ns
      rw [ho]; exact fun h => nomatch h
    have LC : L ≠ H2.objs.size := fun e => Ls (e ▸ hC1)
    have LD : L ≠ h'.objs.size := fun e => Ls (e ▸ hD1)
    have LN : L ∉ dom p₂.N := fun hm => by
      rcases x'.fresh L (.inr hm) with q | q | q
      · exact q S₁.gL
      · exact S₁.nL q
      · exact Ls q
    have LG : p₂.G L = none := by
      cases e : p₂.G L with
      | none => rfl
      | some o =>
        rcases x'.fresh L (.inl (by rw [e]; exact fun h => nomatch h)) with q | q | q
        · exact absurd S₁.gL q
        · exact absurd q S₁.nL
        · exact absurd q Ls
    obtain ⟨nl, hl''⟩ := hl'
    have SL : Sat C.B L ⟨p₂.G, p₁.m, (h'.objs.size, listC ys) :: p₂.N, p₂.k⟩ s'.heap := by
      refine ⟨⟨S'.s0.base, S'.s0.gs, fun q hq => ?_, fun b hb => ?_, fun b hb => ?_, List.nodup_cons.mpr ⟨d3, S'.s0.nd⟩⟩, ?_, S₁.bL, LG, fun hm => ?_, S₁.mnd⟩
      · rcases List.mem_cons.mp hq with e | hq
        · subst e; exact ⟨_, hl'', nl, rfl⟩
        · exact S'.s0.own q hq
      · rcases List.mem_cons.mp hb with e | hb
        · exact e ▸ d1
        · exact S'.s0.nB b hb
      · rcases List.mem_cons.mp hb with e | hb
        · exact e ▸ d2
        · exact S'.s0.nG b hb
      · exact S₁.ns.at' fun o e => x'.keep L o e LC S₁.nL
      · rcases List.mem_cons.mp hm with e | hm
        · exact LD e
        · exact LN hm
    have xL : Ext L p₁ s₁ ⟨p₂.G, p₁.m, (h'.objs.size, listC ys) :: p₂.N, p₂.k⟩ s' := by
      refine ⟨fun b o e _ h2 => x'.keep b o e (fun q => by rw [q, hC1] at e; cases e) h2, x'.grow, fun b hb => ?_, fun b hb => (x'.noleak b hb).imp (List.mem_cons_of_mem _) id, x'.gens, x'.os, x'.km, x'.kk⟩
      rcases hb with hb | hb
      · exact x'.fresh b (.inl hb)
      · rcases List.mem_cons.mp hb with e | hb
        · exact .inr (.inr (e ▸ hD1))
        · exact x'.fresh b (.inr hb)
    refine fin _ _ ys p₂ s' hF hG₂ S'.ns hC1 hDC SL xL t' (fun h₉ hs₉ => ⟨?_, ?_⟩) ⟨cN, S'.gL, Ne.symm LC⟩
    · exact SL.extBut hs₉.extBut S'.bL S'.gL (fun hm => by
        rcases List.mem_cons.mp hm with e | hm
        · exact hDC e.symm
        · exact cN hm) (Ne.symm LC)
    · exact xL.hid (W := [H2.objs.size]) (fun b hb => by rw [List.mem_singleton.mp hb]; exact hC1) (Nat.le_refl _) fun b o hb e => hs₉.extBut b o (fun q => hb (List.mem_singleton.mpr q)) e
  exact codeAny_compStart_list (run _ rfl) (self 0 _ _ _ st₁ (run _ rfl))
/-- a comprehension with one for, whose variables may be cells -/
theorem E_ListCompK {elt target iter : Expr} {ifs : List Expr} {scope : Scope} {pos : Pos} {cl : List (Str × Addr)} {Q : Value → Pt → Prop} (mc : List (Str × Option Value))
    (hclos : closureFor scope env = Pure.pure cl) (hnames : ∀ y ∈ scope.names, y.2 = .local → scope.names.lookup y.1 = some .local) (hmc : ∀ q ∈ mc, q.2 = none) (hnd : (mc.map (·.1)).Nodup)
    (h : Run C A L (eval iter env) p fun xv p₁ => ∃ n P, ∃ I : Addr → Nat → List Value → Pt → Prop, IterOn C A L p₁ target xv n P ∧ (∀ Cc i ys p, I Cc i ys p → ys.length ≤ sizeLine) ∧ (∀ Cc, I Cc 0 [] ⟨p₁.G, mc, ownCells scope Cc ++ p₁.N, p₁.k⟩) ∧
      (∀ Cc i ys p₂, i < n → I Cc i ys p₂ → (∀ b o, p₁.G b = some o → p₂.G b = some o) → AsgRun C A Cc target (compEnvK scope cl Cc env) (P i) p₂ fun p₃ =>
        Run C A Cc (forIn ifs true fun c r => if r = true then do let ok ← isTrue c (compEnvK scope cl Cc env) (eval c (compEnvK scope cl Cc env)); Pure.pure (ForInStep.yield ok) else Pure.pure (ForInStep.yield r)) p₃ fun b p₄ =>
          if b then Run C A Cc (eval elt (compEnvK scope cl Cc env)) p₄ (fun y p₅ => I Cc (i + 1) (ys ++ [y]) p₅) else I Cc (i + 1) ys p₄) ∧
      (∀ Cc D ys p₂, I Cc n ys p₂ → (∀ b o, p₁.G b = some o → p₂.G b = some o) → Q (.ref D) ⟨p₂.G, p₁.m, (D, listC ys) :: p₂.N, p₂.k⟩))
    (hkind : scope.kind = .function := by rfl) (hs : ∀ x, foldedSetIterable iter env x = Pure.pure x := by intro _; rfl) :
    Run C A L (eval (.ListComp elt [⟨target, iter, ifs, 0⟩] scope pos) env) p Q := .of fun s S T => by
  rw [eval_ListComp]
  refine wpAny_comprehension_free (use := none) rfl hs hclos hkind hnames (wpAny_mono (wpAny_toks (h.go s S T)) (fun xv s₁ h₁ => ?_) fun _ _ e => e.2)
  obtain ⟨t₁, p₁, S₁, x₁, n, P, I, it, hz, hI0, step, fin⟩ := h₁
  refine comp_blockC (RR := fun acc C' => compPost (model C.prog C.w) A (fun _ _ => False) none (fun a s' => ∃ p', Sat C.B L p' s'.heap ∧ Ext L p s p' s' ∧ Q a p') acc C') (fun ys p' => ∃ Cc, I Cc n ys p') it S₁ (T.next x₁ t₁) hmc hnd ?_ fun D Cc ys p₂ s' ⟨C', hI⟩ hG hns hC hDC SL xL t' up nc => ?_
  · intro Cc D Ia fp wr Md St s₃ N KT hW hDw hf hal c₀ st0
    refine comp_loopG (V := []) (pS := ⟨p₁.G, mc, ownCells scope Cc ++ p₁.N, p₁.k⟩) (I Cc) (fun i ys p => ys.length ≤ sizeLine ∧ Run C A Cc (eval elt (compEnvK scope cl Cc env)) p fun y p₉ => I Cc (i + 1) (ys ++ [y]) p₉) N KT
      (emit := do let _ ← PySem.call (.builtin "list.append") [.ref D, ← eval elt (compEnvK scope cl Cc env)]) rfl (by rw [List.append_nil]; exact hW) hDw (fun b hb => nomatch hb) hf hal (by rw [List.append_nil]; exact c₀) st0 (hI0 Cc)
      (fun i ys p₂ hi hJ g v s hP S T => wpAny_mono (step Cc i ys p₂ hi hJ g v s hP S T) (fun _ s₂ ⟨p₃, S₃, x₃, r⟩ => ⟨p₃, S₃, x₃, r.mono fun b p₄ hb => by
        cases b with
        | false => exact hb
        | true => exact ⟨hz Cc i ys p₂ hJ, hb⟩⟩) fun _ _ e => e)
      (fun i ys p₄ s'' hi ⟨hz', hr⟩ c' => emit_last N (by rw [List.append_nil]; exact hW) (by rw [List.append_nil]; exact hDw) c' hz' hr) fun ys p' s' hJ g c' K => ⟨rfl, ys, p', ⟨Cc, hJ⟩, g, c'⟩
  · exact ⟨_, hns, fun h' hs' => ⟨_, (up h' hs').1, x₁.trans S S₁ (up h' hs').2 t', fin C' D ys p₂ hI hG⟩⟩
/-- with two fors -/
inductive LC2Q (C : Cx) (A : Around) (L : Addr) (env : Env) (elt target t2 it2 : Expr) (ifs if2 : List Expr) (scope : Scope) (cl : List (Str × Addr)) (mc : List (Str × Option Value)) (Q : Value → Pt → Prop) (xv : Value) (p₁ : Pt) : Prop
  | mk (n : Nat) (P : Nat → Value → Heap → Prop) (I : Addr → Nat → List Value → Pt → Prop) (it : IterOn C A L p₁ target xv n P) (h0 : ∀ Cc, I Cc 0 [] ⟨p₁.G, mc, ownCells scope Cc ++ p₁.N, p₁.k⟩)
      (step : ∀ Cc i ys p₂, i < n → I Cc i ys p₂ → (∀ b o, p₁.G b = some o → p₂.G b = some o) → AsgRun C A Cc target (compEnvK scope cl Cc env) (P i) p₂ fun p₃ =>
        Run C A Cc (forIn ifs true fun c r => if r = true then do let ok ← isTrue c (compEnvK scope cl Cc env) (eval c (compEnvK scope cl Cc env)); Pure.pure (ForInStep.yield ok) else Pure.pure (ForInStep.yield r)) p₃ fun b p₄ =>
          if b then InnerRun C A Cc elt t2 it2 if2 (compEnvK scope cl Cc env) ys p₄ (fun zs p₆ => I Cc (i + 1) zs p₆) else I Cc (i + 1) ys p₄)
      (fin : ∀ Cc D ys p₂, I Cc n ys p₂ → (∀ b o, p₁.G b = some o → p₂.G b = some o) → Q (.ref D) ⟨p₂.G, p₁.m, (D, listC ys) :: p₂.N, p₂.k⟩) : LC2Q C A L env elt target t2 it2 ifs if2 scope cl mc Q xv p₁
theorem E_ListComp2K {elt target iter t2 it2 : Expr} {ifs if2 : List Expr} {scope : Scope} {pos : Pos} {cl : List (Str × Addr)} {Q : Value → Pt → Prop} (mc : List (Str × Option Value))
    (hclos : closureFor scope env = Pure.pure cl) (hnames : ∀ y ∈ scope.names, y.2 = .local → scope.names.lookup y.1 = some .local) (hmc : ∀ q ∈ mc, q.2 = none) (hnd : (mc.map (·.1)).Nodup)
    (h : Run C A L (eval iter env) p (LC2Q C A L env elt target t2 it2 ifs if2 scope cl mc Q))
    (hkind : scope.kind = .function := by rfl) (hs : ∀ x, foldedSetIterable iter env x = Pure.pure x := by intro _; rfl) (hs2 : ∀ cenv x, foldedSetIterable it2 cenv x = Pure.pure x := by intro _ _; rfl) :
    Run C A L (eval (.ListComp elt [⟨target, iter, ifs, 0⟩, ⟨t2, it2, if2, 0⟩] scope pos) env) p Q := .of fun s S T => by
  rw [eval_ListComp]
  refine wpAny_comprehension_free (use := none) rfl hs hclos hkind hnames (wpAny_mono (wpAny_toks (h.go s S T)) (fun xv s₁ h₁ => ?_) fun _ _ e => e.2)
  obtain ⟨t₁, p₁, S₁, x₁, n, P, I, it, hI0, step, fin⟩ := h₁
  refine comp_blockC (RR := fun acc C' => compPost (model C.prog C.w) A (fun _ _ => False) none (fun a s' => ∃ p', Sat C.B L p' s'.heap ∧ Ext L p s p' s' ∧ Q a p') acc C') (fun ys p' => ∃ Cc, I Cc n ys p') it S₁ (T.next x₁ t₁) hmc hnd ?_ fun D Cc ys p₂ s' ⟨C', hI⟩ hG hns hC hDC SL xL t' up nc => ?_
  · intro Cc D Ia fp wr Md St s₃ N KT hW hDw hf hal c₀ st0
    refine comp_loopG (V := []) (pS := ⟨p₁.G, mc, ownCells scope Cc ++ p₁.N, p₁.k⟩) (I Cc) (fun i ys p₄ => InnerRun C A Cc elt t2 it2 if2 (compEnvK scope cl Cc env) ys p₄ (fun zs p₆ => I Cc (i + 1) zs p₆)) N KT (emit := do
        let x ← eval it2 (compEnvK scope cl Cc env)
        PySem.standAt it2.pos
        let x ← foldedSetIterable it2 (compEnvK scope cl Cc env) x
        let _ ← runOwn (.compStart (.ListComp elt [⟨target, iter, ifs, 0⟩, ⟨t2, it2, if2, 0⟩] scope pos) 1 (← PySem.holding [x] (pyIter x)) (.ref D) (compEnvK scope cl Cc env)) (compEnvK scope cl Cc env))
      (compTurn_two ..) (by rw [List.append_nil]; exact hW) hDw (fun b hb => nomatch hb) hf hal (by rw [List.append_nil]; exact c₀) st0 (hI0 Cc) (fun i ys p₂ hi hJ g => step Cc i ys p₂ hi hJ g)
      (fun i ys p₄ s' _ hem c => emit_inner N (by rw [List.append_nil]; exact hW) (by rw [List.append_nil]; exact hDw) c (hs2 _) hem) fun ys p' s' hJ g c' K => ⟨rfl, ys, p', ⟨Cc, hJ⟩, g, c'⟩
  · exact ⟨_, hns, fun h' hs' => ⟨_, (up h' hs').1, x₁.trans S S₁ (up h' hs').2 t', fin C' D ys p₂ hI hG⟩⟩
end
end Mine

open PySem PySem.Calls PyProof.Rows
set_option Elab.async false
set_option linter.unusedVariables false
set_option maxRecDepth 100000
namespace Mine
section
variable {C : Cx} {A : Around} {L : Addr} {α β : Type} {p : Pt} {env : Env}
/-- a comprehension with cells, its list a name's -/
inductive ALCQ (C : Cx) (A : Around) (L : Addr) (env : Env) (y : Str) (elt target : Expr) (ifs : List Expr) (scope : Scope) (cl : List (Str × Addr)) (mc : List (Str × Option Value)) (Q : Flow → Pt → Prop) (xv : Value) (p₁ : Pt) : Prop
  | mk (n : Nat) (P : Nat → Value → Heap → Prop) (I : Addr → Nat → List Value → Pt → Prop) (it : IterOn C A L p₁ target xv n P) (hz : ∀ Cc i ys p, I Cc i ys p → ys.length ≤ sizeLine) (h0 : ∀ Cc, I Cc 0 [] ⟨p₁.G, mc, ownCells scope Cc ++ p₁.N, p₁.k⟩)
      (step : ∀ Cc i ys p₂, i < n → I Cc i ys p₂ → (∀ b o, p₁.G b = some o → p₂.G b = some o) → AsgRun C A Cc target (compEnvK scope cl Cc env) (P i) p₂ fun p₃ =>
        Run C A Cc (forIn ifs true fun c r => if r = true then do let ok ← isTrue c (compEnvK scope cl Cc env) (eval c (compEnvK scope cl Cc env)); Pure.pure (ForInStep.yield ok) else Pure.pure (ForInStep.yield r)) p₃ fun b p₄ =>
          if b then Run C A Cc (eval elt (compEnvK scope cl Cc env)) p₄ (fun y p₅ => I Cc (i + 1) (ys ++ [y]) p₅) else I Cc (i + 1) ys p₄)
      (fin : ∀ Cc D ys p₂, I Cc n ys p₂ → (∀ b o, p₁.G b = some o → p₂.G b = some o) → Run C A L (bindName env y (.ref D)) ⟨p₂.G, p₁.m, (D, listC ys) :: p₂.N, p₂.k⟩ fun _ p₃ => Q .next p₃) : ALCQ C A L env y elt target ifs scope cl mc Q xv p₁
theorem X_Assign_ListCompK {y : Str} {py spos : Pos} {elt target iter : Expr} {ifs : List Expr} {scope : Scope} {pos : Pos} {cl : List (Str × Addr)} {Q : Flow → Pt → Prop} (mc : List (Str × Option Value))
    (hclos : closureFor scope env = Pure.pure cl) (hnames : ∀ y ∈ scope.names, y.2 = .local → scope.names.lookup y.1 = some .local) (hmc : ∀ q ∈ mc, q.2 = none) (hnd : (mc.map (·.1)).Nodup)
    (h : Run C A L (eval iter env) p (ALCQ C A L env y elt target ifs scope cl mc Q))
    (hsw : swapsWith (.ListComp elt [⟨target, iter, ifs, 0⟩] scope pos) (some (.Name y py)) spos.line env = Pure.pure true := by rfl)
    (hkind : scope.kind = .function := by rfl) (hs : ∀ x, foldedSetIterable iter env x = Pure.pure x := by intro _; rfl) :
    Run C A L (exec (.Assign [.Name y py] (.ListComp elt [⟨target, iter, ifs, 0⟩] scope pos) spos) env) p Q := .of fun s S T => by
  rw [exec_Assign_Name_used _ _ _ _ hsw]
  refine wpAny_bind (wpAny_standAt (wpAny_bind ?_))
  show wpAny _ A (do let _ ← comprehension (.ListComp elt [⟨target, iter, ifs, 0⟩] scope pos) scope env _ (newList []) false (eval iter env) (some (assign (.Name y py) env))) _ _ s
  refine wpAny_bind (wpAny_mono (wpAny_comprehension_free (use := some (assign (.Name y py) env)) (Q := fun _ s' => ∃ p', Sat C.B L p' s'.heap ∧ Ext L p s p' s' ∧ Q .next p') rfl hs hclos hkind hnames
    (wpAny_mono (wpAny_toks (h.go s S T)) (fun xv s₁ h₁ => ?_) fun _ _ e => e.2)) (fun _ s' hq => wpAny_pure (wpAny_pure hq)) fun _ _ e => e)
  obtain ⟨t₁, p₁, S₁, x₁, n, P, I, it, hz, hI0, step, fin⟩ := h₁
  refine comp_blockC (RR := fun acc C' => compPost (model C.prog C.w) A (fun _ _ => False) (some (assign (.Name y py) env)) (fun _ s' => ∃ p', Sat C.B L p' s'.heap ∧ Ext L p s p' s' ∧ Q .next p') acc C') (fun ys p' => ∃ Cc, I Cc n ys p') it S₁ (T.next x₁ t₁) hmc hnd ?_ fun D Cc ys p₂ s' ⟨C', hI⟩ hG hns hC hDC SL xL t' up nc => ?_
  · intro Cc D Ia fp wr Md St s₃ N KT hW hDw hf hal c₀ st0
    refine comp_loopG (V := []) (pS := ⟨p₁.G, mc, ownCells scope Cc ++ p₁.N, p₁.k⟩) (I Cc) (fun i ys p => ys.length ≤ sizeLine ∧ Run C A Cc (eval elt (compEnvK scope cl Cc env)) p fun y p₉ => I Cc (i + 1) (ys ++ [y]) p₉) N KT
      (emit := do let _ ← PySem.call (.builtin "list.append") [.ref D, ← eval elt (compEnvK scope cl Cc env)]) rfl (by rw [List.append_nil]; exact hW) hDw (fun b hb => nomatch hb) hf hal (by rw [List.append_nil]; exact c₀) st0 (hI0 Cc)
      (fun i ys p₂ hi hJ g v s hP S T => wpAny_mono (step Cc i ys p₂ hi hJ g v s hP S T) (fun _ s₂ ⟨p₃, S₃, x₃, r⟩ => ⟨p₃, S₃, x₃, r.mono fun b p₄ hb => by
        cases b with
        | false => exact hb
        | true => exact ⟨hz Cc i ys p₂ hJ, hb⟩⟩) fun _ _ e => e)
      (fun i ys p₄ s'' hi ⟨hz', hr⟩ c' => emit_last N (by rw [List.append_nil]; exact hW) (by rw [List.append_nil]; exact hDw) c' hz' hr) fun ys p' s' hJ g c' K => ⟨rfl, ys, p', ⟨Cc, hJ⟩, g, c'⟩
  show wpAny _ A (assign (.Name y py) env (.ref D)) _ _ s'
  rw [arm_assign_Name]
  have T' := (T.next x₁ t₁).next xL t'
  have Hc : Hid C.B L [Cc] ⟨p₂.G, p₁.m, (D, listC ys) :: p₂.N, p₂.k⟩ s'.heap := fun b hb => by
    rw [List.mem_singleton.mp hb]
    refine ⟨(S₁.none_at hC).1, nc.2.1, fun hm => ?_, nc.2.2, ?_⟩
    · rcases List.mem_cons.mp hm with e | hm
      · exact hDC e.symm
      · exact nc.1 hm
    · obtain ⟨o, _, _, ho, _⟩ := hns
      rw [ho]; exact fun h => nomatch h
  refine wpAny_bind (wpAny_standAt (wpAny_mono (wpAny_toks ((fin C' D ys p₂ hI hG).go s' SL T')) (fun _ s₄ h₄ => ?_) fun _ _ e => e.2))
  obtain ⟨t₄, p₄, S₄, x₄, q⟩ := h₄
  obtain ⟨H₄, k₄⟩ := Hid.step Hc x₄
  refine ⟨_, hns.at' fun o e => k₄ Cc (List.mem_singleton.mpr rfl) o e, fun h' hs' => ?_⟩
  have x₅ := x₁.trans S S₁ (xL.trans S₁ SL x₄ t₄) (Nat.le_trans t' t₄)
  have hsC : s.heap.get? Cc = none := by
    cases e : s.heap.get? Cc with
    | none => rfl
    | some o =>
      exfalso
      by_cases h1 : Cc = L
      · exact nc.2.2 h1
      · by_cases h2 : Cc ∈ dom p.N
        · rcases x₁.noleak Cc h2 with h3 | h3
          · obtain ⟨z, hz, e2⟩ := List.mem_map.mp h3
            obtain ⟨o2, ho2, _⟩ := S₁.s0.own z hz
            rw [e2, hC] at ho2; cases ho2
          · cases hg : p₁.G Cc with
            | none => exact h3 hg
            | some o2 => have := S₁.s0.gs _ _ hg; rw [hC] at this; cases this
        · have := x₁.keep Cc o e h1 h2
          rw [hC] at this; cases this
  refine ⟨p₄, S₄.extBut hs'.extBut (H₄ Cc (List.mem_singleton.mpr rfl)).1 (H₄ Cc (List.mem_singleton.mpr rfl)).2.1 (H₄ Cc (List.mem_singleton.mpr rfl)).2.2.1 (H₄ Cc (List.mem_singleton.mpr rfl)).2.2.2.1, ?_, q⟩
  exact x₅.hid (W := [Cc]) (fun b hb => by rw [List.mem_singleton.mp hb]; exact hsC) (Nat.le_refl _) fun b o hb e => hs'.extBut b o (fun q => hb (List.mem_singleton.mpr q)) e

/-! a def whose parameters may be cells -/
theorem bindL_eq {kd : Str → Option NameKind} : ∀ (bs : List (Str × Value)) (m : Str → Option Value), bindL kd bs m = fun y => if kd y = some .local then (bs.reverse.lookup y).or (m y) else m y
  | [], m => by funext y; simp [bindL]
  | (n, v) :: r, m => by
    unfold bindL
    rw [bindL_eq r]
    funext y
    simp only [List.reverse_cons, List.lookup_append, List.lookup_cons, List.lookup_nil]
    by_cases hy : kd y = some .local
    · rw [if_pos hy, if_pos hy]
      cases r.reverse.lookup y with
      | some w => rfl
      | none =>
        by_cases e : y = n
        · subst e; simp [hy]
        · have : (y == n) = false := by simpa using e
          split <;> simp [this, e]
    · rw [if_neg hy, if_neg hy]
      by_cases e : y = n
      · subst e; rw [if_neg hy]
      · split <;> simp [e]
theorem bindC_eq {kd : Str → Option NameKind} : ∀ (bs : List (Str × Value)) (m : Str → Option Value), bindC kd bs m = fun y => if kd y = some .local then m y else (bs.reverse.lookup y).or (m y)
  | [], m => by funext y; simp [bindC]
  | (n, v) :: r, m => by
    unfold bindC
    rw [bindC_eq r]
    funext y
    simp only [List.reverse_cons, List.lookup_append, List.lookup_cons, List.lookup_nil]
    by_cases hy : kd y = some .local
    · rw [if_pos hy, if_pos hy]
      by_cases e : y = n
      · subst e; rw [if_pos hy]
      · split <;> simp [e]
    · rw [if_neg hy, if_neg hy]
      cases r.reverse.lookup y with
      | some w => rfl
      | none =>
        by_cases e : y = n
        · subst e; simp [hy]
        · have : (y == n) = false := by simpa using e
          split <;> simp [this, e]
def isCellOf (names : List (Str × NameKind)) (x : Str) : Bool := names.lookup x == some .cell && ((cellsFrom 0 names []).map (·.1)).contains x
def okK (m₀ : List (Str × Option Value)) (binds : List (Str × Value)) (names : List (Str × NameKind)) : Bool :=
  (binds.all fun q => (names.lookup q.1 == some .local && (m₀.map (·.1)).contains q.1) || isCellOf names q.1) && nd (m₀.map (·.1)) && (m₀.all fun q => names.lookup q.1 == some .local) && nd ((cellsFrom 0 names []).map (·.1)) && ((cellsFrom 0 names []).all fun q => names.lookup q.1 == some .cell)
theorem lookup_isSome_of {α : Type} {l : List (Str × α)} {x : Str} (h : (l.map (·.1)).contains x = true) : (l.lookup x).isSome = true := by
  induction l with
  | nil => simp at h
  | cons q r ih =>
    obtain ⟨n, v⟩ := q
    rw [List.lookup_cons]
    cases e : x == n with
    | true => rfl
    | false =>
      simp only [List.map_cons, List.contains_cons, e, Bool.false_or] at h
      exact ih h
theorem CallRun.goK {gl bl : List (Str × Value)} {f : Addr} {o : Obj} {fd : FuncData} {body : List Stmt} {vs : List Value} {binds : List (Str × Value)} {G : Addr → Option Obj} {N : List (Addr × Cell)} (m₀ : List (Str × Option Value)) {k : Nat}
    {Q : CQ} {d : Nat} (K : Base C gl bl) (hr : Room A (d + 1)) (ho : C.B.get? f = some o) (hdata : o.data = .func fd) (hcd : C.B.CodeRec fd.code fd.qualname)
    (hbind : Binds C fd vs binds)
    (h : ∀ L, Room (A.deeper (callEnvC fd L f)) d → Run C (A.deeper (callEnvC fd L f)) L (execs body (callEnvC fd L f)) ⟨G, m₀, ((cellsFrom (L + 1) fd.scope.names []).map fun q => (q.2, cellC (binds.reverse.lookup q.1))) ++ N, k⟩ fun fl p' => Q (retOf fl) p'.G p'.N p'.k)
    (hm : m₀ = (m₀.map (·.1)).map fun x => (x, binds.reverse.lookup x) := by rfl) (hok : okK m₀ binds fd.scope.names = true := by rfl)
    (hbody : fd.body = .stmts body := by rfl) (hclo : fd.closure = [] := by rfl)
    (hco : fd.scope.isCoroutine = false := by rfl) (hgen : fd.scope.isGenerator = false := by rfl) (hk : fd.scope.kind = .function := by rfl) : CallRun C A f vs G N k Q := fun s S T => by
  simp only [okK, Bool.and_eq_true] at hok
  obtain ⟨⟨⟨⟨k1, k2⟩, k3⟩, k4⟩, k5⟩ := hok
  have hnd := nodup_of k2
  have hcn := nodup_of k4
  have hroom : A.depth < recursionLimit := by have := hr.depth; omega
  obtain ⟨cc, oc, xx, yy, e1, e2, e3⟩ := hcd
  have cnames : ∀ n, (cellsFrom n fd.scope.names []).map (·.1) = (cellsFrom 0 fd.scope.names []).map (·.1) := fun n => PyProof.Rows.cellsFrom_names fd.scope.names n 0 [] [] rfl
  have kdc : ∀ q ∈ cellsFrom (s.heap.objs.size + 1) fd.scope.names [], fd.scope.names.lookup q.1 = some .cell := fun q hq => by
    have : q.1 ∈ (cellsFrom 0 fd.scope.names []).map (·.1) := by rw [← cnames (s.heap.objs.size + 1)]; exact List.mem_map_of_mem (f := (·.1)) hq
    obtain ⟨z, hz, e⟩ := List.mem_map.mp this
    have := List.all_eq_true.mp k5 z hz
    rw [← e]; exact eq_of_beq this
  have hkind : ∀ x ∈ binds, fd.scope.names.lookup x.1 = some .local ∨ (fd.scope.names.lookup x.1 = some .cell ∧ ((cellsFrom (s.heap.objs.size + 1) fd.scope.names []).lookup x.1).isSome = true) := fun x hx => by
    have := List.all_eq_true.mp k1 x hx
    rw [Bool.or_eq_true] at this
    rcases this with h1 | h1
    · rw [Bool.and_eq_true] at h1
      exact .inl (eq_of_beq h1.1)
    · unfold isCellOf at h1
      rw [Bool.and_eq_true] at h1
      exact .inr ⟨eq_of_beq h1.1, lookup_isSome_of (by rw [cnames]; exact h1.2)⟩
  refine codeAny_call_function hroom (S.base _ _ ho) hdata hco hgen hbody ⟨cc, oc, xx, yy, e1, S.base _ _ e2, e3⟩ (hbind s S.base _ _ _ _ ?_)
  rw [hclo]
  refine wpAny_mono (wpAny_toks (wpAny_newFunctionEnv_cells (E := fun _ _ => False) (Q := fun env s' => env = callEnvC fd s.heap.objs.size f ∧ InCallC s env.locals (bindL env.kindOf binds fun _ => none) env.cells (bindC env.kindOf binds fun _ => none) s') hk
    hkind fun env he s' x => ⟨he, x⟩)) (fun env s₁ ⟨ht, he, x⟩ => ?_) fun _ _ e => e.2.elim
  subst he
  refine ⟨(K.lim.keeps S.base).keeps x.toInCall.keep, codeAny_func ?_⟩
  obtain ⟨h₁, tk, rfl, hk₁⟩ := x.toInCall.done
  have hns := x.toInCall.ns
  rw [bindL_eq] at hns
  have hnone := get_size_none s.heap
  have lowB : ∀ c, s.heap.objs.size ≤ c → s.heap.get? c = none := fun c hc => by
    cases e : s.heap.get? c with
    | none => rfl
    | some o => exact absurd (Heap.lt_size e) (Nat.not_lt.mpr hc)
  have offB : ∀ c, s.heap.get? c = none → C.B.get? c = none := fun c hc => by
    cases e : C.B.get? c with
    | none => rfl
    | some o => rw [S.base _ _ e] at hc; cases hc
  have offG : ∀ c, s.heap.get? c = none → G c = none := fun c hc => by
    cases e : G c with
    | none => rfl
    | some o => rw [S.gs _ _ e] at hc; cases hc
  have offN : ∀ c, s.heap.get? c = none → c ∉ dom N := fun c hc hm => by
    obtain ⟨q, hq, rfl⟩ := List.mem_map.mp hm
    obtain ⟨o, ho, _⟩ := S.own q hq
    rw [ho] at hc; cases hc
  have S1 := S.keep hk₁
  generalize hcs : ((cellsFrom (s.heap.objs.size + 1) fd.scope.names []).map fun q => (q.2, cellC (binds.reverse.lookup q.1))) = Cs
  have memD : ∀ b, b ∈ dom Cs → ∃ n, (n, b) ∈ cellsFrom (s.heap.objs.size + 1) fd.scope.names [] := fun b hb => by
    rw [← hcs] at hb
    simp only [dom, List.map_map, List.mem_map] at hb
    obtain ⟨q, hq, rfl⟩ := hb
    exact ⟨q.1, hq⟩
  have abv : ∀ b, b ∈ dom Cs → s.heap.objs.size < b := fun b hb => by
    obtain ⟨n, hn⟩ := memD b hb
    exact x.above n b hn
  have nn : ∀ b, b ∈ dom Cs → s.heap.get? b = none := fun b hb => lowB b (Nat.le_of_lt (abv b hb))
  have hap := x.apart
  have dapp : dom (Cs ++ N) = dom Cs ++ dom N := by simp [dom]
  have Sat1 : Sat C.B s.heap.objs.size ⟨G, m₀, Cs ++ N, k⟩ h₁ := by
    refine ⟨⟨S1.base, S1.gs, fun q hq => ?_, fun b hb => ?_, fun b hb => ?_, ?_⟩, ?_, offB _ hnone, offG _ hnone, fun hm => ?_, hnd⟩
    · rcases List.mem_append.mp hq with hq | hq
      · rw [← hcs] at hq
        obtain ⟨z, hz, rfl⟩ := List.mem_map.mp hq
        have hl : (cellsFrom (s.heap.objs.size + 1) fd.scope.names []).lookup z.1 = some z.2 := PyProof.Rows.lookup_of_mem_nodup (cnames (s.heap.objs.size + 1) ▸ hcn) hz
        obtain ⟨o', ho', hd'⟩ := x.cell z.1 z.2 hl
        refine ⟨o', ho', ?_⟩
        rw [bindC_eq] at hd'
        dsimp only at hd'
        have hkz : (callEnvC fd s.heap.objs.size f).kindOf z.1 = some .cell := kdc z hz
        rw [hkz, if_neg (by decide), Option.or_none] at hd'
        exact hd'
      · exact S1.own q hq
    · change b ∈ dom (Cs ++ N) at hb
      rw [dapp] at hb
      rcases List.mem_append.mp hb with hb | hb
      · exact offB b (nn b hb)
      · exact S1.nB b hb
    · change b ∈ dom (Cs ++ N) at hb
      rw [dapp] at hb
      rcases List.mem_append.mp hb with hb | hb
      · exact offG b (nn b hb)
      · exact S1.nG b hb
    · show (dom (Cs ++ N)).Nodup
      rw [dapp]
      refine List.nodup_append.mpr ⟨?_, S1.nd, fun a ha b hb e => offN a (nn a ha) (e ▸ hb)⟩
      rw [← hcs]
      simp only [dom, List.map_map]
      have : (cellsFrom (s.heap.objs.size + 1) fd.scope.names []).Pairwise fun x y => x.2 ≠ y.2 := hap
      exact List.Pairwise.map _ (fun a b h => h) this
    · show h₁.Ns s.heap.objs.size (look m₀)
      have e : (fun y => if (callEnvC fd s.heap.objs.size f).kindOf y = some .local then (binds.reverse.lookup y).or none else none) = look m₀ := by
        funext y
        have key : ∀ m : List (Str × Option Value), m = (m.map (·.1)).map (fun x => (x, binds.reverse.lookup x)) → (y ∈ m.map (·.1) → look m y = binds.reverse.lookup y) ∧ (y ∉ m.map (·.1) → look m y = none) := by
          intro m
          induction m with
          | nil => intro _; exact ⟨fun h => by simp at h, fun _ => rfl⟩
          | cons q r ih =>
            intro hq
            simp only [List.map_cons, List.cons.injEq] at hq
            obtain ⟨i1, i2⟩ := ih hq.2
            obtain ⟨z, v⟩ := q
            refine ⟨fun hy => ?_, fun hy => ?_⟩
            · simp only [look]
              by_cases e : y = z
              · subst e; rw [if_pos rfl]; exact congrArg Prod.snd hq.1
              · rw [if_neg e]; exact i1 ((List.mem_cons.mp hy).resolve_left e)
            · simp only [look]
              simp only [List.map_cons, List.mem_cons, not_or] at hy
              rw [if_neg hy.1]; exact i2 hy.2
        obtain ⟨i1, i2⟩ := key m₀ hm
        by_cases hy : y ∈ m₀.map (·.1)
        · obtain ⟨z, hz, ez⟩ := List.mem_map.mp hy
          have hl : (callEnvC fd s.heap.objs.size f).kindOf y = some .local := by
            have := List.all_eq_true.mp k3 z hz
            rw [← ez]; exact eq_of_beq this
          rw [if_pos hl, i1 hy]; simp
        · rw [i2 hy]
          by_cases hl : (callEnvC fd s.heap.objs.size f).kindOf y = some .local
          · rw [if_pos hl]
            cases eb : binds.reverse.lookup y with
            | none => rfl
            | some v =>
              exfalso
              have hm' := List.mem_reverse.mp (PySem.mem_of_lookup eb)
              have := List.all_eq_true.mp k1 _ hm'
              rw [Bool.or_eq_true] at this
              rcases this with h1 | h1
              · rw [Bool.and_eq_true] at h1
                exact hy (List.contains_iff_mem.mp h1.2)
              · unfold isCellOf at h1
                rw [Bool.and_eq_true] at h1
                have h2 := eq_of_beq h1.1
                have h3 : fd.scope.names.lookup y = some .local := hl
                rw [h3] at h2; cases h2
          · rw [if_neg hl]
      rw [← e]; exact hns
    · change s.heap.objs.size ∈ dom (Cs ++ N) at hm
      rw [dapp] at hm
      rcases List.mem_append.mp hm with hm | hm
      · exact Nat.lt_irrefl _ (abv _ hm)
      · exact Nat.lt_irrefl _ (S.lt hm)
  subst hcs
  refine wpAny_mono ((h s.heap.objs.size (hr.deeper _)).go _ Sat1 ⟨Nat.le_trans T.le ht⟩) (fun fl s' hq => ?_) fun _ _ e => e.elim
  obtain ⟨p', S', x', q⟩ := hq
  refine ⟨_, p'.G, p'.N, p'.k, by cases fl <;> rfl, S'.s0, ⟨fun b o e _ hb => x'.keep b o (hk₁ b o e) (Nat.ne_of_lt (Heap.lt_size e)) (fun hb' => ?_), x'.grow, fun b hb => ?_, fun b hb => x'.noleak b ?_, x'.gens, x'.os, x'.km, x'.kk⟩, q⟩
  · change b ∈ dom (_ ++ N) at hb'
    rw [dapp] at hb'
    rcases List.mem_append.mp hb' with hb' | hb'
    · rw [nn b hb'] at e; cases e
    · exact hb hb'
  · rcases x'.fresh b hb with e | e | e
    · exact .inl e
    · change b ∈ dom (_ ++ N) at e
      rw [dapp] at e
      rcases List.mem_append.mp e with e | e
      · exact .inr (.inr (nn b e))
      · exact .inr (.inl e)
    · refine .inr (.inr ?_)
      cases e2 : s.heap.get? b with
      | none => rfl
      | some o => rw [hk₁ b o e2] at e; cases e
  · show b ∈ dom (_ ++ N)
    rw [dapp]; exact List.mem_append_right _ hb
end
end Mine

open PySem PySem.Calls PyProof.Rows
open PySem.W (Frag InstAt findIn typeIn specialIn clsIn plainGet hasDictIn plainOver takerIn noGet handedIn getL putL putN dictOf slotIn takesIn instObj emptyDict isClsIn makesIn isFn methodObj)
set_option Elab.async false
set_option linter.unusedVariables false
set_option maxRecDepth 100000
namespace Mine
/-! bound methods, called with a star -/
structure BoundAttr (K : Frag) (Cc : Addr) (name : Str) (f : Addr) : Prop where
  get : plainGet K Cc name = true
  hd : hasDictIn K Cc = true
  fnd : findIn K (.ref Cc) name = some (some (.ref f))
  fn : typeIn K (.ref f) = some (.type "function")
  gf : specialIn K (.ref f) "__get__" = some (some (.builtin "function.__get__"))
  tk : takesIn K (.ref f) = some false
  cp : PySem.W.copiedNames.contains name = false
section
variable {C : Cx} {A : Around} {L : Addr} {p : Pt} {env : Env} {K : Frag} {x dx Cc : Addr} {name : Str}
theorem R_bound {f : Addr} {kv : List (Str × Value)} {expr : Bool} {Q : Value → Pt → Prop} (X : K.In C.B) (a : BoundAttr K Cc name f) (hx : p.G x = some (instObj Cc dx)) (hd : (dx, attrC kv) ∈ p.N) (hv : kvget kv name = none)
    (h : ∀ q G', GLe p.G G' → G' q = some (methodObj (.ref f) (.ref x)) → Q (.ref q) { p with G := G' }) : Run C A L (getAttr (.ref x) name expr) p Q := .of fun s S T => by
  obtain ⟨o, ho, es, n, rfl, hE⟩ := S.s0.own _ hd
  have I : InstAt s.heap x (instObj Cc dx) Cc (some (dictOf es n)) := ⟨S.s0.gs _ _ hx, rfl, rfl, ho⟩
  have XX := X.keeps S.s0.base
  have nn := S.none_at (get_size_none s.heap)
  refine PySem.W.get_bind XX I (PySem.W.plainGet_of a.get).1 (PySem.W.findObj_fn a.hd a.fnd a.gf a.tk a.cp (by show PySem.W.lookIn name (dictOf es n) = _; rw [PySem.W.lookIn_dict, hE.getL, hv])) (PySem.W.plainGet_of a.get).2 ?_
  refine wpAny_call (PySem.W.fn_get (s := { s with toks := s.toks + 1 }) XX a.fn (PySem.W.handed_on rfl ?_))
  exact ⟨_, S.pushG (o := methodObj (.ref f) (.ref x)) rfl, Ext.pushG S, h _ _ (GLe.add nn.2.1) addG_self⟩
theorem CallRun.bound {q f : Addr} {self : Value} {vs : List Value} {G : Addr → Option Obj} {N : List (Addr × Cell)} {k : Nat} {Q : CQ} (hq : G q = some (methodObj (.ref f) self)) (h : CallRun C A f (self :: vs) G N k Q) : CallRun C A q vs G N k Q := fun s S T =>
  PySem.W.method_call (S.gs _ _ hq) (h s S T)
theorem keeper_bound {q f : Addr} {self : Value} {o : Obj} {fd : FuncData} {M : Model} {h : Heap} (hq : h.get? q = some (methodObj (.ref f) self)) (hf : h.get? f = some o) (hd : o.data = .func fd) : PySem.W.Looks M h (keeperOf (.ref q)) .boundFrame :=
  (PySem.W.Looks.ld (part := none) hq).andThen ((PySem.W.Looks.ld (part := none) hf).andThen (by rw [hd]; exact .now))
/-- with a * behind a plain argument -/
theorem R_callB {q f : Addr} {self : Value} {o : Obj} {fd : FuncData} {e : Expr} {rest : List Expr} {pos : Pos} {Q : Value → Pt → Prop} (hq : p.G q = some (methodObj (.ref f) self)) (ho : C.B.get? f = some o) (hd : o.data = .func fd)
    (h : Run C A L (spliced (backTo pos (starEach (e :: rest) env))) p fun vs p₁ => Run C A L (PySem.call (.ref q) vs) p₁ Q) (hs : PySem.W.isStarred e = false := by rfl) (hst : (backTo pos (starEach rest env)).any (·.1) = true := by rfl) :
    Run C A L (callWith pos (.ref q) [] (backTo pos (starEach (e :: rest) env)) []) p Q := .of fun s S T => by
  have he : starEach (e :: rest) env = (false, eval e env) :: starEach rest env := starEach_cons hs
  refine PySem.W.ks_call (P := fun h => h.get? q = some (methodObj (.ref f) self) ∧ h.get? f = some o) (by rw [he]; show (false || (backTo pos (starEach rest env)).any (·.1)) = true; rw [hst]; rfl) (fun hh e => ⟨.boundFrame, .inr (.inr rfl), keeper_bound e.1 e.2 hd⟩) ?_
  rw [he] at h ⊢
  refine PySem.Calls.evalArgs_plain ?_
  exact wpAny_mono (wpAny_toks (h.go s S T)) (fun vs s₁ ⟨t₁, p₁, S₁, x₁, r⟩ => ⟨⟨S₁.s0.gs _ _ (x₁.grow _ _ hq), S₁.s0.base _ _ ho⟩, Run.after S T S₁ x₁ t₁ r⟩) fun _ _ z => z.2
/-- a method by its attribute, as a call with a * asks for it -/
theorem E_methB {o : Expr} {apos pos : Pos} {args : List Expr} {Q : Value → Pt → Prop}
    (h : Run C A L (eval o env) p fun ov p₁ => Run C A L (getAttr ov name true) p₁ fun f p₂ => Run C A L (callWith pos f [] (backTo pos (starEach args env)) []) p₂ Q)
    (hb : attributeBase o name env (eval o env) = eval o env := by rfl) (hf : methodCallForm (args.length + 0) (backTo pos (starEach args env)) [] = false := by rfl) :
    Run C A L (eval (.Call (.Attribute o name apos) args [] pos) env) p Q := by
  refine Run.of_eq (arm_eval_Call ..) ?_
  rw [hb]
  refine .bind (h.mono fun ov p₁ h₁ => .bind (.standAt ?_))
  show Run C A L (methodCall o name apos pos env ov (args.length + 0) (backTo pos (starEach args env)) []) p₁ Q
  unfold methodCall
  rw [hf]
  refine .bind (.holding ?_)
  show Run C A L (do pure (← getAttr ov name true, [])) p₁ _
  refine .bind (h₁.mono fun f p₂ h₂ => .pure ?_)
  exact .bind (.pure h₂)
end
end Mine

open PySem PySem.Calls PyProof.Rows
set_option Elab.async false
set_option linter.unusedVariables false
set_option maxRecDepth 100000
namespace Mine
section
variable {C : Cx} {A : Around} {L : Addr} {p : Pt} {env : Env}
theorem E_intF {i k pos} {Q : Value → Pt → Prop} (h : ∀ t, p.k ≤ t → Q (.int i t) { p with k := t + 1 }) : Run C A L (eval (.Constant (.int i) k pos) env) p Q := .of fun s S T => wpAny_Constant_int (Post.fresh S T (h s.toks T.le))
theorem R_len_dictN {d : Addr} {es : List Ent} {Q : Value → Pt → Prop} (hd : (d == sysModules) = false) (hm : (d, dictC C.w es) ∈ p.N) (hz : es.length < 2 ^ 62) (h : ∀ tk, Q (.int es.length tk) p) : Run C A L (PySem.call (.builtin "len") [.ref d]) p Q := .of fun s S T => by
  obtain ⟨o, ho, hc⟩ := S.s0.own _ hm
  obtain ⟨ep, e1, _⟩ := dictC.at ho hc
  have hl : (kvOf es).length = es.length := by simp [kvOf]
  refine call_len_dict hd e1.dictOf (by rw [hl]; omega) ?_
  rw [hl]
  exact Post.same S (h _)
theorem C_neB {a b : Bool} {Q : Value → Pt → Prop} (h : Q (.bool (!(a == b))) p) : Run C A L (compareOp .NotEq (.bool a) (.bool b)) p Q := .of fun s S T => by
  show wpAny _ A (richCompare .NotEq (.bool a) (.bool b)) _ _ s
  exact SeqAt.RcNeAt.bool_bool a b _ _ _ _ ⟨p, S, .refl, h⟩
theorem C_nePairs {l b : Addr} {vs ws : List Value} {xs : List (Str × Str)} {Q : Value → Pt → Prop} (hu : A.units + 1 < cLine) (hl : ListAt p.G l vs ∨ (l, listC vs) ∈ p.N) (hb : ListAt p.G b ws ∨ (b, listC ws) ∈ p.N) (hx : PairsG p.G vs xs) (hy : PairsG p.G ws xs)
    (h : Q (.bool false) p) : Run C A L (compareOp .NotEq (.ref l) (.ref b)) p Q := .of fun s S T => by
  have h1 := isList_of hl S
  have h2 := isList_of hb S
  show wpAny _ A (richCompare .NotEq (.ref l) (.ref b)) _ _ s
  refine SeqAt.RcNeAt.lists (e := fun _ => true) h1 h2 (by simp [hx.1, hy.1]) (by omega) (fun j j1 j2 => ?_) _ _ _ _ ?_
  · have j1' : j < vs.length := by simpa using j1
    have j2' : j < ws.length := by simpa using j2
    have jx : j < xs.length := hx.1 ▸ j1'
    obtain ⟨a, t, u, e1, t1⟩ := hx.2 j xs[j] (by simp)
    obtain ⟨a', t', u', e2, t2⟩ := hy.2 j xs[j] (by simp)
    have e1' : vs.toArray[j] = .ref a := by simpa [j1'] using e1
    have e2' : ws.toArray[j] = .ref a' := by simpa [j2'] using e2
    rw [e1', e2']
    by_cases haa : a = a'
    · subst haa; exact SeqAt.EqAt.same _
    · refine SeqAt.EqAt.of_refs haa ?_
      have := SeqAt.RcAt.tuples (A := A.in1) (e := fun _ => true) (t1.isTup S) (t2.isTup S) (by show A.units + 1 < cLine; exact hu) (fun i i1 i2 => ?_)
      · have e3 : ((List.range 2).all fun _ => true) = true := rfl
        simpa [e3] using this
      · have i1' : i < 2 := by simpa using i1
        match i, i1' with
        | 0, _ =>
          have := SeqAt.EqAt.str_str (A := A.in1.in1) (s := s) xs[j].1 t xs[j].1 t'
          simpa using this
        | 1, _ =>
          have := SeqAt.EqAt.str_str (A := A.in1.in1) (s := s) xs[j].2 u xs[j].2 u'
          simpa using this
  · have : (!(List.range vs.toArray.size).all fun _ => true) = false := by simp
    rw [this]
    exact ⟨p, S, .refl, h⟩
theorem dget_dput : ∀ (es : List Ent) (k : Str) (t : Tok) (v : Value) (x : Str), dget (dput es k t v) x = if k = x then some v else dget es x
  | [], k, t, v, x => by simp [dput, dget]
  | q :: r, k, t, v, x => by
    have ih := dget_dput r k t v x
    unfold dput
    by_cases h1 : q.1 = k
    · rw [if_pos h1]
      show (if k = x then some v else dget r x) = if k = x then some v else if q.1 = x then some q.2.2 else dget r x
      by_cases h2 : k = x
      · rw [if_pos h2, if_pos h2]
      · rw [if_neg h2, if_neg h2, if_neg (h1 ▸ h2)]
    · rw [if_neg h1]
      show (if q.1 = x then some q.2.2 else dget (dput r k t v) x) = if k = x then some v else if q.1 = x then some q.2.2 else dget r x
      rw [ih]
      by_cases h2 : q.1 = x
      · rw [if_pos h2, if_pos h2, if_neg fun e => h1 (h2.trans e.symm)]
      · rw [if_neg h2, if_neg h2]
theorem at10 {α : Type} {a b c d e f g h i j x : α} {l : List α} : x ∈ a :: b :: c :: d :: e :: f :: g :: h :: i :: j :: x :: l := .tail _ at9
theorem at11 {α : Type} {a b c d e f g h i j k x : α} {l : List α} : x ∈ a :: b :: c :: d :: e :: f :: g :: h :: i :: j :: k :: x :: l := .tail _ at10
theorem at12 {α : Type} {a b c d e f g h i j k m x : α} {l : List α} : x ∈ a :: b :: c :: d :: e :: f :: g :: h :: i :: j :: k :: m :: x :: l := .tail _ at11
theorem at13 {α : Type} {a b c d e f g h i j k m n x : α} {l : List α} : x ∈ a :: b :: c :: d :: e :: f :: g :: h :: i :: j :: k :: m :: n :: x :: l := .tail _ at12
theorem at14 {α : Type} {a b c d e f g h i j k m n o x : α} {l : List α} : x ∈ a :: b :: c :: d :: e :: f :: g :: h :: i :: j :: k :: m :: n :: o :: x :: l := .tail _ at13
end
section
variable {C : Cx} {A : Around} {L : Addr} {env : Env} {G : Addr → Option Obj} {m : List (Str × Option Value)} {N : List (Addr × Cell)} {k : Nat}
theorem E_strQ {x kd pos} {Q : Value → Pt → Prop} (h : ∀ t : Nat, k ≤ t → Q (.str x t) ⟨G, m, N, t + 1⟩) : Run C A L (eval (.Constant (.str x) kd pos) env) ⟨G, m, N, k⟩ Q := E_str h
theorem newList_Q {vs : List Value} {Q : Value → Pt → Prop} (hz : vs.length ≤ sizeLine) (h : ∀ a, Q (.ref a) ⟨G, m, (a, listC vs) :: N, k⟩) : Run C A L (newList vs) ⟨G, m, N, k⟩ Q := newList_N hz h
theorem B_addLQ {l b : Addr} {vs ws : List Value} {Q : Value → Pt → Prop} (hl : ListG G l vs) (hb : ListG G b ws) (hz : vs.length + ws.length ≤ sizeLine) (h : ∀ a, Q (.ref a) ⟨G, m, (a, listC (vs ++ ws)) :: N, k⟩) :
    Run C A L (binaryOp .Add (.ref l) (.ref b)) ⟨G, m, N, k⟩ Q := B_addL hl hb hz h
theorem Run.freezeQ {α : Type} {t : Sem α} {Q : α → Pt → Prop} {a : Addr} {c : Cell} (h : ∀ G', GLe G G' → (∀ R : Obj → Prop, (∀ o, c o → R o) → ∃ o, G' a = some o ∧ R o) → Run C A L t ⟨G', m, N, k⟩ Q) : Run C A L t ⟨G, m, (a, c) :: N, k⟩ Q :=
  Run.freeze .head fun o G' hc hG hne => h G' (by rw [hG]; exact GLe.add hne) fun R hR => ⟨o, by rw [hG]; exact addG_self, hR o hc⟩
theorem ListG.ofQ {G' : Addr → Option Obj} {a : Addr} {vs : List Value} (h : ∀ R : Obj → Prop, (∀ o, listC vs o → R o) → ∃ o, G' a = some o ∧ R o) : ListG G' a vs := h _ fun _ h => h
end
inductive FzQ {α : Type} (Q : α → Pt → Prop) (v : α) (p' : Pt) : Prop
  | mk (a : Addr) (c : Cell) (N' : List (Addr × Cell)) (P : DelN p'.N a c N') (q : ∀ o, c o → p'.G a = none → Q v { p' with G := addG p'.G a o, N := N' }) : FzQ Q v p'
theorem Run.fz {C : Cx} {A : Around} {L : Addr} {α : Type} {t : Sem α} {p : Pt} {Q : α → Pt → Prop}
    (h : Run C A L t p (FzQ Q)) : Run C A L t p Q := .of fun s S T =>
  wpAny_mono (wpAny_toks (h.go s S T)) (fun v s' ⟨ht, p', S', x, a, c, N', P, q⟩ => by
    obtain ⟨o, hc, ho, S''⟩ := S'.freeze P
    exact ⟨_, S'', x.trans S S' (Ext.freeze S' P) (Nat.le_refl _), q o hc (S'.s0.nG a (mem_dom P.mem))⟩) fun _ _ e => e.2
inductive StrEs : List Expr → List Str → Prop
  | nil : StrEs [] []
  | cons {x : Str} {n : Nat} {q : Pos} {es : List Expr} {xs : List Str} (h : StrEs es xs) : StrEs (.Constant (.str x) n q :: es) (x :: xs)
theorem E_strL {C : Cx} {A : Around} {L : Addr} {env : Env} {pos : Pos} {G : Addr → Option Obj} {m : List (Str × Option Value)} {N : List (Addr × Cell)} {es : List Expr} {xs : List Str} (hs : StrEs es xs) :
    ∀ {k : Nat} {Q : List Value → Pt → Prop}, (∀ ts k', k ≤ k' → ts.map (·.1) = xs → (∀ q ∈ ts, k ≤ q.2 ∧ q.2 < k') → Q (strValues ts) ⟨G, m, N, k'⟩) → Run C A L (spliced (backTo pos (starEach es env))) ⟨G, m, N, k⟩ Q := by
  induction hs with
  | nil => exact fun h => E_items_nil (h [] _ (Nat.le_refl _) rfl fun q hq => nomatch hq)
  | @cons x n q es xs _ ih =>
    intro k Q h
    refine E_items_cons (E_strQ fun t ht => ih fun ts k' hk' e1 e2 => h ((x, t) :: ts) k' (by omega) (by rw [List.map_cons, e1]) fun q hq => ?_)
    rcases List.mem_cons.mp hq with rfl | hq
    · exact ⟨ht, hk'⟩
    · exact ⟨Nat.le_trans (Nat.le_succ_of_le ht) (e2 q hq).1, (e2 q hq).2⟩
/-- a list of texts, frozen at once -/
theorem E_listS {C : Cx} {A : Around} {L : Addr} {env : Env} {pos : Pos} {G : Addr → Option Obj} {m : List (Str × Option Value)} {N : List (Addr × Cell)} {es : List Expr} {xs : List Str} {k : Nat} {Q : Value → Pt → Prop}
    (h : ∀ w ts G' k', GLe G G' → k ≤ k' → ts.map (·.1) = xs → (∀ q ∈ ts, k ≤ q.2 ∧ q.2 < k') → ListG G' w (strValues ts) → Q (.ref w) ⟨G', m, N, k'⟩) (hs : StrEs es xs := by repeat (first | exact .nil | refine .cons ?_)) (hz : xs.length ≤ sizeLine := by rw [sizeLine_eq]; decide) :
    Run C A L (eval (.List es pos) env) ⟨G, m, N, k⟩ Q :=
  Run.fz (E_List (E_strL hs fun ts k' hk' e1 e2 => newList_Q (by have := congrArg List.length e1; simp only [List.length_map] at this; simp only [strValues, List.length_map]; omega) fun w => ⟨w, _, _, .head, fun o ho hn => h w ts _ k' (GLe.add hn) hk' e1 e2 (ListG.new ho)⟩))
end Mine

open PySem PySem.Calls PyProof.Rows
set_option Elab.async false
set_option linter.unusedVariables false
set_option maxRecDepth 100000
namespace Mine
section
variable {C : Cx} {A : Around} {L : Addr} {p : Pt} {env : Env}
theorem cellsFrom_no : ∀ {names : List (Str × NameKind)} {a : Addr} {cl : List (Str × Addr)}, (∀ y ∈ names, y.2 ≠ .cell) → cellsFrom a names cl = cl
  | [], _, _, _ => rfl
  | q :: r, a, cl, h => by
    unfold cellsFrom
    have h1 : (q.2 == NameKind.cell) = false := by
      have := h q (List.mem_cons_self ..)
      cases hq : q.2 <;> first | rfl | exact absurd hq this
    simp only [h1, Bool.false_eq_true, if_false]
    exact cellsFrom_no fun y hy => h y (List.mem_cons_of_mem _ hy)
theorem E_Comp1 {R : Nat → Value → (Addr → Option Obj) → Nat → Prop} (sel : Nat → Bool) (cl : List (Str × Addr)) (hm : MonoR R) {elt iter : Expr} {ifs : List Expr} {x : Str} {px : Pos} {scope : Scope} {pos : Pos} {Q : Value → Pt → Prop}
    (h : Run C A L (eval iter env) p (Comp1Q C A env R sel cl elt ifs x px scope L Q))
    (hclos : closureFor scope env = Pure.pure cl := by rfl) (hcell : ∀ y ∈ scope.names, y.2 ≠ .cell := by decide) (hnames : ∀ y ∈ scope.names, y.2 = .local → scope.names.lookup y.1 = some .local := by decide)
    (hx : (compEnvC scope cl 0 env).kindOf x = some .local := by rfl) (hk : (relabel scope env).kind = .function := by rfl)
    (hkind : scope.kind = .function := by rfl) (hs : ∀ x, foldedSetIterable iter env x = Pure.pure x := by intro _; rfl) :
    Run C A L (eval (.ListComp elt [⟨.Name x px, iter, ifs, 0⟩] scope pos) env) p Q := by
  have e : ∀ a, cellsFrom a scope.names cl = cl := fun a => cellsFrom_no hcell
  have e0 : ∀ Cc, ownCells scope Cc = [] := fun Cc => by unfold ownCells; rw [cellsFrom_no hcell]; rfl
  refine E_ListCompK [(x, none)] hclos hnames (by simp) (by simp) (h.mono fun xv p₁ ⟨n, P, it, hn, step, fin⟩ => ⟨n, P, fun _ i ys p₂ => CompI R sel p₁ (OneM x) i ys p₂ ∧ i ≤ n, it, ?_, ?_, ?_, ?_⟩) hkind hs
  · rintro Cc i ys p₂ ⟨⟨_, _, _, _, _, _, _, hM⟩, hi⟩
    rw [hM.1]
    refine Nat.le_trans (List.length_filter_le _ _) ?_
    rw [List.length_range]; omega
  · intro Cc
    rw [e0]
    exact ⟨⟨p₁.G, _, p₁.k, rfl, ⟨_, rfl⟩, GLe.refl _, Nat.le_refl _, Made.nil⟩, Nat.zero_le _⟩
  · intro Cc i ys p₂ hi hI _
    have := comp_step1 (px := px) hm hx hk step Cc i ys p₂ hi hI.1
    unfold compEnvK
    rw [e]
    refine fun v s hP S T => wpAny_mono (this v s hP S T) (fun _ s' ⟨p₃, S₃, x₃, r⟩ => ⟨p₃, S₃, x₃, r.mono fun b p₄ hb => ?_⟩) fun _ _ e => e
    cases b with
    | false => exact ⟨hb, hi⟩
    | true => exact hb.mono fun y p₅ h5 => ⟨h5, hi⟩
  · rintro Cc D ys p₂ ⟨⟨G', m', k', e1, _, hG, hk', hM⟩, _⟩ _
    subst e1
    exact fin D ys G' k' hG hk' hM
end
end Mine

open PySem PySem.Calls PyProof.Rows
open PySem.W (Frag InstAt findIn typeIn specialIn clsIn plainGet hasDictIn plainOver takerIn noGet handedIn getL putL putN dictOf slotIn takesIn instObj emptyDict isClsIn makesIn isFn)
set_option Elab.async false
set_option linter.unusedVariables false
set_option maxRecDepth 100000
namespace Mine
theorem CallRun.go {C : Cx} {A : Around} {gl bl : List (Str × Value)} {f : Addr} {o : Obj} {fd : FuncData} {body : List Stmt} {vs : List Value} {binds : List (Str × Value)} {G : Addr → Option Obj} {N : List (Addr × Cell)} (m₀ : List (Str × Option Value)) {k : Nat}
    {Q : CQ} {d : Nat} (K : Base C gl bl) (hr : Room A (d + 1)) (ho : C.B.get? f = some o) (hdata : o.data = .func fd) (hcd : C.B.CodeRec fd.code fd.qualname)
    (hbind : Binds C fd vs binds) (h : ∀ L, Room (A.deeper (callEnv fd L f)) d → Run C (A.deeper (callEnv fd L f)) L (execs body (callEnv fd L f)) ⟨G, m₀, N, k⟩ fun fl p' => Q (retOf fl) p'.G p'.N p'.k)
    (hm : m₀ = (m₀.map (·.1)).map fun x => (x, binds.reverse.lookup x) := by rfl) (hok : okB m₀ binds fd.scope.names = true := by rfl)
    (hbody : fd.body = .stmts body := by rfl) (hcell : ∀ x ∈ fd.scope.names, x.2 ≠ .cell := by decide)
    (hco : fd.scope.isCoroutine = false := by rfl) (hgen : fd.scope.isGenerator = false := by rfl) (hk : fd.scope.kind = .function := by rfl) : CallRun C A f vs G N k Q :=
  CallRun.body K hr ho hdata hcd hbind hm (okB.split hok).1 (okB.split hok).2.1 hbody hcell (okB.split hok).2.2 h hco hgen hk
namespace Two

abbrev pmG : Value := .str "cpy313.graphlib" 222
/-- method j of the class that is statement i -/
def fdM (i j : Nat) (qn : Str) (dV : Value) (cd : Value) : FuncData :=
  match PySem.Challenge.pw_dn0038_02.main.body[i]? with
  | some (.ClassDef _ _ _ body _ _ _ _ _ _ _) => (match body[j]? with
    | some (.FunctionDef name args body dl ret tp scope ts b pos) => { docDef name args body scope pmG cd .none with qualname := qn, defaults := dV }
    | _ => docDef "" ⟨[], [], none, [], [], none, []⟩ [] ⟨.function, [], false, false, []⟩ pmG cd .none)
  | _ => docDef "" ⟨[], [], none, [], [], none, []⟩ [] ⟨.function, [], false, false, []⟩ pmG cd .none
/-- the module's functions as a run of the top leaves them -/
structure FnAt (B : Heap) (a : Addr) (fd : FuncData) : Prop where
  obj : ∃ o, B.get? a = some o ∧ o.data = .func fd
  code : B.CodeRec fd.code fd.qualname

def glS : List (Str × Value) := [("_NodeInfo", .ref 65), ("CycleError", .ref 80), ("_NODE_OUT", .int (-1) 225), ("_NODE_DONE", .int (-2) 228), ("TopologicalSorter", .ref 162)]
def blS : List (Str × Value) := [("len", .builtin "len"), ("iter", .builtin "iter"), ("tuple", .type "tuple"), ("set", .type "set"), ("bool", .type "bool"), ("StopIteration", .type "StopIteration")]
/-- what the sorter's texts lean on -/
structure SCx (C : Cx) where
  base : Base C glS blS
  hsm : ∃ o, C.B.get? 3 = some o
  K : Frag
  X : K.In C.B
  mk65 : makesIn K 65 = true
  mk162 : makesIn K 162 = true
  kp65 : PySem.W.keepIn K (.ref 65) = true
  kp162 : PySem.W.keepIn K (.ref 162) = true
  in65 : findIn K (.ref 65) "__init__" = some (some (.ref 61))
  in162 : findIn K (.ref 162) "__init__" = some (some (.ref 98))
  ty61 : typeIn K (.ref 61) = some (.type "function")
  ty98 : typeIn K (.ref 98) = some (.type "function")
  s0 : SlotAttr K 65 "node" 66 0
  s1 : SlotAttr K 65 "npredecessors" 67 1
  s2 : SlotAttr K 65 "successors" 68 2
  o0 : OwnAttr K 162 "_node2info"
  o1 : OwnAttr K 162 "_ready_nodes"
  o2 : OwnAttr K 162 "_npassedout"
  o3 : OwnAttr K 162 "_nfinished"
  mGet : MethAttr K 162 "_get_nodeinfo" 105
  mAdd : MethAttr K 162 "add" 112
  mPrep : MethAttr K 162 "prepare" 117
  mReady : MethAttr K 162 "get_ready" 124
  mAct : MethAttr K 162 "is_active" 131
  mDone : MethAttr K 162 "done" 145
  mFind : MethAttr K 162 "_find_cycle" 152
  exc : ExcOf C 80
  f61 : FnAt C.B 61 (fdM 8 1 "_NodeInfo.__init__" .none (.ref 60))
  f98 : FnAt C.B 98 (fdM 10 0 "TopologicalSorter.__init__" (.ref 91) (.ref 97))
  t91 : ∃ o n, C.B.get? 91 = some o ∧ o.data = .seq #[.none] n
  f105 : FnAt C.B 105 (fdM 10 1 "TopologicalSorter._get_nodeinfo" .none (.ref 104))
  f112 : FnAt C.B 112 (fdM 10 2 "TopologicalSorter.add" .none (.ref 111))
  f117 : FnAt C.B 117 (fdM 10 3 "TopologicalSorter.prepare" .none (.ref 116))
  f124 : FnAt C.B 124 (fdM 10 4 "TopologicalSorter.get_ready" .none (.ref 123))
  f131 : FnAt C.B 131 (fdM 10 5 "TopologicalSorter.is_active" .none (.ref 130))
  f145 : FnAt C.B 145 (fdM 10 7 "TopologicalSorter.done" .none (.ref 144))
  f152 : FnAt C.B 152 (fdM 10 8 "TopologicalSorter._find_cycle" .none (.ref 151))

variable {C : Cx} {A : Around}
inductive NodeInitP (G : Addr → Option Obj) (k : Nat) (x dx : Addr) (nm : Str) (t : Tok) : Value → (Addr → Option Obj) → List (Addr × Cell) → Nat → Prop
  | mk {G' : Addr → Option Obj} {k' : Nat} (h1 : GLe G G') (h2 : k ≤ k') (h3 : G' dx = some emptyDict) (l : Addr) (tk : Tok) : NodeInitP G k x dx nm t .none G' [(l, listC []), (x, slotC 65 dx [some (.str nm t), some (.int 0 tk), some (.ref l)])] k'
theorem w_nodeInit (H : SCx C) {d : Nat} (hr : Room A (d + 1)) {x dx : Addr} {nm : Str} {t : Tok} {G : Addr → Option Obj} {k : Nat} :
    CallRun C A 61 [.ref x, .str nm t] G [(x, slotC 65 dx []), (dx, emptyC)] k (NodeInitP G k x dx nm t) := by
  obtain ⟨⟨o, ho, hd⟩, hc⟩ := H.f61
  refine CallRun.go [("self", some (.ref x)), ("node", some (.str nm t))] H.base hr ho hd hc (.of_eq (binds := [("self", .ref x), ("node", .str nm t)]) rfl) fun L hR => Run.abs fun Q0 hQ0 => ?_
  refine Run.freeze (.tail .head) fun oe G₁ hoe eG₁ n₁ => ?_
  have hG : GLe G G₁ := by rw [eG₁]; exact GLe.add n₁
  have hd : G₁ dx = some emptyDict := by rw [eG₁, addG_self, show oe = emptyDict from hoe]
  refine X_cons (X_AssignAttr (E_loc (v := .str nm t) (.tail _ (.head _)) (E_loc (v := .ref x) (.head _) (R_setSlot H.X H.s0 .head hd ?_))))
  refine X_cons (X_AssignAttr (E_int fun tk => (E_loc (v := .ref x) (.head _) (R_setSlot H.X H.s1 .head hd ?_))))
  refine X_one (X_AssignAttr (E_List (E_items_nil (newList_N (by decide) fun l => (E_loc (v := .ref x) (.head _) (R_setSlot H.X H.s2 (.tail .head) hd ?_))))))
  exact hQ0 _ _ ⟨hG, Nat.le_refl _, hd, l, tk⟩
end Two
end Mine

open PySem PySem.Calls PyProof.Rows
open PySem.W (Frag InstAt findIn typeIn specialIn clsIn plainGet hasDictIn plainOver takerIn noGet handedIn getL putL putN dictOf slotIn takesIn instObj emptyDict isClsIn makesIn isFn)
set_option Elab.async false
set_option linter.unusedVariables false
set_option maxRecDepth 100000
namespace Mine
namespace Two

/-- the sorter's own attributes -/
def skv (dn : Addr) (rd : Value) (po fi : Int) (t u : Tok) : List (Str × Value) := [("_node2info", .ref dn), ("_ready_nodes", rd), ("_npassedout", .int po t), ("_nfinished", .int fi u)]
theorem kvput_le {x : Str} {v : Value} : ∀ {kv : List (Str × Value)} {n : Nat}, kv.length ≤ n → (kvput kv x v).length ≤ n + 1
  | [], n, _ => by simp [kvput]
  | q :: r, 0, h => by simp at h
  | q :: r, n + 1, h => by
    unfold kvput
    split
    · exact Nat.le_succ_of_le h
    · exact Nat.succ_le_succ (kvput_le (Nat.le_of_succ_le_succ h))
variable {C : Cx} {A : Around}
inductive InitP (C : Cx) (G : Addr → Option Obj) (k : Nat) (x dx : Addr) : Value → (Addr → Option Obj) → List (Addr × Cell) → Nat → Prop
  | mk {G' : Addr → Option Obj} {k' : Nat} (h1 : GLe G G') (h2 : k ≤ k') (h3 : G' x = some (instObj 162 dx)) (dn : Addr) (t u : Tok) (h4 : (dn == sysModules) = false) : InitP C G k x dx .none G' [(dn, dictC C.w []), (dx, attrC (skv dn .none 0 0 t u))] k'
theorem w_init (H : SCx C) {d : Nat} (hr : Room A (d + 1)) {x dx : Addr} {G : Addr → Option Obj} {k : Nat} :
    CallRun C A 98 [.ref x] G [(x, slotC 162 dx []), (dx, emptyC)] k (InitP C G k x dx) := by
  obtain ⟨⟨o, ho, hd⟩, hc⟩ := H.f98
  obtain ⟨ot, n, hot, hsq⟩ := H.t91
  refine CallRun.go [("self", some (.ref x)), ("graph", some .none), ("node", none), ("predecessors", none)] H.base hr ho hd hc (.of_defaults (binds := [("self", .ref x), ("graph", .none)]) rfl hot hsq rfl rfl) fun L hR => Run.abs fun Q0 hQ0 => ?_
  refine Run.freeze .head fun oe G₁ hoe eG₁ n₁ => ?_
  have hG : GLe G G₁ := by rw [eG₁]; exact GLe.add n₁
  have hx : G₁ x = some (instObj 162 dx) := by rw [eG₁, addG_self, show oe = instObj 162 dx from hoe]
  refine Run.weak (c' := attrC []) .head (fun o e => ⟨[], 0, e, .nil⟩) ?_
  refine X_cons (X_AssignAttr (E_Dict0 fun dn hdn => E_loc (v := .ref x) (.head _) (R_setOwn H.X H.o0 hx (.tail .head) (by decide) ?_)))
  refine X_cons (X_AssignAttr (E_none (E_loc (v := .ref x) (.head _) (R_setOwn H.X H.o1 hx (.tail .head) (Nat.le_trans (kvput_le (Nat.zero_le 0)) (by decide)) ?_))))
  refine X_cons (X_AssignAttr (E_int fun t => (E_loc (v := .ref x) (.head _) (R_setOwn H.X H.o2 hx (.tail .head) (Nat.le_trans (kvput_le (kvput_le (Nat.zero_le 0))) (by decide)) ?_))))
  refine X_cons (X_AssignAttr (E_int fun u => (E_loc (v := .ref x) (.head _) (R_setOwn H.X H.o3 hx (.tail .head) (Nat.le_trans (kvput_le (kvput_le (kvput_le (Nat.zero_le 0)))) (by decide)) ?_))))
  refine X_one (X_If (T_Cmp (E_loc (v := .none) (.tail _ (.head _)) (E_none (C_isnN (truthy_bool ?_))))))
  refine X_nil ?_
  refine hQ0 _ _ ⟨hG, Nat.le_refl _, hx, dn, t, u, ?_⟩
  obtain ⟨o3, ho3⟩ := H.hsm
  have : 3 < dn := hdn 3 o3 ho3
  exact beq_eq_false_iff_ne.mpr fun e => by rw [e] at this; exact absurd this (by decide)
end Two
end Mine

open PySem PySem.Calls PyProof.Rows
open PySem.W (Frag InstAt findIn typeIn specialIn clsIn plainGet hasDictIn plainOver takerIn noGet handedIn getL putL putN dictOf slotIn takesIn instObj emptyDict isClsIn makesIn isFn)
set_option Elab.async false
set_option linter.unusedVariables false
set_option maxRecDepth 100000
namespace Mine
namespace Two

/-- a node of the sorter, and where its objects lie -/
structure NI where
  nm : Str
  t : Tok
  a : Addr
  d : Addr
  l : Addr
  np : Int
  nt : Tok
  sc : List (Str × Tok)
def NI.ent (i : NI) : Ent := (i.nm, i.t, .ref i.a)
def NI.cells (i : NI) : List (Addr × Cell) := [(i.a, slotC 65 i.d [some (.str i.nm i.t), some (.int i.np i.nt), some (.ref i.l)]), (i.l, listC (strValues i.sc))]
/-- the sorter's objects -/
def sN (C : Cx) (dn dx : Addr) (rd : Value) (po fi : Int) (t u : Tok) (is : List NI) : List (Addr × Cell) := (dx, attrC (skv dn rd po fi t u)) :: (dn, dictC C.w (is.map NI.ent)) :: is.flatMap NI.cells
structure Lay (G : Addr → Option Obj) (x dx dn : Addr) (is : List NI) : Prop where
  inst : G x = some (instObj 162 dx)
  sys : (dn == sysModules) = false
  ds : ∀ i ∈ is, G i.d = some emptyDict
theorem Lay.mono {G G' : Addr → Option Obj} {x dx dn : Addr} {is : List NI} (h : Lay G x dx dn is) (g : GLe G G') : Lay G' x dx dn is := ⟨g _ _ h.inst, h.sys, fun i hi => g _ _ (h.ds i hi)⟩

def lookI (is : List NI) (nm : Str) : Option NI := is.find? fun i => decide (i.nm = nm)
theorem dget_ent : ∀ (is : List NI) (nm : Str), dget (is.map NI.ent) nm = (lookI is nm).map fun i => .ref i.a
  | [], _ => rfl
  | i :: r, nm => by
    have ih := dget_ent r nm
    simp only [List.map_cons]
    unfold dget lookI
    by_cases h : i.nm = nm
    · rw [List.find?_cons_of_pos (by simpa using h), if_pos (show i.ent.1 = nm from h)]; rfl
    · rw [List.find?_cons_of_neg (by simpa using h), if_neg (show ¬ i.ent.1 = nm from h)]; exact ih
theorem dput_new : ∀ (is : List NI) (i : NI), lookI is i.nm = none → dput (is.map NI.ent) i.nm i.t (.ref i.a) = (is ++ [i]).map NI.ent
  | [], i, _ => rfl
  | j :: r, i, h => by
    have hj : ¬ j.nm = i.nm := fun e => by
      unfold lookI at h
      rw [List.find?_cons_of_pos (by simpa using e)] at h; cases h
    have hr : lookI r i.nm = none := by
      unfold lookI at h ⊢
      rw [List.find?_cons_of_neg (by simpa using hj)] at h; exact h
    have ih := dput_new r i hr
    simp only [List.map_cons, List.cons_append]
    unfold dput
    rw [if_neg (show ¬ j.ent.1 = i.nm from hj), ih]

variable {C : Cx} {A : Around}
inductive InfoP (C : Cx) (G : Addr → Option Obj) (k : Nat) (x dx dn : Addr) (rd : Value) (po fi : Int) (t u : Tok) (is : List NI) (nm : Str) : Value → (Addr → Option Obj) → List (Addr × Cell) → Nat → Prop
  | mk {G' : Addr → Option Obj} {k' : Nat} (h1 : GLe G G') (h2 : k ≤ k') (is' : List NI) (i : NI) (h3 : i.nm = nm) (h4 : Lay G' x dx dn is') (h5 : (lookI is nm = some i ∧ is' = is) ∨ (lookI is nm = none ∧ is' = is ++ [i] ∧ i.np = 0 ∧ i.sc = [])) :
    InfoP C G k x dx dn rd po fi t u is nm (.ref i.a) G' (sN C dn dx rd po fi t u is') k'
theorem w_info (H : SCx C) {d : Nat} (hr : Room A (d + 3)) {x dx dn : Addr} {rd : Value} {po fi : Int} {t u tn : Tok} {is : List NI} {nm : Str} {G : Addr → Option Obj} {k : Nat} (Y : Lay G x dx dn is) (hz : is.length ≤ 1000) :
    CallRun C A 105 [.ref x, .str nm tn] G (sN C dn dx rd po fi t u is) k (InfoP C G k x dx dn rd po fi t u is nm) := by
  obtain ⟨⟨o, ho, hd⟩, hc⟩ := H.f105
  refine CallRun.go [("self", some (.ref x)), ("node", some (.str nm tn)), ("result", none)] H.base hr ho hd hc (.of_eq (binds := [("self", .ref x), ("node", .str nm tn)]) rfl) fun L hR => Run.abs fun Q0 hQ0 => ?_
  have hDA : DictA C ⟨G, [("self", some (.ref x)), ("node", some (.str nm tn)), ("result", none)], sN C dn dx rd po fi t u is, k⟩ dn (is.map NI.ent) := ⟨Y.sys, .inr (.tail _ (.head _))⟩
  refine X_cons (X_If (T_Cmp (E_Named (E_meth F.slot_dict_get F.plainAttrs_dict F.type_dict_get (E_Attr (E_loc (v := .ref x) (.head _) (R_getOwn H.X H.o0 Y.inst (.head _) (v := .ref dn) rfl rfl
    ⟨hDA.hasT, E_items_cons (E_loc (v := .str nm tn) (.tail _ (.head _)) (E_items_nil (R_dictGet hDA (storeLoc (.tail (.tail .head)) (E_none (C_isN (truthy_bool ?_)))))))⟩)))))))
  rw [dget_ent]
  cases hl : lookI is nm with
  | some i =>
    have hi : i.nm = nm := by
      have := List.find?_some hl
      simpa using this
    show Run C _ L _ ⟨G, [("self", some (.ref x)), ("node", some (.str nm tn)), ("result", some (.ref i.a))], sN C dn dx rd po fi t u is, k⟩ _
    refine X_nil (X_one (X_Return (E_loc (v := .ref i.a) (.tail _ (.tail _ (.head _))) ?_)))
    exact hQ0 _ _ ⟨GLe.refl _, Nat.le_refl _, is, i, hi, Y, .inl ⟨hl, rfl⟩⟩
  | none =>
    show Run C _ L _ ⟨G, [("self", some (.ref x)), ("node", some (.str nm tn)), ("result", some .none)], sN C dn dx rd po fi t u is, k⟩ _
    refine X_one (X_Assign2 (E_callC (f := .ref 65) H.X H.kp65 (fun {Q} h => E_glob H.base (.head _) h) (E_items_cons (E_loc (v := .str nm tn) (.tail _ (.head _)) (E_items_nil
      (R_make H.X H.mk65 H.in65 H.ty61 fun a da => (w_nodeInit H (Room.under (d := d + 1) hR)).mono fun v G' N' k' hv => ?_))))))
    refine hv.casesOn ?_
    intro G' k' hG hk hda l tk
    refine ⟨rfl, ?_⟩
    have Y' := Y.mono hG
    refine S_Sub (E_Attr (E_loc (v := .ref x) (.head _) (R_getOwn H.X H.o0 Y'.inst (.tail _ (.tail _ (.head _))) (v := .ref dn) rfl rfl
      (E_loc (v := .str nm tn) (.tail _ (.head _)) (S_dict (.tail (.tail (.tail .head))) ?_ (S_Name (storeLoc (.tail (.tail .head)) ?_)))))))
    · rw [List.length_map, sizeLine_eq]; omega
    · dsimp only
      refine Run.perm (N' := sN C dn dx rd po fi t u (is ++ [(⟨nm, tn, a, da, l, 0, tk, []⟩ : NI)])) ?_ (X_one (X_Return (E_loc (v := .ref a) (.tail _ (.tail _ (.head _))) ?_)))
      rotate_left
      refine hQ0 _ _ (.mk hG hk (is ++ [⟨nm, tn, a, da, l, 0, tk, []⟩]) ⟨nm, tn, a, da, l, 0, tk, []⟩ rfl ⟨Y'.inst, Y'.sys, fun i hi => ?_⟩ (.inr ⟨hl, rfl, rfl, rfl⟩))
      · rcases List.mem_append.mp hi with hi | hi
        · exact Y'.ds i hi
        · rw [List.mem_singleton.mp hi]; exact hda
      · have e : dput (is.map NI.ent) nm tn (.ref a) = (is ++ [(⟨nm, tn, a, da, l, 0, tk, []⟩ : NI)]).map NI.ent := dput_new is ⟨nm, tn, a, da, l, 0, tk, []⟩ hl
        show List.Perm ((l, listC []) :: (a, slotC 65 da [some (.str nm tn), some (.int 0 tk), some (.ref l)]) :: (dx, attrC (skv dn rd po fi t u)) :: (dn, dictC C.w (dput (is.map NI.ent) nm tn (.ref a))) :: is.flatMap NI.cells) _
        rw [e]
        unfold sN
        rw [List.flatMap_append]
        have h1 : List.Perm [(l, listC []), (a, slotC 65 da [some (.str nm tn), some (.int 0 tk), some (.ref l)])] (List.flatMap NI.cells [(⟨nm, tn, a, da, l, 0, tk, []⟩ : NI)]) := .swap ..
        refine List.Perm.trans (List.Perm.append_right _ h1) ?_
        exact List.perm_append_comm (l₁ := List.flatMap NI.cells [(⟨nm, tn, a, da, l, 0, tk, []⟩ : NI)]) (l₂ := (dx, attrC (skv dn rd po fi t u)) :: (dn, dictC C.w ((is ++ [(⟨nm, tn, a, da, l, 0, tk, []⟩ : NI)]).map NI.ent)) :: is.flatMap NI.cells)
end Two
end Mine

open PySem PySem.Calls PyProof.Rows
open PySem.W (instObj emptyDict)
set_option Elab.async false
set_option linter.unusedVariables false
set_option maxRecDepth 100000
namespace Mine

namespace Two
def NI.abs (i : NI) : Str × Int × List Str := (i.nm, i.np, i.sc.map (·.1))
def absG (is : List NI) : Gr := is.map NI.abs
theorem absG_names (is : List NI) : (absG is).map (·.1) = is.map (·.nm) := by unfold absG; rw [List.map_map]; rfl
theorem lookI_none {is : List NI} {nm : Str} (h : lookI is nm = none) : nm ∉ is.map (·.nm) := fun hm => by
  obtain ⟨i, hi, e⟩ := List.mem_map.mp hm
  have := List.find?_eq_none.mp h i hi
  simp [e] at this
theorem lookI_some {is : List NI} {nm : Str} {i : NI} (h : lookI is nm = some i) : i ∈ is ∧ i.nm = nm := ⟨List.mem_of_find?_eq_some h, by simpa using List.find?_some h⟩
theorem abs_touch {is is' : List NI} {i : NI} {nm : Str} (h : (lookI is nm = some i ∧ is' = is) ∨ (lookI is nm = none ∧ is' = is ++ [i] ∧ i.np = 0 ∧ i.sc = [])) (hi : i.nm = nm) : absG is' = touch (absG is) nm := by
  unfold touch
  rw [absG_names]
  rcases h with ⟨h, rfl⟩ | ⟨h, rfl, h0, hs⟩
  · rw [if_pos (List.mem_map.mpr ⟨i, (lookI_some h).1, hi⟩)]
  · rw [if_neg (lookI_none h)]
    unfold absG
    rw [List.map_append]
    simp only [List.map_cons, List.map_nil]
    unfold NI.abs
    rw [hi, h0, hs]; rfl
end Two
end Mine

open PySem PySem.Calls PyProof.Rows
open PySem.W (instObj emptyDict)
set_option Elab.async false
set_option linter.unusedVariables false
set_option maxRecDepth 100000
namespace Mine
namespace Two
variable {C : Cx} {A : Around}

/-- one node's objects in the row of all -/
theorem put_obj {dn dx : Addr} {rd : Value} {po fi : Int} {t u : Tok} {A₀ B₀ : List NI} {i : NI} {np : Int} {nt : Tok} :
    PutN (sN C dn dx rd po fi t u (A₀ ++ i :: B₀)) i.a (slotC 65 i.d [some (.str i.nm i.t), some (.int i.np i.nt), some (.ref i.l)]) (slotC 65 i.d [some (.str i.nm i.t), some (.int np nt), some (.ref i.l)]) (sN C dn dx rd po fi t u (A₀ ++ { i with np := np, nt := nt } :: B₀)) := by
  have e : (A₀ ++ { i with np := np, nt := nt } :: B₀).map NI.ent = (A₀ ++ i :: B₀).map NI.ent := by simp only [List.map_append, List.map_cons]; rfl
  unfold sN
  rw [e, List.flatMap_append, List.flatMap_append, List.flatMap_cons, List.flatMap_cons]
  exact .tail (.tail (PutN.mid _))
theorem put_suc {dn dx : Addr} {rd : Value} {po fi : Int} {t u : Tok} {A₀ B₀ : List NI} {i : NI} {sc : List (Str × Tok)} :
    PutN (sN C dn dx rd po fi t u (A₀ ++ i :: B₀)) i.l (listC (strValues i.sc)) (listC (strValues sc)) (sN C dn dx rd po fi t u (A₀ ++ { i with sc := sc } :: B₀)) := by
  have e : (A₀ ++ { i with sc := sc } :: B₀).map NI.ent = (A₀ ++ i :: B₀).map NI.ent := by simp only [List.map_append, List.map_cons]; rfl
  unfold sN
  rw [e, List.flatMap_append, List.flatMap_append, List.flatMap_cons, List.flatMap_cons]
  have h : NI.cells i ++ List.flatMap NI.cells B₀ = [(i.a, slotC 65 i.d [some (.str i.nm i.t), some (.int i.np i.nt), some (.ref i.l)])] ++ (i.l, listC (strValues i.sc)) :: List.flatMap NI.cells B₀ := rfl
  have h' : NI.cells { i with sc := sc } ++ List.flatMap NI.cells B₀ = [(i.a, slotC 65 i.d [some (.str i.nm i.t), some (.int i.np i.nt), some (.ref i.l)])] ++ (i.l, listC (strValues sc)) :: List.flatMap NI.cells B₀ := rfl
  rw [h, h', ← List.append_assoc, ← List.append_assoc]
  exact .tail (.tail (PutN.mid _))
theorem mem_obj {dn dx : Addr} {rd : Value} {po fi : Int} {t u : Tok} {is : List NI} {i : NI} (h : i ∈ is) : (i.a, slotC 65 i.d [some (.str i.nm i.t), some (.int i.np i.nt), some (.ref i.l)]) ∈ sN C dn dx rd po fi t u is :=
  .tail _ (.tail _ (List.mem_flatMap.mpr ⟨i, h, .head _⟩))
theorem mem_suc {dn dx : Addr} {rd : Value} {po fi : Int} {t u : Tok} {is : List NI} {i : NI} (h : i ∈ is) : (i.l, listC (strValues i.sc)) ∈ sN C dn dx rd po fi t u is :=
  .tail _ (.tail _ (List.mem_flatMap.mpr ⟨i, h, .tail _ (.head _)⟩))
end Two
end Mine

open PySem PySem.Calls PyProof.Rows
open PySem.W (instObj emptyDict)
set_option Elab.async false
set_option linter.unusedVariables false
set_option maxRecDepth 100000
namespace Mine
namespace Two
variable {C : Cx} {A : Around}
theorem absG_cons (A₀ B₀ : List NI) (i : NI) : absG (A₀ ++ i :: B₀) = absG A₀ ++ i.abs :: absG B₀ := by unfold absG; rw [List.map_append, List.map_cons]
theorem abs_setNp {A₀ B₀ : List NI} {i : NI} {z : Int} {nt : Tok} (nd : ((absG (A₀ ++ i :: B₀)).map (·.1)).Nodup) : absG (A₀ ++ { i with np := z, nt := nt } :: B₀) = setNp (absG (A₀ ++ i :: B₀)) i.nm z := by
  rw [absG_cons, absG_cons]
  rw [absG_cons] at nd
  exact (upd_split (f := fun q => (q.1, z, q.2.2)) nd).symm
theorem abs_addSc {A₀ B₀ : List NI} {i : NI} {m : Str} {t : Tok} (nd : ((absG (A₀ ++ i :: B₀)).map (·.1)).Nodup) : absG (A₀ ++ { i with sc := i.sc ++ [(m, t)] } :: B₀) = addSc (absG (A₀ ++ i :: B₀)) i.nm m := by
  rw [absG_cons, absG_cons]
  rw [absG_cons] at nd
  have := (upd_split (f := fun q => (q.1, q.2.1, q.2.2 ++ [m])) nd).symm
  unfold addSc
  show absG A₀ ++ (i.nm, i.np, (i.sc ++ [(m, t)]).map (·.1)) :: absG B₀ = _
  rw [List.map_append]
  exact this
theorem Lay.put {G : Addr → Option Obj} {x dx dn : Addr} {A₀ B₀ : List NI} {i i' : NI} (h : Lay G x dx dn (A₀ ++ i :: B₀)) (hd : i'.d = i.d) : Lay G x dx dn (A₀ ++ i' :: B₀) := by
  refine ⟨h.inst, h.sys, fun z hz => ?_⟩
  rcases List.mem_append.mp hz with hz | hz
  · exact h.ds z (List.mem_append_left _ hz)
  · rcases List.mem_cons.mp hz with rfl | hz
    · rw [hd]; exact h.ds i (by simp)
    · exact h.ds z (List.mem_append_right _ (List.mem_cons_of_mem _ hz))
inductive AddP (C : Cx) (G : Addr → Option Obj) (k : Nat) (x dx dn : Addr) (po fi : Int) (t u : Tok) (g : Gr) : Value → (Addr → Option Obj) → List (Addr × Cell) → Nat → Prop
  | mk {G' : Addr → Option Obj} {k' : Nat} (h1 : GLe G G') (h2 : k ≤ k') (is' : List NI) (h3 : Lay G' x dx dn is') (h4 : absG is' = g) : AddP C G k x dx dn po fi t u g .none G' (sN C dn dx .none po fi t u is') k'
inductive AddI (C : Cx) (G : Addr → Option Obj) (k : Nat) (x dx dn tt ia : Addr) (po fi : Int) (t u : Tok) (nm : Str) (tn : Tok) (lz b : Nat) (ps : List Str) (g : Gr) (j : Nat) : Pt → Prop
  | mk (G₂ : Addr → Option Obj) (k₂ : Nat) (is₂ : List NI) (o1 o2 : Option Value) (h1 : GLe G G₂) (h2 : k ≤ k₂) (h3 : Lay G₂ x dx dn is₂) (h4 : is₂.length ≤ lz + 1 + j) (h5 : ((absG is₂).map (·.1)).Nodup) (h6 : Small (absG is₂) (b + j))
      (h7 : absG is₂ = (ps.take j).foldl (fun g p => addSc (touch g p) p nm) g) :
    AddI C G k x dx dn tt ia po fi t u nm tn lz b ps g j ⟨G₂, [("self", some (.ref x)), ("node", some (.str nm tn)), ("predecessors", some (.ref tt)), ("nodeinfo", some (.ref ia)), ("pred", o1), ("pred_info", o2)], sN C dn dx .none po fi t u is₂, k₂⟩
theorem w_add (H : SCx C) {d : Nat} (hr : Room A (d + 5)) {outer : List Env} (hA : A.frames = some outer) {x dx dn : Addr} {po fi : Int} {t u tn : Tok} {is : List NI} {nm : Str} {ps : List (Str × Tok)} {G : Addr → Option Obj} {k : Nat} (Y : Lay G x dx dn is)
    (hz : is.length + ps.length ≤ 900) (hn : ((absG is).map (·.1)).Nodup) {b : Nat} (hb : Small (absG is) b) (hb' : b + ps.length ≤ 1000000) :
    CallRun C A 112 (.ref x :: .str nm tn :: strValues ps) G (sN C dn dx .none po fi t u is) k (AddP C G k x dx dn po fi t u (gAdd (absG is) nm (ps.map (·.1)))) := by
  obtain ⟨⟨o, ho, hd⟩, hc⟩ := H.f112
  refine CallX.run (CallX.bodyV (rest := strValues ps) (front := [("self", .ref x), ("node", .str nm tn)]) (nm := "predecessors") (m₀ := fun tt => [("self", some (.ref x)), ("node", some (.str nm tn)), ("predecessors", some (.ref tt)), ("nodeinfo", none), ("pred", none), ("pred_info", none)])
    H.base hr hA ho hd hc ?_ ?_ (fun _ => rfl) (fun _ => rfl) (fun _ => nodup_of rfl) rfl (by decide) ?_ fun L tt G₁ hG₁ htt hR => Run.toE (Run.abs fun Q0 hQ0 => ?_))
  · cases ps <;> rfl
  · rw [show (strValues ps).length = ps.length by simp [strValues], sizeLine_eq]; omega
  · intro tt q hq
    rcases List.mem_cons.mp hq with rfl | hq
    · rfl
    · rcases List.mem_cons.mp hq with rfl | hq
      · rfl
      · rw [List.mem_singleton.mp hq]; rfl
  · have Y₁ := Y.mono hG₁
    obtain ⟨⟨og, hog, hdg⟩, hcg⟩ := H.f105
    refine X_cons (X_If (T_Cmp (E_Attr (E_loc (v := .ref x) (.head _) (R_getOwn H.X H.o1 Y₁.inst (.head _) (v := .none) rfl rfl (E_none (C_isnN (truthy_bool (X_nil ?_)))))))))
    dsimp only
    refine X_cons (X_Assign (E_methF hog hdg (E_loc (v := .ref x) (.head _) (R_method H.X H.mGet Y₁.inst (.head _) rfl ⟨rfl, E_items_cons (E_loc (v := .str nm tn) (.tail _ (.head _)) (E_items_nil
      (R_call (Nr := []) (by rw [List.append_nil]) ((w_info H (d := d + 1) (hR.less (by omega)) Y₁ (by omega)).mono fun v G' N' k' hv => ?_))))⟩))))
    refine hv.casesOn ?_
    intro G' k' hG' hk' is₁ i hi Y₂ hT
    have him : i ∈ is₁ := by
      rcases hT with ⟨h, rfl⟩ | ⟨h, rfl, _, _⟩
      · exact (lookI_some h).1
      · simp
    have ha₁ := abs_touch hT hi
    refine Run.perm (N' := sN C dn dx .none po fi t u is₁) (by rw [List.append_nil]) (storeLoc (.tail (.tail (.tail .head))) ?_)
    dsimp only
    obtain ⟨A₀, B₀, rfl⟩ := List.append_of_mem him
    refine X_cons (X_AugAttr (E_loc (v := .ref i.a) (.tail _ (.tail _ (.tail _ (.head _)))) (R_getSlot H.X H.s1 (.inl (mem_obj him)) (Y₂.ds i him) rfl rfl
      (E_callV (f := .builtin "len") (fun {Q} h => E_blt H.base (.head _) h) (E_items_cons (E_loc (v := .ref tt) (.tail _ (.tail _ (.head _))) (E_items_nil (R_len_tup (htt.mono hG') (by simp [strValues]; omega) fun tk => B_iadd fun tk2 =>
        R_setSlot H.X H.s1 put_obj (Y₂.ds i him) ?_))))))))
    dsimp only
    have hl₁ : (A₀ ++ i :: B₀).length ≤ is.length + 1 := by
      rcases hT with ⟨_, h⟩ | ⟨_, h, _, _⟩
      · rw [h]; omega
      · rw [h]; simp
    refine X_one (X_ForV (AddI C G₁ k x dx dn tt i.a po fi t u nm tn is.length b (ps.map (·.1)) (addNp (touch (absG is) nm) nm ps.length)) (fun h => E_loc (v := .ref tt) (.tail _ (.tail _ (.head _))) h) (IterOn.tuple hR.hd (htt.mono hG')) ?_ ?_ ?_)
    · have nd : ((absG (A₀ ++ i :: B₀)).map (·.1)).Nodup := by rw [ha₁]; exact touch_nodup hn
      have eg : ∀ nt, absG (A₀ ++ { i with np := i.np + ((strValues ps).length : Int), nt := nt } :: B₀) = addNp (touch (absG is) nm) nm ps.length := fun nt => by
        rw [← ha₁, absG_cons, absG_cons]
        rw [absG_cons] at nd
        have := upd_split (f := fun q => (q.1, q.2.1 + (ps.length : Int), q.2.2)) nd
        unfold addNp
        rw [show i.abs.1 = nm from hi] at this
        rw [this]
        simp [NI.abs, strValues, hi]
      refine ⟨G', k', _, none, none, hG', hk', Y₂.put rfl, by simpa using hl₁, ?_, ?_, ?_⟩
      · rw [eg, addNp_names]; exact touch_nodup hn
      · rw [eg]; exact (hb.touch nm).addNp _ _
      · rw [eg]; rfl
    · intro j p₂ hj hI9
      refine hI9.casesOn ?_
      intro G₂ k₂ is₂ o1 o2 hG₂ hk₂ Y₃ hl₂ nd₂ sm₂ ha₂
      refine AsgRun.name fun v ⟨_, hv⟩ => ?_
      have hj' : j < ps.length := by simpa [strValues] using hj
      have ev : v = .str ps[j].1 ps[j].2 := by
        have : (strValues ps)[j]? = some (.str ps[j].1 ps[j].2) := by simp [strValues, hj']
        rw [this] at hv; exact (Option.some.inj hv).symm
      subst ev
      refine storeLoc (.tail (.tail (.tail (.tail .head)))) (Run.abs fun Q1 hQ1 => ?_)
      dsimp only at hQ1 ⊢
      refine X_cons (X_Assign (E_methF hog hdg (E_loc (v := .ref x) (.head _) (R_method H.X H.mGet Y₃.inst (.head _) rfl ⟨rfl, E_items_cons (E_loc (v := .str ps[j].1 ps[j].2) (.tail _ (.tail _ (.tail _ (.tail _ (.head _))))) (E_items_nil
        (R_call (Nr := []) (by rw [List.append_nil]) ((w_info H (d := d + 1) (hR.less (by omega)) Y₃ (by omega)).mono fun v G' N' k' hv => ?_))))⟩))))
      refine hv.casesOn ?_
      intro G' k' hG₄ hk₄ is₄ i₄ hi₄ Y₄ hT₄
      have him₄ : i₄ ∈ is₄ := by
        rcases hT₄ with ⟨h, rfl⟩ | ⟨h, rfl, _, _⟩
        · exact (lookI_some h).1
        · simp
      have ha₄ := abs_touch hT₄ hi₄
      have hl₄ : is₄.length ≤ is₂.length + 1 := by
        rcases hT₄ with ⟨_, h⟩ | ⟨_, h, _, _⟩
        · rw [h]; omega
        · rw [h]; simp
      have sm₄ : Small (absG is₄) (b + j) := by rw [ha₄]; exact sm₂.touch _
      have nd₄ : ((absG is₄).map (·.1)).Nodup := by rw [ha₄]; exact touch_nodup nd₂
      refine Run.perm (N' := sN C dn dx .none po fi t u is₄) (by rw [List.append_nil]) (storeLoc (.tail (.tail (.tail (.tail (.tail .head))))) ?_)
      dsimp only
      obtain ⟨A₄, B₄, rfl⟩ := List.append_of_mem him₄
      refine X_one (X_Expr (E_meth F.slot_list_append F.plainAttrs_list F.type_list_append (E_Attr (E_loc (v := .ref i₄.a) (.tail _ (.tail _ (.tail _ (.tail _ (.tail _ (.head _)))))) (R_getSlot H.X H.s2 (.inl (mem_obj him₄)) (Y₄.ds i₄ him₄) rfl rfl
        ⟨HasT.list (.inr (mem_suc him₄)), E_items_cons (E_loc (v := .str nm tn) (.tail _ (.head _)) (E_items_nil (R_append (vs := strValues i₄.sc) (x := .str nm tn) (N' := sN C dn dx .none po fi t u (A₄ ++ { i₄ with sc := i₄.sc ++ [(nm, tn)] } :: B₄)) ?_ ?_ ⟨(fun _ e => nomatch e), ?_⟩)))⟩)))))
      · have : strValues i₄.sc ++ [.str nm tn] = strValues (i₄.sc ++ [(nm, tn)]) := by simp [strValues]
        rw [this]; exact put_suc
      · have := sm₄ i₄.abs (by rw [absG_cons]; simp)
        simp only [NI.abs, List.length_map] at this
        simp only [strValues, List.length_map]
        rw [sizeLine_eq]; omega
      · have ea : absG (A₄ ++ { i₄ with sc := i₄.sc ++ [(nm, tn)] } :: B₄) = addSc (touch (absG is₂) ps[j].1) ps[j].1 nm := by rw [abs_addSc nd₄, ha₄, hi₄]
        refine hQ1 _ _ ⟨_, _, _, _, _, GLe.trans hG₂ hG₄, Nat.le_trans hk₂ hk₄, Y₄.put rfl, ?_, ?_, ?_, ?_⟩
        · simp only [List.length_append, List.length_cons] at hl₄ ⊢; omega
        · rw [ea, addSc_names]; exact touch_nodup nd₂
        · rw [ea]; exact (sm₂.touch _).addSc _ _
        · rw [ea, ha₂, List.take_add_one, List.getElem?_map, List.getElem?_eq_getElem hj', Option.map_some, Option.toList_some, List.foldl_append]; rfl
    · intro p₂ hI9
      refine hI9.casesOn ?_
      intro G₂ k₂ is₂ o1 o2 hG₂ hk₂ Y₃ hl₂ nd₂ sm₂ ha₂
      refine X_nil (hQ0 _ _ ⟨GLe.trans hG₁ hG₂, hk₂, is₂, Y₃, ?_⟩)
      rw [ha₂, List.take_of_length_le (by simp [strValues])]; unfold gAdd; rw [List.length_map]
end Two
end Mine

open PySem PySem.Calls PyProof.Rows
open PySem.W (instObj emptyDict)
set_option Elab.async false
set_option linter.unusedVariables false
set_option maxRecDepth 100000
namespace Mine
namespace Two
variable {C : Cx} {A : Around}

/-! the sorter when all is added: its dict and the lists of successors are frozen -/
def NI.cell (i : NI) : Addr × Cell := (i.a, slotC 65 i.d [some (.str i.nm i.t), some (.int i.np i.nt), some (.ref i.l)])
def fN (dn dx : Addr) (rd : Value) (po fi : Int) (t u : Tok) (is : List NI) : List (Addr × Cell) := (dx, attrC (skv dn rd po fi t u)) :: is.map NI.cell
structure LayF (C : Cx) (G : Addr → Option Obj) (x dx dn : Addr) (is : List NI) : Prop where
  inst : G x = some (instObj 162 dx)
  dict : DictG C.w G dn (is.map NI.ent)
  ds : ∀ i ∈ is, G i.d = some emptyDict
  sl : ∀ i ∈ is, ListAt G i.l (strValues i.sc)
theorem LayF.mono {G G' : Addr → Option Obj} {x dx dn : Addr} {is : List NI} (h : LayF C G x dx dn is) (g : GLe G G') : LayF C G' x dx dn is :=
  ⟨g _ _ h.inst, h.dict.mono g, fun i hi => g _ _ (h.ds i hi), fun i hi => (h.sl i hi).mono g⟩
theorem freezeAll {α : Type} {L : Addr} {t : Sem α} {Q : α → Pt → Prop} : ∀ (is : List NI) {G : Addr → Option Obj} {m : List (Str × Option Value)} {N : List (Addr × Cell)} {k : Nat},
    (∀ G', GLe G G' → (∀ i ∈ is, ListAt G' i.l (strValues i.sc)) → Run C A L t ⟨G', m, N, k⟩ Q) → Run C A L t ⟨G, m, is.map (fun i => (i.l, listC (strValues i.sc))) ++ N, k⟩ Q
  | [], G, m, N, k, h => h G (GLe.refl _) fun i hi => by simp at hi
  | i :: r, G, m, N, k, h => by
    refine Run.freeze .head fun o G₁ hc hG hn => ?_
    refine freezeAll r fun G₂ hG₂ hr => h G₂ (GLe.trans (by rw [hG]; exact GLe.add hn) hG₂) fun j hj => ?_
    rcases List.mem_cons.mp hj with rfl | hj
    · exact (show ListAt G₁ j.l (strValues j.sc) by rw [hG]; exact ListAt.new hc).mono hG₂
    · exact hr j hj
theorem cells_perm : ∀ is : List NI, List.Perm (is.flatMap NI.cells) (is.map (fun i => (i.l, listC (strValues i.sc))) ++ is.map NI.cell)
  | [] => .nil
  | i :: r => by
    rw [List.flatMap_cons, List.map_cons, List.map_cons]
    show List.Perm (NI.cell i :: (i.l, listC (strValues i.sc)) :: r.flatMap NI.cells) ((i.l, listC (strValues i.sc)) :: (r.map (fun i => (i.l, listC (strValues i.sc))) ++ NI.cell i :: r.map NI.cell))
    refine (List.Perm.swap ..).trans (.cons _ ?_)
    exact (List.Perm.cons _ (cells_perm r)).trans List.perm_middle.symm
theorem toFrozen {α : Type} {L : Addr} {tr : Sem α} {Q : α → Pt → Prop} {G : Addr → Option Obj} {m : List (Str × Option Value)} {R : List (Addr × Cell)} {k : Nat} {x dx dn : Addr} {rd : Value} {po fi : Int} {t u : Tok} {is : List NI} (Y : Lay G x dx dn is)
    (h : ∀ G', GLe G G' → LayF C G' x dx dn is → Run C A L tr ⟨G', m, fN dn dx rd po fi t u is ++ R, k⟩ Q) : Run C A L tr ⟨G, m, sN C dn dx rd po fi t u is ++ R, k⟩ Q := by
  have hp : List.Perm (sN C dn dx rd po fi t u is ++ R) ((dn, dictC C.w (is.map NI.ent)) :: (is.map (fun i => (i.l, listC (strValues i.sc))) ++ (fN dn dx rd po fi t u is ++ R))) := by
    unfold sN fN
    refine (List.Perm.swap ..).trans (.cons _ ?_)
    refine List.Perm.trans (List.Perm.cons _ (List.Perm.append_right _ (cells_perm is))) ?_
    rw [List.append_assoc]
    exact List.perm_middle.symm
  refine Run.perm hp (Run.freeze .head fun o G₁ hc hG hn => ?_)
  have g1 : GLe G G₁ := by rw [hG]; exact GLe.add hn
  refine freezeAll is fun G₂ hG₂ hl => h G₂ (GLe.trans g1 hG₂) ⟨hG₂ _ _ (g1 _ _ Y.inst), ⟨Y.sys, o, hG₂ _ _ (by rw [hG]; exact addG_self), hc⟩, fun i hi => hG₂ _ _ (g1 _ _ (Y.ds i hi)), hl⟩
theorem fput {dn dx : Addr} {rd : Value} {po fi : Int} {t u : Tok} {A₀ B₀ : List NI} {R : List (Addr × Cell)} {i : NI} {np : Int} {nt : Tok} :
    PutN (fN dn dx rd po fi t u (A₀ ++ i :: B₀) ++ R) i.a (slotC 65 i.d [some (.str i.nm i.t), some (.int i.np i.nt), some (.ref i.l)]) (slotC 65 i.d [some (.str i.nm i.t), some (.int np nt), some (.ref i.l)]) (fN dn dx rd po fi t u (A₀ ++ { i with np := np, nt := nt } :: B₀) ++ R) := by
  unfold fN
  rw [List.map_append, List.map_append, List.map_cons, List.map_cons, List.cons_append, List.cons_append, List.append_assoc, List.append_assoc]
  exact .tail (PutN.mid _)
theorem fmem {dn dx : Addr} {rd : Value} {po fi : Int} {t u : Tok} {is : List NI} {R : List (Addr × Cell)} {i : NI} (h : i ∈ is) : (i.a, slotC 65 i.d [some (.str i.nm i.t), some (.int i.np i.nt), some (.ref i.l)]) ∈ fN dn dx rd po fi t u is ++ R :=
  List.mem_append_left _ (.tail _ (List.mem_map_of_mem (f := NI.cell) h))
theorem LayF.put {G : Addr → Option Obj} {x dx dn : Addr} {A₀ B₀ : List NI} {i : NI} {np : Int} {nt : Tok} (h : LayF C G x dx dn (A₀ ++ i :: B₀)) : LayF C G x dx dn (A₀ ++ { i with np := np, nt := nt } :: B₀) := by
  have e : (A₀ ++ { i with np := np, nt := nt } :: B₀).map NI.ent = (A₀ ++ i :: B₀).map NI.ent := by simp only [List.map_append, List.map_cons]; rfl
  refine ⟨h.inst, by rw [e]; exact h.dict, fun z hz => ?_, fun z hz => ?_⟩
  · rcases List.mem_append.mp hz with hz | hz
    · exact h.ds z (List.mem_append_left _ hz)
    · rcases List.mem_cons.mp hz with rfl | hz
      · exact h.ds i (by simp)
      · exact h.ds z (List.mem_append_right _ (List.mem_cons_of_mem _ hz))
  · rcases List.mem_append.mp hz with hz | hz
    · exact h.sl z (List.mem_append_left _ hz)
    · rcases List.mem_cons.mp hz with rfl | hz
      · exact h.sl i (by simp)
      · exact h.sl z (List.mem_append_right _ (List.mem_cons_of_mem _ hz))
def scOf (is : List NI) (n : Str) : List Str := ((lookI is n).map fun i => i.sc.map (·.1)).getD []
def namesOf (is : List NI) : List Str := is.map (·.nm)
theorem lookI_mem {is : List NI} (nd : (namesOf is).Nodup) {i : NI} (h : i ∈ is) : lookI is i.nm = some i := by
  induction is with
  | nil => simp at h
  | cons j r ih =>
    obtain ⟨n1, n2⟩ := List.nodup_cons.mp nd
    unfold lookI
    rcases List.mem_cons.mp h with rfl | h
    · rw [List.find?_cons_of_pos (by simp)]
    · have : ¬ j.nm = i.nm := fun e => n1 (by show j.nm ∈ _; rw [e]; exact List.mem_map_of_mem (f := (·.nm)) h)
      rw [List.find?_cons_of_neg (by simpa using this)]
      exact ih n2 h
theorem scOf_mem {is : List NI} (nd : (namesOf is).Nodup) {i : NI} (h : i ∈ is) : scOf is i.nm = i.sc.map (·.1) := by unfold scOf; rw [lookI_mem nd h]; rfl
end Two
end Mine

open PySem PySem.Calls PyProof.Rows
open PySem.W (instObj emptyDict)
set_option Elab.async false
set_option linter.unusedVariables false
set_option maxRecDepth 100000
namespace Mine
namespace Two
variable {C : Cx} {A : Around}

theorem nodup_len : ∀ {A B : List Str}, A.Nodup → (∀ x ∈ A, x ∈ B) → A.length ≤ B.length
  | [], _, _, _ => Nat.zero_le _
  | a :: A, B, nd, h => by
    obtain ⟨n1, n2⟩ := List.nodup_cons.mp nd
    have hb := h a (by simp)
    have ih := nodup_len n2 (B := B.erase a) fun x hx => (List.mem_erase_of_ne (fun e : x = a => n1 (by rw [← e]; exact hx))).mpr (h x (List.mem_cons_of_mem _ hx))
    rw [List.length_erase_of_mem hb] at ih
    have : 0 < B.length := List.length_pos_of_mem hb
    simp only [List.length_cons]; omega
/-- a place of the stack of _find_cycle -/
structure SE where
  ni : NI
  t : Tok
  jt : Tok
  b : Addr
  it : Addr
  i : Nat
def SE.cell (e : SE) : Addr × Cell := (e.it, liC e.ni.l e.i)
def absK (K : List SE) : List (Str × Nat) := K.map fun e => (e.ni.nm, e.i)
def kvsOf : List SE → List (Str × Value)
  | [] => []
  | e :: r => kvsOf r ++ [(e.ni.nm, .int r.length e.jt)]
def stkOf : List SE → List (Str × Tok)
  | [] => []
  | e :: r => stkOf r ++ [(e.ni.nm, e.t)]
def itsOf : List SE → List Value
  | [] => []
  | e :: r => itsOf r ++ [.ref e.b]
theorem kvsOf_names : ∀ K : List SE, ∀ x, x ∈ (kvsOf K).map (·.1) ↔ x ∈ (absK K).map (·.1)
  | [], x => Iff.rfl
  | e :: r, x => by
    have ih := kvsOf_names r x
    rw [show kvsOf (e :: r) = kvsOf r ++ [(e.ni.nm, .int r.length e.jt)] from rfl, show absK (e :: r) = (e.ni.nm, e.i) :: absK r from rfl]
    simp only [List.map_append, List.map_cons, List.map_nil, List.mem_append, List.mem_cons, List.not_mem_nil, or_false]
    rw [ih]
    exact or_comm
theorem kvsOf_len : ∀ K : List SE, (kvsOf K).length = K.length
  | [] => rfl
  | e :: r => by unfold kvsOf; rw [List.length_append, kvsOf_len r]; rfl
theorem stkOf_len : ∀ K : List SE, (stkOf K).length = K.length
  | [] => rfl
  | e :: r => by unfold stkOf; rw [List.length_append, stkOf_len r]; rfl
theorem itsOf_len : ∀ K : List SE, (itsOf K).length = K.length
  | [] => rfl
  | e :: r => by unfold itsOf; rw [List.length_append, itsOf_len r]; rfl
theorem strValues_snoc (a : List (Str × Tok)) (q : Str × Tok) : strValues (a ++ [q]) = strValues a ++ [.str q.1 q.2] := by unfold strValues; rw [List.map_append]; rfl
/-- a place that stands in the stack -/
theorem valueAt_kvs : ∀ {K : List SE} {n : Str}, ((absK K).map (·.1)).Nodup → n ∈ (absK K).map (·.1) → ∃ j jt, valueAt (kvsOf K) n = some (.int (j : Nat) jt) ∧ j < K.length
  | [], _, _, h => by simp [absK] at h
  | e :: r, n, nd, h => by
    unfold absK at nd h
    rw [List.map_cons, List.map_cons] at nd h
    obtain ⟨n1, n2⟩ := List.nodup_cons.mp nd
    have hn : e.ni.nm ∉ (kvsOf r).map (·.1) := fun hm => n1 ((kvsOf_names r _).mp hm)
    rcases List.mem_cons.mp h with rfl | h
    · exact ⟨r.length, e.jt, valueAt_last hn, by simp⟩
    · obtain ⟨j, jt, h1, h2⟩ := valueAt_kvs n2 h
      refine ⟨j, jt, ?_, by simp; omega⟩
      unfold kvsOf
      unfold valueAt at h1 ⊢
      rw [List.find?_append]
      cases hf : (kvsOf r).find? (fun kv => decide (kv.1 = n)) with
      | none => rw [hf] at h1; cases h1
      | some q => rw [hf] at h1; exact h1

/-- what _find_cycle owns: its dict of places, its set, its two lists, the iterators -/
def cN (C : Cx) (n2s se its ss : Addr) (K : List SE) (Sf : Str → Bool) (n : Nat) (base : List (Addr × Cell)) : List (Addr × Cell) :=
  (n2s, kvC C (kvsOf K)) :: (se, setC C Sf n) :: (its, listC (itsOf K)) :: (ss, listC (strValues (stkOf K))) :: (K.map SE.cell ++ base)
structure KOk (G : Addr → Option Obj) (is : List NI) (K : List SE) : Prop where
  mem : ∀ e ∈ K, e.ni ∈ is
  mw : ∀ e ∈ K, MwG G e.b e.it
abbrev mF (x dn ss its se n2s : Addr) (o : Option Value) : List (Str × Option Value) := [("self", some (.ref x)), ("n2i", some (.ref dn)), ("stack", some (.ref ss)), ("itstack", some (.ref its)), ("seen", some (.ref se)), ("node2stacki", some (.ref n2s)), ("node", o)]
structure SeenOk (F : List Str) (K : List SE) (Sf : Str → Bool) (n : Nat) : Prop where
  s : ∀ x, Sf x = decide (x ∈ F ++ (absK K).map (·.1))
  n : n = (F ++ (absK K).map (·.1)).length
/-- at the head of the inner loop -/
inductive HeadP (x dn ss its se n2s : Addr) (C : Cx) (G₀ : Addr → Option Obj) (k₀ : Nat) (is : List NI) (base : List (Addr × Cell)) (s : Str) (F₀ : List Str) (m : Nat) : Pt → Prop
  | mk (G : Addr → Option Obj) (k : Nat) (F : List Str) (K : List SE) (Sf : Str → Bool) (n : Nat) (node : Str) (tn : Tok) (h1 : GLe G₀ G) (h2 : k₀ ≤ k) (h3 : ∀ z ∈ F₀, z ∈ F) (h4 : KOk G is K) (h5 : SeenOk F K Sf n)
      (h6 : Dfs.HS (scOf is) (namesOf is) s F (absK K) node) (h7 : Dfs.M (scOf is) (namesOf is) F (absK K) = m) : HeadP x dn ss its se n2s C G₀ k₀ is base s F₀ m ⟨G, mF x dn ss its se n2s (some (.str node tn)), cN C n2s se its ss K Sf n base, k⟩
inductive OpenP (x dn ss its se n2s : Addr) (C : Cx) (G₀ : Addr → Option Obj) (k₀ : Nat) (is : List NI) (base : List (Addr × Cell)) (s : Str) (F₀ : List Str) (m : Nat) (c : Nat) : Pt → Prop
  | mk (G : Addr → Option Obj) (k : Nat) (F : List Str) (K : List SE) (Sf : Str → Bool) (n : Nat) (o : Option Value) (h1 : GLe G₀ G) (h2 : k₀ ≤ k) (h3 : ∀ z ∈ F₀, z ∈ F) (h4 : KOk G is K) (h5 : SeenOk F K Sf n)
      (h6 : Dfs.OS (scOf is) (namesOf is) s F (absK K)) (h7 : Dfs.M (scOf is) (namesOf is) F (absK K) ≤ m) (h8 : K.length = c) : OpenP x dn ss its se n2s C G₀ k₀ is base s F₀ m c ⟨G, mF x dn ss its se n2s o, cN C n2s se its ss K Sf n base, k⟩
inductive DoneP (x dn ss its se n2s : Addr) (C : Cx) (G₀ : Addr → Option Obj) (k₀ : Nat) (is : List NI) (base : List (Addr × Cell)) (s : Str) (F₀ : List Str) : Pt → Prop
  | mk (G : Addr → Option Obj) (k : Nat) (F : List Str) (Sf : Str → Bool) (n : Nat) (o : Option Value) (h1 : GLe G₀ G) (h2 : k₀ ≤ k) (h3 : ∀ z ∈ F₀, z ∈ F) (h4 : SeenOk F [] Sf n) (h5 : F.Nodup) (h6 : ∀ y ∈ F, y ∈ namesOf is) (h7 : Dfs.Fin (scOf is) F)
      (h8 : s ∈ F) : DoneP x dn ss its se n2s C G₀ k₀ is base s F₀ ⟨G, mF x dn ss its se n2s o, cN C n2s se its ss [] Sf n base, k⟩
/-- at the head of the outer loop -/
inductive RoundP (x dn ss its se n2s : Addr) (C : Cx) (G₀ : Addr → Option Obj) (k₀ : Nat) (is : List NI) (base : List (Addr × Cell)) (j : Nat) : Pt → Prop
  | mk (G : Addr → Option Obj) (k : Nat) (F : List Str) (Sf : Str → Bool) (n : Nat) (o : Option Value) (h1 : GLe G₀ G) (h2 : k₀ ≤ k) (h3 : SeenOk F [] Sf n) (h4 : F.Nodup) (h5 : ∀ y ∈ F, y ∈ namesOf is) (h6 : Dfs.Fin (scOf is) F)
      (h7 : ∀ z ∈ (namesOf is).take j, z ∈ F) : RoundP x dn ss its se n2s C G₀ k₀ is base j ⟨G, mF x dn ss its se n2s o, cN C n2s se its ss [] Sf n base, k⟩
/-- a cycle is handed back -/
inductive CycP (C : Cx) (G₀ : Addr → Option Obj) (k₀ : Nat) (is : List NI) (base : List (Addr × Cell)) : Flow → Pt → Prop
  | mk (l : Addr) (vs : List Value) (junk : List (Addr × Cell)) (h1 : vs ≠ []) (h2 : vs.length ≤ 100000) {G : Addr → Option Obj} {m : List (Str × Option Value)} {k : Nat} (h3 : GLe G₀ G) (h4 : k₀ ≤ k) (n : Str) (j : Nat) (h5 : n ∈ namesOf is) (h6 : Dfs.Reach (scOf is) (j + 1) n n) :
      CycP C G₀ k₀ is base (.ret (.ref l)) ⟨G, m, (l, listC vs) :: (junk ++ base), k⟩
/-- the inner loop's end -/
inductive EndP (D : Pt → Prop) (Y : Flow → Pt → Prop) : Flow → Pt → Prop
  | on {p : Pt} (h : D p) : EndP D Y .next p
  | cyc {f : Flow} {p : Pt} (h : Y f p) : EndP D Y f p
/-- what _find_cycle hands back -/
inductive FindP (G : Addr → Option Obj) (k : Nat) (is : List NI) (N : List (Addr × Cell)) : Value → (Addr → Option Obj) → List (Addr × Cell) → Nat → Prop
  | none {G' : Addr → Option Obj} {k' : Nat} (h1 : GLe G G') (h2 : k ≤ k') (F : List Str) (h3 : Dfs.Fin (scOf is) F) (h4 : ∀ y ∈ F, y ∈ namesOf is) (h5 : ∀ n ∈ namesOf is, n ∈ F) : FindP G k is N .none G' N k'
  | some {G' : Addr → Option Obj} {k' : Nat} (h1 : GLe G G') (h2 : k ≤ k') (l : Addr) (vs : List Value) (h3 : vs ≠ []) (h4 : vs.length ≤ 100000) (n : Str) (j : Nat) (h5 : n ∈ namesOf is) (h6 : Dfs.Reach (scOf is) (j + 1) n n) : FindP G k is N (.ref l) G' ((l, listC vs) :: N) k'
end Two
end Mine

open PySem PySem.Calls PyProof.Rows
open PySem.W (instObj emptyDict)
set_option Elab.async false
set_option linter.unusedVariables false
set_option maxRecDepth 100000
namespace Mine
namespace Two
variable {C : Cx} {A : Around}
theorem w_find (H : SCx C) {d : Nat} (hr : Room A (d + 1)) {outer : List Env} (hA : A.frames = some outer) {x dx dn : Addr} {rd : Value} {po fi : Int} {t u : Tok} {is : List NI} {R : List (Addr × Cell)} (hO : Outer outer R) {G : Addr → Option Obj} {k : Nat}
    (Y : LayF C G x dx dn is) (nd : (namesOf is).Nodup) (hc : ∀ n ∈ namesOf is, ∀ m ∈ scOf is n, m ∈ namesOf is) (hz : is.length ≤ 900) (hs : ∀ i ∈ is, i.sc.length ≤ 1000000) :
    CallRun C A 152 [.ref x] G (fN dn dx rd po fi t u is ++ R) k (FindP G k is (fN dn dx rd po fi t u is ++ R)) := by
  obtain ⟨⟨o, ho, hd⟩, hcd⟩ := H.f152
  refine CallRun.dropS (CallRun.go [("self", some (.ref x)), ("n2i", none), ("stack", none), ("itstack", none), ("seen", none), ("node2stacki", none), ("node", none)] H.base hr ho hd hcd (.of_eq (binds := [("self", .ref x)]) rfl) fun L hR => Run.abs fun Q0 hQ0 => ?_)
  refine X_cons (X_Assign (E_Attr (E_loc (v := .ref x) (.head _) (R_getOwn H.X H.o0 Y.inst (.head _) (v := .ref dn) rfl rfl (storeLoc (.tail .head) ?_)))))
  dsimp only
  refine X_cons (X_Assign (E_List (E_items_nil (newList_N (by decide) fun ss => storeLoc (.tail (.tail .head)) ?_))))
  dsimp only
  refine X_cons (X_Assign (E_List (E_items_nil (newList_N (by decide) fun its => storeLoc (.tail (.tail (.tail .head))) ?_))))
  dsimp only
  refine X_cons (X_Assign (E_callV (f := .type "set") (fun {Q} h => E_blt H.base (.tail _ (.tail _ (.tail _ (.head _)))) h) (E_items_nil (R_setNew fun se hse => storeLoc (.tail (.tail (.tail (.tail .head)))) ?_))))
  dsimp only
  refine X_cons (X_Assign (E_Dict0 fun n2s hn2 => Run.weak (c' := kvC C []) .head (fun o h => h.isDictOf) (storeLoc (.tail (.tail (.tail (.tail (.tail .head))))) ?_)))
  dsimp only
  have hsm : (n2s == sysModules) = false := by
    obtain ⟨o3, ho3⟩ := H.hsm
    have : 3 < n2s := hn2 3 o3 ho3
    exact beq_eq_false_iff_ne.mpr fun e => by rw [e] at this; exact absurd this (by decide)
  generalize hb : fN dn dx rd po fi t u is ++ R = base at hQ0 ⊢
  have hOb : Outer outer base := hO.mono fun q hq => by rw [← hb]; exact List.mem_append_right _ hq
  have bmem : ∀ i ∈ is, (i.a, slotC 65 i.d [some (.str i.nm i.t), some (.int i.np i.nt), some (.ref i.l)]) ∈ base := fun i hi => by rw [← hb]; exact fmem hi
  have hlen : ∀ {F : List Str} {K : List SE}, (F ++ (absK K).map (·.1)).Nodup → (∀ y ∈ F ++ (absK K).map (·.1), y ∈ namesOf is) → F.length + K.length ≤ 900 := fun {F K} h1 h2 => by
    have h3 : (F ++ (absK K).map (·.1)).length ≤ (namesOf is).length := nodup_len h1 h2
    unfold absK namesOf at h3
    simp only [List.length_append, List.length_map] at h3
    omega
  refine X_cons (X_ForV (RoundP x dn ss its se n2s C G k is base) (fun h => E_loc (v := .ref dn) at1 h) (IterOn.keys hR.hd Y.dict) ?_ ?_ ?_)
  · refine ⟨G, k, [], fun _ => false, 0, none, GLe.refl _, Nat.le_refl _, ⟨fun x => by simp [absK], rfl⟩, List.nodup_nil, fun y hy => by simp at hy, fun A n B e => ?_, fun z hz => by simp at hz⟩
    have := congrArg List.length e
    simp at this
  · intro j p₂ hj hI9
    refine hI9.casesOn ?_
    intro G' k' Fd Sf n o hG' hk' hSe hnd hsub hfin hdone
    refine AsgRun.name fun v ⟨_, q, tn, hq, hv⟩ => ?_
    subst hv
    have hqi : ∃ i ∈ is, i.nm = q.1 ∧ (namesOf is)[j]? = some q.1 := by
      rw [List.getElem?_map, Option.map_eq_some_iff] at hq
      obtain ⟨i, hi, rfl⟩ := hq
      exact ⟨i, List.mem_of_getElem? hi, rfl, by unfold namesOf; rw [List.getElem?_map, hi]; rfl⟩
    obtain ⟨i₀, hi₀, hi₀n, hjn⟩ := hqi
    have hqn : q.1 ∈ namesOf is := List.mem_of_getElem? hjn
    have htake : ∀ F' : List Str, (∀ z ∈ Fd, z ∈ F') → q.1 ∈ F' → ∀ z ∈ (namesOf is).take (j + 1), z ∈ F' := fun F' h1 h2 z hz => by
      rw [List.take_add_one, hjn] at hz
      rcases List.mem_append.mp hz with hz | hz
      · exact h1 z (hdone z hz)
      · simp at hz; rw [hz]; exact h2
    refine storeLoc (.tail (.tail (.tail (.tail (.tail (.tail .head)))))) (Run.abs fun Q1 hQ1 => ?_)
    dsimp only at hQ1 ⊢
    refine X_cons (X_If (T_Cmp (E_loc (v := .str q.1 tn) (.tail _ (.tail _ (.tail _ (.tail _ (.tail _ (.tail _ (.head _))))))) (E_loc (v := .ref se) (.tail _ (.tail _ (.tail _ (.tail _ (.head _))))) (C_inSet (.tail _ (.head _)) (truthy_bool ?_))))))
    by_cases hq1 : q.1 ∈ Fd
    · rw [show Sf q.1 = true by rw [hSe.s]; simp [absK, hq1], if_pos rfl]
      refine X_one (X_Continue (hQ1 _ _ ⟨G', k', Fd, Sf, n, _, hG', hk', hSe, hnd, hsub, hfin, htake Fd (fun z h => h) hq1⟩)) (fun _ h => h)
    · rw [show Sf q.1 = false by rw [hSe.s]; simp [absK, hq1], if_neg (by decide)]
      refine X_nil ?_
      dsimp only
      refine X_one (Run.mono (Q := EndP (DoneP x dn ss its se n2s C G k is base q.1 Fd) (CycP C G k is base)) (X_While (HeadP x dn ss its se n2s C G k is base q.1 Fd) (Dfs.M (scOf is) (namesOf is) Fd []) ?_ ?_) ?_)
      · exact ⟨G', k', Fd, [], Sf, n, q.1, tn, hG', hk', fun z h => h, ⟨fun _ h => by simp at h, fun _ h => by simp at h⟩, hSe, Dfs.HS.first hnd hsub hfin hqn hq1, rfl⟩
      · intro m p₁ hI9
        refine hI9.casesOn ?_
        intro G₁ k₁ F₁ K Sf₁ n₁ node t₁ hG₁ hk₁ hF₁ hK hSe₁ hS hM
        have Y₁ := Y.mono hG₁
        have hl₁ := hlen hS.nd hS.sub
        obtain ⟨nn₁, nn₂, nn₃⟩ := List.nodup_append.mp hS.nd
        refine T_val (E_bool (truthy_bool ?_))
        rw [if_pos rfl]
        refine Run.abs fun Q2 hQ2 => ?_
        refine X_cons (Run.mono (Q := EndP (fun p => ∃ c, OpenP x dn ss its se n2s C G k is base q.1 Fd m c p) (CycP C G k is base)) (Run.abs fun Q3 hQ3 => X_If (T_Cmp (E_loc (v := .str node t₁) at6 (E_loc (v := .ref se) at4 (C_inSet at1 (truthy_bool ?_)))))) ?_)
        · rw [hSe₁.s]
          by_cases hn : node ∈ F₁ ++ (absK K).map (·.1)
          · rw [decide_eq_true hn, if_pos rfl]
            refine X_one (X_If (T_Cmp (E_loc (v := .str node t₁) at6 (E_loc (v := .ref n2s) at5 (C_inK at0 hsm (truthy_bool ?_))))))
            rw [valueAt_mem]
            by_cases hk : node ∈ (kvsOf K).map (·.1)
            · rw [decide_eq_true hk, if_pos rfl]
              have hk' := (kvsOf_names K node).mp hk
              obtain ⟨j', jt, hj1, hj2⟩ := valueAt_kvs nn₂ hk'
              refine X_one (X_Return (E_BinOp (E_Sb F.slot_list_getitem.lookup (E_loc (v := .ref ss) at2 (E_Slice (E_partSome (E_Sb F.slot_dict_getitem.lookup (E_loc (v := .ref n2s) at5 (E_loc (v := .str node t₁) at6 ⟨HasTy.kv at0, G_kv at0 hj1 (E_partNone (E_partNone fun a G₂ hG₂ hsl => ?_))⟩)))))))))
              refine ⟨HasTy.list (.inr at3), G_listS (.inr at3) hsl (.int _ _) .none .none (by simp) (by simp only [strValues, List.length_map, stkOf_len]; rw [sizeLine_eq]; omega) fun b => Run.freeze .head fun ob G₃ hcb hGe hne => ?_⟩
              have g3 : GLe G₁ G₃ := GLe.trans hG₂ (by rw [hGe]; exact GLe.add hne)
              have lb : ListG G₃ b (slicePick (strValues (stkOf K)).toArray (some (j' : Int)) none none).toList := by rw [hGe]; exact ListG.new hcb
              have lz : (slicePick (strValues (stkOf K)).toArray (some (j' : Int)) none none).toList.length ≤ 900 := by
                have := slicePick_size_le (strValues (stkOf K)).toArray (some (j' : Int)) none none
                simp only [strValues, List.size_toArray, List.length_map, stkOf_len] at this
                rw [Array.length_toList]
                simp only [strValues] at *
                omega
              generalize (slicePick (strValues (stkOf K)).toArray (some (j' : Int)) none none).toList = vs at lb lz
              clear hGe
              refine E_List (E_items_cons (E_loc (v := .str node t₁) at6 (E_items_nil (newList_N (by simp [sizeLine_eq]) fun c => Run.freeze .head fun oc G₄ hcc hGe' hne' => ?_))))
              have g4 : GLe G₃ G₄ := by rw [hGe']; exact GLe.add hne'
              have lc : ListG G₄ c [.str node t₁] := by rw [hGe']; exact ListG.new hcc
              refine B_addL (lb.mono g4) lc (by rw [sizeLine_eq]; simp; omega) fun a' => hQ3 _ _ (.cyc ?_)
              obtain ⟨nc, jc, hc1, hc2⟩ := hS.cyc hk'
              refine CycP.mk (base := base) a' (vs ++ [.str node t₁]) ([(n2s, kvC C (kvsOf K)), (se, setC C Sf₁ n₁), (its, listC (itsOf K)), (ss, listC (strValues (stkOf K)))] ++ K.map SE.cell) (by simp) (by simp; omega) (GLe.trans hG₁ (GLe.trans g3 g4)) hk₁ nc jc hc1 hc2
            · rw [decide_eq_false hk, if_neg (by decide)]
              have hnF : node ∈ F₁ := (List.mem_append.mp hn).resolve_right fun h => hk ((kvsOf_names K node).mpr h)
              exact X_nil (hQ3 _ _ (.on ⟨K.length, G₁, k₁, F₁, K, Sf₁, n₁, _, hG₁, hk₁, hF₁, hK, hSe₁, hS.pass hnF, Nat.le_of_eq hM, rfl⟩))
          · rw [decide_eq_false hn, if_neg (by decide)]
            have hnK : node ∉ (absK K).map (·.1) := fun h => hn (List.mem_append_right _ h)
            obtain ⟨i, hi, rfl⟩ : ∃ i ∈ is, i.nm = node := by
              have := hS.nin
              unfold namesOf at this
              obtain ⟨i, hi, e⟩ := List.mem_map.mp this
              exact ⟨i, hi, e⟩
            have hget : dget (is.map NI.ent) i.nm = some (.ref i.a) := by rw [dget_ent, lookI_mem nd hi]; rfl
            refine X_cons (X_Expr (E_meth F.slot_set_add F.plainAttrs_set F.type_set_add (E_loc (v := .ref se) at4 ⟨HasT.set at1, E_items_cons (E_loc (v := .str i.nm t₁) at6 (E_items_nil (R_setAdd (.tail .head) ?_ ⟨(fun _ e => nomatch e), ?_⟩)))⟩)))
            · rw [hSe₁.n, List.length_append]
              have : ((absK K).map (·.1)).length = K.length := by simp [absK]
              rw [this]
              unfold scanBound; omega
            dsimp only
            refine X_cons (X_Expr (E_meth F.slot_list_append F.plainAttrs_list F.type_list_append (E_loc (v := .ref its) at3 ⟨HasT.list (.inr at2), E_items_cons ?_⟩)))
            refine E_Attr (E_callV (f := .builtin "iter") (fun {Q} h => E_blt H.base at1 h) (E_items_cons ?_))
            refine E_Attr (E_Sb F.slot_dict_getitem.lookup (E_loc (v := .ref dn) at1 (E_loc (v := .str i.nm t₁) at6 ⟨HasTy.dict Y₁.dict, G_dict Y₁.dict hget ?_⟩)))
            refine R_getSlot H.X H.s2 (.inl (.tail _ (.tail _ (.tail _ (.tail _ (List.mem_append_right _ (bmem i hi))))))) (Y₁.ds i hi) rfl rfl (E_items_nil ?_)
            refine R_iter (.inl (Y₁.sl i hi)) fun it => R_getNext (.head _) fun b G₂ hG₂ hmw => E_items_nil ?_
            refine R_append (.tail (.tail (.tail .head))) ?_ ⟨(fun _ e => nomatch e), ?_⟩
            · rw [itsOf_len, sizeLine_eq]; omega
            have Y₂ := Y₁.mono hG₂
            dsimp only
            refine X_cons (X_AssignSub (E_callV (f := .builtin "len") (fun {Q} h => E_blt H.base at0 h) (E_items_cons (E_loc (v := .ref ss) at2 (E_items_nil (R_len_list (.inr at4) (by simp only [strValues, List.length_map, stkOf_len]; omega) fun tk =>
              E_loc (v := .ref n2s) at5 (E_loc (v := .str i.nm t₁) at6 (S_kv (.tail .head) (by rw [kvsOf_len, sizeLine_eq]; omega) ?_))))))))
            dsimp only
            refine X_cons (X_Expr (E_meth F.slot_list_append F.plainAttrs_list F.type_list_append (E_loc (v := .ref ss) at2 ⟨HasT.list (.inr at4), E_items_cons (E_loc (v := .str i.nm t₁) at6 (E_items_nil (R_append (.tail (.tail (.tail (.tail .head)))) ?_ ⟨(fun _ e => nomatch e), ?_⟩)))⟩)))
            · simp only [strValues, List.length_map, stkOf_len]; rw [sizeLine_eq]; omega
            dsimp only
            have hkn : i.nm ∉ (kvsOf K).map (·.1) := fun h => hnK ((kvsOf_names K _).mp h)
            have e1 : stored (kvsOf K) i.nm (.int ((strValues (stkOf K)).length : Nat) tk) = kvsOf (⟨i, t₁, tk, b, it, 0⟩ :: K) := by
              rw [stored_new hkn]
              simp only [strValues, List.length_map, stkOf_len]; rfl
            have e2 : strValues (stkOf K) ++ [.str i.nm t₁] = strValues (stkOf (⟨i, t₁, tk, b, it, 0⟩ :: K)) := (strValues_snoc (stkOf K) (i.nm, t₁)).symm
            rw [e1, e2]
            refine Run.perm (N' := cN C n2s se its ss (⟨i, t₁, tk, b, it, 0⟩ :: K) (fun k' => Sf₁ k' || decide (k' = i.nm)) (if Sf₁ i.nm = true then n₁ else n₁ + 1) base) ?_ (X_nil ?_)
            · exact (List.perm_middle (l₁ := [(n2s, kvC C (kvsOf (⟨i, t₁, tk, b, it, 0⟩ :: K))), (se, setC C (fun k' => Sf₁ k' || decide (k' = i.nm)) (if Sf₁ i.nm = true then n₁ else n₁ + 1)), (its, listC (itsOf (⟨i, t₁, tk, b, it, 0⟩ :: K))), (ss, listC (strValues (stkOf (⟨i, t₁, tk, b, it, 0⟩ :: K))))])).symm
            refine hQ3 _ _ (.on ⟨K.length + 1, G₂, k₁, F₁, ⟨i, t₁, tk, b, it, 0⟩ :: K, _, _, _, GLe.trans hG₁ hG₂, hk₁, hF₁, ⟨fun e he => ?_, fun e he => ?_⟩, ⟨fun z => ?_, ?_⟩, hS.push hn, ?_, rfl⟩)
            · rcases List.mem_cons.mp he with rfl | he
              · exact hi
              · exact hK.mem e he
            · rcases List.mem_cons.mp he with rfl | he
              · exact hmw
              · exact (hK.mw e he).mono hG₂
            · rw [hSe₁.s]
              show (_ || _) = decide (z ∈ F₁ ++ i.nm :: (absK K).map (·.1))
              by_cases h1 : z = i.nm
              · simp [h1]
              · simp [h1]
            · rw [hSe₁.s, decide_eq_false hn, if_neg (by decide), hSe₁.n]
              show _ = (F₁ ++ i.nm :: (absK K).map (·.1)).length
              simp only [List.length_append, List.length_cons]; omega
            · have := Dfs.M_push (sc := scOf is) (nodes := namesOf is) (F := F₁) (st := absK K) nd hS.nin hn
              show Dfs.M (scOf is) (namesOf is) F₁ ((i.nm, 0) :: absK K) ≤ m
              omega
        · intro f p hE
          refine hE.casesOn ?_ ?_
          · rintro p ⟨c, hop⟩
            show Run C _ L _ p _
            refine X_one (X_While (OpenP x dn ss its se n2s C G k is base q.1 Fd m) c hop ?_)
            intro c p₂ hI9
            refine hI9.casesOn ?_
            intro G₂ k₂ F₂ K₂ Sf₂ n₂ o₂ hG₂ hk₂ hF₂ hK₂ hSe₂ hS₂ hM₂ hc₂
            have Y₂ := Y.mono hG₂
            have hl₂ := hlen hS₂.nd hS₂.sub
            refine T_val (E_loc (v := .ref ss) at2 (truthy_list (.inr at3) (by simp only [strValues, List.length_map, stkOf_len]; omega) ?_))
            cases K₂ with
            | nil =>
              rw [if_neg (by simp [stkOf, strValues])]
              refine X_one (X_Break (hQ2 _ _ ?_))
              exact .on ⟨G₂, k₂, F₂, Sf₂, n₂, o₂, hG₂, hk₂, hF₂, hSe₂, by simpa [absK] using hS₂.nd, fun y hy => hS₂.sub y (List.mem_append_left _ hy), hS₂.fin, hS₂.stop⟩
            | cons e r =>
              rw [if_pos (by simp [stkOf, strValues])]
              have hei := hK₂.mem e (by simp)
              have hmw := hK₂.mw e (by simp)
              have hsc := scOf_mem nd hei
              have hrl : (e :: r).length = r.length + 1 := rfl
              have eN : cN C n2s se its ss (e :: r) Sf₂ n₂ base = (n2s, kvC C (kvsOf r ++ [(e.ni.nm, .int r.length e.jt)])) :: (se, setC C Sf₂ n₂) :: (its, listC (itsOf r ++ [.ref e.b])) :: (ss, listC (strValues (stkOf r) ++ [.str e.ni.nm e.t])) :: (e.it, liC e.ni.l e.i) :: (r.map SE.cell ++ base) := by
                unfold cN
                rw [show strValues (stkOf (e :: r)) = strValues (stkOf r) ++ [.str e.ni.nm e.t] from strValues_snoc (stkOf r) (e.ni.nm, e.t)]
                rfl
              rw [eN]
              refine Run.abs fun Q4 hQ4 => ?_
              refine X_one (X_Try (outer := outer) (Around.frames_deeper hA) rfl (show ScopeKind.function ≠ ScopeKind.module from by decide) ?_)
              refine XE_cons (XE_Assign (E_callSub (E_Sb F.slot_list_getitem.lookup (E_loc (v := .ref its) at3 (E_Unary (E_int fun ta => U_neg fun tb => ⟨HasTy.list (.inr at2), G_listN (x := .ref e.b) (.inr at2) (by decide) ?_ (by decide) ?_ ?_⟩))))))
              · rw [List.length_append]; simp; omega
              · have : (-1 + ((itsOf r ++ [Value.ref e.b]).length : Int)).toNat = (itsOf r).length := by rw [List.length_append]; simp; omega
                rw [this]; simp
              refine RE_next hR.hd hmw (.inl (Y₂.sl e.ni hei)) _ rfl (.tail (.tail (.tail (.tail .head)))) (fun v hv => ?_) fun hv ex => ⟨ex, _, _, rfl, .new, hOb.mono (fun z hz => ?_), fun T => ?_⟩
              · cases hq : e.ni.sc[e.i]? with
                | none => rw [show (strValues e.ni.sc)[e.i]? = none by simp [strValues, hq]] at hv; cases hv
                | some qm =>
                  have hvv : v = .str qm.1 qm.2 := by
                    rw [show (strValues e.ni.sc)[e.i]? = some (.str qm.1 qm.2) by simp [strValues, hq]] at hv
                    exact (Option.some.inj hv).symm
                  subst hvv
                  have hilt : e.i < (strValues e.ni.sc).length := (List.getElem?_eq_some_iff.mp hv).1
                  have hms : (scOf is e.ni.nm)[e.i]? = some qm.1 := by rw [hsc, List.getElem?_map, hq]; rfl
                  have hilt2 : e.i < (scOf is e.ni.nm).length := (List.getElem?_eq_some_iff.mp hms).1
                  rw [if_pos hilt]
                  refine storeLoc (.tail (.tail (.tail (.tail (.tail (.tail .head)))))) ?_
                  show RunE C _ L _ _ _ _
                  refine XE_one (X_Break ?_).toE
                  have hr := Dfs.M_read (sc := scOf is) (nodes := namesOf is) (F := F₂) (r := absK r) (n := e.ni.nm) (i := e.i) hilt2
                  refine hQ4 _ _ (hQ2 _ _ ⟨Dfs.M (scOf is) (namesOf is) F₂ ((e.ni.nm, e.i + 1) :: absK r), ?_, ?_⟩)
                  · have : Dfs.M (scOf is) (namesOf is) F₂ ((e.ni.nm, e.i) :: absK r) ≤ m := hM₂
                    omega
                  have hI := HeadP.mk (x := x) (dn := dn) (ss := ss) (its := its) (se := se) (n2s := n2s) (C := C) (base := base) G₂ k₂ F₂ ({ e with i := e.i + 1 } :: r) Sf₂ n₂ qm.1 qm.2 hG₂ hk₂ hF₂ ⟨fun z hz => ?_, fun z hz => ?_⟩ ⟨fun z => hSe₂.s z, hSe₂.n⟩ (hS₂.read hms hc) rfl
                  · unfold cN at hI
                    rw [show strValues (stkOf ({ e with i := e.i + 1 } :: r)) = strValues (stkOf r) ++ [.str e.ni.nm e.t] from strValues_snoc (stkOf r) (e.ni.nm, e.t)] at hI
                    exact hI
                  · rcases List.mem_cons.mp hz with rfl | hz
                    · exact hei
                    · exact hK₂.mem z (List.mem_cons_of_mem _ hz)
                  · rcases List.mem_cons.mp hz with rfl | hz
                    · exact hmw
                    · exact hK₂.mw z (List.mem_cons_of_mem _ hz)
              · exact .tail _ (.tail _ (.tail _ (.tail _ (.tail _ (List.mem_append_right _ hz)))))
              · have hq : e.ni.sc[e.i]? = none := by
                  cases hq : e.ni.sc[e.i]? with
                  | none => rfl
                  | some qm => rw [show (strValues e.ni.sc)[e.i]? = some (.str qm.1 qm.2) by simp [strValues, hq]] at hv; cases hv
                have hms : (scOf is e.ni.nm)[e.i]? = none := by rw [hsc, List.getElem?_map, hq]; rfl
                obtain ⟨m₁, m₂, m₃⟩ := List.nodup_append.mp hS₂.nd
                have hnr : e.ni.nm ∉ (kvsOf r).map (·.1) := fun h => (List.nodup_cons.mp m₂).1 ((kvsOf_names r _).mp h)
                refine H_builtin stopIter_exc stopIter_nt stopIter_self (fun {A' p' Q} h => E_blt H.base at5 h) rfl fun G₃ hG₃ => ?_
                refine Run.freeze (.tail (.tail (.tail (.tail .head)))) fun oe G₄ _ hGe hne => ?_
                have g4 : GLe G₂ G₄ := GLe.trans hG₃ (by rw [hGe]; exact GLe.add hne)
                clear hGe
                refine X_cons (X_DelSub (E_loc (v := .ref n2s) at5 (E_meth F.slot_list_pop F.plainAttrs_list F.type_list_pop (E_loc (v := .ref ss) at2 ⟨HasT.list (.inr at3), E_items_nil (R_pop (.tail (.tail (.tail .head))) ?_ (S_delkv .head ?_ (valueAt_last hnr) ?_))⟩))))
                · simp only [strValues, List.length_map, stkOf_len]; rw [sizeLine_eq]; omega
                · rw [List.length_append, kvsOf_len, sizeLine_eq]; simp; omega
                rw [without_last hnr]
                refine X_one (X_ExprA (E_meth F.slot_list_pop F.plainAttrs_list F.type_list_pop (E_loc (v := .ref its) at3 ⟨HasT.list (.inr at2), E_items_nil (R_pop (.tail (.tail .head)) ?_ ?_)⟩)))
                · rw [itsOf_len, sizeLine_eq]; omega
                have hp := Dfs.M_pop (sc := scOf is) (nodes := namesOf is) (F := F₂) (r := absK r) hms
                refine hQ4 _ _ ⟨r.length, by rw [← hc₂]; exact Nat.lt_succ_self _, G₄, k₂, F₂ ++ [e.ni.nm], r, Sf₂, n₂, o₂, GLe.trans hG₂ g4, hk₂, fun z hz => List.mem_append_left _ (hF₂ z hz), ⟨fun z hz => hK₂.mem z (List.mem_cons_of_mem _ hz), fun z hz => (hK₂.mw z (List.mem_cons_of_mem _ hz)).mono g4⟩, ⟨fun z => ?_, ?_⟩, hS₂.pop hms, ?_, rfl⟩
                · rw [hSe₂.s, show F₂ ++ [e.ni.nm] ++ (absK r).map (·.1) = F₂ ++ (absK (e :: r)).map (·.1) by simp [absK]]
                · rw [hSe₂.n, show F₂ ++ [e.ni.nm] ++ (absK r).map (·.1) = F₂ ++ (absK (e :: r)).map (·.1) by simp [absK]]
                · rw [hp]; exact hM₂
          · intro f p hcy
            refine hcy.casesOn ?_
            exact fun l vs junk h1 h2 G₂ m₂ k₂ h3 h4 nc jc h5 h6 => hQ2 _ _ (.cyc ⟨l, vs, junk, h1, h2, h3, h4, nc, jc, h5, h6⟩)
      · intro f p hE
        refine hE.casesOn ?_ ?_
        · intro p hD
          refine hD.casesOn ?_
          intro G₂ k₂ F₂ Sf₂ n₂ o₂ hG₂ hk₂ hF₂ hSe₂ hnd₂ hsub₂ hfin₂ hs₂
          exact hQ1 _ _ ⟨G₂, k₂, F₂, Sf₂, n₂, o₂, hG₂, hk₂, hSe₂, hnd₂, hsub₂, hfin₂, htake F₂ hF₂ hs₂⟩
        · intro f p hcy
          refine hcy.casesOn ?_
          intro l vs junk hvs hvl G₂ m₂ k₂ hG₂ hk₂ nc jc hc1 hc2
          exact hQ1 _ _ (hQ0 _ _ ⟨(l, listC vs) :: base, List.Sublist.cons_cons _ (List.sublist_append_right _ _), fun b hb => .inl (List.mem_cons_of_mem _ hb), .some hG₂ hk₂ l vs hvs hvl nc jc hc1 hc2⟩)
  · intro p₂ hI9
    refine hI9.casesOn ?_
    intro G' k' Fd Sf n o hG' hk' hSe hnd hsub hfin hdone
    refine X_nil (X_one (X_Return (E_none ?_)))
    refine hQ0 _ _ ⟨base, List.sublist_append_right (l₁ := [(n2s, kvC C (kvsOf [])), (se, setC C Sf n), (its, listC (itsOf [])), (ss, listC (strValues (stkOf [])))]) _, fun b hb => .inl hb, .none hG' hk' Fd hfin hsub fun z hz => hdone z ?_⟩
    rw [List.take_of_length_le (by simp [namesOf])]; exact hz
end Two
end Mine

open PySem PySem.Calls PyProof.Rows
open PySem.W (instObj emptyDict)
set_option Elab.async false
set_option linter.unusedVariables false
set_option maxRecDepth 100000
namespace Mine
namespace Two
variable {C : Cx} {A : Around}
def readyOf (is : List NI) : List (Str × Tok) := (is.filter fun i => i.np == 0).map fun i => (i.nm, i.t)
def Acyc (is : List NI) : Prop := ∃ F, Dfs.Fin (scOf is) F ∧ (∀ y ∈ F, y ∈ namesOf is) ∧ ∀ n ∈ namesOf is, n ∈ F
def Cyc (is : List NI) : Prop := ∃ n j, n ∈ namesOf is ∧ Dfs.Reach (scOf is) (j + 1) n n
/-- the i-th node's name -/
def NodeR (is : List NI) (a : Nat) (y : Value) (G : Addr → Option Obj) (k : Nat) : Prop := ∃ i, is[a]? = some i ∧ y = .str i.nm i.t
theorem NodeR.monoR {is : List NI} : MonoR (NodeR is) := fun a y G G' k k' h _ _ => h
theorem NodeR.vals {is : List NI} {ys : List Value} {G : Addr → Option Obj} {k : Nat} (h : Made (NodeR is) ((List.range is.length).filter fun a => (is[a]?.map fun i => i.np == 0).getD false) ys G k) : ys = strValues (readyOf is) := by
  have e := h.vals (val := fun a => is[a]?.map fun i => Value.str i.nm i.t) fun a y ⟨i, h1, h2⟩ => by rw [h1, h2]; rfl
  rw [e]
  unfold readyOf strValues
  rw [← range_sel (fun i : NI => i.np == 0) is, List.map_map, List.map_filterMap]
  rfl
inductive PrepP (G : Addr → Option Obj) (k : Nat) (dn dx : Addr) (po fi : Int) (t u : Tok) (is : List NI) (R : List (Addr × Cell)) : Value → (Addr → Option Obj) → List (Addr × Cell) → Nat → Prop
  | mk {G' : Addr → Option Obj} {k' : Nat} (h1 : GLe G G') (h2 : k ≤ k') (rl : Addr) (h3 : Acyc is) : PrepP G k dn dx po fi t u is R .none G' ((rl, listC (strValues (readyOf is))) :: (fN dn dx (.ref rl) po fi t u is ++ R)) k'
inductive PrepE (G : Addr → Option Obj) (k : Nat) (dn dx : Addr) (po fi : Int) (t u : Tok) (is : List NI) (R : List (Addr × Cell)) : Value → (Addr → Option Obj) → List (Addr × Cell) → Nat → Prop
  | mk {G' : Addr → Option Obj} {k' : Nat} (h1 : GLe G G') (h2 : k ≤ k') (rl T e : Addr) (h3 : Cyc is) : PrepE G k dn dx po fi t u is R (.ref e) G' ((T, tbC) :: (e, excC (.ref 80) (.ref T)) :: (rl, listC (strValues (readyOf is))) :: (fN dn dx (.ref rl) po fi t u is ++ R)) k'
theorem w_prepare (H : SCx C) {d : Nat} (hr : Room A (d + 3)) {outer : List Env} (hA : A.frames = some outer) {x dx dn : Addr} {po fi : Int} {t u : Tok} {is : List NI} {R : List (Addr × Cell)} (hO : Outer outer R) {G : Addr → Option Obj} {k : Nat}
    (Y : LayF C G x dx dn is) (nd : (namesOf is).Nodup) (hc : ∀ n ∈ namesOf is, ∀ m ∈ scOf is n, m ∈ namesOf is) (hz : is.length ≤ 900) (hs : ∀ i ∈ is, i.sc.length ≤ 1000000) :
    CallX C A 117 [.ref x] G (fN dn dx .none po fi t u is ++ R) k (PrepP G k dn dx po fi t u is R) (PrepE G k dn dx po fi t u is R) := by
  obtain ⟨⟨o, ho, hd⟩, hcd⟩ := H.f117
  refine CallX.go [("self", some (.ref x)), ("cycle", none)] H.base hr hA ho hd hcd (.of_eq (binds := [("self", .ref x)]) rfl) fun L hR => RunE.abs fun Q0 E0 hQ0 hE0 => ?_
  refine XE_cons (X_If (T_Cmp (E_Attr (E_loc (v := .ref x) at0 (R_getOwn H.X H.o1 Y.inst (.head _) (v := .none) rfl rfl (E_none (C_isnN (truthy_bool ?_)))))))).toE
  rw [if_neg (by decide)]
  refine X_nil ?_
  dsimp only
  refine XE_cons (X_AssignAttr (E_Comp1 (R := NodeR is) (fun a => (is[a]?.map fun i => i.np == 0).getD false) [] NodeR.monoR ?_)).toE
  refine E_meth F.slot_dict_values F.plainAttrs_dict F.type_dict_values (E_Attr (E_loc (v := .ref x) at0 (R_getOwn H.X H.o0 Y.inst (.head _) (v := .ref dn) rfl rfl ⟨HasT.dict Y.dict, E_items_nil (R_values Y.dict fun v G₁ hG₁ hv => ?_)⟩)))
  have Y₁ := Y.mono hG₁
  refine ⟨_, _, IterOn.values hR.hd hv Y₁.dict, by rw [List.length_map, sizeLine_eq]; omega, fun Cc i v G₂ k₂ hi ⟨_, q, hq, hvq⟩ hG₂ hk₂ => ?_, fun D ys G₂ k₂ hG₂ hk₂ hM => ?_⟩
  · rw [List.getElem?_map, Option.map_eq_some_iff] at hq
    obtain ⟨ii, hii, rfl⟩ := hq
    have him : ii ∈ is := List.mem_of_getElem? hii
    have Y₂ := Y₁.mono hG₂
    subst hvq
    refine R_tests_one (T_Cmp (E_Attr (E_loc (v := .ref ii.a) at0 (R_getSlot H.X H.s1 (.inl (fmem him)) (Y₂.ds ii him) rfl rfl (E_int fun t0 => C_eqI (truthy_bool ⟨?_, G₂, k₂, rfl, GLe.refl _, Nat.le_refl _, fun hsel => ?_⟩))))))
    · rw [hii]; rfl
    · exact E_Attr (E_loc (v := .ref ii.a) at0 (R_getSlot H.X H.s0 (.inl (fmem him)) (Y₂.ds ii him) rfl rfl ⟨G₂, k₂, rfl, GLe.refl _, Nat.le_refl _, ii, hii, rfl⟩))
  · rw [List.length_map] at hM
    have hys := NodeR.vals hM
    subst hys
    have Y₂ := Y₁.mono hG₂
    have g2 : GLe G G₂ := GLe.trans hG₁ hG₂
    refine E_loc (v := .ref x) at0 (R_setOwn H.X H.o1 Y₂.inst (.tail .head) (show 4 ≤ 900 by decide) ?_)
    show RunE C _ L (execs _ _) ⟨G₂, [("self", some (.ref x)), ("cycle", none)], (D, listC (strValues (readyOf is))) :: (fN dn dx (.ref D) po fi t u is ++ R), k₂⟩ _ _
    obtain ⟨⟨of, hof, hdf⟩, hcf⟩ := H.f152
    refine XE_cons (X_Assign (E_methF hof hdf (E_loc (v := .ref x) at0 (R_method H.X H.mFind Y₂.inst (.tail _ (.head _)) rfl ⟨rfl, E_items_nil ?_⟩)))).toE
    refine R_callLP (Nc := fN dn dx (.ref D) po fi t u is ++ R) (Nr := [(D, listC (strValues (readyOf is)))]) (List.perm_append_comm (l₁ := [_])) ?_
    refine CallRun.perm (N₁ := fN dn dx (.ref D) po fi t u is ++ (L, frameC [("self", some (.ref x)), ("cycle", none)]) :: R) List.perm_middle.symm ?_
    refine (w_find H (d := d + 1) (hR.less (by omega)) (Around.frames_deeper hA) ?_ Y₂ nd hc hz hs).mono fun v G₃ N₃ k₃ hv => ?_
    · intro en hen
      rcases List.mem_cons.mp hen with rfl | hen
      · exact ⟨show ScopeKind.function ≠ ScopeKind.module from by decide, L, _, rfl, .head _⟩
      · exact hO.mono (fun z hz => List.mem_cons_of_mem _ hz) en hen
    refine hv.casesOn ?_ ?_
    · intro G₃ k₃ hG₃ hk₃ F f1 f2 f3
      have g3 : GLe G G₃ := GLe.trans g2 hG₃
      have k3 : k ≤ k₃ := Nat.le_trans hk₂ hk₃
      refine ⟨_, .refl _, fN dn dx (.ref D) po fi t u is ++ R, List.perm_middle, ?_⟩
      refine Run.perm (N' := (D, listC (strValues (readyOf is))) :: (fN dn dx (.ref D) po fi t u is ++ R)) (List.perm_append_comm (l₂ := [_])) (storeLoc (.tail .head) ?_)
      dsimp only
      refine XE_one (X_If (T_val (E_loc (v := .none) at1 (truthy_N ?_)))).toE
      rw [if_neg (by decide)]
      exact X_nil (hQ0 _ _ ⟨g3, k3, D, F, f1, f2, f3⟩)
    · intro G₃ k₃ hG₃ hk₃ l vs hvs hvl nc jc f1 f2
      have g3 : GLe G G₃ := GLe.trans g2 hG₃
      have k3 : k ≤ k₃ := Nat.le_trans hk₂ hk₃
      refine ⟨_, .refl _, (l, listC vs) :: (fN dn dx (.ref D) po fi t u is ++ R), (List.Perm.cons _ List.perm_middle).trans (.swap ..), ?_⟩
      refine Run.freeze .head fun ol G₄ hl hGe hne => ?_
      have g4 : GLe G₃ G₄ := by rw [hGe]; exact GLe.add hne
      have hll : ListAt G₄ l vs := by rw [hGe]; exact ListAt.new hl
      clear hGe
      refine Run.perm (N' := (D, listC (strValues (readyOf is))) :: (fN dn dx (.ref D) po fi t u is ++ R)) (List.perm_append_comm (l₂ := [_])) (storeLoc (.tail .head) ?_)
      dsimp only
      refine XE_one (XE_If (T_val (E_loc (v := .ref l) at1 (truthy_list (.inl hll) (by omega) ?_))).toE)
      rw [if_pos (by simpa using hvs)]
      refine XE_one (XE_Raise H.exc hR.hd (fun {Q} h => E_glob H.base at1 h) (E_items_cons (E_FStr1 (E_str fun ts hts => E_items_cons (E_loc (v := .ref l) at1 (E_items_nil ⟨by simp [sizeLine_eq], fun e => ?_⟩))))))
      exact hE0 _ _ ⟨e, _, _, rfl, .new, hO.mono fun z hz => .tail _ (List.mem_append_right _ hz), fun T => ⟨GLe.trans g3 g4, Nat.le_succ_of_le (Nat.le_trans k3 hts), D, T, e, nc, jc, f1, f2⟩⟩
end Two
end Mine

open PySem PySem.Calls PyProof.Rows
open PySem.W (instObj emptyDict)
set_option Elab.async false
set_option linter.unusedVariables false
set_option maxRecDepth 100000
namespace Mine
def npOf (g : Gr) (n : Str) : Option Int := (g.find? fun q => decide (q.1 = n)).map (·.2.1)
def scG (g : Gr) (n : Str) : List Str := ((g.find? fun q => decide (q.1 = n)).map (·.2.2)).getD []
def outAll (g : Gr) (rs : List Str) : Gr := rs.foldl (fun g n => setNp g n (-1)) g
theorem outAll_names : ∀ (rs : List Str) (g : Gr), (outAll g rs).map (·.1) = g.map (·.1)
  | [], _ => rfl
  | r :: rs, g => by show (outAll (setNp g r (-1)) rs).map (·.1) = _; rw [outAll_names rs, setNp_names]
namespace Two
variable {C : Cx} {A : Around}
theorem abs_names (is : List NI) : (absG is).map (·.1) = namesOf is := by unfold absG namesOf; rw [List.map_map]; rfl
theorem find_abs (is : List NI) (n : Str) : (absG is).find? (fun q => decide (q.1 = n)) = (lookI is n).map NI.abs := by
  unfold absG lookI
  rw [List.find?_map]; rfl
theorem npOf_abs {is : List NI} (nd : (namesOf is).Nodup) {i : NI} (h : i ∈ is) : npOf (absG is) i.nm = some i.np := by unfold npOf; rw [find_abs, lookI_mem nd h]; rfl
theorem scG_abs (is : List NI) (n : Str) : scG (absG is) n = scOf is n := by
  unfold scG scOf
  rw [find_abs]
  cases lookI is n <;> rfl
theorem node_of {is : List NI} {n : Str} (h : n ∈ namesOf is) : ∃ A₀ i B₀, is = A₀ ++ i :: B₀ ∧ i.nm = n := by
  obtain ⟨i, hi, e⟩ := List.mem_map.mp h
  obtain ⟨A₀, B₀, rfl⟩ := List.append_of_mem hi
  exact ⟨A₀, i, B₀, rfl, e⟩
theorem get_of {A₀ B₀ : List NI} {i : NI} (nd : (namesOf (A₀ ++ i :: B₀)).Nodup) : dget ((A₀ ++ i :: B₀).map NI.ent) i.nm = some (.ref i.a) := by rw [dget_ent, lookI_mem nd (by simp)]; rfl

inductive ReadyP (C : Cx) (G : Addr → Option Obj) (k : Nat) (x dx dn rl : Addr) (po fi : Int) (u : Tok) (rs : List (Str × Tok)) (R : List (Addr × Cell)) (g : Gr) : Value → (Addr → Option Obj) → List (Addr × Cell) → Nat → Prop
  | mk {G' : Addr → Option Obj} {k' : Nat} (h1 : GLe G G') (h2 : k ≤ k') (tt : Addr) (is' : List NI) (t' : Tok) (h3 : G' tt = some (tupO (strValues rs))) (h4 : LayF C G' x dx dn is') (h5 : absG is' = g) :
    ReadyP C G k x dx dn rl po fi u rs R g (.ref tt) G' ((rl, listC []) :: (fN dn dx (.ref rl) (po + rs.length) fi t' u is' ++ R)) k'
inductive ReadyI (C : Cx) (G : Addr → Option Obj) (k : Nat) (x dx dn rl tt : Addr) (po fi : Int) (t u : Tok) (rs : List (Str × Tok)) (R : List (Addr × Cell)) (g : Gr) (j : Nat) : Pt → Prop
  | mk (G₂ : Addr → Option Obj) (k₂ : Nat) (is₂ : List NI) (o1 : Option Value) (h1 : GLe G G₂) (h2 : k ≤ k₂) (h3 : LayF C G₂ x dx dn is₂) (h4 : absG is₂ = outAll g ((rs.map (·.1)).take j)) :
    ReadyI C G k x dx dn rl tt po fi t u rs R g j ⟨G₂, [("self", some (.ref x)), ("result", some (.ref tt)), ("n2i", some (.ref dn)), ("node", o1)], (rl, listC (strValues rs)) :: (fN dn dx (.ref rl) po fi t u is₂ ++ R), k₂⟩
theorem w_ready (H : SCx C) {d : Nat} (hr : Room A (d + 2)) {x dx dn rl : Addr} {po fi : Int} {t u : Tok} {is : List NI} {rs : List (Str × Tok)} {R : List (Addr × Cell)} {G : Addr → Option Obj} {k : Nat}
    (Y : LayF C G x dx dn is) (nd : (namesOf is).Nodup) (hin : ∀ q ∈ rs, q.1 ∈ namesOf is) (hz : rs.length ≤ 1000000) :
    CallRun C A 124 [.ref x] G ((rl, listC (strValues rs)) :: (fN dn dx (.ref rl) po fi t u is ++ R)) k (ReadyP C G k x dx dn rl po fi u rs R (outAll (absG is) (rs.map (·.1)))) := by
  obtain ⟨⟨o, ho, hd⟩, hcd⟩ := H.f124
  refine CallRun.go [("self", some (.ref x)), ("result", none), ("n2i", none), ("node", none)] H.base hr ho hd hcd (.of_eq (binds := [("self", .ref x)]) rfl) fun L hR => Run.abs fun Q0 hQ0 => ?_
  refine X_cons (X_If (T_Cmp (E_Attr (E_loc (v := .ref x) at0 (R_getOwn H.X H.o1 Y.inst (.tail _ (.head _)) (v := .ref rl) rfl rfl (E_none (C_isN (truthy_bool ?_))))))))
  rw [if_neg (show ¬ ((Value.ref rl == Value.none) = true) from Bool.false_ne_true)]
  refine X_nil ?_
  dsimp only
  have hzv : (strValues rs).length = rs.length := by simp [strValues]
  refine X_cons (X_Assign (E_callV (f := .type "tuple") (fun {Q} h => E_blt H.base at2 h) (E_items_cons (E_Attr (E_loc (v := .ref x) at0 (R_getOwn H.X H.o1 Y.inst (.tail _ (.head _)) (v := .ref rl) rfl rfl (E_items_nil
    (R_tupleL (.inr (.head _)) (by rw [hzv, sizeLine_eq]; omega) fun tt G₁ hG₁ htx => storeLoc (.tail .head) ?_))))))))
  have htt := TupAt.ofX htx
  have Y₁ := Y.mono hG₁
  dsimp only
  refine X_cons (X_Assign (E_Attr (E_loc (v := .ref x) at0 (R_getOwn H.X H.o0 Y₁.inst (.tail _ (.head _)) (v := .ref dn) rfl rfl (storeLoc (.tail (.tail .head)) ?_)))))
  dsimp only
  refine X_cons (X_ForV (ReadyI C G₁ k x dx dn rl tt po fi t u rs R (absG is)) (fun h => E_loc (v := .ref tt) at1 h) (IterOn.tuple hR.hd htt) ?_ ?_ ?_)
  · exact ⟨G₁, k, is, none, GLe.refl _, Nat.le_refl _, Y₁, rfl⟩
  · intro j p₂ hj hI9
    refine hI9.casesOn ?_
    intro G₂ k₂ is₂ o1 hG₂ hk₂ Y₂ ha₂
    refine AsgRun.name fun v ⟨_, hv⟩ => ?_
    have hj' : j < rs.length := by simpa [strValues] using hj
    have ev : v = .str rs[j].1 rs[j].2 := by
      have : (strValues rs)[j]? = some (.str rs[j].1 rs[j].2) := by simp [strValues, hj']
      rw [this] at hv; exact (Option.some.inj hv).symm
    subst ev
    have hn₂ : namesOf is₂ = namesOf is := by rw [← abs_names, ha₂, outAll_names, abs_names]
    have nd₂ : (namesOf is₂).Nodup := by rw [hn₂]; exact nd
    have hmem : rs[j].1 ∈ namesOf is₂ := by rw [hn₂]; exact hin _ (List.getElem_mem hj')
    obtain ⟨A₂, i, B₂, rfl, hi⟩ := node_of hmem
    refine storeLoc (.tail (.tail (.tail .head))) ?_
    dsimp only
    refine X_one (X_AssignAttr (E_glob H.base at2 (E_Sb F.slot_dict_getitem.lookup (E_loc (v := .ref dn) at2 (E_loc (v := .str rs[j].1 rs[j].2) at3 ⟨HasTy.dict Y₂.dict, G_dict Y₂.dict (hi ▸ get_of nd₂)
      (R_setSlot H.X H.s1 (.tail fput) (Y₂.ds i (by simp)) ?_)⟩)))))
    refine ⟨G₂, k₂, _, _, hG₂, hk₂, Y₂.put, ?_⟩
    rw [abs_setNp (by rw [abs_names]; exact nd₂), ha₂, hi, List.take_add_one, List.getElem?_map, List.getElem?_eq_getElem hj', Option.map_some, Option.toList_some]
    unfold outAll
    rw [List.foldl_append]; rfl
  · intro p₂ hI9
    refine hI9.casesOn ?_
    intro G₂ k₂ is₂ o1 hG₂ hk₂ Y₂ ha₂
    refine X_nil ?_
    dsimp only
    refine X_cons (X_Expr (E_meth F.slot_list_clear F.plainAttrs_list F.type_list_clear (E_Attr (E_loc (v := .ref x) at0 (R_getOwn H.X H.o1 Y₂.inst (.tail _ (.head _)) (v := .ref rl) rfl rfl
      ⟨HasT.list (.inr (.head _)), E_items_nil (R_clear .head (by rw [hzv, sizeLine_eq]; omega) ⟨(fun _ e => nomatch e), ?_⟩)⟩)))))
    dsimp only
    refine X_cons (X_AugAttr (E_loc (v := .ref x) at0 (R_getOwn H.X H.o2 Y₂.inst (.tail _ (.head _)) (v := .int po t) rfl rfl (E_callV (f := .builtin "len") (fun {Q} h => E_blt H.base at0 h) (E_items_cons (E_loc (v := .ref tt) at1 (E_items_nil
      (R_len_tup (htt.mono hG₂) (by rw [hzv]; omega) fun tk => B_iadd fun t' => R_setOwn H.X H.o2 Y₂.inst (.tail .head) (show 4 ≤ 900 by decide) ?_))))))))
    refine X_one (X_Return (E_loc (v := .ref tt) at1 ?_))
    have hP := ReadyP.mk (C := C) (x := x) (dx := dx) (dn := dn) (rl := rl) (po := po) (fi := fi) (u := u) (R := R) (GLe.trans hG₁ hG₂) hk₂ tt is₂ t' (hG₂ _ _ htx) Y₂ (g := outAll (absG is) (rs.map (·.1))) ?_
    · rw [← hzv] at hP; exact hQ0 _ _ hP
    · rw [ha₂, List.take_of_length_le (by simp [strValues])]
end Two
end Mine

open PySem PySem.Calls PyProof.Rows
open PySem.W (instObj emptyDict)
set_option Elab.async false
set_option linter.unusedVariables false
set_option maxRecDepth 100000
namespace Mine
section
variable {C : Cx} {A : Around} {L : Addr} {p : Pt} {env : Env}
theorem E_Or2 {x y : Expr} {pos : Pos} {Q : Value → Pt → Prop} (h : Run C A L (eval x env) p fun v p₁ => Run C A L (truthy v) p₁ fun b p₂ => if b then Q v p₂ else Run C A L (eval y env) p₂ Q) : Run C A L (eval (.BoolOp .Or [x, y] pos) env) p Q := by
  refine Run.of_eq (arm_eval_BoolOp ..) ?_
  show Run C A L (do
    let v ← eval x env
    PySem.standAt pos
    let t ← PySem.holding [v] (truthy v)
    match BoolOp.Or, t with
    | .And, false | .Or, true => Pure.pure v
    | _, _ => boolOp pos .Or [eval y env]) p Q
  refine .bind (h.mono fun v p₁ h₁ => .bind (.standAt (.bind (.holding (h₁.mono fun b p₂ h₂ => ?_)))))
  cases b with
  | true => exact Run.pure h₂
  | false => exact h₂
end
/-- one successor hears that a node is done -/
def relax (s : Gr × List Str) (n : Str) : Gr × List Str := (addNp s.1 n (-1), if npOf s.1 n = some 1 then s.2 ++ [n] else s.2)
def gDone (s : Gr × List Str) (n : Str) : Gr × List Str := (scG s.1 n).foldl relax (setNp s.1 n (-2), s.2)
def DoneOk : List Str → Gr × List Str → Prop
  | [], _ => True
  | n :: r, s => npOf s.1 n = some (-1) ∧ DoneOk r (gDone s n)
/-- names and successors, which do not change -/
def shape (g : Gr) : List (Str × List Str) := g.map fun q => (q.1, q.2.2)
theorem shape_upd {g : Gr} {n : Str} {f : Str × Int × List Str → Str × Int × List Str} (hf : ∀ q, (f q).1 = q.1 ∧ (f q).2.2 = q.2.2) : shape (g.map fun q => if q.1 = n then f q else q) = shape g := by
  unfold shape
  rw [List.map_map]
  apply List.map_congr_left
  intro q _
  show ((if q.1 = n then f q else q).1, (if q.1 = n then f q else q).2.2) = _
  split
  · rw [(hf q).1, (hf q).2]
  · rfl
theorem shape_addNp {g : Gr} {n : Str} {z : Int} : shape (addNp g n z) = shape g := shape_upd (f := fun q => (q.1, q.2.1 + z, q.2.2)) fun _ => ⟨rfl, rfl⟩
theorem shape_setNp {g : Gr} {n : Str} {z : Int} : shape (setNp g n z) = shape g := shape_upd (f := fun q => (q.1, z, q.2.2)) fun _ => ⟨rfl, rfl⟩
theorem shape_outAll : ∀ (rs : List Str) (g : Gr), shape (outAll g rs) = shape g
  | [], _ => rfl
  | r :: rs, g => by show shape (outAll (setNp g r (-1)) rs) = _; rw [shape_outAll rs, shape_setNp]
theorem shape_relaxs : ∀ (l : List Str) (s : Gr × List Str), shape (l.foldl relax s).1 = shape s.1
  | [], _ => rfl
  | n :: l, s => by rw [List.foldl_cons, shape_relaxs l]; exact shape_addNp
theorem shape_gDone (s : Gr × List Str) (n : Str) : shape (gDone s n).1 = shape s.1 := by unfold gDone; rw [shape_relaxs]; exact shape_setNp
theorem shape_gDones : ∀ (l : List Str) (s : Gr × List Str), shape (l.foldl gDone s).1 = shape s.1
  | [], _ => rfl
  | n :: l, s => by rw [List.foldl_cons, shape_gDones l, shape_gDone]
theorem names_shape (g : Gr) : (shape g).map (·.1) = g.map (·.1) := by unfold shape; rw [List.map_map]; rfl
theorem scG_shape (g : Gr) (n : Str) : scG g n = (((shape g).find? fun q => decide (q.1 = n)).map (·.2)).getD [] := by
  unfold scG shape
  rw [List.find?_map]
  show _ = ((Option.map _ (List.find? (fun q => decide (q.1 = n)) g)).map _).getD []
  rw [Option.map_map]; rfl
theorem scG_congr {g g' : Gr} (h : shape g = shape g') (n : Str) : scG g n = scG g' n := by rw [scG_shape, scG_shape, h]
theorem names_congr {g g' : Gr} (h : shape g = shape g') : g.map (·.1) = g'.map (·.1) := by rw [← names_shape, ← names_shape, h]
theorem Small.congr {g g' : Gr} {b : Nat} (h : shape g = shape g') (hs : Small g b) : Small g' b := fun q hq => by
  have : (q.1, q.2.2) ∈ shape g := by rw [h]; exact List.mem_map_of_mem (f := fun q : Str × Int × List Str => (q.1, q.2.2)) hq
  obtain ⟨z, hz, e⟩ := List.mem_map.mp this
  have e2 : z.2.2 = q.2.2 := congrArg (fun w : Str × List Str => w.2) e
  rw [← e2]; exact hs z hz
theorem relaxs_names : ∀ (l : List Str) (s : Gr × List Str), ((l.foldl relax s).1).map (·.1) = s.1.map (·.1)
  | [], _ => rfl
  | n :: l, s => by rw [List.foldl_cons, relaxs_names l]; exact addNp_names
theorem gDone_names (s : Gr × List Str) (n : Str) : (gDone s n).1.map (·.1) = s.1.map (·.1) := by unfold gDone; rw [relaxs_names]; exact setNp_names
namespace Two
variable {C : Cx} {A : Around}
inductive ActiveP (G : Addr → Option Obj) (k : Nat) (b : Bool) (N : List (Addr × Cell)) : Value → (Addr → Option Obj) → List (Addr × Cell) → Nat → Prop
  | mk {k' : Nat} (h : k ≤ k') : ActiveP G k b N (.bool b) G N k'
theorem w_active (H : SCx C) {d : Nat} (hr : Room A (d + 2)) {x dx dn rl : Addr} {po fi : Int} {t u : Tok} {is : List NI} {vs : List Value} {R : List (Addr × Cell)} {G : Addr → Option Obj} {k : Nat}
    (Y : LayF C G x dx dn is) (hz : vs.length ≤ 1000000) :
    CallRun C A 131 [.ref x] G ((rl, listC vs) :: (fN dn dx (.ref rl) po fi t u is ++ R)) k (ActiveP G k (decide (fi < po) || !vs.isEmpty) ((rl, listC vs) :: (fN dn dx (.ref rl) po fi t u is ++ R))) := by
  obtain ⟨⟨o, ho, hd⟩, hcd⟩ := H.f131
  refine CallRun.go [("self", some (.ref x))] H.base hr ho hd hcd (.of_eq (binds := [("self", .ref x)]) rfl) fun L hR => Run.abs fun Q0 hQ0 => ?_
  refine X_cons (X_If (T_Cmp (E_Attr (E_loc (v := .ref x) at0 (R_getOwn H.X H.o1 Y.inst (.tail _ (.head _)) (v := .ref rl) rfl rfl (E_none (C_isN (truthy_bool ?_))))))))
  rw [if_neg (show ¬ ((Value.ref rl == Value.none) = true) from Bool.false_ne_true)]
  refine X_nil ?_
  dsimp only
  refine X_one (X_Return (E_Or2 (E_Cmp (E_Attr (E_loc (v := .ref x) at0 (R_getOwn H.X H.o3 Y.inst (.tail _ (.head _)) (v := .int fi u) rfl rfl (E_Attr (E_loc (v := .ref x) at0 (R_getOwn H.X H.o2 Y.inst (.tail _ (.head _)) (v := .int po t) rfl rfl (C_ltI (truthy_bool ?_)))))))))))
  by_cases h : fi < po
  · rw [decide_eq_true h] at hQ0 ⊢
    rw [if_pos rfl]
    exact hQ0 _ _ ⟨Nat.le_refl _⟩
  · rw [decide_eq_false h] at hQ0 ⊢
    rw [Bool.false_or] at hQ0
    rw [if_neg Bool.false_ne_true]
    refine E_callV (f := .type "bool") (fun {Q} h => E_blt H.base at4 h) (E_items_cons (E_Attr (E_loc (v := .ref x) at0 (R_getOwn H.X H.o1 Y.inst (.tail _ (.head _)) (v := .ref rl) rfl rfl (E_items_nil (R_boolL (.inr (.head _)) (by omega) ?_))))))
    exact hQ0 _ _ ⟨Nat.le_refl _⟩
theorem abs_addNp {A₀ B₀ : List NI} {i : NI} {z : Int} {nt : Tok} (nd : ((absG (A₀ ++ i :: B₀)).map (·.1)).Nodup) : absG (A₀ ++ { i with np := i.np + z, nt := nt } :: B₀) = addNp (absG (A₀ ++ i :: B₀)) i.nm z := by
  rw [absG_cons, absG_cons]
  rw [absG_cons] at nd
  exact (upd_split (f := fun q => (q.1, q.2.1 + z, q.2.2)) nd).symm
end Two
end Mine

open PySem PySem.Calls PyProof.Rows
open PySem.W (instObj emptyDict)
set_option Elab.async false
set_option linter.unusedVariables false
set_option maxRecDepth 100000
namespace Mine
namespace Two
variable {C : Cx} {A : Around}
inductive DonePost (C : Cx) (G : Addr → Option Obj) (k : Nat) (x dx dn rl : Addr) (po fi : Int) (t : Tok) (R : List (Addr × Cell)) (g : Gr × List Str) : Value → (Addr → Option Obj) → List (Addr × Cell) → Nat → Prop
  | mk {G' : Addr → Option Obj} {k' : Nat} (h1 : GLe G G') (h2 : k ≤ k') (is' : List NI) (rd' : List (Str × Tok)) (u' : Tok) (h3 : LayF C G' x dx dn is') (h4 : (absG is', rd'.map (·.1)) = g) :
    DonePost C G k x dx dn rl po fi t R g .none G' ((rl, listC (strValues rd')) :: (fN dn dx (.ref rl) po fi t u' is' ++ R)) k'
inductive DoneI (C : Cx) (G : Addr → Option Obj) (k : Nat) (x dx dn rl tt : Addr) (po fi : Int) (t : Tok) (ns : List Str) (R : List (Addr × Cell)) (g : Gr × List Str) (j : Nat) : Pt → Prop
  | mk (G₂ : Addr → Option Obj) (k₂ : Nat) (is₂ : List NI) (rd₂ : List (Str × Tok)) (u₂ : Tok) (o1 o2 o3 o4 o5 : Option Value) (fj : Int) (hf : fj = fi + (j : Int)) (h1 : GLe G G₂) (h2 : k ≤ k₂) (h3 : LayF C G₂ x dx dn is₂) (h4 : rd₂.length ≤ 1000 + j * 1000)
      (h5 : (absG is₂, rd₂.map (·.1)) = (ns.take j).foldl gDone g) (h6 : DoneOk (ns.drop j) (absG is₂, rd₂.map (·.1))) :
    DoneI C G k x dx dn rl tt po fi t ns R g j ⟨G₂, [("self", some (.ref x)), ("nodes", some (.ref tt)), ("n2i", some (.ref dn)), ("node", o1), ("nodeinfo", o2), ("stat", o3), ("successor", o4), ("successor_info", o5)],
        (rl, listC (strValues rd₂)) :: (fN dn dx (.ref rl) po fj t u₂ is₂ ++ R), k₂⟩
inductive DoneJ (C : Cx) (G : Addr → Option Obj) (k : Nat) (x dx dn rl tt : Addr) (po fj : Int) (t u : Tok) (o1 o2 o3 : Option Value) (R : List (Addr × Cell)) (sc : List Str) (lz : Nat) (g : Gr × List Str) (jj : Nat) : Pt → Prop
  | mk (G₃ : Addr → Option Obj) (k₃ : Nat) (is₃ : List NI) (rd₃ : List (Str × Tok)) (o4 o5 : Option Value) (h1 : GLe G G₃) (h2 : k ≤ k₃) (h3 : LayF C G₃ x dx dn is₃) (h4 : rd₃.length ≤ lz + jj) (h5 : (absG is₃, rd₃.map (·.1)) = (sc.take jj).foldl relax g) :
    DoneJ C G k x dx dn rl tt po fj t u o1 o2 o3 R sc lz g jj ⟨G₃, [("self", some (.ref x)), ("nodes", some (.ref tt)), ("n2i", some (.ref dn)), ("node", o1), ("nodeinfo", o2), ("stat", o3), ("successor", o4), ("successor_info", o5)],
          (rl, listC (strValues rd₃)) :: (fN dn dx (.ref rl) po fj t u is₃ ++ R), k₃⟩
theorem w_done (H : SCx C) {d : Nat} (hr : Room A (d + 2)) {outer : List Env} (hA : A.frames = some outer) {x dx dn rl : Addr} {po fi : Int} {t u : Tok} {is : List NI} {rd ns : List (Str × Tok)} {R : List (Addr × Cell)} {G : Addr → Option Obj} {k : Nat}
    (Y : LayF C G x dx dn is) (nd : ((absG is).map (·.1)).Nodup) (hc : ∀ n ∈ (absG is).map (·.1), ∀ m ∈ scG (absG is) n, m ∈ (absG is).map (·.1)) (hb : Small (absG is) 1000) (hns : ns.length ≤ 100) (hrd : rd.length ≤ 1000)
    (hok : DoneOk (ns.map (·.1)) (absG is, rd.map (·.1))) :
    CallRun C A 145 (.ref x :: strValues ns) G ((rl, listC (strValues rd)) :: (fN dn dx (.ref rl) po fi t u is ++ R)) k (DonePost C G k x dx dn rl po (fi + ns.length) t R ((ns.map (·.1)).foldl gDone (absG is, rd.map (·.1)))) := by
  obtain ⟨⟨o, ho, hd⟩, hcd⟩ := H.f145
  refine CallX.run (CallX.bodyV (rest := strValues ns) (front := [("self", .ref x)]) (nm := "nodes") (m₀ := fun tt => [("self", some (.ref x)), ("nodes", some (.ref tt)), ("n2i", none), ("node", none), ("nodeinfo", none), ("stat", none), ("successor", none), ("successor_info", none)])
    H.base hr hA ho hd hcd ?_ ?_ (fun _ => rfl) (fun _ => rfl) (fun _ => nodup_of rfl) rfl (by decide) ?_ fun L tt G₁ hG₁ htt hR => Run.toE (Run.abs fun Q0 hQ0 => ?_))
  · cases ns <;> rfl
  · rw [show (strValues ns).length = ns.length by simp [strValues], sizeLine_eq]; omega
  · intro tt q hq
    rcases List.mem_cons.mp hq with rfl | hq
    · rfl
    · rw [List.mem_singleton.mp hq]; rfl
  have Y₁ := Y.mono hG₁
  refine X_cons (X_If (T_Cmp (E_Attr (E_loc (v := .ref x) at0 (R_getOwn H.X H.o1 Y₁.inst (.tail _ (.head _)) (v := .ref rl) rfl rfl (E_none (C_isN (truthy_bool ?_))))))))
  rw [if_neg (show ¬ ((Value.ref rl == Value.none) = true) from Bool.false_ne_true)]
  refine X_nil ?_
  dsimp only
  refine X_cons (X_Assign (E_Attr (E_loc (v := .ref x) at0 (R_getOwn H.X H.o0 Y₁.inst (.tail _ (.head _)) (v := .ref dn) rfl rfl (storeLoc (.tail (.tail .head)) ?_)))))
  dsimp only
  refine X_one (X_ForV (DoneI C G₁ k x dx dn rl tt po fi t (ns.map (·.1)) R (absG is, rd.map (·.1))) (fun h => E_loc (v := .ref tt) at1 h) (IterOn.tuple hR.hd htt) ?_ ?_ ?_)
  · exact ⟨G₁, k, is, rd, u, none, none, none, none, none, fi, (Int.add_zero fi).symm, GLe.refl _, Nat.le_refl _, Y₁, by omega, rfl, hok⟩
  · intro j p₂ hj hI9
    refine hI9.casesOn ?_
    intro G₂ k₂ is₂ rd₂ u₂ o1 o2 o3 o4 o5 fj hfj hG₂ hk₂ Y₂ hrd₂ hab₂ hok₂
    refine AsgRun.name fun v ⟨_, hv⟩ => ?_
    have hj' : j < ns.length := by simpa [strValues] using hj
    have ev : v = .str ns[j].1 ns[j].2 := by
      have : (strValues ns)[j]? = some (.str ns[j].1 ns[j].2) := by simp [strValues, hj']
      rw [this] at hv; exact (Option.some.inj hv).symm
    subst ev
    have hsh : shape (absG is₂) = shape (absG is) := by
      have := shape_gDones ((ns.map (·.1)).take j) (absG is, rd.map (·.1))
      rw [← hab₂] at this; exact this
    have nd₂ : (namesOf is₂).Nodup := by rw [← abs_names, names_congr hsh]; exact nd
    have hdrop : (ns.map (·.1)).drop j = ns[j].1 :: (ns.map (·.1)).drop (j + 1) := by
      rw [List.drop_eq_getElem_cons (by simpa using hj'), List.getElem_map]
    rw [hdrop] at hok₂
    obtain ⟨hnp, hok₃⟩ := hok₂
    have hex : ∃ i, lookI is₂ ns[j].1 = some i ∧ i.np = -1 := by
      unfold npOf at hnp
      rw [find_abs] at hnp
      cases hl : lookI is₂ ns[j].1 with
      | none => rw [hl] at hnp; cases hnp
      | some i => rw [hl] at hnp; exact ⟨i, rfl, by simpa [NI.abs] using hnp⟩
    obtain ⟨i, hl, hinp⟩ := hex
    obtain ⟨him, hi⟩ := lookI_some hl
    obtain ⟨A₂, B₂, rfl⟩ := List.append_of_mem him
    refine storeLoc (.tail (.tail (.tail .head))) (Run.abs fun Q1 hQ1 => ?_)
    dsimp only at hQ1 ⊢
    refine X_cons (X_If (T_Cmp (E_Named (E_meth F.slot_dict_get F.plainAttrs_dict F.type_dict_get (E_loc (v := .ref dn) at2 ⟨HasT.dict Y₂.dict, E_items_cons (E_loc (v := .str ns[j].1 ns[j].2) at3 (E_items_nil (R_dictGet Y₂.dict.a ?_)))⟩)))))
    rw [dget_ent, hl, show (Option.map (fun i : NI => Value.ref i.a) (some i)).getD Value.none = Value.ref i.a from rfl]
    refine storeLoc (.tail (.tail (.tail (.tail .head)))) (E_none (C_isN (truthy_bool ?_)))
    rw [if_neg (show ¬ ((Value.ref i.a == Value.none) = true) from Bool.false_ne_true)]
    refine X_nil ?_
    dsimp only
    refine X_cons (X_Assign (E_Attr (E_loc (v := .ref i.a) at4 (R_getSlot H.X H.s1 (.inl (.tail _ (fmem him))) (Y₂.ds i him) rfl rfl (storeLoc (.tail (.tail (.tail (.tail (.tail .head))))) ?_)))))
    dsimp only
    refine X_cons (X_If (T_Cmp (E_loc (v := .int i.np i.nt) at5 (E_glob H.base at2 (C_neI (truthy_bool ?_))))))
    rw [hinp, if_neg (by decide)]
    refine X_nil ?_
    dsimp only
    refine X_cons (X_AssignAttr (E_glob H.base at3 (E_loc (v := .ref i.a) at4 (R_setSlot H.X H.s1 (.tail fput) (Y₂.ds i him) ?_))))
    dsimp only
    have e₃ : ∀ nt, absG (A₂ ++ { i with np := -2, nt := nt } :: B₂) = setNp (absG (A₂ ++ i :: B₂)) ns[j].1 (-2) := fun nt => by rw [abs_setNp (by rw [abs_names]; exact nd₂), hi]
    have hscl : i.sc.map (·.1) = scG (absG (A₂ ++ i :: B₂)) ns[j].1 := by rw [scG_abs, ← hi, scOf_mem nd₂ him]
    have hsm₂ : Small (absG (A₂ ++ i :: B₂)) 1000 := Small.congr hsh.symm hb
    have hscz : i.sc.length ≤ 1000 := by
      have := hsm₂ i.abs (by rw [absG_cons]; simp)
      simpa [NI.abs] using this
    have Y₃ := Y₂.put (np := -2) (nt := 228)
    refine X_cons (X_ForV (DoneJ C G₂ k₂ x dx dn rl tt po fj t u₂ (some (.str ns[j].1 ns[j].2)) (some (.ref i.a)) (some (.int (-1) i.nt)) R (i.sc.map (·.1)) rd₂.length (setNp (absG (A₂ ++ i :: B₂)) ns[j].1 (-2), rd₂.map (·.1)))
        (fun h => E_Attr (E_loc (v := .ref i.a) at4 (R_getSlot H.X H.s2 (.inl (.tail _ (fmem (i := { i with np := -2, nt := 228 }) (by simp)))) (Y₂.ds i him) rfl rfl h))) (IterOn.list hR.hd (Y₂.sl i him)) ?_ ?_ ?_)
    · exact ⟨G₂, k₂, _, rd₂, o4, o5, GLe.refl _, Nat.le_refl _, Y₃, by omega, by rw [e₃, List.take_zero]; rfl⟩
    · intro jj p₃ hjj hI9
      refine hI9.casesOn ?_
      intro G₃ k₃ is₃ rd₃ o4 o5 hG₃ hk₃ Y₃ hrd₃ hab₃
      refine AsgRun.name fun v ⟨_, hv⟩ => ?_
      have hjj' : jj < i.sc.length := by simpa [strValues] using hjj
      have ev : v = .str i.sc[jj].1 i.sc[jj].2 := by
        have : (strValues i.sc)[jj]? = some (.str i.sc[jj].1 i.sc[jj].2) := by simp [strValues, hjj']
        rw [this] at hv; exact (Option.some.inj hv).symm
      subst ev
      have hsh₃ : shape (absG is₃) = shape (absG is) := by
        have := shape_relaxs ((i.sc.map (·.1)).take jj) (setNp (absG (A₂ ++ i :: B₂)) ns[j].1 (-2), rd₂.map (·.1))
        rw [← hab₃] at this
        rw [this]
        show shape (setNp _ _ _) = _
        rw [shape_setNp, hsh]
      have nd₃ : (namesOf is₃).Nodup := by rw [← abs_names, names_congr hsh₃]; exact nd
      have hmem : i.sc[jj].1 ∈ namesOf is₃ := by
        rw [← abs_names, names_congr hsh₃]
        refine hc ns[j].1 ?_ _ ?_
        · rw [← names_congr hsh, abs_names, ← hi]; exact List.mem_map_of_mem (f := (·.nm)) him
        · rw [← scG_congr hsh, ← hscl]; exact List.mem_map_of_mem (f := (·.1)) (List.getElem_mem hjj')
      obtain ⟨A₃, i₃, B₃, rfl, hi₃⟩ := node_of hmem
      refine storeLoc (.tail (.tail (.tail (.tail (.tail (.tail .head)))))) (Run.abs fun Q2 hQ2 => ?_)
      dsimp only at hQ2 ⊢
      refine X_cons (X_Assign (E_Sb F.slot_dict_getitem.lookup (E_loc (v := .ref dn) at2 (E_loc (v := .str i.sc[jj].1 i.sc[jj].2) at6 ⟨HasTy.dict Y₃.dict, G_dict Y₃.dict (hi₃ ▸ get_of nd₃) (storeLoc (.tail (.tail (.tail (.tail (.tail (.tail (.tail .head))))))) ?_)⟩))))
      dsimp only
      have him₃ : i₃ ∈ A₃ ++ i₃ :: B₃ := by simp
      refine X_cons (X_AugAttr (E_loc (v := .ref i₃.a) at7 (R_getSlot H.X H.s1 (.inl (.tail _ (fmem him₃))) (Y₃.ds i₃ him₃) rfl rfl (E_int fun t1 => B_isub fun t2 => R_setSlot H.X H.s1 (.tail fput) (Y₃.ds i₃ him₃) ?_))))
      dsimp only
      have e₄ : absG (A₃ ++ { i₃ with np := i₃.np - 1, nt := t2 } :: B₃) = addNp (absG (A₃ ++ i₃ :: B₃)) i.sc[jj].1 (-1) := by
        rw [← hi₃]
        exact abs_addNp (by rw [abs_names]; exact nd₃)
      have Y₄ := Y₃.put (np := i₃.np - 1) (nt := t2)
      have him₄ : ({ i₃ with np := i₃.np - 1, nt := t2 } : NI) ∈ A₃ ++ { i₃ with np := i₃.np - 1, nt := t2 } :: B₃ := by simp
      have hnp₃ : npOf (absG (A₃ ++ i₃ :: B₃)) i.sc[jj].1 = some i₃.np := by rw [← hi₃]; exact npOf_abs nd₃ him₃
      have hstep : ((i.sc.map (·.1)).take (jj + 1)).foldl relax (setNp (absG (A₂ ++ i :: B₂)) ns[j].1 (-2), rd₂.map (·.1)) = relax (absG (A₃ ++ i₃ :: B₃), rd₃.map (·.1)) i.sc[jj].1 := by
        rw [List.take_add_one, List.getElem?_map, List.getElem?_eq_getElem hjj', Option.map_some, Option.toList_some, List.foldl_append, ← hab₃]; rfl
      refine X_one (X_If (T_Cmp (E_Attr (E_loc (v := .ref i₃.a) at7 (R_getSlot H.X H.s1 (.inl (.tail _ (fmem (i := { i₃ with np := i₃.np - 1, nt := t2 }) him₄))) (Y₄.ds { i₃ with np := i₃.np - 1, nt := t2 } him₄) rfl rfl (E_int fun t3 => C_eqI (truthy_bool ?_)))))))
      by_cases h1 : i₃.np = 1
      · rw [show ((i₃.np - 1 : Int) == 0) = true by rw [h1]; rfl, if_pos rfl]
        refine X_one (X_Expr (E_meth F.slot_list_append F.plainAttrs_list F.type_list_append (E_Attr (E_loc (v := .ref x) at0 (R_getOwn H.X H.o1 Y₄.inst (.tail _ (.head _)) (v := .ref rl) rfl rfl
          ⟨HasT.list (.inr (.head _)), E_items_cons (E_loc (v := .str i.sc[jj].1 i.sc[jj].2) at6 (E_items_nil (R_append .head ?_ ⟨(fun _ e => nomatch e), ?_⟩)))⟩)))))
        · simp only [strValues, List.length_map]; rw [sizeLine_eq]; omega
        · rw [← strValues_snoc rd₃ i.sc[jj]]
          refine hQ2 _ _ ⟨G₃, k₃, A₃ ++ { i₃ with np := i₃.np - 1, nt := t2 } :: B₃, rd₃ ++ [i.sc[jj]], some (.str i.sc[jj].1 i.sc[jj].2), some (.ref i₃.a), hG₃, hk₃, Y₄, by rw [List.length_append]; simp; omega, ?_⟩
          · rw [hstep, e₄]
            unfold relax
            rw [if_pos (by rw [hnp₃, h1])]; simp
      · rw [show ((i₃.np - 1 : Int) == 0) = false from beq_eq_false_iff_ne.mpr (by omega), if_neg Bool.false_ne_true]
        refine X_nil (hQ2 _ _ ⟨G₃, k₃, _, rd₃, _, _, hG₃, hk₃, Y₄, by omega, ?_⟩)
        rw [hstep, e₄]
        unfold relax
        rw [if_neg (by rw [hnp₃]; exact fun e => h1 (Option.some.inj e))]
    · intro p₃ hI9
      refine hI9.casesOn ?_
      intro G₃ k₃ is₃ rd₃ o4 o5 hG₃ hk₃ Y₃ hrd₃ hab₃
      refine X_nil ?_
      dsimp only
      have hst : ((ns.map (·.1)).take (j + 1)).foldl gDone (absG is, rd.map (·.1)) = (absG is₃, rd₃.map (·.1)) := by
        rw [List.take_add_one, List.getElem?_map, List.getElem?_eq_getElem hj', Option.map_some, Option.toList_some, List.foldl_append, ← hab₂, hab₃, List.take_of_length_le (by simp [strValues]), hscl]; rfl
      refine X_one (X_AugAttr (E_loc (v := .ref x) at0 (R_getOwn H.X H.o3 Y₃.inst (.tail _ (.head _)) (v := .int fj u₂) rfl rfl (E_int fun t1 => B_iadd fun t2 => R_setOwn H.X H.o3 Y₃.inst (.tail .head) (show 4 ≤ 900 by decide) ?_))))
      refine hQ1 _ _ ⟨G₃, k₃, is₃, rd₃, t2, some (.str ns[j].1 ns[j].2), some (.ref i.a), some (.int (-1) i.nt), o4, o5, fj + 1, by omega, GLe.trans hG₂ hG₃, Nat.le_trans hk₂ hk₃, Y₃, ?_, hst.symm, ?_⟩
      · have : (strValues i.sc).length = i.sc.length := by simp [strValues]
        rw [this] at hrd₃
        omega
      · have : gDone (absG (A₂ ++ i :: B₂), rd₂.map (·.1)) ns[j].1 = (absG is₃, rd₃.map (·.1)) := by
          rw [← hst, List.take_add_one, List.getElem?_map, List.getElem?_eq_getElem hj', Option.map_some, Option.toList_some, List.foldl_append, ← hab₂]; rfl
        rw [← this]; exact hok₃
  · intro p₂ hI9
    refine hI9.casesOn ?_
    intro G₂ k₂ is₂ rd₂ u₂ o1 o2 o3 o4 o5 fj hfj hG₂ hk₂ Y₂ hrd₂ hab₂ hok₂
    obtain rfl : fj = fi + (ns.length : Int) := by rw [hfj, show (strValues ns).length = ns.length by simp [strValues]]
    refine X_nil (hQ0 _ _ ⟨GLe.trans hG₁ hG₂, hk₂, is₂, rd₂, u₂, Y₂, ?_⟩)
    · rw [hab₂, List.take_of_length_le (by simp [strValues])]
end Two
end Mine

open PySem PySem.Calls PyProof.Rows
set_option Elab.async false
set_option linter.unusedVariables false
set_option maxRecDepth 100000
namespace Mine
/-! the sorter's graph, as a bookkeeping of what each node waits for -/
def fnd (g : Gr) (n : Str) : Option (Str × Int × List Str) := g.find? fun q => decide (q.1 = n)
theorem npOf_fnd (g : Gr) (n : Str) : npOf g n = (fnd g n).map (·.2.1) := rfl
theorem scG_fnd (g : Gr) (n : Str) : scG g n = ((fnd g n).map (·.2.2)).getD [] := rfl
theorem fnd_name {g : Gr} {n : Str} {q : Str × Int × List Str} (h : fnd g n = some q) : q.1 = n := by
  have := List.find?_some h
  simpa using this
theorem fnd_none {g : Gr} {n : Str} : fnd g n = none ↔ n ∉ g.map (·.1) := by
  unfold fnd
  rw [List.find?_eq_none]
  constructor
  · intro h hm
    obtain ⟨q, hq, e⟩ := List.mem_map.mp hm
    exact h q hq (by simpa using e)
  · intro h q hq e
    exact h (by simp only [decide_eq_true_eq] at e; exact e ▸ List.mem_map_of_mem (f := (·.1)) hq)
theorem fnd_upd {g : Gr} {n m : Str} {f : Str × Int × List Str → Str × Int × List Str} (hf : ∀ q, (f q).1 = q.1) : fnd (g.map fun q => if q.1 = n then f q else q) m = (fnd g m).map fun q => if q.1 = n then f q else q := by
  unfold fnd
  rw [List.find?_map]
  have : ((fun q : Str × Int × List Str => decide (q.1 = m)) ∘ fun q => if q.1 = n then f q else q) = fun q => decide (q.1 = m) := by
    funext q
    show decide ((if q.1 = n then f q else q).1 = m) = _
    split
    · rw [hf]
    · rfl
  rw [this]
theorem npOf_addNp {g : Gr} {n m : Str} {z : Int} : npOf (addNp g n z) m = (npOf g m).map fun i => if m = n then i + z else i := by
  rw [npOf_fnd, npOf_fnd, show fnd (addNp g n z) m = _ from fnd_upd (f := fun q => (q.1, q.2.1 + z, q.2.2)) fun _ => rfl]
  cases e : fnd g m with
  | none => rfl
  | some q =>
    have := fnd_name e
    simp only [Option.map_some, this]
    split <;> rfl
theorem npOf_setNp {g : Gr} {n m : Str} {z : Int} : npOf (setNp g n z) m = (npOf g m).map fun i => if m = n then z else i := by
  rw [npOf_fnd, npOf_fnd, show fnd (setNp g n z) m = _ from fnd_upd (f := fun q => (q.1, z, q.2.2)) fun _ => rfl]
  cases e : fnd g m with
  | none => rfl
  | some q =>
    have := fnd_name e
    simp only [Option.map_some, this]
    split <;> rfl
theorem npOf_addSc {g : Gr} {n m x : Str} : npOf (addSc g n x) m = npOf g m := by
  rw [npOf_fnd, npOf_fnd, show fnd (addSc g n x) m = _ from fnd_upd (f := fun q => (q.1, q.2.1, q.2.2 ++ [x])) fun _ => rfl]
  cases e : fnd g m with
  | none => rfl
  | some q => simp only [Option.map_some]; split <;> rfl
theorem scG_addSc {g : Gr} {n m x : Str} (hn : n ∈ g.map (·.1)) : scG (addSc g n x) m = if m = n then scG g m ++ [x] else scG g m := by
  rw [scG_fnd, scG_fnd, show fnd (addSc g n x) m = _ from fnd_upd (f := fun q => (q.1, q.2.1, q.2.2 ++ [x])) fun _ => rfl]
  cases e : fnd g m with
  | none =>
    have : ¬ m = n := fun h => fnd_none.mp e (h ▸ hn)
    rw [if_neg this]; rfl
  | some q =>
    have := fnd_name e
    simp only [Option.map_some, Option.getD_some, this]
    split <;> rfl
theorem fnd_touch {g : Gr} {n m : Str} : fnd (touch g n) m = if m = n ∧ m ∉ g.map (·.1) then some (n, 0, []) else fnd g m := by
  unfold touch
  by_cases hn : n ∈ g.map (·.1)
  · rw [if_pos hn, if_neg fun h => h.2 (h.1 ▸ hn)]
  · rw [if_neg hn]
    unfold fnd
    rw [List.find?_append]
    by_cases hm : m = n
    · subst hm
      have : g.find? (fun q => decide (q.1 = m)) = none := fnd_none.mpr hn
      rw [this, if_pos ⟨rfl, hn⟩]; simp
    · rw [if_neg fun h => hm h.1]
      have : ([(n, (0 : Int), ([] : List Str))].find? fun q => decide (q.1 = m)) = none := by
        rw [List.find?_eq_none]; intro q hq; rw [List.mem_singleton.mp hq]; simpa using fun e : n = m => hm e.symm
      rw [this]; simp
theorem npOf_touch {g : Gr} {n m : Str} : npOf (touch g n) m = if m = n ∧ m ∉ g.map (·.1) then some 0 else npOf g m := by
  rw [npOf_fnd, fnd_touch]; split <;> rfl
theorem scG_touch {g : Gr} {n m : Str} : scG (touch g n) m = scG g m := by
  rw [scG_fnd, scG_fnd, fnd_touch]
  split
  · rename_i h
    rw [fnd_none.mpr h.2]; rfl
  · rfl
theorem touch_mem {g : Gr} {n x : Str} : x ∈ (touch g n).map (·.1) ↔ x ∈ g.map (·.1) ∨ x = n := by
  unfold touch
  split
  · rename_i h
    constructor
    · exact .inl
    · rintro (h' | rfl)
      · exact h'
      · exact h
  · simp
theorem shape_scG_addNp {g : Gr} {n m : Str} {z : Int} : scG (addNp g n z) m = scG g m := scG_congr shape_addNp m
/-- built: each node waits for its list, and stands with those that it waits for -/
structure GB (pr : Str → List Str) (g : Gr) : Prop where
  nd : (g.map (·.1)).Nodup
  np : ∀ n ∈ g.map (·.1), npOf g n = some ((pr n).length : Int)
  sc : ∀ m n, (scG g m).count n = (pr n).count m
  pin : ∀ n m, m ∈ pr n → n ∈ g.map (·.1) ∧ m ∈ g.map (·.1)
theorem GB.empty : GB (fun _ => []) [] := ⟨List.nodup_nil, fun n h => by simp at h, fun m n => rfl, fun n m h => by simp at h⟩
def addPr (pr : Str → List Str) (n : Str) (ps : List Str) : Str → List Str := fun x => if x = n then pr x ++ ps else pr x
theorem gAdd_loop (n : Str) : ∀ (ps : List Str) (g : Gr), (g.map (·.1)).Nodup → n ∈ g.map (·.1) →
    let g' := ps.foldl (fun g p => addSc (touch g p) p n) g
    (g'.map (·.1)).Nodup ∧ (∀ x, x ∈ g'.map (·.1) ↔ x ∈ g.map (·.1) ∨ x ∈ ps) ∧ (∀ m, m ∈ g.map (·.1) → npOf g' m = npOf g m) ∧ (∀ m, m ∈ ps → m ∉ g.map (·.1) → npOf g' m = some 0) ∧
      (∀ m x, (scG g' m).count x = (scG g m).count x + if x = n then ps.count m else 0)
  | [], g, nd, hn => ⟨nd, fun x => by simp, fun m _ => rfl, fun m h => by simp at h, fun m x => by simp⟩
  | p :: ps, g, nd, hn => by
    have nd1 : ((addSc (touch g p) p n).map (·.1)).Nodup := by rw [addSc_names]; exact touch_nodup nd
    have hp : p ∈ (touch g p).map (·.1) := touch_mem.mpr (.inr rfl)
    have mem1 : ∀ x, x ∈ (addSc (touch g p) p n).map (·.1) ↔ x ∈ g.map (·.1) ∨ x = p := fun x => by rw [addSc_names]; exact touch_mem
    obtain ⟨h1, h2, h3, h4, h5⟩ := gAdd_loop n ps (addSc (touch g p) p n) nd1 ((mem1 n).mpr (.inl hn))
    have np1 : ∀ m, npOf (addSc (touch g p) p n) m = if m = p ∧ m ∉ g.map (·.1) then some 0 else npOf g m := fun m => by rw [npOf_addSc, npOf_touch]
    refine ⟨h1, fun x => ?_, fun m hm => ?_, fun m hm hg => ?_, fun m x => ?_⟩
    · rw [List.foldl_cons, h2 x, mem1 x, List.mem_cons, or_assoc]
    · rw [List.foldl_cons, h3 m ((mem1 m).mpr (.inl hm)), np1, if_neg fun h => h.2 hm]
    · rw [List.foldl_cons]
      by_cases e : m = p
      · rw [h3 m ((mem1 m).mpr (.inr e)), np1, if_pos ⟨e, hg⟩]
      · exact h4 m ((List.mem_cons.mp hm).resolve_left e) fun h => ((mem1 m).mp h).elim hg e
    · rw [List.foldl_cons, h5 m x, scG_addSc hp, List.count_cons]
      by_cases e : m = p
      · subst e
        rw [if_pos rfl, scG_touch, List.count_append]
        by_cases ex : x = n
        · subst ex; simp; omega
        · have : ¬ n = x := fun h => ex h.symm
          simp [ex, this]
      · have e' : ¬ p = m := fun h => e h.symm
        rw [if_neg e, scG_touch]
        simp [e']
theorem GB.add {pr : Str → List Str} {g : Gr} (h : GB pr g) (n : Str) (ps : List Str) : GB (addPr pr n ps) (gAdd g n ps) := by
  have prnil : ∀ x, x ∉ g.map (·.1) → pr x = [] := fun x hx => by
    cases e : pr x with
    | nil => rfl
    | cons a r => exact absurd (h.pin x a (by rw [e]; simp)).1 hx
  have ndt := touch_nodup (n := n) h.nd
  have hn : n ∈ (addNp (touch g n) n ps.length).map (·.1) := by rw [addNp_names]; exact touch_mem.mpr (.inr rfl)
  obtain ⟨h1, h2, h3, h4, h5⟩ := gAdd_loop n ps (addNp (touch g n) n ps.length) (by rw [addNp_names]; exact ndt) hn
  have mem : ∀ x, x ∈ (gAdd g n ps).map (·.1) ↔ (x ∈ g.map (·.1) ∨ x = n) ∨ x ∈ ps := fun x => by
    unfold gAdd
    rw [h2 x, addNp_names, touch_mem]
  have np0 : ∀ m, npOf (addNp (touch g n) n ps.length) m = (if m = n ∧ m ∉ g.map (·.1) then some 0 else npOf g m).map fun i => if m = n then i + (ps.length : Int) else i := fun m => by rw [npOf_addNp, npOf_touch]
  refine ⟨h1, fun m hm => ?_, fun m x => ?_, fun x m hm => ?_⟩
  · unfold gAdd
    by_cases hm' : m ∈ (addNp (touch g n) n ps.length).map (·.1)
    · rw [h3 m hm', np0]
      unfold addPr
      by_cases e : m = n
      · subst e
        by_cases hg : m ∈ g.map (·.1)
        · rw [if_neg fun h => h.2 hg, h.np m hg]; simp
        · rw [if_pos ⟨rfl, hg⟩, prnil m hg]; simp
      · have hg : m ∈ g.map (·.1) := by
          rw [addNp_names] at hm'
          exact (touch_mem.mp hm').resolve_right e
        rw [if_neg fun h => e h.1, h.np m hg]; simp [e]
    · have hmp : m ∈ ps := by
        rcases (mem m).mp hm with h | h
        · rw [addNp_names] at hm'; exact absurd (touch_mem.mpr h) hm'
        · exact h
      rw [h4 m hmp hm']
      rw [addNp_names] at hm'
      have hg : m ∉ g.map (·.1) := fun h => hm' (touch_mem.mpr (.inl h))
      have e : ¬ m = n := fun h => hm' (touch_mem.mpr (.inr h))
      unfold addPr
      rw [if_neg e, prnil m hg]; rfl
  · unfold gAdd
    rw [h5 m x, shape_scG_addNp, scG_touch, h.sc m x]
    unfold addPr
    by_cases e : x = n
    · rw [if_pos e, if_pos e, List.count_append]
    · rw [if_neg e, if_neg e]; omega
  · rw [mem, mem]
    unfold addPr at hm
    by_cases e : x = n
    · rw [if_pos e] at hm
      refine ⟨.inl (.inr e), ?_⟩
      rcases List.mem_append.mp hm with hm | hm
      · exact .inl (.inl (h.pin x m hm).2)
      · exact .inr hm
    · rw [if_neg e] at hm
      exact ⟨.inl (.inl (h.pin x m hm).1), .inl (.inl (h.pin x m hm).2)⟩
theorem gAdd_mem {g : Gr} {n : Str} {ps : List Str} (nd : (g.map (·.1)).Nodup) (x : Str) : x ∈ (gAdd g n ps).map (·.1) ↔ (x ∈ g.map (·.1) ∨ x = n) ∨ x ∈ ps := by
  have ndt := touch_nodup (n := n) nd
  obtain ⟨h1, h2, _⟩ := gAdd_loop n ps (addNp (touch g n) n ps.length) (by rw [addNp_names]; exact ndt) (by rw [addNp_names]; exact touch_mem.mpr (.inr rfl))
  unfold gAdd
  rw [h2 x, addNp_names, touch_mem]
theorem Small.gAdd {g : Gr} {b : Nat} (h : Small g b) (n : Str) (ps : List Str) : Small (gAdd g n ps) (b + ps.length) := by
  have key : ∀ (l : List Str) (g : Gr) (b : Nat), Small g b → Small (l.foldl (fun g p => Mine.addSc (Mine.touch g p) p n) g) (b + l.length) := by
    intro l
    induction l with
    | nil => intro g b h; exact h
    | cons p l ih =>
      intro g b h
      have := ih _ _ ((h.touch p).addSc p n)
      rw [List.foldl_cons, List.length_cons, show b + (l.length + 1) = b + 1 + l.length by omega]
      exact this
  exact key ps _ b ((h.touch n).addNp n ps.length)
theorem Small.mono {g : Gr} {b b' : Nat} (h : Small g b) (hb : b ≤ b') : Small g b' := fun q hq => Nat.le_trans (h q hq) hb
end Mine

open PySem PySem.Calls PyProof.Rows
set_option Elab.async false
set_option linter.unusedVariables false
set_option maxRecDepth 100000
namespace Mine
def waits (pr : Str → List Str) (D : List Str) (n : Str) : Nat := (pr n).countP fun m => decide (m ∉ D)
/-- D is done, O is handed out, rd stands ready -/
structure KInv (pr : Str → List Str) (D O rd : List Str) (g : Gr) : Prop where
  nd : (g.map (·.1)).Nodup
  sc : ∀ m n, (scG g m).count n = (pr n).count m
  pin : ∀ n m, m ∈ pr n → n ∈ g.map (·.1) ∧ m ∈ g.map (·.1)
  npD : ∀ n ∈ D, npOf g n = some (-2)
  npO : ∀ n ∈ O, n ∉ D → npOf g n = some (-1)
  npR : ∀ n ∈ g.map (·.1), n ∉ O → npOf g n = some (waits pr D n : Int)
  rdn : rd.Nodup
  rdm : ∀ n, n ∈ rd ↔ n ∈ g.map (·.1) ∧ n ∉ O ∧ ∀ m ∈ pr n, m ∈ D
  On : O.Nodup
  Dn : D.Nodup
  DO : ∀ n ∈ D, n ∈ O
  Om : ∀ n ∈ O, n ∈ g.map (·.1) ∧ ∀ m ∈ pr n, m ∈ D
theorem waits_nil (pr : Str → List Str) (n : Str) : waits pr [] n = (pr n).length := by
  unfold waits
  rw [List.countP_eq_length]
  intro m _; simp
theorem waits_zero {pr : Str → List Str} {D : List Str} {n : Str} : waits pr D n = 0 ↔ ∀ m ∈ pr n, m ∈ D := by
  unfold waits
  rw [List.countP_eq_zero]
  constructor
  · intro h m hm; have := h m hm; simpa using this
  · intro h m hm; simpa using h m hm
theorem waits_add {pr : Str → List Str} {D : List Str} {n m : Str} (hn : n ∉ D) : waits pr (D ++ [n]) m + (pr m).count n = waits pr D m := by
  unfold waits
  generalize pr m = l
  induction l with
  | nil => rfl
  | cons a l ih =>
    rw [List.countP_cons, List.countP_cons, List.count_cons, ← ih]
    by_cases e : a = n
    · subst e; simp [hn]; omega
    · by_cases ha : a ∈ D
      · simp [ha, e]
      · simp [ha, e]; omega
def readyG (g : Gr) : List Str := (g.filter fun q => q.2.1 == 0).map (·.1)
theorem readyG_mem {g : Gr} (nd : (g.map (·.1)).Nodup) {n : Str} : n ∈ readyG g ↔ npOf g n = some 0 := by
  unfold readyG npOf
  induction g with
  | nil => simp
  | cons q g ih =>
    obtain ⟨n1, n2⟩ := List.nodup_cons.mp nd
    have ih := ih n2
    by_cases h : q.1 = n
    · subst h
      rw [List.find?_cons_of_pos (by simp)]
      have : q.1 ∉ (g.filter fun q => q.2.1 == 0).map (·.1) := fun hm => by
        obtain ⟨z, hz, e⟩ := List.mem_map.mp hm
        exact n1 (by show q.1 ∈ _; rw [← e]; exact List.mem_map_of_mem (f := (·.1)) (List.mem_filter.mp hz).1)
      rw [List.filter_cons]
      by_cases h0 : q.2.1 = 0
      · simp [h0]
      · simp only [beq_iff_eq, h0, if_false]
        constructor
        · intro hm; exact absurd (by simpa using hm) (by simpa using this)
        · intro e; exact absurd (by simpa using e) h0
    · rw [List.find?_cons_of_neg (by simpa using h), ← ih, List.filter_cons]
      split
      · rw [List.map_cons, List.mem_cons]
        constructor
        · rintro (e | e)
          · exact absurd e.symm h
          · exact e
        · exact .inr
      · rfl
theorem KInv.start {pr : Str → List Str} {g : Gr} (h : GB pr g) : KInv pr [] [] (readyG g) g := by
  refine ⟨h.nd, h.sc, h.pin, fun n hn => by simp at hn, fun n hn => by simp at hn, fun n hn _ => by rw [h.np n hn, waits_nil], ?_, fun n => ?_, List.nodup_nil, List.nodup_nil, fun n hn => by simp at hn, fun n hn => by simp at hn⟩
  · exact List.Nodup.sublist (List.Sublist.map (fun q : Str × Int × List Str => q.1) List.filter_sublist) h.nd
  · rw [readyG_mem h.nd]
    constructor
    · intro e
      have hn : n ∈ g.map (·.1) := by
        rcases Classical.em (n ∈ g.map (·.1)) with hn | hn
        · exact hn
        · rw [npOf_fnd, fnd_none.mpr hn] at e; cases e
      rw [h.np n hn] at e
      have : (pr n).length = 0 := by have := Option.some.inj e; omega
      rw [List.length_eq_zero_iff.mp this]
      exact ⟨hn, by simp, fun m hm => by simp at hm⟩
    · rintro ⟨hn, _, hm⟩
      rw [h.np n hn]
      have : pr n = [] := List.eq_nil_iff_forall_not_mem.mpr fun m hm' => by have := hm m hm'; simp at this
      rw [this]; rfl
theorem npOf_outAll : ∀ (rs : List Str) (g : Gr) (m : Str), npOf (outAll g rs) m = if m ∈ rs then (npOf g m).map fun _ => -1 else npOf g m
  | [], g, m => by simp [outAll]
  | r :: rs, g, m => by
    show npOf (outAll (setNp g r (-1)) rs) m = _
    rw [npOf_outAll rs, npOf_setNp]
    by_cases e : m = r
    · subst e
      simp only [List.mem_cons, true_or, if_true]
      cases npOf g m <;> simp
    · by_cases h : m ∈ rs
      · simp only [h, if_true, e, if_false, List.mem_cons, or_true, Option.map_id']
      · simp [h, e]
theorem KInv.ready {pr : Str → List Str} {D O rd : List Str} {g : Gr} (h : KInv pr D O rd g) : KInv pr D (O ++ rd) [] (outAll g rd) := by
  have names := outAll_names rd g
  have rdO : ∀ n ∈ rd, n ∉ O := fun n hn => ((h.rdm n).mp hn).2.1
  refine ⟨by rw [names]; exact h.nd, fun m n => by rw [scG_congr (shape_outAll rd g)]; exact h.sc m n, fun n m hm => by rw [names]; exact h.pin n m hm, fun n hn => ?_, fun n hn hD => ?_, fun n hn hO => ?_, List.nodup_nil, fun n => ?_, ?_, h.Dn, fun n hn => List.mem_append_left _ (h.DO n hn), fun n hn => ?_⟩
  · rw [npOf_outAll, if_neg fun hr => rdO n hr (h.DO n hn)]; exact h.npD n hn
  · rw [npOf_outAll]
    by_cases hr : n ∈ rd
    · rw [if_pos hr]
      have := h.npR n ((h.rdm n).mp hr).1 (rdO n hr)
      rw [this]; rfl
    · rw [if_neg hr]
      exact h.npO n ((List.mem_append.mp hn).resolve_right hr) hD
  · rw [names] at hn
    have hr : n ∉ rd := fun hr => hO (List.mem_append_right _ hr)
    rw [npOf_outAll, if_neg hr]
    exact h.npR n hn fun h' => hO (List.mem_append_left _ h')
  · rw [names]
    constructor
    · intro hn; simp at hn
    · rintro ⟨h1, h2, h3⟩
      exact absurd (List.mem_append_right _ ((h.rdm n).mpr ⟨h1, fun h' => h2 (List.mem_append_left _ h'), h3⟩)) h2
  · exact List.nodup_append.mpr ⟨h.On, h.rdn, fun a ha b hb e => rdO b hb (e ▸ ha)⟩
  · rw [names]
    rcases List.mem_append.mp hn with hn | hn
    · exact h.Om n hn
    · have := (h.rdm n).mp hn
      exact ⟨this.1, this.2.2⟩
theorem relaxs : ∀ (l : List Str) (g : Gr) (rd : List Str), (∀ m ∈ l, ∃ z : Nat, npOf g m = some (z : Int) ∧ l.count m ≤ z) →
    (∀ m, npOf (l.foldl relax (g, rd)).1 m = (npOf g m).map fun i => i - (l.count m : Int)) ∧ (∀ m, m ∈ (l.foldl relax (g, rd)).2 ↔ m ∈ rd ∨ (m ∈ l ∧ npOf g m = some (l.count m : Int))) ∧
      (rd.Nodup → (∀ m ∈ rd, m ∉ l) → (l.foldl relax (g, rd)).2.Nodup)
  | [], g, rd, h => ⟨fun m => by simp, fun m => by simp, fun h _ => h⟩
  | a :: l, g, rd, h => by
    obtain ⟨z, hz, hc⟩ := h a (by simp)
    rw [List.count_cons_self] at hc
    have np1 : ∀ m, npOf (addNp g a (-1)) m = (npOf g m).map fun i => if m = a then i + -1 else i := fun m => npOf_addNp
    have pre : ∀ m ∈ l, ∃ z : Nat, npOf (addNp g a (-1)) m = some (z : Int) ∧ l.count m ≤ z := fun m hm => by
      rw [np1]
      by_cases e : m = a
      · subst e
        refine ⟨z - 1, ?_, by omega⟩
        rw [hz]; simp; omega
      · obtain ⟨z', hz', hc'⟩ := h m (List.mem_cons_of_mem _ hm)
        rw [List.count_cons_of_ne (fun h => e h.symm)] at hc'
        exact ⟨z', by rw [hz']; simp [e], hc'⟩
    obtain ⟨h1, h2, h3⟩ := relaxs l (addNp g a (-1)) (if npOf g a = some 1 then rd ++ [a] else rd) pre
    have hf : (a :: l).foldl relax (g, rd) = l.foldl relax (addNp g a (-1), if npOf g a = some 1 then rd ++ [a] else rd) := rfl
    rw [hf]
    refine ⟨fun m => ?_, fun m => ?_, fun nr hr => h3 ?_ ?_⟩
    · rw [h1, np1, Option.map_map]
      congr 1
      funext i
      show (if m = a then i + -1 else i) - _ = _
      by_cases e : m = a
      · subst e; rw [if_pos rfl, List.count_cons_self]; omega
      · rw [if_neg e, List.count_cons_of_ne (fun h => e h.symm)]
    · rw [h2, np1]
      by_cases e : m = a
      · subst e
        rw [hz, List.count_cons_self]
        by_cases e1 : z = 1
        · subst e1
          have c0 : l.count m = 0 := by omega
          rw [c0]; simp
        · have : ¬ (some (z : Int) = some 1) := fun e => e1 (by have := Option.some.inj e; omega)
          rw [if_neg this]
          have e2 : ((some (z : Int)).map fun i => if m = m then i + -1 else i) = some ((z : Int) - 1) := by simp; omega
          rw [e2]
          constructor
          · rintro (h | ⟨h, e⟩)
            · exact .inl h
            · refine .inr ⟨by simp, ?_⟩
              have := Option.some.inj e
              congr 1; omega
          · rintro (h | ⟨_, e⟩)
            · exact .inl h
            · have e := Option.some.inj e
              have hpos : 0 < l.count m := by omega
              exact .inr ⟨List.count_pos_iff.mp hpos, by congr 1; omega⟩
      · rw [List.count_cons_of_ne (fun h => e h.symm)]
        have : m ∈ (if npOf g a = some 1 then rd ++ [a] else rd) ↔ m ∈ rd := by split <;> simp [e]
        rw [this]
        simp [e]
    · split
      · exact List.nodup_append.mpr ⟨nr, by simp, fun x hx y hy e => hr x hx (by rw [e, List.mem_singleton.mp hy]; simp)⟩
      · exact nr
    · intro m hm hml
      have key : m ∈ rd ∨ (m = a ∧ npOf g a = some 1) := by
        split at hm
        · rename_i h1
          rcases List.mem_append.mp hm with hm | hm
          · exact .inl hm
          · exact .inr ⟨List.mem_singleton.mp hm, h1⟩
        · exact .inl hm
      rcases key with hm | ⟨rfl, h1⟩
      · exact hr m hm (List.mem_cons_of_mem _ hml)
      · rw [hz] at h1
        have := Option.some.inj h1
        have := List.count_pos_iff.mpr hml
        omega
theorem KInv.done {pr : Str → List Str} {D O rd : List Str} {g : Gr} (h : KInv pr D O rd g) {n : Str} (hn : n ∈ O) (hD : n ∉ D) : npOf g n = some (-1) ∧ KInv pr (D ++ [n]) O (gDone (g, rd) n).2 (gDone (g, rd) n).1 := by
  have np0 := h.npO n hn hD
  refine ⟨np0, ?_⟩
  have hself : n ∉ scG g n := fun hm => by
    have := List.count_pos_iff.mpr hm
    rw [h.sc] at this
    exact hD ((h.Om n hn).2 n (List.count_pos_iff.mp this))
  have hl : ∀ m ∈ scG g n, n ∈ pr m ∧ m ∉ O := fun m hm => by
    have := List.count_pos_iff.mpr hm
    rw [h.sc] at this
    have hp := List.count_pos_iff.mp this
    exact ⟨hp, fun hO => hD ((h.Om m hO).2 n hp)⟩
  have np1 : ∀ m, npOf (setNp g n (-2)) m = if m = n then some (-2) else npOf g m := fun m => by
    rw [npOf_setNp]
    by_cases e : m = n
    · subst e; rw [np0]; simp
    · simp [e]
  have npl : ∀ m ∈ scG g n, npOf (setNp g n (-2)) m = some (waits pr D m : Int) ∧ (scG g n).count m ≤ waits pr D m := fun m hm => by
    obtain ⟨h1, h2⟩ := hl m hm
    rw [np1, if_neg (fun e : m = n => hself (by rw [e] at hm; exact hm))]
    refine ⟨h.npR m (h.pin m n h1).1 h2, ?_⟩
    rw [h.sc]
    have := waits_add (pr := pr) (m := m) hD
    omega
  obtain ⟨r1, r2, r3⟩ := relaxs (scG g n) (setNp g n (-2)) rd fun m hm => ⟨_, npl m hm⟩
  have hg : gDone (g, rd) n = (scG g n).foldl relax (setNp g n (-2), rd) := rfl
  have names : (gDone (g, rd) n).1.map (·.1) = g.map (·.1) := gDone_names (g, rd) n
  have cz : ∀ m, m ∉ scG g n → (scG g n).count m = 0 := fun m hm => List.count_eq_zero.mpr hm
  have npN : ∀ m, npOf (gDone (g, rd) n).1 m = (if m = n then some (-2) else npOf g m).map fun i => i - ((pr m).count n : Int) := fun m => by rw [hg, r1, np1, h.sc]
  have cO : ∀ m ∈ O, (pr m).count n = 0 := fun m hm => by
    rw [← h.sc]; exact cz m fun hs => (hl m hs).2 hm
  have rdl : ∀ m ∈ rd, m ∉ scG g n := fun m hm hs => hD (((h.rdm m).mp hm).2.2 n (hl m hs).1)
  refine ⟨by rw [names]; exact h.nd, fun m x => by rw [scG_congr (shape_gDone (g, rd) n)]; exact h.sc m x, fun x m hm => by rw [names]; exact h.pin x m hm, fun m hm => ?_, fun m hm hmD => ?_, fun m hm hmO => ?_, ?_, fun m => ?_, h.On, ?_, fun m hm => ?_, fun m hm => ?_⟩
  · rw [npN]
    rcases List.mem_append.mp hm with hm | hm
    · have e : ¬ m = n := fun e => hD (e ▸ hm)
      rw [if_neg e, h.npD m hm, cO m (h.DO m hm)]; rfl
    · have e := List.mem_singleton.mp hm
      subst e
      rw [if_pos rfl, cO m hn]; rfl
  · have hm1 : m ∉ D := fun h' => hmD (List.mem_append_left _ h')
    have e : ¬ m = n := fun e => hmD (List.mem_append_right _ (by rw [e]; simp))
    rw [npN, if_neg e, h.npO m hm hm1, cO m hm]; rfl
  · rw [names] at hm
    have e : ¬ m = n := fun e => hmO (e ▸ hn)
    rw [npN, if_neg e, h.npR m hm hmO]
    have := waits_add (pr := pr) (m := m) hD
    simp only [Option.map_some]
    congr 1; omega
  · rw [hg]; exact r3 h.rdn rdl
  · rw [names, hg, r2]
    constructor
    · rintro (hm | ⟨hm, e⟩)
      · obtain ⟨a, b, c⟩ := (h.rdm m).mp hm
        exact ⟨a, b, fun x hx => List.mem_append_left _ (c x hx)⟩
      · obtain ⟨h1, h2⟩ := hl m hm
        refine ⟨(h.pin m n h1).1, h2, waits_zero.mp ?_⟩
        rw [(npl m hm).1] at e
        have e := Option.some.inj e
        have := waits_add (pr := pr) (m := m) hD
        rw [h.sc] at e
        omega
    · rintro ⟨h1, h2, h3⟩
      by_cases hs : m ∈ scG g n
      · refine .inr ⟨hs, ?_⟩
        rw [(npl m hs).1]
        have e0 := waits_zero.mpr h3
        have := waits_add (pr := pr) (m := m) hD
        rw [h.sc]
        congr 1; omega
      · refine .inl ((h.rdm m).mpr ⟨h1, h2, fun x hx => ?_⟩)
        rcases List.mem_append.mp (h3 x hx) with hx' | hx'
        · exact hx'
        · rw [List.mem_singleton.mp hx'] at hx
          have := List.count_pos_iff.mpr hx
          rw [← h.sc] at this
          exact absurd (List.count_pos_iff.mp this) hs
  · exact List.nodup_append.mpr ⟨h.Dn, by simp, fun a ha b hb e => hD (by rw [List.mem_singleton.mp hb] at e; exact e ▸ ha)⟩
  · rcases List.mem_append.mp hm with hm | hm
    · exact h.DO m hm
    · rw [List.mem_singleton.mp hm]; exact hn
  · rw [names]
    exact ⟨(h.Om m hm).1, fun x hx => List.mem_append_left _ ((h.Om m hm).2 x hx)⟩
end Mine

open PySem PySem.Calls PyProof.Rows
set_option Elab.async false
set_option linter.unusedVariables false
set_option maxRecDepth 100000
namespace Mine
/-- pairs of a text and a list of texts -/
def NeedsAt (G : Addr → Option Obj) (vs : List Value) (nds : List ((Str × Tok) × List (Str × Tok))) : Prop :=
  vs.length = nds.length ∧ ∀ (i : Nat) (q : (Str × Tok) × List (Str × Tok)), nds[i]? = some q → ∃ T al, vs[i]? = some (Value.ref T) ∧ TupAt G T [Value.str q.1.1 q.1.2, .ref al] ∧ ListAt G al (strValues q.2)
theorem NeedsAt.mono {G G' : Addr → Option Obj} {vs : List Value} {nds : List ((Str × Tok) × List (Str × Tok))} (h : NeedsAt G vs nds) (x : GLe G G') : NeedsAt G' vs nds :=
  ⟨h.1, fun i q hq => let ⟨T, al, a, b, c⟩ := h.2 i q hq; ⟨T, al, a, b.mono x, c.mono x⟩⟩
def prOf (nds : List ((Str × Tok) × List (Str × Tok))) : Str → List Str := nds.foldl (fun pr q => addPr pr q.1.1 (q.2.map (·.1))) fun _ => []
namespace Two
def fdF (i : Nat) (dV : Value) (pm cd : Value) : FuncData :=
  match PySem.Challenge.pw_dn0038_02.main.body[i]? with
  | some (.FunctionDef name args body dl ret tp scope ts b pos) => { docDef name args body scope pm cd .none with defaults := dV }
  | _ => docDef "" ⟨[], [], none, [], [], none, []⟩ [] ⟨.function, [], false, false, []⟩ pm cd .none
abbrev pmL : Value := .str "law_dn0038_02" 404
abbrev pmX : Value := .str "cpy313.xml.sax.saxutils" 194
def gl2 : List (Str × Value) := [("dict_replace_saxutils", .ref 28), ("escape", .ref 37), ("quoteattr", .ref 46), ("CycleError", .ref 80), ("TopologicalSorter", .ref 162), ("_law_orders", .ref 171), ("_law_lets_through", .ref 178), ("_law_from", .ref 183), ("_law_is_quoted", .ref 190)]
def bl2 : List (Str × Value) := [("divmod", .builtin "divmod"), ("abs", .builtin "abs"), ("len", .builtin "len"), ("range", .type "range"), ("list", .type "list")]
structure Cx2 (C : Cx) where
  base : Base C gl2 bl2
  nb : NoneBooked C.B
  hsm : ∃ o, C.B.get? 3 = some o
  S : SCx C
  own : ∃ x bmB newId mg, bmB.contains (.type "BaseException") = true ∧ OwnClsQ x 80 bmB newId mg C.B
  bAdd : BoundAttr S.K 162 "add" 112
  f28 : FnAt C.B 28 (fdF 2 .none pmX (.ref 27))
  f37 : FnAt C.B 37 (fdF 3 (.ref 30) pmX (.ref 36))
  f46 : FnAt C.B 46 (fdF 4 (.ref 39) pmX (.ref 45))
  f171 : FnAt C.B 171 (fdF 12 .none pmL (.ref 170))
  f178 : FnAt C.B 178 (fdF 13 .none pmL (.ref 177))
  f183 : FnAt C.B 183 (fdF 14 .none pmL (.ref 182))
  f190 : FnAt C.B 190 (fdF 15 .none pmL (.ref 189))
  f195 : FnAt C.B 195 (fdF 16 .none pmL (.ref 194))
  t30 : ∃ o n, C.B.get? 30 = some o ∧ o.data = .seq #[.ref 29] n
  t39 : ∃ o n, C.B.get? 39 = some o ∧ o.data = .seq #[.ref 38] n
  e38 : ∃ o, C.B.get? 38 = some o ∧ dictC C.w [] o
variable {C : Cx} {A : Around}
theorem ne_sys (H : Cx2 C) {a : Addr} (h : Fresh C a) : (a == sysModules) = false := by
  obtain ⟨o, ho⟩ := H.hsm
  have : 3 < a := h 3 o ho
  refine beq_eq_false_iff_ne.mpr fun e => ?_
  rw [e] at this
  exact absurd this (by decide)

theorem readyOf_abs (is : List NI) : (readyOf is).map (·.1) = readyG (absG is) := by
  unfold readyOf readyG absG
  rw [List.map_map, List.filter_map, List.map_map]; rfl
def letsB (pr : Str → List Str) (line : List Str) : Bool := decide (∀ j, j < line.length → ∀ m ∈ pr (line.getD j default), m ∈ line.take j)
inductive LetsA (C : Cx) (G : Addr → Option Obj) (k : Nat) (nl ll x dx dn : Addr) (t₀ u₀ : Tok) (R : List (Addr × Cell)) (nds : List ((Str × Tok) × List (Str × Tok))) (j : Nat) : Pt → Prop
  | mk (G' : Addr → Option Obj) (k' : Nat) (is : List NI) (o1 o2 : Option Value) (h1 : GLe G G') (h2 : k ≤ k') (h3 : Lay G' x dx dn is) (h4 : GB (prOf (nds.take j)) (absG is))
      (h5 : ∀ n, n ∈ (absG is).map (·.1) ↔ ∃ q ∈ nds.take j, n = q.1.1 ∨ n ∈ q.2.map (·.1)) (h6 : Small (absG is) (j * 20)) :
    LetsA C G k nl ll x dx dn t₀ u₀ R nds j ⟨G', [("needs", some (.ref nl)), ("line", some (.ref ll)), ("sorter", some (.ref x)), ("sign", o1), ("ahead", o2), ("out", none)], sN C dn dx .none 0 0 t₀ u₀ is ++ R, k'⟩
inductive LetsB (C : Cx) (G : Addr → Option Obj) (k : Nat) (nl ll x dx dn rl ol : Addr) (o2 : Option Value) (R : List (Addr × Cell)) (pr : Str → List Str) (line : List Str) (g0 : Gr) (j : Nat) : Pt → Prop
  | mk (G₄ : Addr → Option Obj) (k₄ : Nat) (is₄ : List NI) (rd O : List (Str × Tok)) (t₄ u₄ : Tok) (o3 : Option Value) (zo zj : Int) (hz : zo = (O.length : Int)) (hy : zj = (j : Int)) (h1 : GLe G G₄) (h2 : k ≤ k₄) (h3 : LayF C G₄ x dx dn is₄)
      (h4 : KInv pr (line.take j) (O.map (·.1)) (rd.map (·.1)) (absG is₄)) (h5 : shape (absG is₄) = shape g0) (h6 : ∀ i, i < j → ∀ m ∈ pr (line.getD i default), m ∈ line.take i) :
    LetsB C G k nl ll x dx dn rl ol o2 R pr line g0 j ⟨G₄, [("needs", some (.ref nl)), ("line", some (.ref ll)), ("sorter", some (.ref x)), ("sign", o3), ("ahead", o2), ("out", some (.ref ol))],
            (ol, listC (strValues O)) :: (rl, listC (strValues rd)) :: (fN dn dx (.ref rl) zo zj t₄ u₄ is₄ ++ R), k₄⟩
/-- what the try leaves -/
inductive LetsT (G : Addr → Option Obj) (k : Nat) (m : List (Str × Option Value)) (dn dx : Addr) (t₀ u₀ : Tok) (is : List NI) (R : List (Addr × Cell)) : Flow → Pt → Prop
  | mk {G₃ : Addr → Option Obj} {k₃ : Nat} (rl : Addr) (h1 : GLe G G₃) (h2 : k ≤ k₃) : LetsT G k m dn dx t₀ u₀ is R .next ⟨G₃, m, (rl, listC (strValues (readyOf is))) :: (fN dn dx (.ref rl) 0 0 t₀ u₀ is ++ R), k₃⟩
inductive LetsP (G : Addr → Option Obj) (k : Nat) (b : Bool) (R : List (Addr × Cell)) : Value → (Addr → Option Obj) → List (Addr × Cell) → Nat → Prop
  | mk {G' : Addr → Option Obj} {k' : Nat} (h1 : GLe G G') (h2 : k ≤ k') : LetsP G k b R (.bool b) G' R k'
theorem w_lets (H : Cx2 C) {d : Nat} (hr : Room A (d + 7)) {outer : List Env} (hA : A.frames = some outer) {R : List (Addr × Cell)} (hO : Outer outer R) {nl ll : Addr} {nvs : List Value} {nds : List ((Str × Tok) × List (Str × Tok))} {line : List (Str × Tok)} {G : Addr → Option Obj} {k : Nat}
    (hn : ListAt G nl nvs) (hN : NeedsAt G nvs nds) (hl : ListAt G ll (strValues line)) (hlz : line.length ≤ 20) (hnz : nds.length ≤ 20) (hpz : ∀ q ∈ nds, q.2.length ≤ 20) (hln : (line.map (·.1)).Nodup)
    (hsub : ∀ q ∈ nds, q.1.1 ∈ line.map (·.1) ∧ ∀ m ∈ q.2, m.1 ∈ line.map (·.1)) (hall : ∀ n ∈ line.map (·.1), ∃ q ∈ nds, q.1.1 = n) :
    CallRun C A 178 [.ref nl, .ref ll] G R k (LetsP G k (letsB (prOf nds) (line.map (·.1))) R) := by
  obtain ⟨⟨o, ho, hd⟩, hcd⟩ := H.f178
  refine CallRun.dropS (CallRun.go [("needs", some (.ref nl)), ("line", some (.ref ll)), ("sorter", none), ("sign", none), ("ahead", none), ("out", none)] H.base hr ho hd hcd (.of_eq (binds := [("needs", .ref nl), ("line", .ref ll)]) rfl) fun L hR => Run.abs fun Q0 hQ0 => ?_)
  refine X_cons (X_Assign (E_callC (f := .ref 162) H.S.X H.S.kp162 (fun {Q} h => E_glob H.base at4 h) (E_items_nil (R_make H.S.X H.S.mk162 H.S.in162 H.S.ty98 fun x dx => (w_init H.S (Room.under (d := d + 5) hR)).mono fun v G₁ N₁ k₁ hv => ?_))))
  refine hv.casesOn ?_
  intro G₁ k₁ hG₁ hk₁ hx dn t₀ u₀ hsys
  refine ⟨rfl, ?_⟩
  refine Run.perm (N' := sN C dn dx .none 0 0 t₀ u₀ [] ++ R) (.swap ..) (storeLoc (.tail (.tail .head)) ?_)
  dsimp only
  have Y₁ : Lay G₁ x dx dn [] := ⟨hx, hsys, fun i hi => nomatch hi⟩
  refine X_cons (X_ForV (LetsA C G k nl ll x dx dn t₀ u₀ R nds) (fun h => E_loc (v := .ref nl) at0 h) (IterOn.list hR.hd (hn.mono hG₁)) ?_ ?_ ?_)
  · exact ⟨G₁, k₁, [], none, none, hG₁, hk₁, Y₁, GB.empty, fun n => by simp [absG], fun q hq => nomatch hq⟩
  · intro j p₂ hj hI9
    refine hI9.casesOn ?_
    intro G' k' is o1 o2 hG' hk' Y' hB hnames hSm
    refine AsgRun.pair hR.hd fun v h' hv => ?_
    have hjn : j < nds.length := hN.1 ▸ hj
    obtain ⟨T, al, hT, tup, lst⟩ := hN.2 j nds[j] (by simp [hjn])
    rw [hv] at hT
    refine ⟨T, _, _, Option.some.inj hT, .inl (tup.mono hG'), storeLoc (.tail (.tail (.tail .head))) (storeLoc (.tail (.tail (.tail (.tail .head)))) (Run.abs fun Q1 hQ1 => ?_))⟩
    dsimp only at hQ1 ⊢
    have hlen : is.length ≤ 20 := by
      have h1 : ((absG is).map (·.1)).length ≤ (line.map (·.1)).length := nodup_len hB.nd fun y hy => by
        obtain ⟨q, hq, hy'⟩ := (hnames y).mp hy
        have hqm := List.mem_of_mem_take hq
        rcases hy' with rfl | hy'
        · exact (hsub q hqm).1
        · obtain ⟨m, hm, rfl⟩ := List.mem_map.mp hy'
          exact (hsub q hqm).2 m hm
      simp only [absG, List.length_map] at h1
      omega
    have hpzj := hpz nds[j] (List.getElem_mem hjn)
    obtain ⟨⟨oa, hoa, hda⟩, hca⟩ := H.S.f112
    refine X_one (X_ExprA (E_methB (E_loc (v := .ref x) at2 (R_bound H.S.X H.bAdd Y'.inst (.head _) rfl fun q G'' hG'' hq => ?_))))
    have Y'' := Y'.mono hG''
    refine R_callB hq hoa hda (E_items_cons (E_loc (v := .str nds[j].1.1 nds[j].1.2) at3 (E_items_star (E_loc (v := .ref al) at4 (StarRun.seq (.inl (.inl ((lst.mono hG').mono hG''))) (by simp only [strValues, List.length_map]; rw [sizeLine_eq]; omega) (E_items_nil ?_))))))
    rw [List.append_nil]
    have hj20 : j * 20 ≤ 20 * 20 := Nat.mul_le_mul_right _ (by omega)
    refine R_call (Nc := sN C dn dx .none 0 0 t₀ u₀ is) (Nr := R) (.refl _) (CallRun.bound hq ((w_add H.S (d := d + 1) (hR.less (by omega)) (Around.frames_deeper hA) Y'' (by omega) hB.nd hSm (by omega)).mono fun v G₂ N₂ k₂ hv₂ => ?_))
    refine hv₂.casesOn ?_
    intro G₂ k₂ hG₂ hk₂ is₂ Y₂ ha₂
    refine hQ1 _ _ ⟨G₂, k₂, is₂, _, _, GLe.trans hG' (GLe.trans hG'' hG₂), Nat.le_trans hk' hk₂, Y₂, ?_, fun n => ?_, ?_⟩
    · rw [ha₂, List.take_add_one, List.getElem?_eq_getElem hjn, Option.toList_some]
      unfold prOf
      rw [List.foldl_append]
      exact hB.add _ _
    · rw [ha₂, gAdd_mem hB.nd, hnames, List.take_add_one, List.getElem?_eq_getElem hjn, Option.toList_some]
      constructor
      · rintro ((⟨q, hq, h⟩ | h) | h)
        · exact ⟨q, List.mem_append_left _ hq, h⟩
        · exact ⟨_, List.mem_append_right _ (by simp), .inl h⟩
        · exact ⟨_, List.mem_append_right _ (by simp), .inr h⟩
      · rintro ⟨q, hq, h⟩
        rcases List.mem_append.mp hq with hq | hq
        · exact .inl (.inl ⟨q, hq, h⟩)
        · rw [List.mem_singleton.mp hq] at h
          rcases h with h | h
          · exact .inl (.inr h)
          · exact .inr h
    · rw [ha₂]
      refine (hSm.gAdd _ _).mono ?_
      rw [List.length_map]
      omega
  · intro p₂ hI9
    refine hI9.casesOn ?_
    intro G' k' is o1 o2 hG' hk' Y' hB hnames hSm
    refine X_nil ?_
    dsimp only
    have htk : nds.take nvs.length = nds := List.take_of_length_le (by rw [hN.1]; exact Nat.le_refl _)
    rw [htk] at hB hnames
    have hmem : ∀ n, n ∈ namesOf is ↔ n ∈ line.map (·.1) := fun n => by
      rw [← abs_names, hnames]
      constructor
      · rintro ⟨q, hq, rfl | h⟩
        · exact (hsub q hq).1
        · obtain ⟨m, hm, rfl⟩ := List.mem_map.mp h
          exact (hsub q hq).2 m hm
      · intro h
        obtain ⟨q, hq, e⟩ := hall n h
        exact ⟨q, hq, .inl e.symm⟩
    have hnd : (namesOf is).Nodup := by rw [← abs_names]; exact hB.nd
    have hcl : ∀ n ∈ namesOf is, ∀ m ∈ scOf is n, m ∈ namesOf is := fun n _ m hm => by
      rw [← scG_abs] at hm
      have := List.count_pos_iff.mpr hm
      rw [hB.sc] at this
      rw [← abs_names]
      exact (hB.pin m n (List.count_pos_iff.mp this)).1
    have hisz : is.length ≤ 20 := by
      have h1 := nodup_len hnd fun y hy => (hmem y).mp hy
      simp only [namesOf, List.length_map] at h1
      omega
    have hnv : nvs.length * 20 ≤ 20 * 20 := Nat.mul_le_mul_right _ (by rw [hN.1]; exact hnz)
    have hSm' : Small (absG is) 1000 := hSm.mono (by omega)
    have hssz : ∀ i ∈ is, i.sc.length ≤ 1000000 := fun i hi => by
      have := hSm' i.abs (List.mem_map_of_mem (f := NI.abs) hi)
      simp only [NI.abs, List.length_map] at this
      omega
    refine toFrozen Y' fun G₂ hG₂ Y₂ => ?_
    obtain ⟨⟨op, hop, hdp⟩, hcp⟩ := H.S.f117
    obtain ⟨xo, bmB, newId, mgo, hbase, hown⟩ := H.own
    generalize hm : ([("needs", some (.ref nl)), ("line", some (.ref ll)), ("sorter", some (.ref x)), ("sign", o1), ("ahead", o2), ("out", none)] : List (Str × Option Value)) = mm
    have hms : (("sorter" : Str), some (Value.ref x)) ∈ mm := by rw [← hm]; exact at2
    refine X_cons (Run.mono (Q := LetsT G₂ k' mm dn dx t₀ u₀ is R)
      (X_Try (outer := outer) (Around.frames_deeper hA) rfl (show ScopeKind.function ≠ ScopeKind.module from by decide) ?_) ?_)
    · refine XE_one (XE_Expr (E_methFX hop hdp (E_loc (v := .ref x) hms (R_method H.S.X H.S.mPrep Y₂.inst (.head _) rfl ⟨rfl, E_items_nil (RE_callL (Nc := fN dn dx .none 0 0 t₀ u₀ is ++ R) (Nr := []) (by rw [List.append_nil]) ?_)⟩))))
      have hO' : Outer (callEnv (fdF 13 .none pmL (.ref 177)) L 178 :: outer) ((L, frameC mm) :: R) := fun en hen => by
        rcases List.mem_cons.mp hen with rfl | hen
        · exact ⟨show ScopeKind.function ≠ ScopeKind.module from by decide, L, _, rfl, .head _⟩
        · exact hO.mono (fun z hz => List.mem_cons_of_mem _ hz) en hen
      refine CallX.perm (N₁ := fN dn dx .none 0 0 t₀ u₀ is ++ (L, frameC mm) :: R) List.perm_middle.symm ((w_prepare H.S (d := d + 3) (hR.less (by omega)) (Around.frames_deeper hA) hO' Y₂ hnd hcl (by omega) hssz).mono (fun v G₃ N₃ k₃ hv => ?_) fun v G₃ N₃ k₃ hv => ?_)
      · refine hv.casesOn ?_
        intro G₃ k₃ hG₃ hk₃ rl _
        refine ⟨_, (List.Perm.cons _ List.perm_middle).trans (.swap ..), _, rfl, (fun _ e => nomatch e), ?_⟩
        refine Run.perm (N' := (rl, listC (strValues (readyOf is))) :: (fN dn dx (.ref rl) 0 0 t₀ u₀ is ++ R)) (by rw [List.append_nil]) (X_nil ⟨rl, hG₃, hk₃⟩)
      · refine hv.casesOn ?_
        intro G₃ k₃ hG₃ hk₃ rl T e _
        refine ⟨_, .refl _, (e, excC (.ref 80) (.ref T)) :: (T, tbC) :: (rl, listC (strValues (readyOf is))) :: (fN dn dx (.ref rl) 0 0 t₀ u₀ is ++ R), ?_, e, .ref 80, (T, tbC) :: (rl, listC (strValues (readyOf is))) :: (fN dn dx (.ref rl) 0 0 t₀ u₀ is ++ R) ++ [], rfl, .next (.head _), ?_, fun T' => ?_⟩
        · refine (List.Perm.swap ..).trans ?_
          refine (List.Perm.cons _ (List.Perm.cons _ (List.Perm.cons _ List.perm_middle))).trans ?_
          exact List.perm_middle (l₁ := [_, _, _])
        · exact hO.mono fun z hz => List.mem_append_left _ (.tail _ (.tail _ (List.mem_append_right _ hz)))
        · refine H_own hbase hown (fun {A' p' Q} h => E_glob H.base at3 h) rfl fun G₄ hG₄ => ?_
          refine Run.freeze .head fun ot G₅ _ hGe hne => ?_
          have g5 : GLe G₃ G₅ := GLe.trans hG₄ (by rw [hGe]; exact GLe.add hne)
          clear hGe
          refine Run.perm (N' := (rl, listC (strValues (readyOf is))) :: (fN dn dx (.ref rl) 0 0 t₀ u₀ is ++ R)) (by show List.Perm (_ ++ []) _; rw [List.append_nil]) (X_one (X_Pass ⟨rl, GLe.trans hG₃ g5, hk₃⟩))
    · intro f p₃ hI9
      refine hI9.casesOn ?_
      intro G₃ k₃ rl hG₃ hk₃
      show Run C _ L _ _ _
      have Y₃ := Y₂.mono hG₃
      subst hm
      have g3 : GLe G G₃ := GLe.trans hG' (GLe.trans hG₂ hG₃)
      refine X_cons (X_Assign (E_List (E_items_nil (newList_N (by decide) fun ol => storeLoc (.tail (.tail (.tail (.tail (.tail .head))))) ?_))))
      dsimp only
      refine X_cons (X_ForV (LetsB C G₃ k₃ nl ll x dx dn rl ol o2 R (prOf nds) (line.map (·.1)) (absG is)) (fun h => E_loc (v := .ref ll) at1 h) (IterOn.list hR.hd (hl.mono g3)) ?_ ?_ ?_)
      · refine ⟨G₃, k₃, is, readyOf is, [], t₀, u₀, o1, 0, 0, rfl, rfl, GLe.refl _, Nat.le_refl _, Y₃, ?_, rfl, fun i hi => absurd hi (Nat.not_lt_zero _)⟩
        rw [readyOf_abs]
        exact KInv.start hB
      · intro j p₄ hj hI9
        refine hI9.casesOn ?_
        intro G₄ k₄ is₄ rd O t₄ u₄ o3 zo zj hzo hzj hG₄ hk₄ Y₄ K₄ hsh hbef
        refine AsgRun.name fun v ⟨_, hv⟩ => ?_
        have hj' : j < line.length := by simpa [strValues] using hj
        have ev : v = .str line[j].1 line[j].2 := by
          have : (strValues line)[j]? = some (.str line[j].1 line[j].2) := by simp [strValues, hj']
          rw [this] at hv; exact (Option.some.inj hv).symm
        subst ev
        have hget : (line.map (·.1)).getD j default = line[j].1 := by simp [List.getD, hj']
        have hmem4 : ∀ n, n ∈ (absG is₄).map (·.1) ↔ n ∈ line.map (·.1) := fun n => by rw [names_congr hsh, abs_names]; exact hmem n
        have hOlen : O.length ≤ 20 := by
          have h1 := nodup_len K₄.On fun y hy => (hmem4 y).mp (K₄.Om y hy).1
          simp only [List.length_map] at h1; omega
        have hrlen : rd.length ≤ 20 := by
          have h1 := nodup_len K₄.rdn fun y hy => (hmem4 y).mp ((K₄.rdm y).mp hy).1
          simp only [List.length_map] at h1; omega
        have hDj : line[j].1 ∉ (line.map (·.1)).take j := fun hm => by
          rw [List.mem_take_iff_getElem] at hm
          obtain ⟨i, hi, e⟩ := hm
          have hi2 : i < j := by omega
          rw [List.getElem_map] at e
          have := List.getElem_inj (h₀ := by simp; omega) (h₁ := by simp; omega) hln |>.mp (show (line.map (·.1))[i]'(by simp; omega) = (line.map (·.1))[j]'(by simp; omega) by simpa using e)
          omega
        obtain ⟨⟨og, hog, hdg⟩, hcg⟩ := H.S.f124
        refine storeLoc (.tail (.tail (.tail .head))) (Run.abs fun Q1 hQ1 => ?_)
        dsimp only at hQ1 ⊢
        refine X_cons (X_Expr (E_meth F.slot_list_extend F.plainAttrs_list F.type_list_extend (E_loc (v := .ref ol) at5 ⟨HasT.list (.inr (.head _)), E_items_cons (E_methF hog hdg (E_loc (v := .ref x) at2 (R_method H.S.X H.S.mReady Y₄.inst (.tail _ (.tail _ (.head _))) rfl ⟨rfl, E_items_nil ?_⟩)))⟩)))
        refine R_call (Nc := (rl, listC (strValues rd)) :: (fN dn dx (.ref rl) zo zj t₄ u₄ is₄ ++ R)) (Nr := [(ol, listC (strValues O))]) (List.perm_append_comm (l₁ := [_])) ((w_ready H.S (d := d + 4) (hR.less (by omega)) Y₄ (by rw [← abs_names]; exact K₄.nd)
          (fun q hq => by rw [← abs_names]; exact ((K₄.rdm q.1).mp (List.mem_map_of_mem (f := (·.1)) hq)).1) (by omega)).mono fun v G₅ N₅ k₅ hv => ?_)
        refine hv.casesOn ?_
        intro G₅ k₅ hG₅ hk₅ tt is₅ t₅ htt Y₅ ha₅
        refine Run.perm (N' := (ol, listC (strValues O)) :: (rl, listC []) :: (fN dn dx (.ref rl) (zo + rd.length) zj t₅ u₄ is₅ ++ R)) (List.perm_append_comm (l₂ := [_])) ?_
        have K₅ := K₄.ready
        rw [← ha₅, ← List.map_append] at K₅
        refine E_items_nil (R_extendT .head ⟨0, htt⟩ (by simp only [strValues, List.length_map]; rw [sizeLine_eq]; omega) ⟨(fun _ e => nomatch e), ?_⟩)
        rw [show strValues O ++ strValues rd = strValues (O ++ rd) by simp [strValues]]
        dsimp only
        refine X_cons (X_If (T_Cmp (E_loc (v := .str line[j].1 line[j].2) at3 (E_loc (v := .ref ol) at5 (C_notInSL (ls := O ++ rd) (.inr (.head _)) (truthy_bool ?_))))))
        by_cases hin : line[j].1 ∈ (O ++ rd).map (·.1)
        · rw [decide_eq_true hin, if_neg (by decide)]
          refine X_nil ?_
          dsimp only
          obtain ⟨hnp, K₆⟩ := K₅.done hin hDj
          have hsh5 : shape (absG is₅) = shape (absG is) := by rw [ha₅, shape_outAll, hsh]
          obtain ⟨⟨oe, hoe, hde⟩, hce⟩ := H.S.f145
          refine X_cons (X_Expr (E_methF hoe hde (E_loc (v := .ref x) at2 (R_method H.S.X H.S.mDone Y₅.inst (.tail _ (.tail _ (.head _))) rfl ⟨rfl, E_items_cons (E_loc (v := .str line[j].1 line[j].2) at3 (E_items_nil ?_))⟩))))
          refine R_call (Nc := (rl, listC (strValues [])) :: (fN dn dx (.ref rl) (zo + rd.length) zj t₅ u₄ is₅ ++ R)) (Nr := [(ol, listC (strValues (O ++ rd)))]) (List.perm_append_comm (l₁ := [_])) ((w_done H.S (d := d + 4) (hR.less (by omega)) (Around.frames_deeper hA) (ns := [line[j]]) (rd := []) Y₅ K₅.nd
            (fun n hn m hm => ?_) (Small.congr hsh5.symm hSm') (by simp) (by simp) ⟨hnp, trivial⟩).mono fun v G₆ N₆ k₆ hv => ?_)
          · rw [names_congr hsh5, abs_names] at hn ⊢
            rw [scG_congr hsh5, scG_abs] at hm
            exact hcl n hn m hm
          · refine hv.casesOn ?_
            intro G₆ k₆ hG₆ hk₆ is₆ rd₆ u₆ Y₆ ha₆
            refine ⟨(fun _ e => nomatch e), ?_⟩
            have hst : (absG is₆, rd₆.map (·.1)) = gDone (absG is₅, []) line[j].1 := ha₆
            have hg6 : absG is₆ = (gDone (absG is₅, []) line[j].1).1 := congrArg Prod.fst hst
            have hr6 : rd₆.map (·.1) = (gDone (absG is₅, []) line[j].1).2 := congrArg Prod.snd hst
            have htj : (line.map (·.1)).take (j + 1) = (line.map (·.1)).take j ++ [line[j].1] := by
              rw [List.take_add_one, List.getElem?_map, List.getElem?_eq_getElem hj']; rfl
            refine Run.perm (N' := (ol, listC (strValues (O ++ rd))) :: (rl, listC (strValues rd₆)) :: (fN dn dx (.ref rl) (zo + rd.length) (zj + 1) t₅ u₆ is₆ ++ R)) (List.perm_append_comm (l₂ := [_])) (X_nil ?_)
            refine hQ1 _ _ ⟨G₆, k₆, is₆, rd₆, O ++ rd, t₅, u₆, some (.str line[j].1 line[j].2), zo + rd.length, zj + 1, by rw [List.length_append, hzo]; rfl, by rw [hzj]; rfl, GLe.trans hG₄ (GLe.trans hG₅ hG₆), Nat.le_trans hk₄ (Nat.le_trans hk₅ hk₆), Y₆, ?_, ?_, fun i hi => ?_⟩
            · rw [htj, hr6, hg6]; exact K₆
            · rw [hg6, shape_gDone]; exact hsh5
            · rcases Nat.lt_or_ge i j with h | h
              · exact hbef i h
              · have : i = j := by omega
                subst this
                rw [hget]
                intro m hm
                exact (K₅.Om _ hin).2 m hm
        · rw [decide_eq_false hin, if_pos (by decide)]
          refine X_one (X_Return (E_bool (hQ1 _ _ (hQ0 _ _ ?_))))
          have hP : ∀ b, b = false → LetsP G k b R (.bool false) G₅ R k₅ := fun b hb => hb ▸ ⟨GLe.trans g3 (GLe.trans hG₄ hG₅), Nat.le_trans hk' (Nat.le_trans hk₃ (Nat.le_trans hk₄ hk₅))⟩
          refine ⟨R, .trans (.trans (List.sublist_append_right _ _) (List.sublist_cons_self _ _)) (List.sublist_cons_self _ _), fun b hb => .inl hb, hP _ (decide_eq_false fun hall' => hin ?_)⟩
          have h1 := hall' j (by simpa using hj')
          rw [hget] at h1
          rw [List.map_append]
          by_cases hO' : line[j].1 ∈ O.map (·.1)
          · exact List.mem_append_left _ hO'
          · exact List.mem_append_right _ ((K₄.rdm _).mpr ⟨(hmem4 _).mpr (List.mem_map_of_mem (f := (·.1)) (List.getElem_mem hj')), hO', h1⟩)
      · intro p₄ hI9
        refine hI9.casesOn ?_
        intro G₄ k₄ is₄ rd O t₄ u₄ o3 zo zj hzo hzj hG₄ hk₄ Y₄ K₄ hsh hbef
        refine X_nil ?_
        dsimp only
        have hfull : (line.map (·.1)).take (strValues line).length = line.map (·.1) := List.take_of_length_le (by simp [strValues])
        rw [hfull] at K₄
        have hmem4 : ∀ n, n ∈ (absG is₄).map (·.1) ↔ n ∈ line.map (·.1) := fun n => by rw [names_congr hsh, abs_names]; exact hmem n
        have hOlen : O.length ≤ line.length := by
          have h1 := nodup_len K₄.On fun y hy => (hmem4 y).mp (K₄.Om y hy).1
          simp only [List.length_map] at h1; omega
        have hrd : rd = [] := by
          cases rd with
          | nil => rfl
          | cons q r =>
            have h1 := (K₄.rdm q.1).mp (by simp)
            exact absurd (K₄.DO q.1 ((hmem4 q.1).mp h1.1)) h1.2.1
        subst hrd
        obtain ⟨⟨og, hog, hdg⟩, hcg⟩ := H.S.f131
        refine X_one (X_Return (E_Unary (E_methF hog hdg (E_loc (v := .ref x) at2 (R_method H.S.X H.S.mAct Y₄.inst (.tail _ (.tail _ (.head _))) rfl ⟨rfl, E_items_nil ?_⟩)))))
        refine R_call (Nc := (rl, listC (strValues [])) :: (fN dn dx (.ref rl) zo zj t₄ u₄ is₄ ++ R)) (Nr := [(ol, listC (strValues O))]) (List.perm_append_comm (l₁ := [_])) ((w_active H.S (d := d + 4) (hR.less (by omega)) Y₄ (by simp [strValues])).mono fun v G₅ N₅ k₅ hv => ?_)
        refine hv.casesOn ?_
        intro k₅ hk₅
        refine U_not (truthy_bool ?_)
        have hlv : (strValues line).length = line.length := by simp [strValues]
        rw [decide_eq_false (by rw [hzj, hzo, hlv]; omega)]
        refine hQ0 _ _ ?_
        have hP : ∀ b, b = true → ∀ k₅, k₄ ≤ k₅ → LetsP G k b R (.bool true) G₄ R k₅ := fun b hb k₅ hk₅ => hb ▸ ⟨GLe.trans g3 hG₄, Nat.le_trans hk' (Nat.le_trans hk₃ (Nat.le_trans hk₄ hk₅))⟩
        exact ⟨R, .trans (.trans (List.sublist_append_right _ _) (List.sublist_cons_self _ _)) (List.sublist_append_left _ _), fun b hb => .inl hb, hP _ (decide_eq_true fun i hi => hbef i (by simpa [strValues] using hi)) _ hk₅⟩
end Two
end Mine

open PySem PySem.Calls PyProof.Rows
set_option Elab.async false
set_option linter.unusedVariables false
set_option maxRecDepth 100000
namespace Mine
def tx (l : List Nat) : Str := ⟨l.toArray⟩
def one (c : Nat) : Str := ⟨#[c]⟩
theorem tx_len (l : List Nat) : (tx l).length = l.length := by simp [tx, Str.length]
theorem tx_list (l : List Nat) : (tx l).cps.toList = l := by simp [tx]
theorem tx_of (x : Str) : tx x.cps.toList = x := by cases x; simp [tx]
theorem one_inj {a b : Nat} : one a = one b ↔ a = b := by simp [one]
theorem one_len (c : Nat) : (one c).length = 1 := rfl
theorem tx_append (a b : List Nat) : tx a ++ tx b = tx (a ++ b) := Str.ext' (by simp [Str.cps_append, tx])

/-! one sign's text for another -/
def rp (c : Nat) (z : List Nat) (l : List Nat) : List Nat := l.flatMap fun k => if k = c then z else [k]
theorem rp_append (c : Nat) (z a b : List Nat) : rp c z (a ++ b) = rp c z a ++ rp c z b := by simp [rp]
theorem rp_free (c : Nat) (z : List Nat) : ∀ l : List Nat, c ∉ l → rp c z l = l
  | [], _ => rfl
  | k :: r, h => by
    have h1 : ¬ k = c := fun e => h (e ▸ List.mem_cons_self ..)
    have ih := rp_free c z r fun m => h (List.mem_cons_of_mem _ m)
    simp only [rp, List.flatMap_cons] at ih ⊢
    rw [ih, if_neg h1]; rfl
theorem rp_one (c : Nat) (z : List Nat) : rp c z [c] = z := by simp [rp]
theorem rp_join (c : Nat) (z : List Nat) : ∀ parts : List Str, (∀ p ∈ parts, c ∉ p.cps.toList) → rp c z (Str.join (one c) parts).cps.toList = (Str.join (tx z) parts).cps.toList
  | [], _ => rfl
  | [p], h => rp_free c z _ (h p (List.mem_singleton.mpr rfl))
  | p :: q :: r, h => by
    have ih := rp_join c z (q :: r) fun a ha => h a (List.mem_cons_of_mem _ ha)
    show rp c z (p ++ one c ++ Str.join (one c) (q :: r)).cps.toList = (p ++ tx z ++ Str.join (tx z) (q :: r)).cps.toList
    simp only [Str.cps_append, Array.toList_append]
    rw [rp_append, rp_append, ih, rp_free c z _ (h p (List.mem_cons_self ..)), tx_list]
    show p.cps.toList ++ rp c z [c] ++ _ = _
    rw [rp_one]
theorem replace_tx (x : List Nat) (c : Nat) (z : List Nat) : Txt.replace (tx x) (one c) (tx z) = tx (rp c z x) := by
  have h1 := StrLaws.replace_one (tx x) (tx z) c
  have h2 := rp_join c z (Txt.split (tx x) (one c)) fun p hp => StrLaws.split_free (tx x) c p hp
  have h3 : Str.join (one c) (Txt.split (tx x) (one c)) = tx x := StrLaws.join_split (tx x) (one c)
  rw [h3, tx_list] at h2
  show Txt.replace (tx x) ⟨#[c]⟩ (tx z) = _
  rw [h1, h2]
  exact (tx_of _).symm
theorem contains_tx (x : List Nat) (c : Nat) : Txt.contains (tx x) (one c) = decide (c ∈ x) := by
  have := StrLaws.found_one (tx x) c
  rw [tx_list] at this
  exact this

theorem join_ones : ∀ l : List (List Nat), Builtin.Str.glued ⟨#[]⟩ (l.map tx) = tx l.flatten := by
  intro l
  rw [StrLaws.glued_eq_join]
  have : ∀ l : List (List Nat), (Str.join ⟨#[]⟩ (l.map tx)).cps.toList = l.flatten := by
    intro l
    induction l with
    | nil => rfl
    | cons a r ih =>
      cases r with
      | nil => simp [Str.join, tx]
      | cons b r =>
        show (tx a ++ ⟨#[]⟩ ++ Str.join ⟨#[]⟩ ((b :: r).map tx)).cps.toList = _
        simp only [Str.cps_append, Array.toList_append, ih, tx_list]
        simp
  exact (tx_of _).symm.trans (by rw [this l])
theorem one_tx (c : Nat) : one c = tx [c] := rfl

/-! a table's way with a sign -/
abbrev Tab := List (Nat × List Nat)
def thru : Nat → Tab → List Nat
  | c, [] => [c]
  | c, q :: r => if q.1 = c then q.2.flatMap fun x => thru x r else thru c r
theorem thru_cons (c : Nat) (q : Nat × List Nat) (r : Tab) : thru c (q :: r) = if q.1 = c then q.2.flatMap (fun x => thru x r) else thru c r := by cases r <;> rfl
def repls (T : Tab) (l : List Nat) : List Nat := T.foldl (fun a q => rp q.1 q.2 a) l
theorem repls_thru : ∀ (T : Tab) (l : List Nat), repls T l = l.flatMap fun c => thru c T
  | [], l => by simp [repls, thru, List.flatMap_singleton']
  | q :: r, l => by
    show repls r (rp q.1 q.2 l) = _
    rw [repls_thru r, rp, List.flatMap_assoc]
    congr 1
    funext c
    rw [thru_cons]
    by_cases h : c = q.1
    · subst h; simp
    · rw [if_neg h, if_neg (fun e => h e.symm)]; simp
theorem rp_len (c : Nat) (z : List Nat) : ∀ l : List Nat, (rp c z l).length ≤ l.length * max 1 z.length
  | [] => by simp [rp]
  | k :: r => by
    have ih := rp_len c z r
    simp only [rp, List.flatMap_cons, List.length_append, List.length_cons] at ih ⊢
    have : (if k = c then z else [k]).length ≤ max 1 z.length := by
      split
      · exact Nat.le_max_right ..
      · exact Nat.le_max_left ..
    rw [Nat.add_mul]; omega
def kput : Tab → Nat → List Nat → Tab
  | [], c, y => [(c, y)]
  | q :: r, c, y => if q.1 = c then (c, y) :: r else q :: kput r c y
def kputs (T more : Tab) : Tab := more.foldl (fun t q => kput t q.1 q.2) T
theorem kput_len (T : Tab) (c : Nat) (y : List Nat) : (kput T c y).length ≤ T.length + 1 := by
  induction T with
  | nil => exact Nat.le_refl _
  | cons q r ih => unfold kput; split <;> simp <;> omega
theorem kput_keys : ∀ (T : Tab) (c : Nat) (y : List Nat), (kput T c y).map (·.1) = if c ∈ T.map (·.1) then T.map (·.1) else T.map (·.1) ++ [c]
  | [], c, y => rfl
  | q :: r, c, y => by
    have ih := kput_keys r c y
    unfold kput
    by_cases h : q.1 = c
    · subst h; simp
    · rw [if_neg h]
      have : ¬ c = q.1 := fun e => h e.symm
      simp only [List.map_cons, ih, List.mem_cons]
      by_cases h2 : c ∈ r.map (·.1) <;> simp [this, h2]
def kget : Tab → Nat → Option (List Nat)
  | [], _ => none
  | q :: r, c => if q.1 = c then some q.2 else kget r c
theorem kget_none {T : Tab} {c : Nat} : kget T c = none ↔ c ∉ T.map (·.1) := by
  induction T with
  | nil => simp [kget]
  | cons q r ih =>
    unfold kget
    by_cases h : q.1 = c
    · simp [h]
    · rw [if_neg h, ih]
      have : ¬ c = q.1 := fun e => h e.symm
      simp [this]

/-- own entries laid over a table: in their places, and the rest behind -/
def over (T own : Tab) : Tab := T.map (fun q => (q.1, (kget own q.1).getD q.2)) ++ own.filter fun q => decide (q.1 ∉ T.map (·.1))
theorem kput_none {T : Tab} {c : Nat} {y : List Nat} : c ∉ T.map (·.1) → kput T c y = T ++ [(c, y)] := by
  induction T with
  | nil => exact fun _ => rfl
  | cons q r ih =>
    intro h
    have h1 : ¬ q.1 = c := fun e => h (by simp [e])
    unfold kput
    rw [if_neg h1, ih (fun m => h (by simp at m ⊢; exact .inr m))]; rfl
theorem kput_some {T : Tab} {c : Nat} {y : List Nat} : (T.map (·.1)).Nodup → c ∈ T.map (·.1) → kput T c y = T.map fun q => if q.1 = c then (c, y) else q := by
  induction T with
  | nil => intro _ h; simp at h
  | cons q r ih =>
    intro hn h
    have hn' := List.nodup_cons.mp hn
    unfold kput
    by_cases h1 : q.1 = c
    · rw [if_pos h1, List.map_cons, if_pos h1]
      congr 1
      have : ∀ x ∈ r, ¬ x.1 = c := fun x hx e => hn'.1 (by show q.1 ∈ _; rw [h1, ← e]; exact List.mem_map_of_mem (f := (·.1)) hx)
      exact ((List.map_congr_left fun x hx => by rw [if_neg (this x hx)]).trans (List.map_id' r)).symm
    · rw [if_neg h1, List.map_cons, if_neg h1]
      congr 1
      refine ih hn'.2 ?_
      rcases List.mem_cons.mp h with e | e
      · exact absurd e.symm h1
      · exact e
theorem kput_nodup {T : Tab} {c : Nat} {y : List Nat} (h : (T.map (·.1)).Nodup) : ((kput T c y).map (·.1)).Nodup := by
  rw [kput_keys]
  split
  · exact h
  · rename_i hn
    refine List.nodup_append.mpr ⟨h, by simp, fun a ha b hb e => ?_⟩
    rw [List.mem_singleton.mp hb] at e
    exact hn (e ▸ ha)
section
variable {C : Cx} {A : Around} {L : Addr} {env : Env}
theorem sum_len : ∀ l : List (List Nat), ((l.map tx).map (·.length)).sum = l.flatten.length
  | [] => rfl
  | a :: r => by
    have := sum_len r
    rw [List.map_cons, List.map_cons, List.sum_cons, this, tx_len, List.flatten_cons, List.length_append]
end
/-- a dict's entries, below a token -/
inductive Ents (k : Nat) : List Ent → Tab → Prop
  | nil : Ents k [] []
  | cons {c : Nat} {y : List Nat} {t u : Nat} {es : List Ent} {T : Tab} : 0 < t → t < k → 0 < u → u < k → t ≠ u → Ents k es T → Ents k ((one c, t, .str (tx y) u) :: es) ((c, y) :: T)
theorem Ents.mono {k k' : Nat} {es : List Ent} {T : Tab} (h : Ents k es T) (hk : k ≤ k') : Ents k' es T := by
  induction h with
  | nil => exact .nil
  | cons a b c d e _ ih => exact .cons a (Nat.lt_of_lt_of_le b hk) c (Nat.lt_of_lt_of_le d hk) e ih
theorem Ents.length {k : Nat} {es : List Ent} {T : Tab} (h : Ents k es T) : es.length = T.length := by
  induction h with
  | nil => rfl
  | cons _ _ _ _ _ _ ih => simp [ih]
theorem Ents.put {k k' : Nat} {es : List Ent} {T : Tab} {c : Nat} {y : List Nat} {t u : Nat} (h : Ents k es T) (hk0 : 0 < k) (hk : k ≤ k') (h1 : 0 < t) (h2 : t < k') (h3 : k ≤ u) (h4 : u < k') (h5 : t ≠ u) : Ents k' (dput es (one c) t (.str (tx y) u)) (kput T c y) := by
  induction h with
  | nil => exact .cons h1 h2 (Nat.lt_of_lt_of_le hk0 h3) h4 h5 .nil
  | @cons c' y' t' u' es T a b cc d e hr ih =>
    unfold dput kput
    by_cases hc : c' = c
    · subst hc
      simp only [if_true]
      exact .cons a (by omega) (by omega) h4 (by omega) (hr.mono hk)
    · have : ¬ one c' = one c := fun e => hc (one_inj.mp e)
      simp only [if_neg hc, if_neg this]
      exact .cons a (by omega) cc (by omega) e ih
theorem filt (l : List Nat) : l.filter (fun _ => true) = l := List.filter_eq_self.mpr fun _ _ => rfl
def IntsAt (vs : List Value) (ns : List Int) : Prop := vs.length = ns.length ∧ ∀ (i : Nat) (n : Int), ns[i]? = some n → ∃ t, vs[i]? = some (Value.int n t)

section
variable {C : Cx} {A : Around} {L : Addr} {p : Pt} {env : Env}
theorem R_replaceT {x z : List Nat} {c : Nat} {t : Tok} {u v : Nat} {Y Z : Str} {Q : Value → Pt → Prop} (hnb : NoneBooked C.B) (hu : 0 < u) (hv : 0 < v) (huv : u ≠ v) (hb : x.length + (x.length + 1) * z.length ≤ 16777216) (hY : Y = one c) (hZ : Z = tx z) (h : ∀ tk, Q (.str (tx (rp c z x)) tk) p) :
    Run C A L (PySem.call (.builtin "str.replace") [.str (tx x) t, .str Y u, .str Z v]) p Q := by
  subst hY hZ
  refine R_replace hnb (Nat.ne_of_gt hu) (Nat.ne_of_gt hv) huv (by rw [tx_len, tx_len]; exact hb) fun tk => ?_
  rw [replace_tx]; exact h tk
theorem R_mod_t {F F' : Str} (hF : F = F') {x y : List Nat} {t u : Tok} {Q : Value → Pt → Prop} (G : Str → Str) (hG : G (tx x) = tx y) (hy : x.length ≤ 6000000) (hm : ∀ (t u : Tok) (z : PySem.Str), z.length ≤ 6000000 → Meets (Builtin.«str.__mod__» ⟨[.str F' t, .str z u], []⟩) (fun _ R s => ∀ t' k, R (.ok (.ret (.str (G z) t'))) { s with toks := k }))
    (h : ∀ tk, Q (.str (tx y) tk) p) : Run C A L (binaryOp .Mod (.str F t) (.str (tx x) u)) p Q := by
  subst hF
  exact .of fun s S T => binaryOp_meets (T := "str") (op := .Mod) (typeIs_str s _ t) (typeIs_str s _ u) PySem.F.fills_str_mod PySem.F.slot_str_mod PySem.F.entry_str_mod (PySem.F.args_str_mod_2 _ _) (hm t u (tx x) (by rw [tx_len]; exact hy)) fun t' k => ⟨(fun e => nomatch e), by
    rw [hG]; exact Post.same S (h t')⟩
end

theorem Ents.get {k : Nat} {es : List Ent} {T : Tab} (h : Ents k es T) : ∀ {i : Nat} {q : Ent}, es[i]? = some q → ∃ c y, ∃ t u : Nat, q = (one c, t, .str (tx y) u) ∧ T[i]? = some (c, y) ∧ 0 < t ∧ 0 < u ∧ t ≠ u := by
  induction h with
  | nil => intro i q e; simp at e
  | @cons c y t u es T a b cc d e _ ih =>
    intro i q hq
    cases i with
    | zero => simp at hq; subst hq; exact ⟨c, y, t, u, rfl, rfl, a, cc, e⟩
    | succ i => exact ih (by simpa using hq)
theorem repls_succ {T : Tab} {i c : Nat} {y x : List Nat} (h : T[i]? = some (c, y)) : repls (T.take (i + 1)) x = rp c y (repls (T.take i) x) := by
  simp only [repls, List.take_add_one, h, Option.toList, List.foldl_append, List.foldl_cons, List.foldl_nil]

theorem fmt_d : ∃ G : Str → Str, (∀ (t u : Tok) (z : Str), z.length ≤ 6000000 → Meets (Builtin.«str.__mod__» ⟨[.str ⟨#[34, 37, 115, 34]⟩ t, .str z u], []⟩) (fun _ R s => ∀ t' k, R (.ok (.ret (.str (G z) t'))) { s with toks := k })) ∧ ∀ x : List Nat, G (tx x) = tx (34 :: (x ++ [34])) := by
  refine ⟨?G, ?a, ?b⟩
  case a => kpc_run_s
  case b =>
    intro x
    show tx [34] ++ tx x ++ tx [34] = _
    rw [tx_append, tx_append]; simp
theorem fmt_s : ∃ G : Str → Str, (∀ (t u : Tok) (z : Str), z.length ≤ 6000000 → Meets (Builtin.«str.__mod__» ⟨[.str ⟨#[39, 37, 115, 39]⟩ t, .str z u], []⟩) (fun _ R s => ∀ t' k, R (.ok (.ret (.str (G z) t'))) { s with toks := k })) ∧ ∀ x : List Nat, G (tx x) = tx (39 :: (x ++ [39])) := by
  refine ⟨?G, ?a, ?b⟩
  case a => kpc_run_s
  case b =>
    intro x
    show tx [39] ++ tx x ++ tx [39] = _
    rw [tx_append, tx_append]; simp

def amp : List Nat := [38, 97, 109, 112, 59]
def lts : List Nat := [38, 108, 116, 59]
def gts : List Nat := [38, 103, 116, 59]
def esc3 (x : List Nat) : List Nat := rp 60 lts (rp 62 gts (rp 38 amp x))
theorem flatMap_len {f : Nat → List Nat} {n : Nat} (h : ∀ c, (f c).length ≤ n) : ∀ l : List Nat, (l.flatMap f).length ≤ l.length * n
  | [] => by simp
  | c :: r => by
    have := flatMap_len h r
    have := h c
    simp only [List.flatMap_cons, List.length_append, List.length_cons, Nat.add_mul]; omega
theorem rp_len5 (c : Nat) (z : List Nat) (l : List Nat) {n m : Nat} (h : l.length ≤ n) (hz : z.length ≤ 5) (hm : n * 5 = m) : (rp c z l).length ≤ m := by
  have h1 := rp_len c z l
  have h2 : l.length * max 1 z.length ≤ n * 5 := Nat.mul_le_mul h (by omega)
  omega

section
variable {C : Cx} {A : Around} {L : Addr} {p : Pt} {env : Env}
theorem R_thenAt {e : Expr} {pos : Pos} {Q : Value → Pt → Prop} (h : Run C A L (eval e env) p Q) : Run C A L (do let x ← eval e env; PySem.standAt pos; Pure.pure x) p Q := .bind (h.mono fun v p₁ h₁ => .bind (.standAt (.pure h₁)))
theorem E_DictStar3 {a1 a2 a3 b0 b1 b2 b3 : Expr} {pos : Pos} {Q : Value → Pt → Prop}
    (h : ∀ d, Fresh C d → Run C A L (eval b0 env) { p with N := (d, dictC C.w []) :: p.N } fun mv p₁ => Run C A L (mergeMapping d mv false) p₁ fun _ p₂ =>
      Run C A L (subDict [(eval a1 env, do let x ← eval b1 env; PySem.standAt pos; Pure.pure x), (eval a2 env, do let x ← eval b2 env; PySem.standAt pos; Pure.pure x), (eval a3 env, do let x ← eval b3 env; PySem.standAt pos; Pure.pure x)]) p₂ fun sub p₃ =>
      Run C A L (mergeMapping d (.ref sub) false) p₃ fun _ p₄ => Q (.ref d) p₄) : Run C A L (eval (.Dict [none, some a1, some a2, some a3] [b0, b1, b2, b3] pos) env) p Q :=
  Run.of_eq (arm_eval_Dict ..) (.bind (.standAt (R_dictStar3 fun d hd => R_thenAt (h d hd))))
theorem dput_none {es : List Ent} {k : Str} {t : Tok} {v : Value} : k ∉ es.map (·.1) → dput es k t v = es ++ [(k, t, v)] := by
  induction es with
  | nil => exact fun _ => rfl
  | cons q r ih =>
    intro h
    have h1 : ¬ q.1 = k := fun e => h (by simp [e])
    unfold dput
    rw [if_neg h1, ih (fun m => h (by simp at m ⊢; exact .inr m))]; rfl
theorem dputs_app : ∀ (more acc : List Ent), ((acc ++ more).map (·.1)).Nodup → dputs acc more = acc ++ more
  | [], acc, _ => by simp [dputs]
  | q :: r, acc, h => by
    show dputs (dput acc q.1 q.2.1 q.2.2) r = _
    have hn : q.1 ∉ acc.map (·.1) := fun hm => by
      simp only [List.map_append, List.map_cons] at h
      exact (List.nodup_append.mp h).2.2 q.1 hm q.1 List.mem_cons_self rfl
    rw [dput_none hn, dputs_app r _ (by simpa using h)]
    simp
theorem dputs_nil {es : List Ent} (h : (es.map (·.1)).Nodup) : dputs [] es = es := dputs_app es [] h

/-- three pairs of texts -/
theorem R_three {x1 x2 x3 y1 y2 y3 : Str} {n1 n2 n3 n4 n5 n6 : Nat} {q1 q2 q3 q4 q5 q6 pos : Pos} {Q : Addr → Pt → Prop} (hn : nd [x1, x2, x3] = true)
    (h : ∀ d (t1 u1 t2 u2 t3 u3 : Nat), Fresh C d → d ∉ dom p.N → p.k ≤ t1 → t1 < u1 → u1 < t2 → t2 < u2 → u2 < t3 → t3 < u3 →
      Q d ⟨p.G, p.m, (d, dictC C.w [(x1, t1, .str y1 u1), (x2, t2, .str y2 u2), (x3, t3, .str y3 u3)]) :: p.N, u3 + 1⟩) :
    Run C A L (subDict [(eval (.Constant (.str x1) n1 q1) env, do let x ← eval (.Constant (.str y1) n2 q2) env; PySem.standAt pos; Pure.pure x), (eval (.Constant (.str x2) n3 q3) env, do let x ← eval (.Constant (.str y2) n4 q4) env; PySem.standAt pos; Pure.pure x),
      (eval (.Constant (.str x3) n5 q5) env, do let x ← eval (.Constant (.str y3) n6 q6) env; PySem.standAt pos; Pure.pure x)]) p Q := by
  refine R_subDict (by simp) fun d hd hdN => ?_
  refine R_pairs_cons (E_str fun t1 h1 => R_thenAt (E_str fun u1 h2 => R_pairs_cons (E_str fun t2 h3 => R_thenAt (E_str fun u2 h4 => R_pairs_cons (E_str fun t3 h5 => R_thenAt (E_str fun u3 h6 => R_pairs_nil ?_))))))
  refine ⟨[(x1, t1, .str y1 u1), (x2, t2, .str y2 u2), (x3, t3, .str y3 u3)], _, rfl, by simp, ?_, h d t1 u1 t2 u2 t3 u3 hd hdN h1 h2 h3 h4 h5 h6⟩
  rw [dputs_nil (by simpa using nodup_of hn)]
  exact .head
end
def nlT : List Nat := [38, 35, 49, 48, 59]
def crT : List Nat := [38, 35, 49, 51, 59]
def tbT : List Nat := [38, 35, 57, 59]
def own3 : Tab := [(10, nlT), (13, crT), (9, tbT)]
def quot : List Nat := [38, 113, 117, 111, 116, 59]
def qt (y : List Nat) : List Nat := if 34 ∈ y then (if 39 ∈ y then 34 :: (rp 34 quot y ++ [34]) else 39 :: (y ++ [39])) else 34 :: (y ++ [34])
theorem kput_mem {T : Tab} {c : Nat} {y : List Nat} {n : Nat} (h : ∀ q ∈ T, q.2.length ≤ n) (hy : y.length ≤ n) : ∀ q ∈ kput T c y, q.2.length ≤ n := by
  induction T with
  | nil => intro q hq; rw [List.mem_singleton.mp hq]; exact hy
  | cons a r ih =>
    intro q hq
    unfold kput at hq
    split at hq
    · rcases List.mem_cons.mp hq with e | hq
      · rw [e]; exact hy
      · exact h q (List.mem_cons_of_mem _ hq)
    · rcases List.mem_cons.mp hq with e | hq
      · rw [e]; exact h a List.mem_cons_self
      · exact ih (fun q hq => h q (List.mem_cons_of_mem _ hq)) q hq
theorem own_len (T : Tab) : (kputs T own3).length ≤ T.length + 3 := by
  have h1 := kput_len T 10 nlT
  have h2 := kput_len (kput T 10 nlT) 13 crT
  have h3 := kput_len (kput (kput T 10 nlT) 13 crT) 9 tbT
  show (kput (kput (kput T 10 nlT) 13 crT) 9 tbT).length ≤ _
  omega

theorem over_cons {T r : Tab} {c : Nat} {y : List Nat} (hT : (T.map (·.1)).Nodup) (hc : c ∉ r.map (·.1)) : over (kput T c y) r = over T ((c, y) :: r) := by
  have hn : kget r c = none := kget_none.mpr hc
  by_cases h : c ∈ T.map (·.1)
  · have hk : (kput T c y).map (·.1) = T.map (·.1) := by rw [kput_keys, if_pos h]
    unfold over
    rw [hk, List.filter_cons_of_neg (by simpa using h)]
    congr 1
    rw [kput_some hT h, List.map_map]
    refine List.map_congr_left fun q _ => ?_
    show ((if q.1 = c then (c, y) else q).1, (kget r (if q.1 = c then (c, y) else q).1).getD (if q.1 = c then (c, y) else q).2) = (q.1, (if c = q.1 then some y else kget r q.1).getD q.2)
    by_cases hq : q.1 = c
    · rw [if_pos hq, if_pos hq.symm, hn, hq]; rfl
    · rw [if_neg hq, if_neg (fun e => hq e.symm)]
  · rw [kput_none h]
    unfold over
    rw [List.map_append, List.filter_cons_of_pos (by simpa using h), List.append_assoc]
    congr 1
    · refine List.map_congr_left fun q hq => ?_
      have : ¬ c = q.1 := fun e => h (e ▸ List.mem_map_of_mem (f := (·.1)) hq)
      show (q.1, (kget r q.1).getD q.2) = (q.1, (if c = q.1 then some y else kget r q.1).getD q.2)
      rw [if_neg this]
    · show (c, (kget r c).getD y) :: _ = (c, y) :: _
      rw [hn]
      congr 1
      refine List.filter_congr fun q hq => ?_
      have : ¬ q.1 = c := fun e => hc (e ▸ List.mem_map_of_mem (f := (·.1)) hq)
      simp [this]
theorem over_nil (T : Tab) : over T [] = T := by
  unfold over
  simp [kget]
theorem kputs_over : ∀ (own T : Tab), (T.map (·.1)).Nodup → (own.map (·.1)).Nodup → kputs T own = over T own
  | [], T, _, _ => (over_nil T).symm
  | (c, y) :: r, T, hT, ho => by
    have ho' := List.nodup_cons.mp ho
    rw [← over_cons hT ho'.1]
    exact kputs_over r _ (kput_nodup hT) ho'.2
theorem Ents.dget {k : Nat} {es : List Ent} {T : Tab} (h : Ents k es T) (c : Nat) : (kget T c = none → dget es (one c) = none) ∧ ∀ y, kget T c = some y → ∃ u, dget es (one c) = some (.str (tx y) u) := by
  induction h with
  | nil => exact ⟨fun _ => rfl, fun y e => by simp [kget] at e⟩
  | @cons c' y' t u es T a b cc d e _ ih =>
    unfold kget Mine.dget
    by_cases hc : c' = c
    · subst hc
      simp only [if_true]
      exact ⟨(fun e => nomatch e), (fun y e => ⟨u, by cases e; rfl⟩)⟩
    · have : ¬ one c' = one c := fun e => hc (one_inj.mp e)
      simp only [if_neg hc, if_neg this]
      exact ih
def Str0 (f : Nat → List Nat) (a : Nat) (y : Value) (G : Addr → Option Obj) (k : Nat) : Prop := ∃ u, y = Value.str (tx (f a)) u
theorem Str0.monoR {f : Nat → List Nat} : MonoR (Str0 f) := fun a y G G' k k' h _ _ => h
theorem Made.strs0 {f : Nat → List Nat} {G : Addr → Option Obj} {k : Nat} : ∀ {idx : List Nat} {ys : List Value}, Made (Str0 f) idx ys G k → ∃ ls : List (Str × Tok), ys = strValues ls ∧ ls.map (·.1) = (idx.map f).map tx
  | [], [], _ => ⟨[], rfl, rfl⟩
  | [], _ :: _, h => by have := h.1; simp at this
  | _ :: _, [], h => by have := h.1; simp at this
  | a :: idx, y :: ys, h => by
    obtain ⟨u, e⟩ := h.2 0 a y rfl rfl
    obtain ⟨ls, e1, e2⟩ := Made.strs0 (idx := idx) (ys := ys) ⟨by have := h.1; simpa using this, fun j b z hb hz => h.2 (j + 1) b z (by simpa using hb) (by simpa using hz)⟩
    exact ⟨(tx (f a), u) :: ls, by rw [e, e1]; rfl, by simp [e2]⟩
section
variable {C : Cx} {A : Around} {L : Addr} {p : Pt} {env : Env}
theorem R_joinC0 {G : Addr → Option Obj} {m : List (Str × Option Value)} {N : List (Addr × Cell)} {k : Nat} {D : Addr} {ys : List Value} {idx : List Nat} {f : Nat → List Nat} {t : Tok} {Q : Value → Pt → Prop} (hM : Made (Str0 f) idx ys G k)
    (hz : (idx.flatMap f).length ≤ 16777216) (h : ∀ u G' k', GLe G G' → k ≤ k' → Q (.str (tx (idx.flatMap f)) u) ⟨G', m, N, k'⟩) :
    Run C A L (PySem.call (.builtin "str.join") [.str ⟨#[]⟩ t, .ref D]) ⟨G, m, (D, listC ys) :: N, k⟩ Q := by
  obtain ⟨ls, rfl, e2⟩ := hM.strs0
  refine Run.freeze .head fun o G' hc hG hn => ?_
  subst hG
  have hg : Builtin.Str.glued ⟨#[]⟩ (ls.map (·.1)) = tx (idx.flatMap f) := by rw [e2, join_ones]; rfl
  have htot : ((ls.map (·.1)).toArray.foldl (fun a p => a + p.length + (⟨#[]⟩ : Str).length) 0) = (idx.flatMap f).length := by
    rw [StrLaws.joinTotal, e2, sum_len]
    show _ + _ * 0 = _
    simp [List.flatMap]
  refine R_join (l := ls) (.inl (ListAt.new hc)) ?_ ?_ ?_ ?_
  · show Builtin.Str.tooLong ((ls.map (·.1)).toArray.foldl (fun a p => a + p.length + (⟨#[]⟩ : Str).length) 0) = false
    rw [htot]
    exact decide_eq_false (by rw [sizeLine_eq]; omega)
  · rw [hg, tx_len, sizeLine_eq]; omega
  · intro q hq
    subst hq
    have : q.1 = tx (idx.flatMap f) := by rw [← hg]; rfl
    rw [this]
    exact h q.2 _ _ (GLe.add hn) (Nat.le_refl _)
  · intro _ tk htk
    rw [hg]
    have htk' : k ≤ tk := htk
    exact h tk _ _ (GLe.add hn) (Nat.le_succ_of_le htk')
end
theorem range_get (l : List Nat) : (List.range l.length).map (fun a => l[a]?.getD 0) = l := by
  apply List.ext_getElem
  · simp
  · intro i h1 h2; simp [h2]
theorem range_flat (l : List Nat) (g : Nat → List Nat) : (List.range l.length).flatMap (fun a => g (l[a]?.getD 0)) = l.flatMap g := by
  conv => rhs; rw [← range_get l]
  rw [List.flatMap_map]
theorem ints_at : ∀ {vs : List Value} {ns : List Int}, IntsAre vs ns → IntsAt vs ns := by
  intro vs ns h
  induction h with
  | nil => exact ⟨rfl, fun i n e => by simp at e⟩
  | cons n t _ ih =>
    refine ⟨by simp [ih.1], fun i m e => ?_⟩
    cases i with
    | zero => simp at e; subst e; exact ⟨t, rfl⟩
    | succ i => exact ih.2 i m (by simpa using e)
end Mine

open PySem PySem.Calls PyProof.Rows
set_option Elab.async false
set_option linter.unusedVariables false
set_option maxRecDepth 100000
namespace Mine
theorem own_mem11 {T : Tab} (h : ∀ q ∈ T, q.2.length ≤ 11) : ∀ q ∈ kputs T own3, q.2.length ≤ 11 := kput_mem (kput_mem (kput_mem h (by decide)) (by decide)) (by decide)
namespace Two
variable {C : Cx} {A : Around}
inductive DictI (G : Addr → Option Obj) (x : List Nat) (T : Tab) (dd : Addr) (i : Nat) : Pt → Prop
  | mk (G' : Addr → Option Obj) (k' : Nat) (u : Tok) (o1 o2 : Option Value) (y : List Nat) (e : y = repls (T.take i) x) (h : GLe G G') : DictI G x T dd i ⟨G', [("s", some (.str (tx y) u)), ("d", some (.ref dd)), ("key", o1), ("value", o2)], [], k'⟩
theorem w_dict (H : Cx2 C) {d : Nat} (hr : Room A (d + 1)) {x : List Nat} {t : Tok} {dd : Addr} {es : List Ent} {T : Tab} {G : Addr → Option Obj} {k : Nat} (hd : DictG C.w G dd es) (hE : Ents k es T) (hz : ∀ i, (repls (T.take i) x).length ≤ 1000000) (h5 : ∀ q ∈ T, q.2.length ≤ 11) :
    PureCall C A 28 [.str (tx x) t, .ref dd] G k fun v G' k' => ∃ u, v = .str (tx (repls T x)) u := by
  obtain ⟨⟨o, ho, hdd⟩, hc⟩ := H.f28
  refine PureCall.go [("s", some (.str (tx x) t)), ("d", some (.ref dd)), ("key", none), ("value", none)] H.base hr ho hdd hc (.of_eq (binds := [("s", .str (tx x) t), ("d", .ref dd)]) rfl) fun L hR => ?_
  refine X_cons (X_For (DictI G x T dd)
    (E_meth F.slot_dict_items F.plainAttrs_dict F.type_dict_items (E_loc (v := .ref dd) (.tail _ (.head _)) ⟨HasT.dict hd, E_items_nil (R_items hd fun v G₁ hG₁ hv => ⟨es.length, _, IterOn.items hR.hd hv (hd.mono hG₁), ⟨G₁, k, t, none, none, x, rfl, hG₁⟩, ?_, ?_⟩)⟩)))
  · intro i p₂ hi hI9 _
    refine hI9.casesOn ?_
    intro G' k' u o1 o2 z hz' hG
    refine AsgRun.pair hR.hd fun v h' ⟨Tu, q, e, hq, ht⟩ => ⟨Tu, _, _, e, .inr ht, ?_⟩
    obtain ⟨c, y, t1, u1, rfl, hT, ht0, hu0, hne⟩ := hE.get hq
    refine storeLoc (.tail (.tail .head)) (storeLoc (.tail (.tail (.tail .head))) ?_)
    refine X_one (X_Assign (E_meth F.slot_str_replace F.plainAttrs_str F.type_str_replace (E_loc (v := .str (tx z) u) (.head _) ⟨HasT.str, E_items_cons (E_loc (v := .str (one c) t1) (.tail _ (.tail _ (.head _)))
      (E_items_cons (E_loc (v := .str (tx y) u1) (.tail _ (.tail _ (.tail _ (.head _)))) (E_items_nil (R_replaceT H.nb ht0 hu0 hne ?_ rfl rfl fun tk => storeLoc .head ?_)))))⟩)))
    · have h3 : y.length ≤ 11 := h5 (c, y) (List.mem_of_getElem? hT)
      have h4 : z.length ≤ 1000000 := by rw [hz']; exact hz i
      have h6 : (z.length + 1) * y.length ≤ 1000001 * 11 := Nat.mul_le_mul (by omega) h3
      omega
    · exact ⟨G', k', tk, _, _, _, by rw [repls_succ hT, hz'], hG⟩
  · intro p₂ hI9 _
    refine hI9.casesOn ?_
    intro G' k' u o1 o2 z hz' hG
    refine X_nil (X_one (X_Return (E_loc (v := .str (tx z) u) (.head _) ⟨u, ?_⟩)))
    rw [hz', hE.length, List.take_length]; rfl
theorem w_escape (H : Cx2 C) {d : Nat} (hr : Room A (d + 2)) {x : List Nat} {t : Tok} {dd : Addr} {es : List Ent} {T : Tab} {G : Addr → Option Obj} {k : Nat} (hk0 : 0 < k) (hd : DictG C.w G dd es) (hE : Ents k es T) (hx : x.length ≤ 63) (hz : ∀ i, (repls (T.take i) (esc3 x)).length ≤ 1000000) (h5 : ∀ q ∈ T, q.2.length ≤ 11) (hn : T.length ≤ 100) :
    PureCall C A 37 [.str (tx x) t, .ref dd] G k fun v G' k' => ∃ u, v = .str (tx (repls T (esc3 x))) u := by
  obtain ⟨⟨o, ho, hdd⟩, hc⟩ := H.f37
  obtain ⟨o23, n23, e23, d23⟩ := H.t30
  refine PureCall.go [("data", some (.str (tx x) t)), ("entities", some (.ref dd))] H.base hr ho hdd hc (.of_defaults (binds := [("data", .str (tx x) t), ("entities", .ref dd)]) (T := 30) rfl e23 d23 rfl rfl) fun L hR => ?_
  refine X_cons (X_Assign (E_meth F.slot_str_replace F.plainAttrs_str F.type_str_replace (E_loc (v := .str (tx x) t) (.head _) ⟨HasT.str, E_items_cons (E_str fun t1 h1 => E_items_cons (E_str fun t2 h2 => E_items_nil ?_))⟩)))
  replace h1 : k ≤ t1 := h1
  replace h2 : t1 + 1 ≤ t2 := h2
  refine R_replaceT (z := amp) (c := 38) H.nb (by omega) (by omega) (by omega) ?_ rfl rfl fun t3 => storeLoc .head ?_
  · have : amp.length = 5 := rfl
    rw [this]; omega
  dsimp only
  refine X_cons (X_Assign (E_meth F.slot_str_replace F.plainAttrs_str F.type_str_replace (E_loc (v := .str (tx (rp 38 amp x)) t3) (.head _) ⟨HasT.str, E_items_cons (E_str fun t4 h4 => E_items_cons (E_str fun t5 h5 => E_items_nil ?_))⟩)))
  replace h4 : t2 + 1 ≤ t4 := h4
  replace h5' : t4 + 1 ≤ t5 := h5
  have l1 : (rp 38 amp x).length ≤ 315 := rp_len5 38 amp x hx (by decide) rfl
  refine R_replaceT (z := gts) (c := 62) H.nb (by omega) (by omega) (by omega) ?_ rfl rfl fun t6 => storeLoc .head ?_
  · have : gts.length = 4 := rfl
    rw [this]; omega
  dsimp only
  refine X_cons (X_Assign (E_meth F.slot_str_replace F.plainAttrs_str F.type_str_replace (E_loc (v := .str (tx (rp 62 gts (rp 38 amp x))) t6) (.head _) ⟨HasT.str, E_items_cons (E_str fun t7 h7 => E_items_cons (E_str fun t8 h8 => E_items_nil ?_))⟩)))
  replace h7 : t5 + 1 ≤ t7 := h7
  replace h8 : t7 + 1 ≤ t8 := h8
  have l2 : (rp 62 gts (rp 38 amp x)).length ≤ 1575 := rp_len5 62 gts _ l1 (by decide) rfl
  refine R_replaceT (z := lts) (c := 60) H.nb (by omega) (by omega) (by omega) ?_ rfl rfl fun t9 => storeLoc .head ?_
  · have : lts.length = 4 := rfl
    rw [this]; omega
  dsimp only
  show Run C _ L _ ⟨G, [("data", some (.str (tx (esc3 x)) t9)), ("entities", some (.ref dd))], [], t8 + 1⟩ _
  refine X_cons (X_If (T_val (E_loc (v := .ref dd) (.tail _ (.head _)) (truthy_dict hd ?_ ?_))))
  · rw [hE.length, sizeLine_eq]; omega
  cases hes : es with
  | nil =>
    have hT : T = [] := by
      have := hE.length
      rw [hes] at this
      exact List.length_eq_zero_iff.mp this.symm
    show Run C _ L _ _ _
    refine X_nil (X_one (X_Return (E_loc (v := .str (tx (esc3 x)) t9) (.head _) ⟨t9, ?_⟩)))
    rw [hT]; rfl
  | cons q r =>
    show Run C _ L _ _ _
    obtain ⟨⟨os, hos, hds⟩, hcs⟩ := H.f28
    refine X_one (X_Assign (E_callF hos hds (E_glob H.base (.head _)) (E_items_cons (E_loc (v := .str (tx (esc3 x)) t9) (.head _) (E_items_cons (E_loc (v := .ref dd) (.tail _ (.head _)) (E_items_nil ?_)))))))
    refine R_pure ((w_dict H (hR.less (e := d + 1) (by omega)) hd (hE.mono (show k ≤ t8 + 1 by omega)) hz (by assumption)).mono fun v G' k' hG' hk' ⟨u, hv⟩ => ?_)
    subst hv
    refine storeLoc .head (X_one (X_Return (E_loc (v := .str (tx (repls T (esc3 x))) u) (.head _) ⟨u, rfl⟩)))
theorem w_quote (H : Cx2 C) {d : Nat} (hr : Room A (d + 3)) {x : List Nat} {t : Tok} {dd : Addr} {es : List Ent} {T : Tab} {G : Addr → Option Obj} {k : Nat} {args : List Value} (hargs : ∀ fd, fd = fdF 4 (.ref 39) pmX (.ref 45) → Binds C fd args [("data", .str (tx x) t), ("entities", .ref dd)]) (hk0 : 0 < k) (hd : DictG C.w G dd es) (hE : Ents k es T) (hx : x.length ≤ 63) (hz : ∀ i, (repls ((kputs T own3).take i) (esc3 x)).length ≤ 999990) (h6 : ∀ q ∈ T, q.2.length ≤ 11) (hn : T.length ≤ 10) :
    PureCall C A 46 args G k fun v G' k' => ∃ u, v = .str (tx (qt (repls (kputs T own3) (esc3 x)))) u := by
  obtain ⟨⟨o, ho, hdd⟩, hc⟩ := H.f46
  refine PureCall.go [("data", some (.str (tx x) t)), ("entities", some (.ref dd))] H.base hr ho hdd hc (hargs _ rfl) fun L hR => Run.abs fun Q0 hQ0 => ?_
  have hes : (es.map (·.1)).Nodup := by obtain ⟨_, o, _, ep, _, _, hnn⟩ := hd; exact hnn
  have hel : es.length ≤ 10 := by rw [hE.length]; exact hn
  refine X_cons (X_Assign (E_DictStar3 fun d1 hd1 => E_loc (v := .ref dd) (.tail _ (.head _)) ?_))
  refine R_merge (es := []) (N' := [(d1, dictC C.w es)]) (.inl hd) ?_ (by rw [sizeLine_eq]; simp; omega) ?_
  · rw [dputs_nil hes]; exact .head
  refine R_three rfl fun d2 t1 u1 t2 u2 t3 u3 hd2 hd2N h1 h2 h3 h4 h5 h6' => ?_
  replace h1 : k ≤ t1 := h1
  have hne : d2 ≠ d1 := fun e => hd2N (by rw [e]; exact List.mem_cons_self)
  refine R_merge (es := es) (.inr ⟨.head _, ne_sys H hd2, hne⟩) (.tail .head) (by rw [sizeLine_eq]; simp; omega) ?_
  refine Run.freeze (.tail .head) fun od G₂ hcd hGe hGn => ?_
  subst hGe
  have hD : DictG C.w (addG G d1 od) d1 (dputs es [("\n", t1, .str "&#10;" u1), ("\r", t2, .str "&#13;" u2), ("\t", t3, .str "&#9;" u3)]) := ⟨ne_sys H hd1, od, addG_self, hcd⟩
  have hE2 : Ents (u3 + 1) (dputs es [("\n", t1, .str "&#10;" u1), ("\r", t2, .str "&#13;" u2), ("\t", t3, .str "&#9;" u3)]) (kputs T own3) :=
    ((hE.put (k' := u1 + 1) (c := 10) (y := nlT) (t := t1) (u := u1) hk0 (Nat.le_succ_of_le (Nat.le_trans h1 (Nat.le_of_lt h2))) (Nat.lt_of_lt_of_le hk0 h1) (Nat.lt_succ_of_lt h2) (Nat.le_trans h1 (Nat.le_of_lt h2)) (Nat.lt_succ_self _) (Nat.ne_of_lt h2)).put
      (k' := u2 + 1) (c := 13) (y := crT) (t := t2) (u := u2) (Nat.succ_pos _) (Nat.succ_le_succ (Nat.le_of_lt (Nat.lt_trans h3 h4))) (Nat.lt_of_le_of_lt (Nat.zero_le _) h3) (Nat.lt_succ_of_lt h4) (Nat.lt_trans h3 h4) (Nat.lt_succ_self _) (Nat.ne_of_lt h4)).put
      (k' := u3 + 1) (c := 9) (y := tbT) (t := t3) (u := u3) (Nat.succ_pos _) (Nat.succ_le_succ (Nat.le_of_lt (Nat.lt_trans h5 h6'))) (Nat.lt_of_le_of_lt (Nat.zero_le _) h5) (Nat.lt_succ_of_lt h6') (Nat.lt_trans h5 h6') (Nat.lt_succ_self _) (Nat.ne_of_lt h6')
  generalize dputs es [("\n", t1, Value.str "&#10;" u1), ("\r", t2, Value.str "&#13;" u2), ("\t", t3, Value.str "&#9;" u3)] = es2 at hD hE2
  refine storeLoc (.tail .head) ?_
  dsimp only
  obtain ⟨⟨os, hos, hds⟩, hcs⟩ := H.f37
  refine X_cons (X_Assign (E_callF hos hds (E_glob H.base (.tail _ (.head _))) (E_items_cons (E_loc (v := .str (tx x) t) (.head _) (E_items_cons (E_loc (v := .ref d1) (.tail _ (.head _)) (E_items_nil ?_)))))))
  refine R_pure ((w_escape H (hR.less (e := d + 2) (by omega)) (by omega) hD hE2 hx (fun i => Nat.le_trans (hz i) (by decide)) (own_mem11 h6) (Nat.le_trans (own_len T) (by omega))).mono fun v G' k' hG' hk' ⟨u, hv⟩ => ?_)
  subst hv
  have hY : (repls (kputs T own3) (esc3 x)).length ≤ 999990 := by
    have := hz (kputs T own3).length
    rw [List.take_length] at this; exact this
  generalize repls (kputs T own3) (esc3 x) = Y at hY hQ0 ⊢
  refine storeLoc .head ?_
  dsimp only
  refine X_cons (X_If (T_Cmp (E_str fun t4 h7 => E_loc (v := .str (tx Y) u) (.head _) (C_inS (truthy_bool ?_)))))
  rw [show ("\"" : Str) = one 34 from rfl, contains_tx]
  dsimp only
  by_cases hq : 34 ∈ Y
  · rw [decide_eq_true hq, if_pos rfl]
    refine X_one (X_If (T_Cmp (E_str fun t5 h8 => E_loc (v := .str (tx Y) u) (.head _) (C_inS (truthy_bool ?_)))))
    rw [show ("'" : Str) = one 39 from rfl, contains_tx]
    dsimp only
    by_cases ha : 39 ∈ Y
    · rw [decide_eq_true ha, if_pos rfl]
      obtain ⟨W, hW, hW2⟩ := fmt_d
      refine X_one (X_Assign (E_BinOp (E_str fun t6 h9 => E_meth F.slot_str_replace F.plainAttrs_str F.type_str_replace (E_loc (v := .str (tx Y) u) (.head _) ⟨HasT.str, E_items_cons (E_str fun t7 h10 => E_items_cons (E_str fun t8 h11 => E_items_nil ?_))⟩))))
      replace h10 : t6 + 1 ≤ t7 := h10
      replace h11 : t7 + 1 ≤ t8 := h11
      refine R_replaceT (z := quot) (c := 34) H.nb (by omega) (by omega) (by omega) ?_ rfl rfl fun t9 => ?_
      · have : quot.length = 6 := rfl
        rw [this]; omega
      have hl := rp_len 34 quot Y
      have hm : max 1 quot.length = 6 := rfl
      rw [hm] at hl
      refine R_mod_t (y := 34 :: (rp 34 quot Y ++ [34])) (by decide) W (hW2 _) (by omega) hW fun t10 => storeLoc .head ?_
      refine X_one (X_Return (E_loc (v := .str (tx (34 :: (rp 34 quot Y ++ [34]))) t10) (.head _) (hQ0 _ _ ⟨t10, ?_⟩)))
      unfold qt; rw [if_pos hq, if_pos ha]; rfl
    · rw [decide_eq_false ha, if_neg Bool.false_ne_true]
      obtain ⟨W, hW, hW2⟩ := fmt_s
      refine X_one (X_Assign (E_BinOp (E_str fun t6 h9 => E_loc (v := .str (tx Y) u) (.head _) ?_)))
      refine R_mod_t (y := 39 :: (Y ++ [39])) (by decide) W (hW2 _) (by omega) hW fun t10 => storeLoc .head ?_
      refine X_one (X_Return (E_loc (v := .str (tx (39 :: (Y ++ [39]))) t10) (.head _) (hQ0 _ _ ⟨t10, ?_⟩)))
      unfold qt; rw [if_pos hq, if_neg ha]; rfl
  · rw [decide_eq_false hq, if_neg Bool.false_ne_true]
    obtain ⟨W, hW, hW2⟩ := fmt_d
    refine X_one (X_Assign (E_BinOp (E_str fun t6 h9 => E_loc (v := .str (tx Y) u) (.head _) ?_)))
    refine R_mod_t (y := 34 :: (Y ++ [34])) (by decide) W (hW2 _) (by omega) hW fun t10 => storeLoc .head ?_
    refine X_one (X_Return (E_loc (v := .str (tx (34 :: (Y ++ [34]))) t10) (.head _) (hQ0 _ _ ⟨t10, ?_⟩)))
    unfold qt; rw [if_neg hq]; rfl
theorem quote_args2 (H : Cx2 C) {x : List Nat} {t : Tok} {dd : Addr} : ∀ fd, fd = fdF 4 (.ref 39) pmX (.ref 45) → Binds C fd [.str (tx x) t, .ref dd] [("data", .str (tx x) t), ("entities", .ref dd)] := fun fd e => by
  subst e
  obtain ⟨o, n, e, d⟩ := H.t39
  exact .of_defaults (T := 39) rfl e d rfl rfl
theorem quote_args1 (H : Cx2 C) {x : List Nat} {t : Tok} : ∀ fd, fd = fdF 4 (.ref 39) pmX (.ref 45) → Binds C fd [.str (tx x) t] [("data", .str (tx x) t), ("entities", .ref 38)] := fun fd e => by
  subst e
  obtain ⟨o, n, e, d⟩ := H.t39
  exact .of_defaults (T := 39) rfl e d rfl rfl
end Two
end Mine

open PySem PySem.Calls PyProof.Rows
set_option Elab.async false
set_option linter.unusedVariables false
set_option maxRecDepth 100000
namespace Mine
theorem thru_free : ∀ {T : Tab} {c : Nat}, c ∉ T.map (·.1) → thru c T = [c]
  | [], c, _ => rfl
  | q :: r, c, h => by
    simp only [List.map_cons, List.mem_cons, not_or] at h
    rw [thru_cons, if_neg fun e => h.1 e.symm]
    exact thru_free h.2
theorem thru_at : ∀ {T : Tab} {c : Nat}, c ∈ T.map (·.1) → ∃ (j : Nat) (y : List Nat), T[j]? = some (c, y) ∧ (∀ m, m < j → (T.map (·.1))[m]? ≠ some c) ∧ thru c T = y.flatMap fun x => thru x (T.drop (j + 1))
  | [], c, h => by simp at h
  | q :: r, c, h => by
    by_cases e : q.1 = c
    · refine ⟨0, q.2, by rw [← e]; rfl, fun m hm => absurd hm (Nat.not_lt_zero _), ?_⟩
      rw [thru_cons, if_pos e]; rfl
    · have hr : c ∈ r.map (·.1) := by
        rcases List.mem_cons.mp h with h | h
        · exact absurd h.symm e
        · exact h
      obtain ⟨j, y, h1, h2, h3⟩ := thru_at hr
      refine ⟨j + 1, y, h1, fun m hm => ?_, ?_⟩
      · cases m with
        | zero => simpa using e
        | succ m => exact h2 m (by omega)
      · rw [thru_cons, if_neg e, h3]; rfl
/-- the dict has the texts -/
def HasTab (es : List Ent) (T : Tab) : Prop := ∀ q ∈ T, ∃ u, dget es (one q.1) = some (.str (tx q.2) u)
namespace Two
variable {C : Cx}
theorem w_from (H : Cx2 C) {dd : Addr} {es : List Ent} : ∀ (n : Nat) {A : Around} (hr : Room A (n + 2)) {T : Tab} (hT : T.length = n) (hn : n ≤ 20) {ls : List (Str × Tok)} (hls : ls.map (·.1) = T.map fun q => one q.1) {l : Addr} {c : Nat} {t : Tok} {G : Addr → Option Obj} {k : Nat}
    (hl : ListG G l (strValues ls)) (hD : DictG C.w G dd es) (hE : HasTab es T) (hz : ∀ i c, (thru c (T.drop i)).length ≤ 1000000) (hy : ∀ q ∈ T, q.2.length ≤ 1000000),
    PureCall C A 183 [.str (one c) t, .ref l, .ref dd] G k fun v G' k' => ∃ u, v = .str (tx (thru c T)) u := by
  intro n
  induction n using Nat.strongRecOn with
  | ind n ih =>
    intro A hr T hT hn ls hls l c t G k hl hD hE hz hy
    obtain ⟨⟨o, ho, hd⟩, hc⟩ := H.f183
    refine PureCall.of (CallRun.goK [("sign", some (.str (one c) t)), ("line", some (.ref l))] H.base hr ho hd hc (.of_eq (binds := [("sign", .str (one c) t), ("line", .ref l), ("texts", .ref dd)]) rfl) fun L hR => ?_)
    show Run C _ L _ ⟨G, _, [(L + 2, cellC none), (L + 1, cellC (some (.ref dd)))], k⟩ _
    refine X_cons (X_If (T_Cmp (E_loc (v := .str (one c) t) at0 (E_loc (v := .ref l) at1 (C_notInSL (.inl hl.at) (truthy_bool ?_))))))
    have hlen : ls.length = T.length := by simpa using congrArg List.length hls
    have hll : ls.length < 2 ^ 60 := by omega
    have hmem : one c ∈ ls.map (·.1) ↔ c ∈ T.map (·.1) := by
      rw [hls]
      constructor
      · intro h
        obtain ⟨q, hq, e⟩ := List.mem_map.mp h
        rw [← one_inj.mp e]; exact List.mem_map_of_mem (f := (·.1)) hq
      · intro h
        obtain ⟨q, hq, rfl⟩ := List.mem_map.mp h
        exact List.mem_map_of_mem (f := fun q : Nat × List Nat => one q.1) hq
    by_cases hcT : c ∈ T.map (·.1)
    · rw [decide_eq_true (hmem.mpr hcT), if_neg (by decide)]
      refine X_nil ?_
      dsimp only
      obtain ⟨j, y, hj, hno, hth⟩ := thru_at hcT
      have hjT : j < T.length := (List.getElem?_eq_some_iff.mp hj).1
      refine X_cons (X_Assign (E_Sb F.slot_list_getitem.lookup (E_loc (v := .ref l) at1 (E_Slice (E_partSome (E_BinOp (E_meth F.slot_list_index F.plainAttrs_list F.type_list_index (E_loc (v := .ref l) at1 ⟨HasT.list (.inl hl), E_items_cons (E_loc (v := .str (one c) t) at0 (E_items_nil
        (R_indexS (ls := ls) (j := j) (.inl hl) hll ?_ ?_ fun t1 => E_int fun t2 => B_add fun t3 => E_partNone (E_partNone fun a G₁ hG₁ hsl => ?_))))⟩))))))))
      · rw [hls, List.getElem?_map, hj]; rfl
      · intro m hm e
        rw [hls, List.getElem?_map] at e
        obtain ⟨q, hq, eq⟩ := Option.map_eq_some_iff.mp e
        refine hno m hm ?_
        rw [List.getElem?_map, hq, ← one_inj.mp eq]; rfl
      refine ⟨HasTy.listG (hl.mono hG₁), G_listS (.inl (hl.mono hG₁).at) hsl (.int _ _) .none .none (by simp) (by simp only [strValues, List.length_map]; rw [sizeLine_eq]; omega) fun b => ?_⟩
      have hsl' : (slicePick (strValues ls).toArray (some ((j : Int) + 1)) none none).toList = strValues (ls.drop (j + 1)) := by
        rw [show ((j : Int) + 1) = ((j + 1 : Nat) : Int) by omega, slicePick_from']
        simp [strValues, List.map_drop]
      rw [hsl']
      refine Run.freeze .head fun ob G₂ hcb hGe hne => ?_
      have hG₂ : GLe G₁ G₂ := by rw [hGe]; exact GLe.add hne
      have hlb : ListG G₂ b (strValues (ls.drop (j + 1))) := by rw [hGe]; exact ListG.new hcb
      clear hGe hcb
      have g2 : GLe G G₂ := GLe.trans hG₁ hG₂
      refine storeCell (c := L + 2) .head rfl ?_
      dsimp only
      obtain ⟨u, hu⟩ := hE (c, y) (List.mem_of_getElem? hj)
      have hyz : y.length ≤ 1000000 := hy (c, y) (List.mem_of_getElem? hj)
      refine X_one (X_Return (E_meth F.slot_str_join F.plainAttrs_str F.type_str_join (E_str fun tk htk => ⟨HasT.str, E_items_cons ?_⟩)))
      refine E_Comp1 (R := Str0 (fun a => thru (y[a]?.getD 0) (T.drop (j + 1)))) (fun _ => true) [("texts", L + 1), ("later", L + 2)] Str0.monoR (E_Sb F.slot_dict_getitem.lookup (E_cell (c := L + 1) at1 rfl (E_loc (v := .str (one c) t) at0 ⟨HasTy.dict (hD.mono g2), G_dict (hD.mono g2) hu ?_⟩)))
      refine ⟨_, _, IterOn.str hR.hd, by rw [sizeLine_eq]; simp [tx]; omega, fun Cc i v G₃ k₃ hi ⟨_, hs⟩ hG₃ hk₃ => Tst.none fun _ => ?_, fun D ys G₃ k₃ hG₃ hk₃ hM => E_items_nil ?_⟩
      · obtain ⟨ci, u2, e3, rfl⟩ := hs
        have hci : y[i]?.getD 0 = ci := by
          have : (tx y).cps[i]? = y[i]? := by simp [tx]
          rw [this] at e3; rw [e3]; rfl
        refine E_callF ho hd (E_glob H.base at7) (E_items_cons (E_loc (v := .str ⟨#[ci]⟩ u2) at0 (E_items_cons (E_cell (c := L + 2) at0 rfl (E_items_cons (E_cell (c := L + 1) at1 rfl (E_items_nil ?_)))))))
        refine R_pure ((ih (T.drop (j + 1)).length (by rw [List.length_drop]; omega) (hR.less (by rw [List.length_drop]; omega)) rfl (by rw [List.length_drop]; omega) (by rw [List.map_drop, hls, List.map_drop]) (hlb.mono hG₃) ((hD.mono g2).mono hG₃) (fun q hq => hE q (List.mem_of_mem_drop hq))
          (fun i c => by rw [List.drop_drop]; exact hz _ _) fun q hq => hy q (List.mem_of_mem_drop hq)).mono fun v G₄ k₄ hG₄ hk₄ ⟨u3, hv⟩ => ⟨G₄, k₄, rfl, hG₄, hk₄, u3, ?_⟩)
        dsimp only
        rw [hv, hci]
      · rw [filt] at hM
        have e : (tx y).cps.size = y.length := by simp [tx]
        rw [e] at hM
        have hfl : (List.range y.length).flatMap (fun a => thru (y[a]?.getD 0) (T.drop (j + 1))) = thru c T := by rw [range_flat y fun x => thru x (T.drop (j + 1)), hth]
        refine R_joinC0 hM ?_ fun u4 G₅ k₅ hG₅ hk₅ => ⟨u4, ?_⟩
        · rw [hfl]; have := hz 0 c; rw [List.drop_zero] at this; omega
        · rw [hfl]; rfl
    · rw [decide_eq_false fun h => hcT (hmem.mp h), if_pos (by decide)]
      refine X_one (X_Return (E_loc (v := .str (one c) t) at0 ⟨t, ?_⟩))
      rw [thru_free hcT]; rfl
end Two
end Mine

open PySem PySem.Calls PyProof.Rows
set_option Elab.async false
set_option linter.unusedVariables false
set_option maxRecDepth 100000
namespace Mine
/-! one text for another, of any length -/
def stw (y l : List Nat) : Bool := decide (l.take y.length = y)
def rplS (y z : List Nat) : Nat → List Nat → List Nat
  | _, [] => []
  | s + 1, _ :: r => rplS y z s r
  | 0, c :: r => if stw y (c :: r) then z ++ rplS y z (y.length - 1) r else c :: rplS y z 0 r
def rpl (y z l : List Nat) : List Nat := rplS y z 0 l
theorem rplS_drop (y z : List Nat) : ∀ (s : Nat) (l : List Nat), rplS y z s l = rpl y z (l.drop s)
  | 0, l => rfl
  | s + 1, [] => rfl
  | s + 1, c :: r => rplS_drop y z s r
theorem stw_ne {y l : List Nat} (hy : y ≠ []) (h : stw y l = true) : l ≠ [] := fun e => by
  subst e
  have := of_decide_eq_true h
  simp at this; exact hy this
theorem rpl_hit {y z l : List Nat} (hy : y ≠ []) (h : stw y l = true) : rpl y z l = z ++ rpl y z (l.drop y.length) := by
  cases l with
  | nil => exact absurd rfl (stw_ne hy h)
  | cons c r =>
    show (if stw y (c :: r) then z ++ rplS y z (y.length - 1) r else c :: rplS y z 0 r) = _
    rw [if_pos h, rplS_drop]
    have : y.length = y.length - 1 + 1 := by
      have : 0 < y.length := List.length_pos_iff.mpr hy
      omega
    conv => rhs; rw [this, List.drop_succ_cons]
theorem rpl_miss {y z r : List Nat} {c : Nat} (h : stw y (c :: r) = false) : rpl y z (c :: r) = c :: rpl y z r := by
  show (if stw y (c :: r) then z ++ rplS y z (y.length - 1) r else c :: rplS y z 0 r) = _
  rw [h]; rfl
theorem rpl_none {y z : List Nat} : ∀ {l : List Nat}, (∀ k, stw y (l.drop k) = false) → rpl y z l = l
  | [], _ => rfl
  | c :: r, h => by
    rw [rpl_miss (h 0), rpl_none fun k => h (k + 1)]
theorem rpl_upto {y z : List Nat} : ∀ {n : Nat} {l : List Nat}, n ≤ l.length → (∀ k, k < n → stw y (l.drop k) = false) → rpl y z l = l.take n ++ rpl y z (l.drop n)
  | 0, l, _, _ => by simp
  | n + 1, [], hn, _ => by simp at hn
  | n + 1, c :: r, hn, h => by
    rw [rpl_miss (h 0 (by omega)), rpl_upto (n := n) (by simpa using hn) fun k hk => h (k + 1) (by omega)]
    simp
theorem at_iff {x y : Str} (hy : y.cps.toList ≠ []) (i : Nat) : StrLaws.At x y x.length i ↔ stw y.cps.toList (x.cps.toList.drop i) = true := by
  unfold StrLaws.At stw
  rw [StrLaws.subAt_eq, beq_iff_eq, decide_eq_true_iff]
  have e : y.cps.toList.length = y.length := by simp [Str.length]
  rw [e]
  constructor
  · exact fun h => h.2
  · intro h
    refine ⟨?_, h⟩
    have h1 := congrArg List.length h
    have hl : 0 < y.cps.toList.length := List.length_pos_iff.mpr hy
    simp only [List.length_take, List.length_drop, e] at h1 hl
    have : x.cps.toList.length = x.length := by simp [Str.length]
    omega
theorem join_parts_rpl {x y z : Str} (hy : y.cps.toList ≠ []) : ∀ (cuts : List Nat) (a f : Nat), StrLaws.ChainG x y x.length a cuts f → (∀ k, f ≤ k → ¬ StrLaws.At x y x.length k) →
    (Str.join z (StrLaws.partsFrom x y.length a cuts)).cps.toList = rpl y.cps.toList z.cps.toList (x.cps.toList.drop a)
  | [], a, f, hc, hf => by
    have e : f = a := hc
    subst e
    show (Builtin.Str.strSub x f x.length).cps.toList = _
    rw [StrLaws.strSub_toList, rpl_none]
    · rw [List.take_of_length_le]; simp [Str.length]
    · intro k
      rw [List.drop_drop]
      cases h : stw y.cps.toList (x.cps.toList.drop (f + k)) with
      | false => rfl
      | true => exact absurd ((at_iff hy _).mpr h) (hf (f + k) (by omega))
  | c :: r, a, f, hc, hf => by
    obtain ⟨hac, hA, hno, hr⟩ := hc
    obtain ⟨p, q, hp⟩ := StrLaws.partsFrom_ne x y.length (c + y.length) r
    have ih := join_parts_rpl (z := z) hy r (c + y.length) f hr hf
    show (Str.join z (Builtin.Str.strSub x a c :: StrLaws.partsFrom x y.length (c + y.length) r)).cps.toList = _
    rw [hp] at ih ⊢
    show (Builtin.Str.strSub x a c ++ z ++ Str.join z (p :: q)).cps.toList = _
    rw [Str.cps_append, Str.cps_append, Array.toList_append, Array.toList_append, ih, StrLaws.strSub_toList]
    have hcl : c ≤ x.cps.toList.length := by
      have := hA.1
      have e : x.cps.toList.length = x.length := by simp [Str.length]
      omega
    rw [rpl_upto (n := c - a) (l := x.cps.toList.drop a) (by rw [List.length_drop]; omega) fun k hk => ?_]
    · rw [List.drop_drop, show a + (c - a) = c by omega, rpl_hit hy ((at_iff hy c).mp hA), List.drop_drop]
      simp [Str.length]
    · rw [List.drop_drop]
      cases h : stw y.cps.toList (x.cps.toList.drop (a + k)) with
      | false => rfl
      | true => exact absurd ((at_iff hy _).mpr h) (hno (a + k) (by omega) (by omega))
theorem replace_rpl (x y z : List Nat) (hy : y ≠ []) : Txt.replace (tx x) (tx y) (tx z) = tx (rpl y z x) := by
  have hy' : (tx y).cps.toList ≠ [] := by rw [tx_list]; exact hy
  have hy1 : 1 ≤ (tx y).length := by rw [tx_len]; exact List.length_pos_iff.mpr hy
  obtain ⟨f, hc, hf⟩ := StrLaws.occ_tight (tx x) (tx y) hy1
  have key := join_parts_rpl (z := tx z) hy' _ 0 f hc hf
  rw [tx_list, tx_list, List.drop_zero, tx_list] at key
  have hz0 : ((tx y).length == 0) = false := by simpa using (by omega : (tx y).length ≠ 0)
  unfold Txt.replace
  rw [hz0, Bool.false_and, Bool.or_false]
  cases he : (Builtin.Str.occurrences (tx x) (tx y) 0 (tx x).length ((tx x).length + 1)).isEmpty
  · rw [if_neg Bool.false_ne_true, StrLaws.glued_eq_join, StrLaws.partsBetween_eq]
    rw [← key, tx_of]
  · rw [if_pos rfl]
    have h0 : Builtin.Str.occurrences (tx x) (tx y) 0 (tx x).length ((tx x).length + 1) = [] := by simpa using he
    rw [h0] at key
    have : StrLaws.partsFrom (tx x) (tx y).length 0 [] = [Builtin.Str.strSub (tx x) 0 (tx x).length] := rfl
    rw [this, StrLaws.sub_whole] at key
    rw [← key]
    exact (tx_of _).symm
end Mine

open PySem PySem.Calls PyProof.Rows
set_option Elab.async false
set_option linter.unusedVariables false
set_option maxRecDepth 100000
namespace Mine
theorem tx_inj {a b : List Nat} : tx a = tx b ↔ a = b := by
  constructor
  · intro h; rw [← tx_list a, ← tx_list b, h]
  · intro h; rw [h]
def mid (y : List Nat) : List Nat := (y.drop 1).take (y.length - 2)
section
variable {C : Cx} {A : Around} {L : Addr} {p : Pt}
theorem G_strMid {y : List Nat} {t t1 t2 : Tok} {a : Addr} {Q : Value → Pt → Prop} (hs : SliceG p.G a (.int 1 t1) (.int (-1) t2) .none) (h2 : 2 ≤ y.length) (hz : y.length ≤ sizeLine) (h : ∀ tk, Q (.str (tx (mid y)) tk) p) : Run C A L (getItem (.str (tx y) t) (.ref a)) p Q := .of fun s S T => by
  obtain ⟨o, e, e2, e3⟩ := hs
  refine wpAny_getItem_str_slice (l := some (1, t1)) (u := some (-1, t2)) (st := none) ⟨o, S.s0.gs _ _ e, e2, e3⟩ rfl ?_
  have hl := tx_len y
  have ep : slicePicked (tx y) (some (1, t1)) (some (-1, t2)) none = Builtin.Str.strSliceIndices (some ((1 : Nat) : Int)) (some ((y.length - 1 : Nat) : Int)) 1 (tx y).length := by
    show Builtin.Str.strSliceIndices (some 1) (some (-1)) 1 (tx y).length = _
    rw [StrLaws.sliceIdx_neg_hi (some 1) (tx y).length (by decide) (by rw [hl]; omega)]
    congr 2
    rw [hl]; omega
  have e4 : sliceMade (tx y) t (some (1, t1)) (some (-1, t2)) none = .str (tx (mid y)) := by
    unfold sliceMade
    rw [ep, StrLaws.sliced_plain (tx y) (by omega) (by rw [hl]; omega), StrLaws.strSliceIndices_plain (by omega) (by rw [hl]; omega)]
    rw [if_neg (by simp only [List.length_map, List.length_range, hl, Bool.and_eq_true, beq_iff_eq, not_and]; intro _; omega)]
    congr 1
  rw [e4]
  refine ⟨?_, Post.same S (h _)⟩
  rw [tx_len]
  unfold mid
  simp only [List.length_take, List.length_drop]
  omega
theorem B_addT {X Y : Str} {x y : List Nat} {t u : Tok} {Q : Value → Pt → Prop} (hX : X = tx x) (hY : Y = tx y) (hz : x.length + y.length ≤ 16777216) (h : ∀ tk, Q (.str (tx (x ++ y)) tk) p) : Run C A L (binaryOp .Add (.str X t) (.str Y u)) p Q := by
  subst hX hY
  exact B_addS (by rw [tx_len, tx_len, sizeLine_eq]; exact hz) fun tk => by rw [tx_append]; exact h tk
theorem C_eqT {X Y : Str} {x y : List Nat} {t u : Tok} {Q : Value → Pt → Prop} (hX : X = tx x) (hY : Y = tx y) (h : Q (.bool (decide (x = y))) p) : Run C A L (compareOp .Eq (.str X t) (.str Y u)) p Q := by
  subst hX hY
  refine C_eqS ?_
  rw [show decide (tx x = tx y) = decide (x = y) from by simp only [tx_inj]]; exact h
theorem C_neT {X Y : Str} {x y : List Nat} {t u : Tok} {Q : Value → Pt → Prop} (hX : X = tx x) (hY : Y = tx y) (h : Q (.bool (!decide (x = y))) p) : Run C A L (compareOp .NotEq (.str X t) (.str Y u)) p Q := by
  subst hX hY
  refine C_neS ?_
  rw [show decide (tx x = tx y) = decide (x = y) from by simp only [tx_inj]]; exact h
theorem C_inT {X : Str} {c : Nat} {y : List Nat} {t u : Tok} {Q : Value → Pt → Prop} (hX : X = one c) (h : Q (.bool (decide (c ∈ y))) p) : Run C A L (compareOp .In (.str X t) (.str (tx y) u)) p Q := by
  subst hX
  refine C_inS ?_
  rw [contains_tx]; exact h
theorem C_notInT {X : Str} {c : Nat} {y : List Nat} {t u : Tok} {Q : Value → Pt → Prop} (hX : X = one c) (h : Q (.bool (!decide (c ∈ y))) p) : Run C A L (compareOp .NotIn (.str X t) (.str (tx y) u)) p Q := by
  subst hX
  refine C_notInS ?_
  rw [contains_tx]; exact h
end
def isq (y x : List Nat) : Bool :=
  if y = 39 :: (mid y ++ [39]) then decide (mid y = x) && (decide (34 ∈ x) && !decide (39 ∈ x))
  else if ¬ (y = 34 :: (mid y ++ [34])) ∨ 34 ∈ mid y then false
  else decide (rpl quot [34] (mid y) = x) && (!decide (34 ∈ x) || decide (39 ∈ x))
namespace Two
variable {C : Cx} {A : Around}
theorem w_isq (H : Cx2 C) {d : Nat} (hr : Room A (d + 1)) {x y : List Nat} {t u : Tok} {G : Addr → Option Obj} {k : Nat} (h2 : 2 ≤ y.length) (hz : y.length ≤ 6000000) :
    PureCall C A 190 [.str (tx y) t, .str (tx x) u] G k fun v G' k' => v = .bool (isq y x) := by
  obtain ⟨⟨o, ho, hd⟩, hc⟩ := H.f190
  refine PureCall.go [("written", some (.str (tx y) t)), ("text", some (.str (tx x) u)), ("inside", none)] H.base hr ho hd hc (.of_eq (binds := [("written", .str (tx y) t), ("text", .str (tx x) u)]) rfl) fun L hR => ?_
  refine X_cons (X_Assign (E_Sb F.slot_str_getitem.lookup (E_loc (v := .str (tx y) t) at0 (E_Slice (E_partSome (E_int fun t1 => E_partSome (E_Unary (E_int fun t2 => U_neg fun t3 => E_partNone fun a G₁ hG₁ hs => ⟨HasTy.str, G_strMid hs h2 (by rw [sizeLine_eq]; omega) fun tk => storeLoc (.tail (.tail .head)) ?_⟩))))))))
  dsimp only
  have hmz : (mid y).length ≤ 6000000 := by unfold mid; simp only [List.length_take, List.length_drop]; omega
  refine X_cons (X_If (T_Cmp (E_loc (v := .str (tx y) t) at0 (E_BinOp (E_BinOp (E_str fun t4 h4 => E_loc (v := .str (tx (mid y)) tk) at2 (B_addT (x := [39]) rfl rfl (by simp; omega) fun t5 => E_str fun t6 h6 => B_addT (y := [39]) rfl rfl (by simp; omega) fun t7 => C_eqT rfl rfl (truthy_bool ?_))))))))
  rw [show [39] ++ mid y ++ [39] = 39 :: (mid y ++ [39]) by simp]
  dsimp only
  by_cases h39 : y = 39 :: (mid y ++ [39])
  · rw [decide_eq_true h39, if_pos rfl]
    have hq : isq y x = (decide (mid y = x) && (decide (34 ∈ x) && !decide (39 ∈ x))) := by unfold isq; rw [if_pos h39]
    refine X_one (X_Return (E_Bool (O_andB (E_Cmp (E_loc (v := .str (tx (mid y)) tk) at2 (E_loc (v := .str (tx x) u) at1 (C_eqT rfl rfl ⟨_, rfl, ?_⟩)))))))
    by_cases e1 : mid y = x
    · rw [decide_eq_true e1, if_pos rfl]
      refine O_andB (E_Cmp (E_str fun t8 h8 => E_loc (v := .str (tx x) u) at1 (C_inT (c := 34) rfl ⟨_, rfl, ?_⟩)))
      by_cases e2 : 34 ∈ x
      · rw [decide_eq_true e2, if_pos rfl]
        refine O_last (E_Cmp (E_str fun t9 h9 => E_loc (v := .str (tx x) u) at1 (C_notInT (c := 39) rfl ?_)))
        show Value.bool _ = _
        rw [hq, decide_eq_true e1, decide_eq_true e2]; rfl
      · rw [decide_eq_false e2, if_neg Bool.false_ne_true]
        show Value.bool false = _
        rw [hq, decide_eq_true e1, decide_eq_false e2]; rfl
    · rw [decide_eq_false e1, if_neg Bool.false_ne_true]
      show Value.bool false = _
      rw [hq, decide_eq_false e1]; rfl
  · rw [decide_eq_false h39, if_neg Bool.false_ne_true]
    refine X_nil ?_
    dsimp only
    refine X_cons (X_If (T_BoolOp (T_Or_cons (T_Cmp (E_loc (v := .str (tx y) t) at0 (E_BinOp (E_BinOp (E_str fun t8 h8 => E_loc (v := .str (tx (mid y)) tk) at2 (B_addT (x := [34]) rfl rfl (by simp; omega) fun t9 => E_str fun t10 h10 => B_addT (y := [34]) rfl rfl (by simp; omega) fun t11 => C_neT rfl rfl (truthy_bool ?_))))))))))
    rw [show [34] ++ mid y ++ [34] = 34 :: (mid y ++ [34]) by simp]
    dsimp only
    by_cases h34 : y = 34 :: (mid y ++ [34])
    · rw [decide_eq_true h34, if_neg (by decide)]
      refine T_Or_cons (T_Cmp (E_str fun t12 h12 => E_loc (v := .str (tx (mid y)) tk) at2 (C_inT (c := 34) rfl (truthy_bool ?_))))
      by_cases e3 : 34 ∈ mid y
      · rw [decide_eq_true e3, if_pos rfl, if_pos rfl]
        refine X_one (X_Return (E_bool ?_))
        show Value.bool false = _
        unfold isq; rw [if_neg h39, if_pos (.inr e3)]
      · rw [decide_eq_false e3, if_neg Bool.false_ne_true]
        refine T_Or_nil ?_
        rw [if_neg Bool.false_ne_true]
        refine X_nil ?_
        dsimp only
        have hq : isq y x = (decide (rpl quot [34] (mid y) = x) && (!decide (34 ∈ x) || decide (39 ∈ x))) := by
          unfold isq; rw [if_neg h39, if_neg fun h => h.elim (fun h => h h34) e3]
        refine X_one (X_Return (E_Bool (O_andB (E_Cmp (E_meth F.slot_str_replace F.plainAttrs_str F.type_str_replace (E_loc (v := .str (tx (mid y)) tk) at2 ⟨HasT.str, E_items_cons (E_str fun t13 h13 => E_items_cons (E_str fun t14 h14 => E_items_nil ?_))⟩))))))
        replace h13 : t12 + 1 ≤ t13 := h13
        replace h14 : t13 + 1 ≤ t14 := h14
        have e13 : t13 ≠ 0 := Nat.ne_of_gt (Nat.lt_of_lt_of_le (Nat.succ_pos _) h13)
        have e14 : t14 ≠ 0 := Nat.ne_of_gt (Nat.lt_of_lt_of_le (Nat.succ_pos _) h14)
        refine R_replace (y := tx quot) (z := tx [34]) H.nb e13 e14 (Nat.ne_of_lt h14) (by rw [tx_len, tx_len]; simp; omega) fun t15 => ?_
        rw [replace_rpl (mid y) quot [34] (by decide)]
        refine E_loc (v := .str (tx x) u) at1 (C_eqT rfl rfl ⟨_, rfl, ?_⟩)
        by_cases e4 : rpl quot [34] (mid y) = x
        · rw [decide_eq_true e4, if_pos rfl]
          refine O_last (E_Bool (O_orB (E_Cmp (E_str fun t16 h16 => E_loc (v := .str (tx x) u) at1 (C_notInT (c := 34) rfl ⟨_, rfl, ?_⟩)))))
          by_cases e5 : 34 ∈ x
          · rw [decide_eq_true e5, if_neg (by decide)]
            refine O_last (E_Cmp (E_str fun t17 h17 => E_loc (v := .str (tx x) u) at1 (C_inT (c := 39) rfl ?_)))
            show Value.bool _ = _
            rw [hq, decide_eq_true e4, decide_eq_true e5]; rfl
          · rw [decide_eq_false e5, if_pos (by decide)]
            show Value.bool true = _
            rw [hq, decide_eq_true e4, decide_eq_false e5]; rfl
        · rw [decide_eq_false e4, if_neg Bool.false_ne_true]
          show Value.bool false = _
          rw [hq, decide_eq_false e4]; rfl
    · rw [decide_eq_false h34, if_pos (by decide), if_pos rfl]
      refine X_one (X_Return (E_bool ?_))
      show Value.bool false = _
      unfold isq; rw [if_neg h39, if_pos (.inl h34)]
end Two
end Mine

open PySem PySem.Calls PyProof.Rows
set_option Elab.async false
set_option linter.unusedVariables false
set_option maxRecDepth 100000
namespace Mine
/-- lists of lists of texts -/
def OrdersAt (G : Addr → Option Obj) (ws : List Value) (ls : List (Str × Tok)) : Prop := ∀ w ∈ ws, ∃ a o, w = .ref a ∧ ListG G a (strValues o) ∧ o.Perm ls
theorem OrdersAt.mono {G G' : Addr → Option Obj} {ws : List Value} {ls : List (Str × Tok)} (h : OrdersAt G ws ls) (x : GLe G G') : OrdersAt G' ws ls :=
  fun w hw => let ⟨a, o, e, hl, hp⟩ := h w hw; ⟨a, o, e, hl.mono x, hp⟩
theorem OrdersAt.push {G : Addr → Option Obj} {ws : List Value} {ls o : List (Str × Tok)} {a : Addr} (h : OrdersAt G ws ls) (hl : ListG G a (strValues o)) (hp : o.Perm ls) : OrdersAt G (ws ++ [.ref a]) ls := fun w hw => by
  rcases List.mem_append.mp hw with hw | hw
  · exact h w hw
  · exact ⟨a, o, List.mem_singleton.mp hw, hl, hp⟩
def LsR (ls : List (Str × Tok)) (a : Nat) (y : Value) (G : Addr → Option Obj) (k : Nat) : Prop := ls[a]?.map (fun q => Value.str q.1 q.2) = some y
theorem LsR.monoR {ls : List (Str × Tok)} : MonoR (LsR ls) := fun a y G G' k k' h _ _ => h
theorem perm_out {ls : List (Str × Tok)} {q : Str × Tok} (hnd : (ls.map (·.1)).Nodup) (hq : q ∈ ls) : (q :: ls.filter fun r => !decide (r.1 = q.1)).Perm ls := by
  induction ls with
  | nil => cases hq
  | cons r l ih =>
    simp only [List.map_cons, List.nodup_cons] at hnd
    rcases List.mem_cons.mp hq with rfl | hq
    · have : (q :: l).filter (fun r => !decide (r.1 = q.1)) = l := by
        rw [List.filter_cons, if_neg (by simp)]
        refine List.filter_eq_self.mpr fun r hr => ?_
        simp only [Bool.not_eq_true', decide_eq_false_iff_not]
        exact fun e => hnd.1 (e ▸ List.mem_map_of_mem (f := (·.1)) hr)
      rw [this]
    · have hne : r.1 ≠ q.1 := fun e => hnd.1 (e ▸ List.mem_map_of_mem (f := (·.1)) hq)
      rw [List.filter_cons, if_pos (by simpa using hne)]
      exact (List.Perm.swap ..).trans (.cons _ (ih hnd.2 hq))
theorem sel_vals {ls : List (Str × Tok)} {f : Str × Tok → Bool} {ys : List Value} {G : Addr → Option Obj} {k : Nat} (h : Made (LsR ls) ((List.range ls.length).filter fun a => (ls[a]?.map f).getD false) ys G k) : ys = strValues (ls.filter f) := by
  rw [Made.vals (val := fun a => ls[a]?.map fun q => Value.str q.1 q.2) (fun a y h => h) h, ← range_sel f ls]
  unfold strValues
  rw [List.map_filterMap]
namespace Two
variable {C : Cx}
inductive OrdA (G : Addr → Option Obj) (ls : List (Str × Tok)) (n : Nat) (b l L : Addr) (Cc : Addr) (i : Nat) (ys : List Value) : Pt → Prop
  | mk (G' : Addr → Option Obj) (k' : Nat) (o1 o2 : Option Value) (h1 : GLe G G') (h2 : OrdersAt G' ys ls) (h3 : ys.length ≤ i * 3 ^ n) : OrdA G ls n b l L Cc i ys ⟨G', [("rest", o1)], (Cc + 1, cellC o2) :: [(b, listC (strValues [])), (L + 1, cellC (some (.ref l)))], k'⟩
inductive OrdB (G : Addr → Option Obj) (ls : List (Str × Tok)) (z m : Nat) (b l L Cc : Addr) (v : Value) (j : Nat) (zs : List Value) : Pt → Prop
  | mk (G' : Addr → Option Obj) (k' : Nat) (o1 : Option Value) (h1 : GLe G G') (h2 : OrdersAt G' zs ls) (h3 : zs.length ≤ z + j) (h4 : j ≤ m) : OrdB G ls z m b l L Cc v j zs ⟨G', [("rest", o1)], (Cc + 1, cellC (some v)) :: [(b, listC (strValues [])), (L + 1, cellC (some (.ref l)))], k'⟩
inductive OrdP (ls : List (Str × Tok)) (n : Nat) : Value → (Addr → Option Obj) → Nat → Prop
  | mk {G' : Addr → Option Obj} {k' : Nat} (D : Addr) (ws : List Value) (h1 : ListG G' D ws) (h2 : OrdersAt G' ws ls) (h3 : ws.length ≤ 3 ^ n) : OrdP ls n (.ref D) G' k'
theorem w_orders (H : Cx2 C) : ∀ (n : Nat) {A : Around} (hr : Room A (n + 2)) {ls : List (Str × Tok)} (hn : ls.length = n) (h3 : n ≤ 3) (hnd : (ls.map (·.1)).Nodup) {l : Addr} {G : Addr → Option Obj} {k : Nat} (hl : ListG G l (strValues ls)),
    PureCall C A 171 [.ref l] G k (OrdP ls n) := by
  intro n
  induction n with
  | zero =>
    intro A hr ls hn h3 hnd l G k hl
    obtain rfl : ls = [] := List.length_eq_zero_iff.mp hn
    obtain ⟨⟨o, ho, hd⟩, hc⟩ := H.f171
    refine PureCall.of (CallRun.goK [] H.base hr ho hd hc (.of_eq (binds := [("row", .ref l)]) rfl) fun L hR => ?_)
    show Run C _ L _ ⟨G, _, [(L + 1, cellC (some (.ref l)))], k⟩ _
    refine X_cons (X_If (T_Cmp (E_cell (c := L + 1) at0 rfl (E_List (E_items_nil (newList_N (by decide) fun b => C_eqSL (vs := []) (ws := []) hR.u (.inl hl.at) (.inr (.head _)) (truthy_bool ?_)))))))
    rw [decide_eq_true rfl, if_pos rfl]
    refine X_one (X_Return (Run.fz (Run.fz (E_List (E_items_cons (E_List (E_items_nil (newList_N (by decide) fun e => E_items_nil (newList_N (by rw [sizeLine_eq]; simp) fun D => ⟨e, _, _, .tail .head, fun oe ce ne => ⟨D, _, _, .head, fun oD cD nD => ⟨D, [.ref e], ListG.new cD, fun w hw => ?_, by simp⟩⟩⟩)))))))))
    exact ⟨e, [], List.mem_singleton.mp hw, (ListG.new ce).mono (GLe.add nD), .refl _⟩
  | succ n ih =>
    intro A hr ls hn h3 hnd l G k hl
    obtain ⟨⟨o, ho, hd⟩, hc⟩ := H.f171
    refine PureCall.of (CallRun.goK [] H.base hr ho hd hc (.of_eq (binds := [("row", .ref l)]) rfl) fun L hR => Run.abs fun Q0 hQ0 => ?_)
    show Run C _ L _ ⟨G, _, [(L + 1, cellC (some (.ref l)))], k⟩ _
    refine X_cons (X_If (T_Cmp (E_cell (c := L + 1) at0 rfl (E_List (E_items_nil (newList_N (by decide) fun b => C_eqSL (vs := ls) (ws := []) hR.u (.inl hl.at) (.inr (.head _)) (truthy_bool ?_)))))))
    have hne : ¬ (ls.map (·.1) = ([] : List (Str × Tok)).map (·.1)) := fun e => by
      have := congrArg List.length e
      simp only [List.length_map, List.length_nil] at this
      omega
    rw [decide_eq_false hne, if_neg Bool.false_ne_true]
    refine X_nil ?_
    dsimp only
    refine X_one (X_Return (Run.fz (E_ListComp2K [("rest", none)] (cl := [("row", L + 1)]) rfl (by decide) (by simp) (by simp) (E_cell (c := L + 1) at1 rfl
      ⟨(strValues ls).length, _, OrdA G ls n b l L, IterOn.list hR.hd hl.at, ?_, ?_, ?_⟩))))
    · exact fun Cc => ⟨G, k, none, none, GLe.refl _, (fun w hw => nomatch hw), Nat.zero_le _⟩
    · intro Cc i ys p₂ hi hI9 _
      refine hI9.casesOn ?_
      intro G' k' o1 o2 hG' hO hz
      refine AsgRun.name fun v ⟨_, hv⟩ => storeCell (c := Cc + 1) .head rfl (Run.abs fun Q1 hQ1 => ?_)
      dsimp only at hQ1 ⊢
      have hi' : i < ls.length := by simpa [strValues] using hi
      have ev : v = .str ls[i].1 ls[i].2 := by
        have : (strValues ls)[i]? = some (.str ls[i].1 ls[i].2) := by simp [strValues, hi']
        rw [this] at hv; exact (Option.some.inj hv).symm
      subst ev
      refine R_tests_nil (hQ1 _ _ ?_)
      rw [if_pos rfl]
      clear hQ1 Q1
      refine Run.abs fun Q1 hQ1 => ?_
      refine E_callF ho hd (E_glob H.base at5) (E_items_cons (E_Comp1 (R := LsR ls) (fun a => (ls[a]?.map fun r => !decide (r.1 = ls[i].1)).getD false) [("one", Cc + 1)] LsR.monoR (E_cell (c := L + 1) at2 rfl
        ⟨(strValues ls).length, _, IterOn.list hR.hd (hl.mono hG').at, by simp only [strValues, List.length_map]; rw [sizeLine_eq]; omega, fun C2 j v G₂ k₂ hj ⟨_, hv⟩ hG₂ hk₂ => ?_, fun D ys2 G₂ k₂ hG₂ hk₂ hM => E_items_nil ?_⟩)))
      · have hj' : j < ls.length := by simpa [strValues] using hj
        have ev : v = .str ls[j].1 ls[j].2 := by
          have : (strValues ls)[j]? = some (.str ls[j].1 ls[j].2) := by simp [strValues, hj']
          rw [this] at hv; exact (Option.some.inj hv).symm
        subst ev
        refine R_tests_one (T_Cmp (E_loc (v := .str ls[j].1 ls[j].2) at0 (E_cell (c := Cc + 1) at0 rfl (C_neS (truthy_bool ⟨?_, _, _, rfl, GLe.refl _, Nat.le_refl _, fun hs => ?_⟩)))))
        · rw [List.getElem?_eq_getElem hj']; rfl
        · refine E_loc (v := .str ls[j].1 ls[j].2) at0 ⟨_, _, rfl, GLe.refl _, Nat.le_refl _, ?_⟩
          unfold LsR
          rw [List.getElem?_eq_getElem hj']; rfl
      · have e1 : (strValues ls).length = ls.length := by simp [strValues]
        rw [e1] at hM
        have hys2 := sel_vals hM
        subst hys2
        refine Run.freeze .head fun oD G₃ cD hGe hne => ?_
        have g3 : GLe G G₃ := by rw [hGe]; exact GLe.trans hG' (GLe.trans hG₂ (GLe.add hne))
        have hD : ListG G₃ D (strValues (ls.filter fun r => !decide (r.1 = ls[i].1))) := by rw [hGe]; exact ListG.new cD
        have g3' : GLe G' G₃ := by rw [hGe]; exact GLe.trans hG₂ (GLe.add hne)
        clear hGe hM
        have hpo := perm_out hnd (List.getElem_mem hi')
        have hlen : (ls.filter fun r => !decide (r.1 = ls[i].1)).length = n := by
          have := hpo.length_eq; simp only [List.length_cons] at this; omega
        have hnd' : ((ls.filter fun r => !decide (r.1 = ls[i].1)).map (·.1)).Nodup := by
          have := (hpo.map (·.1)).nodup_iff.mpr hnd
          simp only [List.map_cons, List.nodup_cons] at this
          exact this.2
        refine R_pure ((ih hR hlen (by omega) hnd' hD).mono fun v G₄ k₄ hG₄ hk₄ hI9 => ?_)
        revert hG₄ hk₄
        refine hI9.casesOn ?_
        intro G₄ k₄ E ws hE hOE hwz hG₄ hk₄
        refine hQ1 _ _ ⟨ws.length, _, OrdB G₄ ls (i * 3 ^ n) ws.length b l L Cc (.str ls[i].1 ls[i].2), IterOn.list hR.hd hE.at, ?_, ?_, ?_, ?_⟩
        · rintro j zs p ⟨_, _, _, _, _, h5, h6⟩
          have p3 : 3 ^ n ≤ 3 ^ 2 := Nat.pow_le_pow_right (by decide) (by omega)
          have := Nat.mul_le_mul (show i ≤ 3 by omega) p3
          rw [sizeLine_eq]; omega
        · exact ⟨G₄, k₄, o1, GLe.refl _, (hO.mono g3').mono hG₄, hz, Nat.zero_le _⟩
        · intro j zs p₆ hj hI9 _
          refine hI9.casesOn ?_
          intro G' k' o1 hG5 hO5 hz5 hz6
          refine AsgRun.name fun v ⟨_, hv⟩ => storeLoc .head ?_
          dsimp only
          refine R_tests_nil ?_
          rw [if_pos rfl]
          obtain ⟨a, oo, rfl, ha, hpa⟩ := hOE v (List.mem_of_getElem? hv)
          refine Run.fz (E_BinOp (E_List (E_items_cons (E_cell (c := Cc + 1) at0 rfl (E_items_nil (newList_N (by simp; rw [sizeLine_eq]; omega) fun w => Run.freeze .head fun ow G₆ cw hGe6 hne6 => ?_))))))
          have g6 : GLe G' G₆ := by rw [hGe6]; exact GLe.add hne6
          have hw : ListG G₆ w (strValues [ls[i]]) := by rw [hGe6]; exact ListG.new cw
          clear hGe6
          have hol : oo.length = n := by rw [hpa.length_eq]; exact hlen
          refine E_loc (v := .ref a) at0 (B_addL hw ((ha.mono hG5).mono g6) (by simp [strValues]; rw [sizeLine_eq]; omega) fun z => ⟨z, _, _, .head, fun oz cz nz => ⟨_, _, _, ?_, ?_, ?_, hj⟩⟩)
          · exact GLe.trans hG5 (GLe.trans g6 (GLe.add nz))
          · refine OrdersAt.push ((hO5.mono g6).mono (GLe.add nz)) (o := ls[i] :: oo) (ListG.new cz) ((List.Perm.cons _ hpa).trans hpo)
          · simp only [List.length_append, List.length_cons, List.length_nil]; omega
        · intro zs p₆ hI9 _
          refine hI9.casesOn ?_
          intro G' k' o1 hG5 hO5 hz5 hz6
          refine ⟨_, _, _, _, ?_, hO5, ?_⟩
          · exact GLe.trans g3 (GLe.trans hG₄ hG5)
          · rw [Nat.add_mul]; omega
    · intro Cc D ys p₂ hI9 _
      refine hI9.casesOn ?_
      intro G' k' o1 o2 hG' hO hz
      refine ⟨D, _, _, .head, fun oD cD nD => hQ0 _ _ ⟨D, ys, ListG.new cD, hO.mono (GLe.add nD), Nat.le_trans hz ?_⟩⟩
      rw [show (strValues ls).length = n + 1 by simp [strValues, hn], Nat.pow_succ, Nat.mul_comm (3 ^ n)]
      exact Nat.mul_le_mul_right _ h3
end Two
end Mine

open PySem PySem.Calls PyProof.Rows
set_option Elab.async false
set_option linter.unusedVariables false
set_option maxRecDepth 100000
namespace Mine
/-! law 02, plain -/
def first3 : Tab := [(38, amp), (62, gts), (60, lts)]
def ownAll : Tab := first3 ++ own3
def fullOf (f : Nat → List Nat) (c : Nat) : List Nat := (kget ownAll c).getD (f c)
def restOf (os : List Nat) : List Nat := [10, 13, 9].filter fun c => decide (c ∉ os)
def lineOf (os : List Nat) : List Nat := [38, 62, 60] ++ (os ++ restOf os)
def lineTab (f : Nat → List Nat) (os : List Nat) : Tab := (lineOf os).map fun c => (c, fullOf f c)
def tabOf (f : Nat → List Nat) (os : List Nat) : Tab := os.map fun c => (c, f c)
/-- an order of the signs -/
structure Ord (os : List Nat) : Prop where
  nd : os.Nodup
  len : os.length ≤ 3
  mem : ∀ c ∈ os, c ∈ [65, 46, 67, 10, 13, 9]
/-- a sign's text -/
structure GoodT (y : List Nat) : Prop where
  len : y.length ≤ 11
  mark : ∃ m ∈ y, m ∈ [120, 92, 122]
  noq : 113 ∉ y
theorem repls_app (S T : Tab) (l : List Nat) : repls (S ++ T) l = repls T (repls S l) := by unfold repls; rw [List.foldl_append]
theorem repls_first (l : List Nat) : repls first3 l = esc3 l := rfl
theorem kget_all {c : Nat} (h1 : c ≠ 38) (h2 : c ≠ 62) (h3 : c ≠ 60) : kget ownAll c = kget own3 c := by
  show kget ((38, amp) :: (62, gts) :: (60, lts) :: own3) c = _
  simp only [kget, if_neg (Ne.symm h1), if_neg (Ne.symm h2), if_neg (Ne.symm h3)]
theorem Ord.no3 {os : List Nat} (h : Ord os) {c : Nat} (hc : c ∈ os) : c ≠ 38 ∧ c ≠ 62 ∧ c ≠ 60 := by
  exact (show ∀ c ∈ [65, 46, 67, 10, 13, 9], c ≠ 38 ∧ c ≠ 62 ∧ c ≠ 60 by decide) c (h.mem c hc)
theorem keys_tabOf (f : Nat → List Nat) (os : List Nat) : (tabOf f os).map (·.1) = os := by simp [tabOf, Function.comp_def]
theorem kputs_line (f : Nat → List Nat) {os : List Nat} (h : Ord os) : kputs (tabOf f os) own3 = (os ++ restOf os).map fun c => (c, fullOf f c) := by
  rw [kputs_over own3 _ (by rw [keys_tabOf]; exact h.nd) (by decide)]
  unfold over
  rw [keys_tabOf, List.map_append]
  congr 1
  · unfold tabOf
    rw [List.map_map]
    refine List.map_congr_left fun c hc => ?_
    obtain ⟨h1, h2, h3⟩ := h.no3 hc
    show (c, (kget own3 c).getD (f c)) = (c, fullOf f c)
    unfold fullOf
    rw [kget_all h1 h2 h3]
  · unfold restOf own3
    simp only [List.filter_cons, List.filter_nil]
    split <;> split <;> split <;> rfl
theorem line_split (f : Nat → List Nat) {os : List Nat} (h : Ord os) : lineTab f os = first3 ++ kputs (tabOf f os) own3 := by
  rw [kputs_line f h]
  unfold lineTab lineOf
  rw [List.map_append]; rfl
theorem quoted_eq (f : Nat → List Nat) {os : List Nat} (h : Ord os) (x : List Nat) : repls (kputs (tabOf f os) own3) (esc3 x) = x.flatMap fun c => thru c (lineTab f os) := by
  rw [← repls_first, ← repls_app, ← line_split f h, repls_thru]
/-! how long -/
theorem thru_step {q : Nat × List Nat} {r : Tab} {n : Nat} (h1 : ∀ x ∈ q.2, x ∉ r.map (·.1)) (h2 : q.2.length ≤ n) (h : ∀ c, (thru c r).length ≤ n) (c : Nat) : (thru c (q :: r)).length ≤ n := by
  rw [thru_cons]
  split
  · have : ∀ l : List Nat, (∀ x ∈ l, x ∉ r.map (·.1)) → (l.flatMap fun x => thru x r) = l := by
      intro l
      induction l with
      | nil => intro _; rfl
      | cons a l ih =>
        intro hl
        rw [List.flatMap_cons, ih fun x hx => hl x (List.mem_cons_of_mem _ hx), thru_free (hl a (List.mem_cons_self ..))]; rfl
    rw [this _ h1]; exact h2
  · exact h c
theorem thru_W {W : Tab} (h : ∀ q ∈ W, q ∈ own3) (c : Nat) : (thru c W).length ≤ 5 := by
  induction W generalizing c with
  | nil => simp [thru]
  | cons q r ih =>
    have hq := h q (List.mem_cons_self ..)
    refine thru_step (fun x hx hm => ?_) ?_ (ih fun q hq => h q (List.mem_cons_of_mem _ hq)) c
    · obtain ⟨z, hz, e⟩ := List.mem_map.mp hm
      have hz := h z (List.mem_cons_of_mem _ hz)
      have : ∀ q ∈ own3, ∀ x ∈ q.2, ∀ z ∈ own3, z.1 ≠ x := by decide
      exact this q hq x hx z hz e
    · have : ∀ q ∈ own3, q.2.length ≤ 5 := by decide
      exact this q hq
theorem thru_O {O W : Tab} (hO : ∀ q ∈ O, q.2.length ≤ 11) (h : ∀ q ∈ W, q ∈ own3) (c : Nat) : (thru c (O ++ W)).length ≤ 11 ^ O.length * 5 := by
  induction O generalizing c with
  | nil => simpa using thru_W h c
  | cons q r ih =>
    have ih := ih fun q hq => hO q (List.mem_cons_of_mem _ hq)
    rw [List.cons_append, thru_cons, List.length_cons, Nat.pow_succ, Nat.mul_comm (11 ^ r.length), Nat.mul_assoc]
    split
    · refine Nat.le_trans (flatMap_len (fun x => ih x) q.2) ?_
      exact Nat.mul_le_mul_right _ (hO q (List.mem_cons_self ..))
    · refine Nat.le_trans (ih c) (Nat.le_mul_of_pos_left _ (by decide))
theorem thru_OW {O W : Tab} (hl : O.length ≤ 3) (hO : ∀ q ∈ O, q.2.length ≤ 11) (h : ∀ q ∈ W, q ∈ own3) (c : Nat) : (thru c (O ++ W)).length ≤ 6655 := by
  refine Nat.le_trans (thru_O hO h c) ?_
  have := Nat.pow_le_pow_right (show 0 < 11 by decide) hl
  omega
theorem thru_all {O W : Tab} (hl : O.length ≤ 3) (hO : ∀ q ∈ O, q.2.length ≤ 11) (hk : ∀ q ∈ O, q.1 ∈ [65, 46, 67, 10, 13, 9]) (h : ∀ q ∈ W, q ∈ own3) (i c : Nat) : (thru c (first3.drop i ++ (O ++ W))).length ≤ 6655 := by
  have h0 := thru_OW hl hO h
  have hks : ∀ x ∈ (O ++ W).map (·.1), x ∈ [65, 46, 67, 10, 13, 9] := fun x hx => by
    obtain ⟨q, hq, rfl⟩ := List.mem_map.mp hx
    rcases List.mem_append.mp hq with hq | hq
    · exact hk q hq
    · have : ∀ q ∈ own3, q.1 ∈ [65, 46, 67, 10, 13, 9] := by decide
      exact this q (h q hq)
  have no : ∀ y : List Nat, (∀ x ∈ y, x ∉ [65, 46, 67, 10, 13, 9]) → ∀ x ∈ y, x ∉ (O ++ W).map (·.1) := fun y hy x hx hm => hy x hx (hks x hm)
  have h3 : ∀ c, (thru c ((60, lts) :: (O ++ W))).length ≤ 6655 := thru_step (no lts (by decide)) (by decide) h0
  have h2 : ∀ c, (thru c ((62, gts) :: (60, lts) :: (O ++ W))).length ≤ 6655 := thru_step (fun x hx hm => by
    rcases List.mem_cons.mp hm with e | hm
    · have : 60 ∉ gts := by decide
      have e : x = 60 := e
      subst e; exact this hx
    · exact no gts (by decide) x hx hm) (by decide) h3
  have h1 : ∀ c, (thru c ((38, amp) :: (62, gts) :: (60, lts) :: (O ++ W))).length ≤ 6655 := thru_step (fun x hx hm => by
    rcases List.mem_cons.mp hm with e | hm
    · have : 62 ∉ amp := by decide
      have e : x = 62 := e
      subst e; exact this hx
    rcases List.mem_cons.mp hm with e | hm
    · have : 60 ∉ amp := by decide
      have e : x = 60 := e
      subst e; exact this hx
    · exact no amp (by decide) x hx hm) (by decide) h2
  match i with
  | 0 => exact h1 c
  | 1 => exact h2 c
  | 2 => exact h3 c
  | i + 3 =>
    rw [show first3.drop (i + 3) = [] from by simp [first3]]
    exact h0 c
theorem full_own {f : Nat → List Nat} {c : Nat} (h : c ∈ [10, 13, 9]) : (c, fullOf f c) ∈ own3 := by
  simp only [List.mem_cons, List.not_mem_nil, or_false] at h
  rcases h with rfl | rfl | rfl <;> simp [fullOf, ownAll, first3, own3, kget]
theorem rest_own {f : Nat → List Nat} {os : List Nat} : ∀ q ∈ (restOf os).map (fun c => (c, fullOf f c)), q ∈ own3 := fun q hq => by
  obtain ⟨c, hc, rfl⟩ := List.mem_map.mp hq
  exact full_own (List.mem_filter.mp hc).1
theorem full_len {f : Nat → List Nat} {c : Nat} (h : (f c).length ≤ 11) : (fullOf f c).length ≤ 11 := by
  unfold fullOf
  cases e : kget ownAll c with
  | none => exact h
  | some y =>
    have : ∀ T : Tab, kget T c = some y → ∃ q ∈ T, q.2 = y := by
      intro T
      induction T with
      | nil => intro h; cases h
      | cons q r ih =>
        intro h
        simp only [kget] at h
        split at h
        · exact ⟨q, List.mem_cons_self .., Option.some.inj h⟩
        · obtain ⟨z, hz, e⟩ := ih h; exact ⟨z, List.mem_cons_of_mem _ hz, e⟩
    obtain ⟨q, hq, rfl⟩ := this _ e
    have h2 : ∀ q ∈ ownAll, q.2.length ≤ 11 := by decide
    exact h2 q hq

theorem full_keys {f : Nat → List Nat} {os : List Nat} (h : Ord os) (hf : ∀ c ∈ os, (f c).length ≤ 11) : (∀ q ∈ os.map (fun c => (c, fullOf f c)), q.2.length ≤ 11) ∧ (∀ q ∈ os.map (fun c => (c, fullOf f c)), q.1 ∈ [65, 46, 67, 10, 13, 9]) := by
  refine ⟨fun q hq => ?_, fun q hq => ?_⟩
  · obtain ⟨c, hc, rfl⟩ := List.mem_map.mp hq
    exact full_len (hf c hc)
  · obtain ⟨c, hc, rfl⟩ := List.mem_map.mp hq
    exact h.mem c hc
theorem quote_room (f : Nat → List Nat) {os : List Nat} (h : Ord os) (hf : ∀ c ∈ os, (f c).length ≤ 11) {x : List Nat} (hx : x.length ≤ 40) (i : Nat) : (repls ((kputs (tabOf f os) own3).take i) (esc3 x)).length ≤ 999990 := by
  rw [← repls_first, ← repls_app, repls_thru, kputs_line f h, List.map_append, List.take_append]
  obtain ⟨k1, k2⟩ := full_keys h hf
  have key : ∀ c, (thru c (first3 ++ ((os.map fun c => (c, fullOf f c)).take i ++ ((restOf os).map fun c => (c, fullOf f c)).take (i - (os.map fun c => (c, fullOf f c)).length)))).length ≤ 6655 := fun c =>
    thru_all (i := 0) (by have := h.len; rw [List.length_take, List.length_map]; omega) (fun q hq => k1 q (List.mem_of_mem_take hq)) (fun q hq => k2 q (List.mem_of_mem_take hq)) (fun q hq => rest_own q (List.mem_of_mem_take hq)) c
  have := flatMap_len key x
  omega
theorem line_room (f : Nat → List Nat) {os : List Nat} (h : Ord os) (hf : ∀ c ∈ os, (f c).length ≤ 11) (i c : Nat) : (thru c ((lineTab f os).drop i)).length ≤ 6655 := by
  rw [line_split f h, kputs_line f h, List.map_append, List.drop_append, List.drop_append]
  obtain ⟨k1, k2⟩ := full_keys h hf
  exact thru_all (by have := h.len; rw [List.length_drop, List.length_map]; omega) (fun q hq => k1 q (List.mem_of_mem_drop hq)) (fun q hq => k2 q (List.mem_of_mem_drop hq)) (fun q hq => rest_own q (List.mem_of_mem_drop hq)) i c
/-! quoted -/
theorem rpl_free {y z : List Nat} {a : Nat} {r : List Nat} (hy : y = 38 :: a :: r) : ∀ l : List Nat, a ∉ l → rpl y z l = l := fun l h => rpl_none fun k => by
  cases e : stw y (l.drop k) with
  | false => rfl
  | true =>
    exfalso
    have := of_decide_eq_true e
    have hm : a ∈ y := by rw [hy]; simp
    rw [← this] at hm
    exact h (List.mem_of_mem_drop (List.mem_of_mem_take hm))
theorem rpl_quot : ∀ l : List Nat, 113 ∉ l → rpl quot [34] (rp 34 quot l) = l
  | [], _ => rfl
  | c :: r, h => by
    have ih := rpl_quot r fun m => h (List.mem_cons_of_mem _ m)
    have e : rp 34 quot (c :: r) = (if c = 34 then quot else [c]) ++ rp 34 quot r := rfl
    rw [e]
    by_cases hc : c = 34
    · rw [if_pos hc, rpl_hit (by decide) (by unfold stw; simp [quot])]
      rw [show (quot ++ rp 34 quot r).drop quot.length = rp 34 quot r by simp, ih, hc]; rfl
    · rw [if_neg hc]
      show rpl quot [34] (c :: rp 34 quot r) = _
      rw [rpl_miss, ih]
      cases e2 : stw quot (c :: rp 34 quot r) with
      | false => rfl
      | true =>
        exfalso
        have h1 := of_decide_eq_true e2
        cases r with
        | nil => simp [quot, rp] at h1
        | cons d r =>
          have hd : d ≠ 113 := fun e => h (by simp [e])
          by_cases h34 : d = 34
          · rw [show rp 34 quot (d :: r) = quot ++ rp 34 quot r by simp [rp, h34]] at h1
            simp [quot] at h1
          · rw [show rp 34 quot (d :: r) = d :: rp 34 quot r by simp [rp, h34]] at h1
            simp [quot] at h1
            exact hd h1.2.1
theorem mid_of (a b : Nat) (l : List Nat) : mid (a :: (l ++ [b])) = l := by simp [mid]
theorem rp_no34 (l : List Nat) : 34 ∉ rp 34 quot l := by
  intro h
  obtain ⟨c, hc, h⟩ := List.mem_flatMap.mp h
  split at h
  · revert h; decide
  · rename_i hn
    exact hn (List.mem_singleton.mp h).symm
theorem isq_qt {D x : List Nat} (h : 113 ∉ D) : isq (qt D) x = decide (D = x) := by
  unfold qt
  by_cases h34 : 34 ∈ D
  · rw [if_pos h34]
    by_cases h39 : 39 ∈ D
    · rw [if_pos h39]
      unfold isq
      rw [mid_of, if_neg (by simp), if_neg (by simp [rp_no34]), rpl_quot D h]
      by_cases e : D = x
      · subst e; simp [h39]
      · simp [e]
    · rw [if_neg h39]
      unfold isq
      rw [mid_of, if_pos rfl]
      by_cases e : D = x
      · subst e; simp [h34, h39]
      · simp [e]
  · rw [if_neg h34]
    unfold isq
    rw [mid_of, if_neg (by simp), if_neg (by simp [h34]), rpl_free (a := 113) (y := quot) rfl D h]
    by_cases e : D = x
    · subst e; simp [h34]
    · simp [e]
theorem thru_noq {T : Tab} (hT : ∀ q ∈ T, 113 ∉ q.2) {c : Nat} (hc : c ≠ 113) : 113 ∉ thru c T := by
  induction T generalizing c with
  | nil => simpa [thru] using fun e => hc e.symm
  | cons q r ih =>
    rw [thru_cons]
    split
    · intro hm
      obtain ⟨x, hx, hm⟩ := List.mem_flatMap.mp hm
      exact ih (fun q hq => hT q (List.mem_cons_of_mem _ hq)) (fun e => hT q (List.mem_cons_self ..) (e ▸ hx)) hm
    · exact ih (fun q hq => hT q (List.mem_cons_of_mem _ hq)) hc
end Mine

open PySem PySem.Calls PyProof.Rows
set_option Elab.async false
set_option linter.unusedVariables false
set_option maxRecDepth 100000
namespace Mine
/-! all at once, or along the line -/
theorem sum_eq_all {f g : Nat → Nat} : ∀ l : List Nat, (∀ x ∈ l, f x ≤ g x) → (l.map f).sum = (l.map g).sum → ∀ x ∈ l, f x = g x
  | [], _, _ => fun x hx => nomatch hx
  | a :: l, h, e => by
    have h1 := h a (List.mem_cons_self ..)
    have h2 : (l.map f).sum ≤ (l.map g).sum := by
      have : ∀ l : List Nat, (∀ x ∈ l, f x ≤ g x) → (l.map f).sum ≤ (l.map g).sum := by
        intro l
        induction l with
        | nil => intro _; exact Nat.le_refl _
        | cons b l ih => intro hl; simp only [List.map_cons, List.sum_cons]; have := ih fun x hx => hl x (List.mem_cons_of_mem _ hx); have := hl b (List.mem_cons_self ..); omega
      exact this l fun x hx => h x (List.mem_cons_of_mem _ hx)
    simp only [List.map_cons, List.sum_cons] at e
    intro x hx
    rcases List.mem_cons.mp hx with rfl | hx
    · omega
    · exact sum_eq_all l (fun x hx => h x (List.mem_cons_of_mem _ hx)) (by omega) x hx
/-- weights: signs of the line 1, all others 2 -/
def wOf (line : List Nat) (c : Nat) : Nat := if c ∈ line then 1 else 2
def wl (line l : List Nat) : Nat := (l.map (wOf line)).sum
theorem wl_flat (line : List Nat) (g : Nat → List Nat) : ∀ l : List Nat, wl line (l.flatMap g) = (l.map fun x => wl line (g x)).sum
  | [] => rfl
  | a :: l => by
    rw [List.flatMap_cons, List.map_cons, List.sum_cons, ← wl_flat line g l]
    unfold wl; rw [List.map_append, List.sum_append]
theorem thru_wt {line : List Nat} : ∀ {T : Tab}, (∀ q ∈ T, q.1 ∈ line ∧ ∃ m ∈ q.2, m ∉ line) → ∀ c, wOf line c ≤ wl line (thru c T) ∧ (c ∈ T.map (·.1) → wOf line c < wl line (thru c T))
  | [], _, c => ⟨by simp [thru, wl], fun h => nomatch h⟩
  | q :: r, h, c => by
    have ih := thru_wt fun q hq => h q (List.mem_cons_of_mem _ hq)
    rw [thru_cons]
    by_cases e : q.1 = c
    · rw [if_pos e]
      obtain ⟨h1, m, hm, hn⟩ := h q (List.mem_cons_self ..)
      have hw : wOf line c = 1 := by unfold wOf; rw [if_pos (e ▸ h1)]
      have hge : 2 ≤ wl line (q.2.flatMap fun x => thru x r) := by
        rw [wl_flat]
        have : ∀ l : List Nat, m ∈ l → 2 ≤ (l.map fun x => wl line (thru x r)).sum := by
          intro l
          induction l with
          | nil => intro h; cases h
          | cons a l ihl =>
            intro hm
            rw [List.map_cons, List.sum_cons]
            rcases List.mem_cons.mp hm with rfl | hm
            · have := (ih m).1
              unfold wOf at this; rw [if_neg hn] at this; omega
            · have := ihl hm; omega
        exact this _ hm
      rw [hw]; exact ⟨by omega, fun _ => by omega⟩
    · rw [if_neg e]
      refine ⟨(ih c).1, fun hc => (ih c).2 ?_⟩
      rcases List.mem_cons.mp hc with hc | hc
      · exact absurd hc.symm e
      · exact hc
/-- no text of the line holds a later sign -/
def NoLater (full : Nat → List Nat) (line : List Nat) : Prop := ∀ j c, line[j]? = some c → ∀ x ∈ full c, x ∉ line.drop (j + 1)
def ltab (full : Nat → List Nat) (line : List Nat) : Tab := line.map fun c => (c, full c)
theorem ltab_keys (full : Nat → List Nat) (line : List Nat) : (ltab full line).map (·.1) = line := by simp [ltab, Function.comp_def]
theorem ltab_drop (full : Nat → List Nat) (line : List Nat) (i : Nat) : (ltab full line).drop i = ltab full (line.drop i) := by simp [ltab, List.map_drop]
theorem thru_in {full : Nat → List Nat} {line : List Nat} {c : Nat} (h : c ∈ line) : ∃ j : Nat, line[j]? = some c ∧ thru c (ltab full line) = (full c).flatMap fun x => thru x (ltab full (line.drop (j + 1))) := by
  obtain ⟨j, y, h1, h2, h3⟩ := thru_at (T := ltab full line) (by rw [ltab_keys]; exact h)
  unfold ltab at h1
  rw [List.getElem?_map] at h1
  obtain ⟨c', h4, h5⟩ := Option.map_eq_some_iff.mp h1
  simp only [Prod.mk.injEq] at h5
  obtain ⟨rfl, rfl⟩ := h5
  exact ⟨j, h4, by rw [h3, ltab_drop]⟩
theorem flat_self {l : List Nat} {g : Nat → List Nat} (h : ∀ x ∈ l, g x = [x]) : l.flatMap g = l := by
  induction l with
  | nil => rfl
  | cons a l ih => rw [List.flatMap_cons, h a (List.mem_cons_self ..), ih fun x hx => h x (List.mem_cons_of_mem _ hx)]; rfl
def once (full : Nat → List Nat) (line : List Nat) (c : Nat) : List Nat := if c ∈ line then full c else [c]
theorem once_iff {full : Nat → List Nat} {line data : List Nat} (hnd : line.Nodup) (hm : ∀ c ∈ line, ∃ m ∈ full c, m ∉ line) (hd : ∀ c ∈ line, c ∈ data) :
    (data.flatMap (fun c => thru c (ltab full line)) = data.flatMap (once full line)) ↔ NoLater full line := by
  have hT : ∀ i, ∀ q ∈ ltab full (line.drop i), q.1 ∈ line ∧ ∃ m ∈ q.2, m ∉ line := fun i q hq => by
    obtain ⟨c, hc, rfl⟩ := List.mem_map.mp hq
    have hc := List.mem_of_mem_drop hc
    exact ⟨hc, hm c hc⟩
  have hle : ∀ c, wl line (once full line c) ≤ wl line (thru c (ltab full line)) := fun c => by
    unfold once
    by_cases h : c ∈ line
    · rw [if_pos h]
      obtain ⟨j, hj, e⟩ := thru_in (full := full) h
      rw [e, wl_flat]
      have : ∀ l : List Nat, wl line l ≤ (l.map fun x => wl line (thru x (ltab full (line.drop (j + 1))))).sum := by
        intro l
        induction l with
        | nil => exact Nat.le_refl _
        | cons a l ih =>
          rw [List.map_cons, List.sum_cons]
          have := (thru_wt (hT (j + 1)) a).1
          unfold wl at ih this ⊢
          rw [List.map_cons, List.sum_cons]; omega
      exact this _
    · rw [if_neg h]
      rw [thru_free (by rw [ltab_keys]; exact h)]; exact Nat.le_refl _
  constructor
  · intro e j c hj x hx hxd
    have hcl := List.mem_of_getElem? hj
    have e2 := congrArg (wl line) e
    rw [wl_flat, wl_flat] at e2
    have e3 := sum_eq_all data (fun c _ => hle c) e2.symm c (hd c hcl)
    obtain ⟨j', hj', e4⟩ := thru_in (full := full) hcl
    have hjj : j' = j := by
      have h1 := (List.getElem?_eq_some_iff.mp hj).1
      have h2 := (List.getElem?_eq_some_iff.mp hj').1
      exact (List.getElem_inj hnd).mp ((List.getElem?_eq_some_iff.mp hj').2.trans (List.getElem?_eq_some_iff.mp hj).2.symm)
    subst hjj
    rw [e4, wl_flat] at e3
    unfold once at e3
    rw [if_pos hcl] at e3
    have e5 := sum_eq_all (full c) (fun x _ => (thru_wt (hT (j' + 1)) x).1) e3 x hx
    have := (thru_wt (hT (j' + 1)) x).2 (by rw [ltab_keys]; exact hxd)
    omega
  · intro h
    congr 1
    funext c
    unfold once
    by_cases hc : c ∈ line
    · rw [if_pos hc]
      obtain ⟨j, hj, e⟩ := thru_in (full := full) hc
      rw [e]
      exact flat_self fun x hx => thru_free (by rw [ltab_keys]; exact h j c hj x hx)
    · rw [if_neg hc, thru_free (by rw [ltab_keys]; exact hc)]
/-! what the sorter is told -/
theorem prOf_mem (n m : Str) : ∀ (nds : List ((Str × Tok) × List (Str × Tok))), m ∈ prOf nds n ↔ ∃ q ∈ nds, q.1.1 = n ∧ m ∈ q.2.map (·.1) := by
  intro nds
  have key : ∀ (nds : List ((Str × Tok) × List (Str × Tok))) (pr : Str → List Str), m ∈ nds.foldl (fun pr q => addPr pr q.1.1 (q.2.map (·.1))) pr n ↔ m ∈ pr n ∨ ∃ q ∈ nds, q.1.1 = n ∧ m ∈ q.2.map (·.1) := by
    intro nds
    induction nds with
    | nil => intro pr; simp
    | cons q r ih =>
      intro pr
      rw [List.foldl_cons, ih]
      unfold addPr
      by_cases e : n = q.1.1
      · rw [if_pos e]
        simp only [List.mem_append, List.mem_cons, exists_eq_or_imp]
        constructor
        · rintro ((h | h) | h)
          · exact .inl h
          · exact .inr (.inl ⟨e.symm, h⟩)
          · exact .inr (.inr h)
        · rintro (h | h | h)
          · exact .inl (.inl h)
          · exact .inl (.inr h.2)
          · exact .inr h
      · rw [if_neg e]
        simp only [List.mem_cons, exists_eq_or_imp]
        constructor
        · rintro (h | h)
          · exact .inl h
          · exact .inr (.inr h)
        · rintro (h | h | h)
          · exact .inl h
          · exact absurd h.1.symm e
          · exact .inr h
  have := key nds fun _ => []
  unfold prOf
  rw [this]; simp
/-- the pairs: each sign, and the others of the line in its text -/
def NeedsOf (full : Nat → List Nat) (line : List Nat) (nds : List ((Str × Tok) × List (Str × Tok))) : Prop :=
  nds.map (fun q => (q.1.1, q.2.map (·.1))) = line.map fun c => (one c, ((full c).filter fun x => decide (x ≠ c) && decide (x ∈ line)).map one)
theorem letsB_iff {full : Nat → List Nat} {line : List Nat} {nds : List ((Str × Tok) × List (Str × Tok))} (hnd : line.Nodup) (h : NeedsOf full line nds) : Two.letsB (prOf nds) (line.map one) = true ↔ NoLater full line := by
  unfold Two.letsB
  rw [decide_eq_true_iff]
  have key : (∀ j, j < (line.map one).length → ∀ m ∈ prOf nds ((line.map one).getD j default), m ∈ (line.map one).take j) ↔ NoLater full line := by
    have split : ∀ j c x, line[j]? = some c → x ∈ line → (x ∈ line.take j ∨ x = c ∨ x ∈ line.drop (j + 1)) := fun j c x hj hx => by
      have h1 := (List.getElem?_eq_some_iff.mp hj).1
      have : line = line.take j ++ c :: line.drop (j + 1) := by
        conv => lhs; rw [← List.take_append_drop j line]
        rw [List.drop_eq_getElem_cons h1, (List.getElem?_eq_some_iff.mp hj).2]
      rw [this] at hx
      simpa using hx
    have apart : ∀ j c x, line[j]? = some c → x ∈ line.drop (j + 1) → x ∉ line.take j ∧ x ≠ c := fun j c x hj hx => by
      have h1 := (List.getElem?_eq_some_iff.mp hj).1
      have e : line = line.take j ++ c :: line.drop (j + 1) := by
        conv => lhs; rw [← List.take_append_drop j line]
        rw [List.drop_eq_getElem_cons h1, (List.getElem?_eq_some_iff.mp hj).2]
      rw [e] at hnd
      obtain ⟨_, h3, h4⟩ := List.nodup_append.mp hnd
      refine ⟨fun hm => h4 x hm x (List.mem_cons_of_mem _ hx) rfl, fun hc => ?_⟩
      subst hc
      exact (List.nodup_cons.mp h3).1 hx
    have pr : ∀ c m, c ∈ line → (m ∈ prOf nds (one c) ↔ ∃ x ∈ full c, x ≠ c ∧ x ∈ line ∧ one x = m) := fun c m hc => by
      rw [prOf_mem]
      constructor
      · rintro ⟨q, hq, e1, e2⟩
        have := List.mem_map_of_mem (f := fun q : (Str × Tok) × List (Str × Tok) => (q.1.1, q.2.map (·.1))) hq
        rw [h] at this
        obtain ⟨c', hc', e⟩ := List.mem_map.mp this
        simp only [Prod.mk.injEq] at e
        rw [e1] at e
        obtain rfl := one_inj.mp e.1
        rw [← e.2] at e2
        obtain ⟨x, hx, rfl⟩ := List.mem_map.mp e2
        have := List.mem_filter.mp hx
        simp only [ne_eq, Bool.and_eq_true, decide_eq_true_eq] at this
        exact ⟨x, this.1, this.2.1, this.2.2, rfl⟩
      · rintro ⟨x, hx, h1, h2, rfl⟩
        have : (one c, ((full c).filter fun x => decide (x ≠ c) && decide (x ∈ line)).map one) ∈ nds.map (fun q => (q.1.1, q.2.map (·.1))) := by
          rw [h]; exact List.mem_map_of_mem (f := fun c => (one c, ((full c).filter fun x => decide (x ≠ c) && decide (x ∈ line)).map one)) hc
        obtain ⟨q, hq, e⟩ := List.mem_map.mp this
        simp only [Prod.mk.injEq] at e
        refine ⟨q, hq, e.1, ?_⟩
        rw [e.2]
        exact List.mem_map_of_mem (List.mem_filter.mpr ⟨hx, by simp [h1, h2]⟩)
    have getD : ∀ j c, line[j]? = some c → (line.map one).getD j default = one c := fun j c hj => by simp [List.getD, hj]
    constructor
    · intro hl j c hj x hx hxd
      obtain ⟨a1, a2⟩ := apart j c x hj hxd
      have hjl := (List.getElem?_eq_some_iff.mp hj).1
      have := hl j (by rw [List.length_map]; exact hjl) (one x) (by
        rw [getD j c hj, pr c _ (List.mem_of_getElem? hj)]
        exact ⟨x, hx, a2, List.mem_of_mem_drop hxd, rfl⟩)
      rw [← List.map_take] at this
      obtain ⟨y, hy, e⟩ := List.mem_map.mp this
      rw [one_inj.mp e] at hy
      exact a1 hy
    · intro hl j hj m hm
      rw [List.length_map] at hj
      have hj' : line[j]? = some line[j] := List.getElem?_eq_getElem hj
      rw [getD j _ hj', pr _ _ (List.getElem_mem hj)] at hm
      obtain ⟨x, hx, h1, h2, rfl⟩ := hm
      rw [← List.map_take]
      refine List.mem_map_of_mem ?_
      rcases split j _ x hj' h2 with h3 | h3 | h3
      · exact h3
      · exact absurd h3 h1
      · exact absurd h3 (hl j _ hj' x hx)
  exact key
end Mine

open PySem PySem.Calls PyProof.Rows
set_option Elab.async false
set_option linter.unusedVariables false
set_option maxRecDepth 100000
namespace Mine
namespace Two
abbrev fdL : FuncData := fdF 16 .none pmL (.ref 194)
abbrev envL (L : Addr) : Env := callEnvC fdL L 195
def bodyOf (i : Nat) : List Stmt :=
  match PySem.Challenge.pw_dn0038_02.main.body[i]? with
  | some (.FunctionDef name args body dl ret tp scope ts b pos) => body
  | _ => []
def bodyL : List Stmt := bodyOf 16
abbrev mL (script number x rest signs sign text other pool data k at_once needs written plain : Option Value) : List (Str × Option Value) :=
  [("script", script), ("number", number), ("x", x), ("rest", rest), ("signs", signs), ("sign", sign), ("text", text), ("other", other), ("pool", pool), ("data", data), ("k", k), ("at_once", at_once), ("needs", needs), ("written", written), ("plain", plain)]
abbrev nL (L : Addr) (texts own full order table line : Option Value) : List (Addr × Cell) :=
  [(L + 6, cellC line), (L + 5, cellC table), (L + 4, cellC order), (L + 3, cellC full), (L + 2, cellC own), (L + 1, cellC texts)]
variable {C : Cx} {A : Around} {L : Addr}
theorem last_sign {r : Int} (h0 : 0 ≤ r) (h4 : r < 4) : ∃ e, e ∈ [67, 10, 9, 13] ∧ (Str.ofString "C\n\t\r").cps[r.toNat]? = some e := by
  have : r = 0 ∨ r = 1 ∨ r = 2 ∨ r = 3 := by omega
  rcases this with rfl | rfl | rfl | rfl
  · exact ⟨67, by decide, rfl⟩
  · exact ⟨10, by decide, rfl⟩
  · exact ⟨9, by decide, rfl⟩
  · exact ⟨13, by decide, rfl⟩
inductive Seg1I (G : Addr → Option Obj) (k : Nat) (l L : Addr) (i : Nat) : Pt → Prop
  | mk (nb : Int) (tn : Tok) (ox : Option Value) (h : Builtin.Int.intBits nb ≤ 2 ^ 20 + 8 * i) : Seg1I G k l L i ⟨G, mL (some (.ref l)) (some (.int nb tn)) ox none none none none none none none none none none none none, nL L none none none none none none, k⟩
theorem seg1 (H : Cx2 C) {d : Nat} (hR : Room A d) {l : Addr} {vs : List Value} {ns : List Int} {G : Addr → Option Obj} {k : Nat} {Q : Flow → Pt → Prop} (hl : ListAt G l vs) (hv : IntsAt vs ns) (hn : ns.length ≤ 63) (hb : ∀ n ∈ ns, Builtin.Int.intBits n ≤ 2 ^ 20)
    (h : ∀ G' k' (nb : Int) tn ox rest sl e (t1 t2 t3 : Nat), GLe G G' → 0 < t1 → t1 < k' → 0 < t2 → t2 < k' → 0 < t3 → t3 < k' → e ∈ [67, 10, 9, 13] → ListG G' sl (strValues [(one 65, t1), (one 46, t2), (one e, t3)]) →
      Run C A L (execs (bodyL.drop 4) (envL L)) ⟨G', mL (some (.ref l)) (some (.int nb tn)) ox rest (some (.ref sl)) none none none none none none none none none none, nL L none none none none none none, k'⟩ Q) :
    Run C A L (execs bodyL (envL L)) ⟨G, mL (some (.ref l)) none none none none none none none none none none none none none none, nL L none none none none none none, k⟩ Q := by
  have hvl := hv.1
  refine X_cons (X_Assign (E_intF fun t0 ht0 => storeLoc (.tail .head) ?_))
  replace ht0 : k ≤ t0 := ht0
  dsimp only
  refine X_cons (X_ForV (Seg1I G (t0 + 1) l L) (fun h => E_loc (v := .ref l) at0 h) (IterOn.list hR.hd hl) ⟨_, _, none, ?_⟩ ?_ ?_)
  · decide
  · intro i p₂ hi hI9
    refine hI9.casesOn ?_
    intro nb tn ox hz
    refine AsgRun.name fun v ⟨_, hvx⟩ => ?_
    have hin : i < ns.length := hvl ▸ hi
    obtain ⟨tv, e1⟩ := hv.2 i ns[i] (by simp [hin])
    rw [hvx] at e1; cases e1
    refine storeLoc (.tail (.tail .head)) ?_
    have h61 : Builtin.Int.intBits 61 ≤ 6 := by decide
    refine X_one (X_Assign (E_BinOp (E_BinOp (E_loc (v := .int nb tn) at1 (E_int fun t1 => B_mul (mulOk_of_bits hz h61 (by omega)) fun t2 => E_loc (v := .int ns[i] tv) at2 (B_add fun t3 => storeLoc (.tail .head) ?_))))))
    refine ⟨_, _, _, ?_⟩
    have h1 := bits_mul hz h61
    have h2 := bits_add h1 (hb ns[i] (List.getElem_mem hin))
    refine Nat.le_trans h2 ?_
    rw [Nat.max_eq_left (by omega)]; omega
  · intro p₂ hI9
    refine hI9.casesOn ?_
    intro nb tn ox hz
    refine X_nil ?_
    dsimp only
    refine X_cons (X_AssignT (E_callV (f := .builtin "divmod") (E_blt H.base at0) (E_items_cons (E_callV (f := .builtin "abs") (E_blt H.base at1) (E_items_cons (E_loc (v := .int nb tn) at1 (E_items_nil (R_abs fun tk => E_items_cons (E_int fun t2 => E_items_nil (R_divmod (by decide) (by decide) fun T G₁ u1 u2 hG₁ hT => AsgRun.pair hR.hd fun v h' hv =>
      ⟨T, _, _, hv, .inl hT, storeLoc (.tail .head) (storeLoc (.tail (.tail (.tail .head))) ?_)⟩))))))))))
    dsimp only
    generalize hr : (if nb < 0 then -nb else nb).fmod 4 = r
    have hr0 : 0 ≤ r := by rw [← hr]; exact Int.fmod_nonneg_of_pos _ (by decide)
    have hr4 : r < 4 := by rw [← hr]; exact Int.fmod_lt_of_pos _ (by decide)
    obtain ⟨e, he, hc⟩ := last_sign hr0 hr4
    refine X_cons (X_Assign (E_List (E_items_cons (E_str fun t3 h3 => E_items_cons (E_str fun t4 h4 => E_items_cons (E_Sb F.slot_str_getitem.lookup (E_str fun t5 h5 => E_loc (v := .int r u2) at3 ⟨HasTy.str, G_str hr0 (by omega) hc fun t6 h6 => E_items_nil ?_⟩)))))))
    replace h3 : t0 + 1 ≤ t3 := h3
    replace h4 : t3 + 1 ≤ t4 := h4
    replace h5 : t4 + 1 ≤ t5 := h5
    replace h6 : t5 + 1 ≤ t6 := h6
    refine newList_N (vs := strValues [(one 65, t3), (one 46, t4), (one e, t6)]) (by rw [sizeLine_eq]; simp [strValues]) fun sl => ?_
    refine Run.freeze .head fun os G₂ hcs hGe hne => ?_
    have hG₂ : GLe G₁ G₂ := by rw [hGe]; exact GLe.add hne
    have hsl : ListG G₂ sl (strValues [(one 65, t3), (one 46, t4), (one e, t6)]) := by rw [hGe]; exact ListG.new hcs
    clear hGe hcs
    refine storeLoc (.tail (.tail (.tail (.tail .head)))) ?_
    exact h G₂ (t6 + 1) _ _ _ _ sl e t3 t4 t6 (GLe.trans hG₁ hG₂) (by omega) (by omega) (by omega) (by omega) (by omega) (by omega) he hsl
end Two
end Mine

open PySem PySem.Calls PyProof.Rows
set_option Elab.async false
set_option linter.unusedVariables false
set_option maxRecDepth 100000
namespace Mine
/-- a dict of texts, their tokens in bounds -/
def TxE (lo k : Nat) (es : List Ent) (T : Tab) : Prop := ∀ q ∈ T, ∃ u : Nat, dget es (one q.1) = some (.str (tx q.2) u) ∧ lo ≤ u ∧ u < k
theorem TxE.mono {lo k k' : Nat} {es : List Ent} {T : Tab} (h : TxE lo k es T) (hk : k ≤ k') : TxE lo k' es T := fun q hq => let ⟨u, a, b, c⟩ := h q hq; ⟨u, a, b, Nat.lt_of_lt_of_le c hk⟩
namespace Two
variable {C : Cx} {A : Around} {L : Addr}
theorem pool_at {P : List (Str × Tok)} {cs : List Nat} (h : P.map (·.1) = cs.map one) {i : Nat} (hi : i < cs.length) : ∃ c t, c ∈ cs ∧ (strValues P)[i]? = some (.str (one c) t) := by
  have hl : P.length = cs.length := by simpa using congrArg List.length h
  have hi' : i < P.length := hl ▸ hi
  have h2 : (P.map (·.1))[i]? = (cs.map one)[i]? := by rw [h]
  rw [List.getElem?_map, List.getElem?_map, List.getElem?_eq_getElem hi, List.getElem?_eq_getElem hi'] at h2
  refine ⟨cs[i], P[i].2, List.getElem_mem hi, ?_⟩
  simp only [strValues, List.getElem?_map, List.getElem?_eq_getElem hi', Option.map_some] at h2 ⊢
  rw [Option.some.inj h2]
theorem mark_sign {i : Nat} (h : i < 3) : ∃ m, m ∈ [120, 92, 122] ∧ (Str.ofString "x\\z").cps[(i : Int).toNat]? = some m := by
  have : i = 0 ∨ i = 1 ∨ i = 2 := by omega
  rcases this with rfl | rfl | rfl
  · exact ⟨120, by decide, rfl⟩
  · exact ⟨92, by decide, rfl⟩
  · exact ⟨122, by decide, rfl⟩
inductive SegT (C : Cx) (L : Addr) (G : Addr → Option Obj) (k : Nat) (script ox : Option Value) (sl td : Addr) (e : Nat) : Nat → Pt → Prop
  | mk {i : Nat} (G' : Addr → Option Obj) (k' : Nat) (nb : Int) (tn : Tok) (rest sgn txt oth : Option Value) (es : List Ent) (T : Tab) (h1 : GLe G G') (h2 : k ≤ k') (h3 : es.map (·.1) = (T.map (·.1)).map one) (h4 : T.map (·.1) = [65, 46, e].take i) (h5 : ∀ q ∈ T, GoodT q.2) (h6 : TxE k k' es T) :
    SegT C L G k script ox sl td e i ⟨G', mL script (some (.int nb tn)) ox rest (some (.ref sl)) sgn txt oth none none none none none none none, (td, dictC C.w es) :: nL L (some (.ref td)) none none none none none, k'⟩
inductive SegT2 (C : Cx) (L : Addr) (G : Addr → Option Obj) (k k0 : Nat) (script ox sgn : Option Value) (sl td : Addr) (es : List Ent) (mk : Nat) : Nat → Pt → Prop
  | mk {j : Nat} (G₁ : Addr → Option Obj) (k₁ : Nat) (nb : Int) (tn : Tok) (rest oth : Option Value) (y : List Nat) (u : Nat) (h1 : GLe G G₁) (h2 : k ≤ k₁) (h3 : k0 ≤ u) (h4 : u < k₁) (h5 : y.length ≤ 1 + j) (h6 : mk ∈ y) (h7 : 113 ∉ y) :
    SegT2 C L G k k0 script ox sgn sl td es mk j ⟨G₁, mL script (some (.int nb tn)) ox rest (some (.ref sl)) sgn (some (.str (tx y) u)) oth none none none none none none none, (td, dictC C.w es) :: nL L (some (.ref td)) none none none none none, k₁⟩
set_option maxHeartbeats 1000000 in
theorem seg2 (H : Cx2 C) {d : Nat} (hR : Room A d) {script number ox rest : Option Value} {nb : Int} {tn : Tok} {sl : Addr} {e : Nat} {t1 t2 t3 : Nat} {G : Addr → Option Obj} {k : Nat} {Q : Flow → Pt → Prop} (he : e ∈ [67, 10, 9, 13])
    (hsl : ListG G sl (strValues [(one 65, t1), (one 46, t2), (one e, t3)]))
    (h : ∀ G' k' (nb : Int) tn rest sgn txt oth td es T, GLe G G' → k ≤ k' → DictG C.w G' td es → T.map (·.1) = [65, 46, e] → (∀ q ∈ T, GoodT q.2) → TxE k k' es T →
      Run C A L (execs (bodyL.drop 6) (envL L)) ⟨G', mL script (some (.int nb tn)) ox rest (some (.ref sl)) sgn txt oth none none none none none none none, nL L (some (.ref td)) none none none none none, k'⟩ Q) :
    Run C A L (execs (bodyL.drop 4) (envL L)) ⟨G, mL script (some (.int nb tn)) ox rest (some (.ref sl)) none none none none none none none none none none, nL L none none none none none none, k⟩ Q := by
  have he' : e ≠ 65 ∧ e ≠ 46 := (show ∀ e ∈ [67, 10, 9, 13], e ≠ 65 ∧ e ≠ 46 by decide) e he
  refine X_cons (X_Assign (E_Dict0 fun td htd => storeCell (c := L + 1) (.tail (.tail (.tail (.tail (.tail (.tail .head)))))) rfl ?_))
  dsimp only
  have hsy := ne_sys H htd
  refine X_cons (X_ForV (SegT C L G k script ox sl td e) (fun h => E_loc (v := .ref sl) at4 h) (IterOn.list hR.hd hsl.at) ⟨G, k, nb, tn, rest, none, none, none, [], [], GLe.refl _, Nat.le_refl _, rfl, rfl, (fun _ h => nomatch h), fun _ h => nomatch h⟩ ?_ ?_)
  · intro i p₂ hi hI9
    refine hI9.casesOn ?_
    intro G' k' nb tn rest sgn txt oth es T hG' hk' hes hT hgood htx
    replace hi : i < 3 := hi
    refine AsgRun.name fun v ⟨_, hvx⟩ => storeLoc (.tail (.tail (.tail (.tail (.tail .head))))) (Run.abs fun Q1 hQ1 => ?_)
    dsimp only at hQ1 ⊢
    have hTl : T.length = i := by
      have := congrArg List.length hT
      rw [List.length_map, List.length_take] at this
      exact this.trans (Nat.min_eq_left (Nat.le_of_lt hi))
    have hel : es.length = i := by have := congrArg List.length hes; simpa [hTl] using this
    obtain ⟨c, ts, hc, rfl⟩ : ∃ c ts, [65, 46, e][i]? = some c ∧ v = .str (one c) ts := by
      have : i = 0 ∨ i = 1 ∨ i = 2 := by omega
      rcases this with rfl | rfl | rfl
      · exact ⟨65, t1, rfl, (Option.some.inj hvx).symm⟩
      · exact ⟨46, t2, rfl, (Option.some.inj hvx).symm⟩
      · exact ⟨e, t3, rfl, (Option.some.inj hvx).symm⟩
    obtain ⟨mk, hmk, hmc⟩ := mark_sign hi
    refine X_cons (X_Assign (E_Sb F.slot_str_getitem.lookup (E_str fun t4 h4 => E_callV (f := .builtin "len") (E_blt H.base at2) (E_items_cons (E_cell (c := L + 1) at6 rfl (E_items_nil (R_len_dictN hsy at0 (by omega) fun tk => ⟨HasTy.str, G_str (c := mk) (by omega) (by omega) (by rw [hel]; exact hmc) fun u5 h5 => storeLoc (.tail (.tail (.tail (.tail (.tail (.tail .head)))))) ?_⟩)))))))
    replace h4 : k' ≤ t4 := h4
    replace h5 : t4 + 1 ≤ u5 := h5
    dsimp only
    refine X_cons (X_For (SegT2 C L G' k' k script ox (some (.str (one c) ts)) sl td es mk) (Run.fz (E_BinOp (E_loc (v := .ref sl) at4 (E_listS (xs := [one 10, one 13, one 9, one 39, one 34, one 38, one 60]) fun bl bs G₂ k₂ hG₂ hk₂ hbs _ hbl => ?_)))))
    replace hk₂ : u5 + 1 ≤ k₂ := hk₂
    have hbl7 : bs.length = 7 := by simpa using congrArg List.length hbs
    refine B_addL ((hsl.mono hG').mono hG₂) hbl (by rw [sizeLine_eq]; simp [strValues, hbl7]) fun w => ⟨w, _, _, .head, fun ow cw nw => ⟨(strValues [(one 65, t1), (one 46, t2), (one e, t3)] ++ strValues bs).length, _, IterOn.list (vs := strValues [(one 65, t1), (one 46, t2), (one e, t3)] ++ strValues bs) hR.hd (ListG.new cw).at, ?_, ?_, ?_⟩⟩
    · exact ⟨_, k₂, nb, tn, rest, oth, [mk], u5, GLe.trans hG₂ (GLe.add nw), by omega, by omega, by omega, Nat.le_refl _, by simp, fun hm => by
        rw [← List.mem_singleton.mp hm] at hmk; exact absurd hmk (by decide)⟩
    · intro j p₂ hj hI9 _
      refine hI9.casesOn ?_
      intro G₁ k₁ nb tn rest oth y u hG₁ hk₁ hku huk hyl hym hyq
      have hj : j < 10 := by simpa [strValues, hbl7] using hj
      refine AsgRun.name fun v ⟨_, hvx⟩ => storeLoc (.tail (.tail (.tail (.tail (.tail (.tail (.tail .head))))))) (Run.abs fun Q2 hQ2 => ?_)
      dsimp only at hQ2 ⊢
      obtain ⟨c', tc, hc', rfl⟩ : ∃ c' tc, c' ≠ 113 ∧ v = .str (one c') tc := by
        have hall : ([(one 65, t1), (one 46, t2), (one e, t3)] ++ bs : List (Str × Tok)).map (·.1) = [65, 46, e, 10, 13, 9, 39, 34, 38, 60].map one := by rw [List.map_append, hbs]; rfl
        obtain ⟨c', tc, hm, hcv⟩ := pool_at hall (i := j) hj
        rw [strValues, List.map_append] at hcv
        refine ⟨c', tc, ?_, Option.some.inj (hvx.symm.trans hcv)⟩
        have key : ∀ e ∈ [67, 10, 9, 13], ∀ c ∈ [65, 46, e, 10, 13, 9, 39, 34, 38, 60], c ≠ 113 := by decide
        exact key e he c' hm
      refine X_cons (X_AssignT (E_callV (f := .builtin "divmod") (E_blt H.base at0) (E_items_cons (E_loc (v := .int nb tn) at1 (E_items_cons (E_int fun t2 => E_items_nil (R_divmod (by decide) (by decide) fun Tu G₃ u1 u2 hG₃ hTu => AsgRun.pair hR.hd fun v h' hv =>
        ⟨Tu, _, _, hv, .inl hTu, storeLoc (.tail .head) (storeLoc (.tail (.tail (.tail .head))) ?_)⟩)))))))
      dsimp only
      generalize nb.fmod 6 = r
      refine X_one (X_If (T_Cmp (E_loc (v := .int r u2) at3 (E_int fun t5 => C_eqI (truthy_bool ?_)))))
      by_cases h5 : r = 5
      · rw [show (r == 5) = true from by rw [h5]; rfl, if_pos rfl]
        refine X_one (X_Assign (E_BinOp (E_loc (v := .str (tx y) u) at6 (E_loc (v := .str (one c') tc) at7 (B_addSF ?_ (by rw [one_len]; decide) (by rw [tx_len, one_len, sizeLine_eq]; omega) fun tk htk => storeLoc (.tail (.tail (.tail (.tail (.tail (.tail .head)))))) ?_)))))
        · rw [tx_len]; exact fun e0 => by rw [List.length_eq_zero_iff.mp e0] at hym; cases hym
        · replace htk : k₁ ≤ tk := htk
          rw [show tx y ++ one c' = tx (y ++ [c']) from by rw [one_tx, tx_append]]
          refine hQ2 _ _ ⟨G₃, tk + 1, _, _, _, _, y ++ [c'], tk, GLe.trans hG₁ hG₃, by omega, by omega, by omega, ?_, by simp [hym], ?_⟩
          · simp only [List.length_append, List.length_cons, List.length_nil]; omega
          · simp only [List.mem_append, List.mem_singleton, not_or]; exact ⟨hyq, fun e0 => hc' e0.symm⟩
      · rw [show (r == 5) = false from beq_eq_false_iff_ne.mpr h5, if_neg Bool.false_ne_true]
        refine X_nil ?_
        exact hQ2 _ _ ⟨G₃, k₁, _, _, _, _, y, u, GLe.trans hG₁ hG₃, hk₁, hku, huk, by omega, hym, hyq⟩
    · intro p₂ hI9 _
      refine hI9.casesOn ?_
      intro G₁ k₁ nb tn rest oth y u hG₁ hk₁ hku huk hyl hym hyq
      have hyl : y.length ≤ 1 + 10 := by simpa [strValues, hbl7] using hyl
      refine X_nil ?_
      dsimp only
      have hcT : c ∉ T.map (·.1) := by
        rw [hT]
        have : i = 0 ∨ i = 1 ∨ i = 2 := by omega
        rcases this with rfl | rfl | rfl
        · simp
        · cases hc; simp
        · cases hc; simp; omega
      have hce : one c ∉ es.map (·.1) := by
        rw [hes]; intro hm
        obtain ⟨z, hz, e0⟩ := List.mem_map.mp hm
        exact hcT (one_inj.mp e0 ▸ hz)
      refine X_one (X_AssignSub (E_loc (v := .str (tx y) u) at6 (E_cell (c := L + 1) at6 rfl (E_loc (v := .str (one c) ts) at5 (S_dict .head (by rw [hel, sizeLine_eq]; omega) ?_)))))
      refine hQ1 _ _ ⟨G₁, k₁, nb, tn, rest, _, _, oth, dput es (one c) ts (.str (tx y) u), T ++ [(c, y)], GLe.trans hG' hG₁, Nat.le_trans hk' hk₁, ?_, ?_, ?_, ?_⟩
      · rw [dput_none hce]; simp [hes]
      · rw [List.map_append, hT]
        have : i = 0 ∨ i = 1 ∨ i = 2 := by omega
        rcases this with rfl | rfl | rfl <;> (cases hc; rfl)
      · intro q hq
        rcases List.mem_append.mp hq with hq | hq
        · exact hgood q hq
        · rw [List.mem_singleton.mp hq]
          exact ⟨by show y.length ≤ 11; omega, ⟨mk, hym, hmk⟩, hyq⟩
      · intro q hq
        rw [dget_dput]
        rcases List.mem_append.mp hq with hq | hq
        · have hne : ¬ one c = one q.1 := fun e0 => hcT (by rw [one_inj.mp e0]; exact List.mem_map_of_mem (f := (·.1)) hq)
          rw [if_neg hne]
          exact htx.mono hk₁ q hq
        · rw [List.mem_singleton.mp hq, if_pos rfl]
          exact ⟨u, rfl, hku, huk⟩
  · intro p₂ hI9
    refine hI9.casesOn ?_
    intro G' k' nb tn rest sgn txt oth es T hG' hk' hes hT hgood htx
    refine X_nil ?_
    dsimp only
    refine Run.freeze .head fun od G₂ cd hGe hne => ?_
    refine h G₂ k' nb tn rest sgn txt oth td es T (by rw [hGe]; exact GLe.trans hG' (GLe.add hne)) hk' ⟨hsy, od, by rw [hGe]; exact addG_self, cd⟩ hT hgood htx
end Two
end Mine

open PySem PySem.Calls PyProof.Rows
set_option Elab.async false
set_option linter.unusedVariables false
set_option maxRecDepth 100000
namespace Mine
namespace Two
variable {C : Cx} {A : Around} {L : Addr}
def poolOf (e : Nat) : List Nat := [38, 62, 60, 65, 46, e, 10, 13, 9]
structure DataOk (e : Nat) (d : List Nat) : Prop where
  all : ∀ c ∈ poolOf e, c ∈ d
  noq : 113 ∉ d
  len : d.length ≤ 30
def preOf (e : Nat) : List Nat := [38, 124, 62, 124, 60, 124, 65, 124, 46, 124, e, 124, 10, 124, 13, 124, 9]
theorem data0 : ∀ e ∈ [67, 10, 9, 13], (∀ c ∈ poolOf e, c ∈ preOf e ++ [124, 38, 97, 109, 112, 59, 124]) ∧ 113 ∉ preOf e ++ [124, 38, 97, 109, 112, 59, 124] ∧ (preOf e ++ [124, 38, 97, 109, 112, 59, 124]).length ≤ 24 ∧ 113 ∉ poolOf e := by decide
theorem pool_own : ∀ e ∈ [67, 10, 9, 13], ∀ c ∈ poolOf e, c ∉ ownAll.map (·.1) → c ∈ [65, 46, e] := by decide
inductive Seg3I (G : Addr → Option Obj) (k : Nat) (L : Addr) (script ox sgn txt oth : Option Value) (sl td pl : Addr) (e : Nat) (i : Nat) : Pt → Prop
  | mk (G' : Addr → Option Obj) (nb : Int) (tn : Tok) (rest kk : Option Value) (dt : List Nat) (td' : Tok) (h0 : GLe G G') (h1 : ∀ c ∈ poolOf e, c ∈ dt) (h2 : 113 ∉ dt) (h3 : dt.length ≤ 26 + i) :
    Seg3I G k L script ox sgn txt oth sl td pl e i ⟨G', mL script (some (.int nb tn)) ox rest (some (.ref sl)) sgn txt oth (some (.ref pl)) (some (.str (tx dt) td')) kk none none none none, nL L (some (.ref td)) none none none none none, k⟩
theorem glued_pool {e : Nat} (he : e ∈ [67, 10, 9, 13]) : Builtin.Str.glued (Str.ofString "|") ((poolOf e).map one) = tx (preOf e) := by
  simp only [List.mem_cons, List.not_mem_nil, or_false] at he
  rcases he with rfl | rfl | rfl | rfl <;> rfl
theorem tail_quote {r : Int} (h0 : 0 ≤ r) (h4 : r < 4) {P : List (Str × Tok)} (hP : P.map (·.1) = ([[], [39], [34], [34, 39]] : List (List Nat)).map tx) : ∃ q t, q.length ≤ 2 ∧ 113 ∉ q ∧ (strValues P)[r.toNat]? = some (.str (tx q) t) := by
  have hl : P.length = 4 := by simpa using congrArg List.length hP
  have hi : r.toNat < P.length := by omega
  have hi' : r.toNat < ([[], [39], [34], [34, 39]] : List (List Nat)).length := by show r.toNat < 4; omega
  have h2 : (P.map (·.1))[r.toNat]? = (([[], [39], [34], [34, 39]] : List (List Nat)).map tx)[r.toNat]? := by rw [hP]
  rw [List.getElem?_map, List.getElem?_map, List.getElem?_eq_getElem hi, List.getElem?_eq_getElem hi'] at h2
  have key : ∀ q ∈ ([[], [39], [34], [34, 39]] : List (List Nat)), q.length ≤ 2 ∧ 113 ∉ q := by decide
  obtain ⟨k1, k2⟩ := key _ (List.getElem_mem hi')
  refine ⟨_, P[r.toNat].2, k1, k2, ?_⟩
  rw [strValues, List.getElem?_map, List.getElem?_eq_getElem hi, Option.map_some, show P[r.toNat].1 = _ from Option.some.inj h2]
set_option maxHeartbeats 1000000 in
theorem seg3 (H : Cx2 C) {d : Nat} (hR : Room A d) {script ox rest sgn txt oth : Option Value} {nb : Int} {tn : Tok} {sl td : Addr} {e : Nat} {t1 t2 t3 : Nat} {G : Addr → Option Obj} {k : Nat} {Q : Flow → Pt → Prop} (he : e ∈ [67, 10, 9, 13])
    (hsl : ListG G sl (strValues [(one 65, t1), (one 46, t2), (one e, t3)]))
    (h : ∀ G' k' number rest kk pl P dt td', GLe G G' → k ≤ k' → ListG G' pl (strValues P) → P.map (·.1) = (poolOf e).map one → DataOk e dt →
      Run C A L (execs (bodyL.drop 10) (envL L)) ⟨G', mL script number ox rest (some (.ref sl)) sgn txt oth (some (.ref pl)) (some (.str (tx dt) td')) kk none none none none, nL L (some (.ref td)) none none none none none, k'⟩ Q) :
    Run C A L (execs (bodyL.drop 6) (envL L)) ⟨G, mL script (some (.int nb tn)) ox rest (some (.ref sl)) sgn txt oth none none none none none none none, nL L (some (.ref td)) none none none none none, k⟩ Q := by
  refine X_cons (X_Assign (E_BinOp (E_BinOp (E_listS (xs := [one 38, one 62, one 60]) fun w1 c1 G₁ k₁ hG₁ hk₁ hc1 _ hw1 => ?_))))
  have hc1l : c1.length = 3 := by simpa using congrArg List.length hc1
  refine E_loc (v := .ref sl) at4 (B_addLQ hw1 (hsl.mono hG₁) (by rw [sizeLine_eq]; simp [strValues, hc1l]) fun w2 => ?_)
  refine Run.freezeQ fun G₂ hG₂ z2 => ?_
  have hw2 : ListG G₂ w2 (strValues c1 ++ strValues [(one 65, t1), (one 46, t2), (one e, t3)]) := .ofQ z2
  refine E_listS (xs := [one 10, one 13, one 9]) fun w3 c3 G₃ k₃ hG₃ hk₃ hc3 _ hw3 => ?_
  have hc3l : c3.length = 3 := by simpa using congrArg List.length hc3
  refine B_addLQ (hw2.mono hG₃) hw3 (by rw [sizeLine_eq]; simp [strValues, hc1l, hc3l]) fun pl => ?_
  refine Run.freezeQ fun G₄ hG₄ z4 => storeLoc (.tail (.tail (.tail (.tail (.tail (.tail (.tail (.tail .head)))))))) ?_
  obtain ⟨P, hP, hpl⟩ : ∃ P : List (Str × Tok), P.map (·.1) = (poolOf e).map one ∧ ListG G₄ pl (strValues P) := by
    refine ⟨c1 ++ [(one 65, t1), (one 46, t2), (one e, t3)] ++ c3, by rw [List.map_append, List.map_append, hc1, hc3]; rfl, ?_⟩
    have : ListG G₄ pl (strValues c1 ++ strValues [(one 65, t1), (one 46, t2), (one e, t3)] ++ strValues c3) := .ofQ z4
    simpa only [strValues, List.map_append] using this
  have g4 : GLe G G₄ := GLe.trans hG₁ (GLe.trans hG₂ (GLe.trans hG₃ hG₄))
  have hPl : P.length = 9 := by have := congrArg List.length hP; simpa [poolOf] using this
  dsimp only
  refine X_cons (X_AssignT (E_callV (f := .builtin "divmod") (E_blt H.base at0) (E_items_cons (E_loc (v := .int nb tn) at1 (E_items_cons (E_int fun t2 => E_items_nil (R_divmod (by decide) (by decide) fun Tu G₅ u1 u2 hG₅ hTu => AsgRun.pair hR.hd fun v h' hv =>
    ⟨Tu, _, _, hv, .inl hTu, storeLoc (.tail .head) (storeLoc (.tail (.tail (.tail .head))) ?_)⟩)))))))
  dsimp only
  generalize hr : nb.fmod 4 = r
  have hr0 : 0 ≤ r := by rw [← hr]; exact Int.fmod_nonneg_of_pos _ (by decide)
  have hr4 : r < 4 := by rw [← hr]; exact Int.fmod_lt_of_pos _ (by decide)
  refine X_cons (X_Assign (E_BinOp (E_BinOp (E_meth F.slot_str_join F.plainAttrs_str F.type_str_join (E_strQ fun tk htk => ⟨HasT.str, E_items_cons (E_loc (v := .ref pl) at8 (E_items_nil (R_join (.inl (hpl.mono hG₅).at) ?_ ?_ (fun q hq => absurd (congrArg List.length hq) (by rw [hPl]; simp)) fun _ u3 h3 => E_strQ fun u4 h4 => B_addT (x := preOf e) (y := [124, 38, 97, 109, 112, 59, 124]) ?_ rfl (by simp [preOf]) fun u5 => ?_)))⟩)))))
  · rw [hP]; rfl
  · rw [hP, glued_pool he, tx_len, sizeLine_eq]; simp [preOf]
  · rw [hP, glued_pool he]
  refine E_Sb F.slot_list_getitem.lookup (E_listS (xs := ([[], [39], [34], [34, 39]] : List (List Nat)).map tx) fun w5 c5 G₆ k₆ hG₆ hk₆ hc5 _ hw5 => ?_)
  obtain ⟨q, tq, hq1, hq2, hq3⟩ := tail_quote hr0 hr4 hc5
  refine E_loc (v := .int r u2) at3 ⟨HasTy.listG hw5, G_list (.inl hw5.at) hr0 (by omega) hq3 (B_addT (y := q) rfl rfl (by simp [preOf]; omega) fun u7 => storeLoc (.tail (.tail (.tail (.tail (.tail (.tail (.tail (.tail (.tail .head))))))))) ?_)⟩
  have hD : (∀ c ∈ poolOf e, c ∈ preOf e ++ [124, 38, 97, 109, 112, 59, 124] ++ q) ∧ 113 ∉ preOf e ++ [124, 38, 97, 109, 112, 59, 124] ++ q ∧ (preOf e ++ [124, 38, 97, 109, 112, 59, 124] ++ q).length ≤ 26 := by
    obtain ⟨d1, d2, d3, _⟩ := data0 e he
    exact ⟨fun c hc => List.mem_append_left _ (d1 c hc), fun hm => (List.mem_append.mp hm).elim d2 hq2, by rw [List.length_append]; omega⟩
  generalize preOf e ++ [124, 38, 97, 109, 112, 59, 124] ++ q = dt at hD
  dsimp only
  replace h4 : u3 + 1 ≤ u4 := h4
  replace h3 : tk + 1 ≤ u3 := h3
  replace htk : k₃ ≤ tk := htk
  replace hk₃ : k₁ ≤ k₃ := hk₃
  replace hk₁ : k ≤ k₁ := hk₁
  replace hk₆ : u4 + 1 ≤ k₆ := hk₆
  have hk4 : k ≤ k₆ := by omega
  have g6 : GLe G G₆ := GLe.trans g4 (GLe.trans hG₅ hG₆)
  replace hpl := (hpl.mono hG₅).mono hG₆
  generalize nb.fdiv 4 = nb
  refine X_cons (X_For (Seg3I G₆ k₆ L script ox sgn txt oth sl td pl e)
    (E_callV (f := .type "range") (E_blt H.base at3) (E_items_cons (E_int fun t5 => E_items_nil (R_range (n := 4) fun rg G₇ hG₇ hrg => ⟨4, _, IterOn.range hR.hd hrg (by omega), ⟨G₇, _, _, _, _, dt, _, hG₇, hD.1, hD.2.1, hD.2.2⟩, ?_, ?_⟩)))))
  · intro i p₂ hi hI9 _
    refine hI9.casesOn ?_
    intro G' nb tn rest kk dt td' hG' h1 h2 h3
    refine AsgRun.name fun v ⟨_, t6, hv⟩ => storeLoc (.tail (.tail (.tail (.tail (.tail (.tail (.tail (.tail (.tail (.tail .head)))))))))) ?_
    dsimp only
    have hl9 : (((strValues P).length : Nat) : Int) = 9 := by simp [strValues, hPl]
    refine X_cons (X_AssignT (E_callV (f := .builtin "divmod") (E_blt H.base at0) (E_items_cons (E_loc (v := .int nb tn) at1 (E_items_cons (E_callV (f := .builtin "len") (E_blt H.base at2) (E_items_cons (E_loc (v := .ref pl) at8 (E_items_nil (R_len_list (.inl (hpl.mono hG').at) (by simp [strValues]; omega) fun tk => E_items_nil (R_divmod (by rw [hl9]; decide) (by rw [hl9]; decide) fun Tu G₈ u1 u2 hG₈ hTu => AsgRun.pair hR.hd fun v h' hv =>
      ⟨Tu, _, _, hv, .inl hTu, storeLoc (.tail .head) (storeLoc (.tail (.tail (.tail .head))) ?_)⟩)))))))))))
    dsimp only
    rw [hl9]
    generalize hr' : nb.fmod 9 = r'
    have hr0' : 0 ≤ r' := by rw [← hr']; exact Int.fmod_nonneg_of_pos _ (by decide)
    have hr9 : r' < 9 := by rw [← hr']; exact Int.fmod_lt_of_pos _ (by decide)
    obtain ⟨c, tc, hc, hcv⟩ := pool_at hP (i := r'.toNat) (by simp [poolOf]; omega)
    refine X_one (X_Assign (E_BinOp (E_loc (v := .str (tx dt) td') at9 (E_Sb F.slot_list_getitem.lookup (E_loc (v := .ref pl) at8 (E_loc (v := .int r' u2) at3 ⟨HasTy.listG ((hpl.mono hG').mono hG₈), G_list (.inl ((hpl.mono hG').mono hG₈).at) hr0' (by omega) hcv (B_addT (y := [c]) rfl rfl (by simp; omega) fun u9 => storeLoc (.tail (.tail (.tail (.tail (.tail (.tail (.tail (.tail (.tail .head))))))))) ?_)⟩))))))
    refine ⟨G₈, _, _, _, _, dt ++ [c], u9, GLe.trans hG' hG₈, fun x hx => List.mem_append_left _ (h1 x hx), ?_, ?_⟩
    · simp only [List.mem_append, List.mem_singleton, not_or]
      exact ⟨h2, fun e0 => (data0 e he).2.2.2 (e0 ▸ hc)⟩
    · simp only [List.length_append, List.length_cons, List.length_nil]; omega
  · intro p₂ hI9 _
    refine hI9.casesOn ?_
    intro G' nb tn rest kk dt td' hG' h1 h2 h3
    refine X_nil ?_
    exact h G' k₆ _ rest kk pl P dt td' (GLe.trans g6 hG') hk4 (hpl.mono hG') hP ⟨h1, h2, h3⟩
end Two
end Mine

open PySem PySem.Calls PyProof.Rows
set_option Elab.async false
set_option linter.unusedVariables false
set_option maxRecDepth 100000
namespace Mine
section
variable {C : Cx} {A : Around} {L : Addr} {env : Env} {p : Pt}
theorem E_Dict6 {a1 a2 a3 a4 a5 a6 b1 b2 b3 b4 b5 b6 : Expr} {pos : Pos} {Q : Value → Pt → Prop}
    (h : Run C A L (subDict [(eval a1 env, do let x ← eval b1 env; PySem.standAt pos; Pure.pure x), (eval a2 env, do let x ← eval b2 env; PySem.standAt pos; Pure.pure x), (eval a3 env, do let x ← eval b3 env; PySem.standAt pos; Pure.pure x),
      (eval a4 env, do let x ← eval b4 env; PySem.standAt pos; Pure.pure x), (eval a5 env, do let x ← eval b5 env; PySem.standAt pos; Pure.pure x), (eval a6 env, do let x ← eval b6 env; PySem.standAt pos; Pure.pure x)]) p fun d p₁ => Q (.ref d) p₁) :
    Run C A L (eval (.Dict [some a1, some a2, some a3, some a4, some a5, some a6] [b1, b2, b3, b4, b5, b6] pos) env) p Q := E_DictP rfl (by simp) (by simp) h
theorem R_pairs_strQ {x y : Str} {n1 n2 : Nat} {q1 q2 pos : Pos} {rest : List (Sem Value × Sem Value)} {G : Addr → Option Obj} {m : List (Str × Option Value)} {N : List (Addr × Cell)} {k : Nat} {Q : List (Value × Value) → Pt → Prop}
    (h : ∀ t u : Nat, k ≤ t → t < u → Run C A L (evalPairs rest) ⟨G, m, N, u + 1⟩ fun vs p₃ => Q ((.str x t, .str y u) :: vs) p₃) :
    Run C A L (evalPairs ((eval (.Constant (.str x) n1 q1) env, do let x ← eval (.Constant (.str y) n2 q2) env; PySem.standAt pos; Pure.pure x) :: rest)) ⟨G, m, N, k⟩ Q :=
  R_pairs_cons (E_strQ fun t h1 => R_thenAt (E_strQ fun u h2 => h t u h1 h2))
theorem R_six {x1 x2 x3 x4 x5 x6 y1 y2 y3 y4 y5 y6 : Str} {n1 n2 n3 n4 n5 n6 n7 n8 n9 n10 n11 n12 : Nat} {q1 q2 q3 q4 q5 q6 q7 q8 q9 q10 q11 q12 pos : Pos} {G : Addr → Option Obj} {m : List (Str × Option Value)} {N : List (Addr × Cell)} {k : Nat} {Q : Addr → Pt → Prop} (hn : nd [x1, x2, x3, x4, x5, x6] = true)
    (h : ∀ d (t1 u1 t2 u2 t3 u3 t4 u4 t5 u5 t6 u6 : Nat), Fresh C d → k ≤ t1 → t1 < u1 → u1 < t2 → t2 < u2 → u2 < t3 → t3 < u3 → u3 < t4 → t4 < u4 → u4 < t5 → t5 < u5 → u5 < t6 → t6 < u6 →
      Q d ⟨G, m, (d, dictC C.w [(x1, t1, .str y1 u1), (x2, t2, .str y2 u2), (x3, t3, .str y3 u3), (x4, t4, .str y4 u4), (x5, t5, .str y5 u5), (x6, t6, .str y6 u6)]) :: N, u6 + 1⟩) :
    Run C A L (subDict [(eval (.Constant (.str x1) n1 q1) env, do let x ← eval (.Constant (.str y1) n2 q2) env; PySem.standAt pos; Pure.pure x), (eval (.Constant (.str x2) n3 q3) env, do let x ← eval (.Constant (.str y2) n4 q4) env; PySem.standAt pos; Pure.pure x),
      (eval (.Constant (.str x3) n5 q5) env, do let x ← eval (.Constant (.str y3) n6 q6) env; PySem.standAt pos; Pure.pure x), (eval (.Constant (.str x4) n7 q7) env, do let x ← eval (.Constant (.str y4) n8 q8) env; PySem.standAt pos; Pure.pure x),
      (eval (.Constant (.str x5) n9 q9) env, do let x ← eval (.Constant (.str y5) n10 q10) env; PySem.standAt pos; Pure.pure x), (eval (.Constant (.str x6) n11 q11) env, do let x ← eval (.Constant (.str y6) n12 q12) env; PySem.standAt pos; Pure.pure x)]) ⟨G, m, N, k⟩ Q := by
  refine R_subDict (by simp) fun d hd hdN => ?_
  refine R_pairs_strQ fun t1 u1 a1 b1 => R_pairs_strQ fun t2 u2 a2 b2 => R_pairs_strQ fun t3 u3 a3 b3 => R_pairs_strQ fun t4 u4 a4 b4 => R_pairs_strQ fun t5 u5 a5 b5 => R_pairs_strQ fun t6 u6 a6 b6 => R_pairs_nil ?_
  refine ⟨[(x1, t1, .str y1 u1), (x2, t2, .str y2 u2), (x3, t3, .str y3 u3), (x4, t4, .str y4 u4), (x5, t5, .str y5 u5), (x6, t6, .str y6 u6)], _, rfl, by simp, ?_, h d t1 u1 t2 u2 t3 u3 t4 u4 t5 u5 t6 u6 hd a1 b1 a2 b2 a3 b3 a4 b4 a5 b5 a6 b6⟩
  rw [dputs_nil (by simpa using nodup_of hn)]
  exact .head
end
theorem kget_mem {T : Tab} {c : Nat} : c ∈ T.map (·.1) → ∃ y, kget T c = some y ∧ (c, y) ∈ T := by
  induction T with
  | nil => intro h; cases h
  | cons q r ih =>
    intro h
    unfold kget
    by_cases e : q.1 = c
    · rw [if_pos e]; exact ⟨q.2, rfl, by rw [← e]; exact List.mem_cons_self ..⟩
    · rw [if_neg e]
      rcases List.mem_cons.mp h with h | h
      · exact absurd h.symm e
      · obtain ⟨y, h1, h2⟩ := ih h; exact ⟨y, h1, List.mem_cons_of_mem _ h2⟩
/-- the own texts -/
def OwnE (es : List Ent) : Prop := ∀ c, (kget ownAll c = none → dget es (one c) = none) ∧ ∀ y, kget ownAll c = some y → ∃ u, dget es (one c) = some (.str (tx y) u)
/-- the full texts of some signs -/
def FullE (f : Nat → List Nat) (cs : List Nat) (es : List Ent) : Prop := ∀ c, (c ∈ cs → ∃ u, dget es (one c) = some (.str (tx (fullOf f c)) u)) ∧ (c ∉ cs → dget es (one c) = none)
def fT (T : Tab) (c : Nat) : List Nat := (kget T c).getD []
namespace Two
variable {C : Cx} {A : Around} {L : Addr}
theorem once_len {f : Nat → List Nat} {cs : List Nat} (h : ∀ c ∈ cs, (fullOf f c).length ≤ 11) (c : Nat) : (once (fullOf f) cs c).length ≤ 11 := by
  unfold once
  split
  · rename_i hc; exact h c hc
  · simp
theorem fT_len {T : Tab} (h : ∀ q ∈ T, GoodT q.2) (c : Nat) : (fT T c).length ≤ 11 := by
  unfold fT
  cases e : kget T c with
  | none => simp
  | some y =>
    have hc : c ∈ T.map (·.1) := by
      by_cases hc : c ∈ T.map (·.1)
      · exact hc
      · rw [kget_none.mpr hc] at e; cases e
    obtain ⟨y', h1, h2⟩ := kget_mem hc
    rw [e] at h1; cases h1
    exact (h _ h2).len
inductive Seg4I (C : Cx) (G : Addr → Option Obj) (k : Nat) (m : Option Value → List (Str × Option Value)) (N : List (Addr × Cell)) (fd : Addr) (f : Nat → List Nat) (cs : List Nat) (i : Nat) : Pt → Prop
  | mk (G' : Addr → Option Obj) (k' : Nat) (sgn : Option Value) (ef : List Ent) (h1 : GLe G G') (h2 : k ≤ k') (h3 : FullE f (cs.take i) ef) (h4 : ef.length ≤ i) : Seg4I C G k m N fd f cs i ⟨G', m sgn, (fd, dictC C.w ef) :: N, k'⟩
set_option maxHeartbeats 1000000 in
theorem seg4 (H : Cx2 C) {d : Nat} (hR : Room A d) {script number ox rest sgn txt oth kk : Option Value} {sl td pl : Addr} {et : List Ent} {T : Tab} {P : List (Str × Tok)} {dt : List Nat} {tdt : Tok} {e : Nat} {lo : Nat} {G : Addr → Option Obj} {k : Nat} {Q : Flow → Pt → Prop} (hk0 : 0 < k)
    (htd : DictG C.w G td et) (hT : T.map (·.1) = [65, 46, e]) (hgood : ∀ q ∈ T, GoodT q.2) (htx : TxE lo k et T) (hpl : ListG G pl (strValues P)) (hP : P.map (·.1) = (poolOf e).map one) (hdt : DataOk e dt) (he : e ∈ [67, 10, 9, 13])
    (h : ∀ G' k' sgn od eo fd ef ta, GLe G G' → k ≤ k' → DictG C.w G' od eo → OwnE eo → DictG C.w G' fd ef → FullE (fT T) (poolOf e) ef →
      Run C A L (execs (bodyL.drop 14) (envL L)) ⟨G', mL script number ox rest (some (.ref sl)) sgn txt oth (some (.ref pl)) (some (.str (tx dt) tdt)) kk (some (.str (tx (dt.flatMap (once (fullOf (fT T)) (poolOf e)))) ta)) none none none, nL L (some (.ref td)) (some (.ref od)) (some (.ref fd)) none none none, k'⟩ Q) :
    Run C A L (execs (bodyL.drop 10) (envL L)) ⟨G, mL script number ox rest (some (.ref sl)) sgn txt oth (some (.ref pl)) (some (.str (tx dt) tdt)) kk none none none none, nL L (some (.ref td)) none none none none none, k⟩ Q := by
  have hPl : P.length = 9 := by have := congrArg List.length hP; simpa [poolOf] using this
  refine X_cons (X_Assign (E_Dict6 (R_six rfl fun od t1 u1 t2 u2 t3 u3 t4 u4 t5 u5 t6 u6 hod h1 h2 h3 h4 h5 h6 h7 h8 h9 h10 h11 h12 => ?_)))
  refine Run.freezeQ fun G₁ hG₁ z1 => storeCell (c := L + 2) (.tail (.tail (.tail (.tail .head)))) rfl ?_
  have hp1 : 0 < t1 := Nat.lt_of_lt_of_le hk0 h1
  have hp2 : 0 < u1 := Nat.lt_trans hp1 h2
  have hp3 : 0 < t2 := Nat.lt_trans hp2 h3
  have hp4 : 0 < u2 := Nat.lt_trans hp3 h4
  have hp5 : 0 < t3 := Nat.lt_trans hp4 h5
  have hp6 : 0 < u3 := Nat.lt_trans hp5 h6
  have hp7 : 0 < t4 := Nat.lt_trans hp6 h7
  have hp8 : 0 < u4 := Nat.lt_trans hp7 h8
  have hp9 : 0 < t5 := Nat.lt_trans hp8 h9
  have hp10 : 0 < u5 := Nat.lt_trans hp9 h10
  have hp11 : 0 < t6 := Nat.lt_trans hp10 h11
  have hp12 : 0 < u6 := Nat.lt_trans hp11 h12
  have hq12 : u6 < u6 + 1 := Nat.lt_succ_self _
  have hq11 : t6 < u6 + 1 := Nat.lt_trans h12 hq12
  have hq10 : u5 < u6 + 1 := Nat.lt_trans h11 hq11
  have hq9 : t5 < u6 + 1 := Nat.lt_trans h10 hq10
  have hq8 : u4 < u6 + 1 := Nat.lt_trans h9 hq9
  have hq7 : t4 < u6 + 1 := Nat.lt_trans h8 hq8
  have hq6 : u3 < u6 + 1 := Nat.lt_trans h7 hq7
  have hq5 : t3 < u6 + 1 := Nat.lt_trans h6 hq6
  have hq4 : u2 < u6 + 1 := Nat.lt_trans h5 hq5
  have hq3 : t2 < u6 + 1 := Nat.lt_trans h4 hq4
  have hq2 : u1 < u6 + 1 := Nat.lt_trans h3 hq3
  have hq1 : t1 < u6 + 1 := Nat.lt_trans h2 hq2
  have hk1 : k ≤ u6 + 1 := Nat.le_of_lt (Nat.lt_of_le_of_lt h1 hq1)
  have hk10 : 0 < u6 + 1 := Nat.succ_pos _
  have hE : Ents (u6 + 1) [(one 38, t1, .str (tx amp) u1), (one 62, t2, .str (tx gts) u2), (one 60, t3, .str (tx lts) u3), (one 10, t4, .str (tx nlT) u4), (one 13, t5, .str (tx crT) u5), (one 9, t6, .str (tx tbT) u6)] ownAll :=
    .cons hp1 hq1 hp2 hq2 (Nat.ne_of_lt h2) (.cons hp3 hq3 hp4 hq4 (Nat.ne_of_lt h4) (.cons hp5 hq5 hp6 hq6 (Nat.ne_of_lt h6) (.cons hp7 hq7 hp8 hq8 (Nat.ne_of_lt h8) (.cons hp9 hq9 hp10 hq10 (Nat.ne_of_lt h10) (.cons hp11 hq11 hp12 hq12 (Nat.ne_of_lt h12) .nil)))))
  obtain ⟨eo, heo, hod1⟩ : ∃ eo, OwnE eo ∧ DictG C.w G₁ od eo := ⟨[(one 38, t1, .str (tx amp) u1), (one 62, t2, .str (tx gts) u2), (one 60, t3, .str (tx lts) u3), (one 10, t4, .str (tx nlT) u4), (one 13, t5, .str (tx crT) u5), (one 9, t6, .str (tx tbT) u6)], fun c => hE.dget c, ne_sys H hod, z1 _ fun _ h => h⟩
  clear hE z1 h1 h2 h3 h4 h5 h6 h7 h8 h9 h10 h11 h12 hod hp1 hp2 hp3 hp4 hp5 hp6 hp7 hp8 hp9 hp10 hp11 hp12 hq1 hq2 hq3 hq4 hq5 hq6 hq7 hq8 hq9 hq10 hq11 hq12
  generalize u6 + 1 = k₁ at hk1 hk10
  dsimp only
  refine X_cons (X_Assign (E_Dict0 fun fd hfd => storeCell (c := L + 3) (.tail (.tail (.tail (.tail .head)))) rfl ?_))
  have hfsy := ne_sys H hfd
  dsimp only
  refine X_cons (X_ForV (Seg4I C G₁ k₁ (fun sgn => mL script number ox rest (some (.ref sl)) sgn txt oth (some (.ref pl)) (some (.str (tx dt) tdt)) kk none none none none) (nL L (some (.ref td)) (some (.ref od)) (some (.ref fd)) none none none) fd (fT T) (poolOf e))
    (fun h => E_loc (v := .ref pl) at8 h) (IterOn.list hR.hd (hpl.mono hG₁).at) ⟨G₁, k₁, sgn, [], GLe.refl _, Nat.le_refl _, fun c => ⟨fun h => (by simp at h), fun _ => rfl⟩, Nat.le_refl _⟩ ?_ ?_)
  · intro i p₂ hi hI9
    refine hI9.casesOn ?_
    intro G' k' sgn ef hG' hk' hF hel
    dsimp only
    have hi9 : i < 9 := by simpa [strValues, hPl] using hi
    refine AsgRun.name fun v ⟨_, hvx⟩ => storeLoc (.tail (.tail (.tail (.tail (.tail .head))))) (Run.abs fun Q1 hQ1 => ?_)
    dsimp only at hQ1 ⊢
    obtain ⟨c, tc, hci, rfl⟩ : ∃ c tc, (poolOf e)[i]? = some c ∧ v = .str (one c) tc := by
      have hi' : i < P.length := by omega
      have hic : i < (poolOf e).length := by simpa [poolOf] using hi9
      have h2 : (P.map (·.1))[i]? = ((poolOf e).map one)[i]? := by rw [hP]
      rw [List.getElem?_map, List.getElem?_map, List.getElem?_eq_getElem hic, List.getElem?_eq_getElem hi'] at h2
      refine ⟨(poolOf e)[i], P[i].2, List.getElem?_eq_getElem hic, ?_⟩
      have h3 : (strValues P)[i]? = some (.str P[i].1 P[i].2) := by simp [strValues, hi']
      rw [h3] at hvx
      rw [← Option.some.inj hvx]
      simp only [Option.map_some] at h2
      rw [Option.some.inj h2]
    have hcm : c ∈ poolOf e := List.mem_of_getElem? hci
    have hO' : DictG C.w G' od eo := hod1.mono hG'
    have hTd' : DictG C.w G' td et := (htd.mono hG₁).mono hG'
    refine X_one (X_AssignSub (E_meth F.slot_dict_get F.plainAttrs_dict F.type_dict_get (E_cell (c := L + 2) at5 rfl ⟨HasT.dict hO', E_items_cons (E_loc (v := .str (one c) tc) at5 (E_items_cons (E_meth F.slot_dict_get F.plainAttrs_dict F.type_dict_get (E_cell (c := L + 1) at6 rfl ⟨HasT.dict hTd', E_items_cons (E_loc (v := .str (one c) tc) at5 (E_items_cons (E_strQ fun t7 h7 =>
      E_items_nil (R_dictGet3 hTd'.a (E_items_nil (R_dictGet3 hO'.a ?_))))))⟩))))⟩)))
    generalize hval : (dget eo (one c)).getD ((dget et (one c)).getD (.str (Str.ofString "") t7)) = val
    have hv : ∃ u, val = .str (tx (fullOf (fT T) c)) u := by
      subst hval
      unfold fullOf
      cases ek : kget ownAll c with
      | some y =>
        obtain ⟨u, hu⟩ := (heo c).2 y ek
        rw [hu]; exact ⟨u, rfl⟩
      | none =>
        rw [(heo c).1 ek]
        have hcT : c ∈ T.map (·.1) := by
          rw [hT]
          exact pool_own e he c hcm (kget_none.mp ek)
        obtain ⟨y, hy, hm⟩ := kget_mem hcT
        obtain ⟨u, hu, _⟩ := htx _ hm
        rw [hu]
        refine ⟨u, ?_⟩
        unfold fT
        rw [hy]; rfl
    obtain ⟨u, rfl⟩ := hv
    refine E_cell (c := L + 3) at4 rfl (E_loc (v := .str (one c) tc) at5 (S_dict .head (by rw [sizeLine_eq]; omega) ?_))
    replace h7 : k' ≤ t7 := h7
    refine hQ1 _ _ ⟨G', t7 + 1, _, dput ef (one c) tc (.str (tx (fullOf (fT T) c)) u), hG', by omega, fun x => ?_, ?_⟩
    · have htk : (poolOf e).take (i + 1) = (poolOf e).take i ++ [c] := by rw [List.take_add_one, hci]; rfl
      rw [htk, dget_dput]
      by_cases hx : c = x
      · subst hx
        rw [if_pos rfl]
        exact ⟨fun _ => ⟨u, rfl⟩, fun hn => absurd (List.mem_append_right _ (List.mem_singleton.mpr rfl)) hn⟩
      · rw [if_neg fun e0 => hx (one_inj.mp e0)]
        simp only [List.mem_append, List.mem_singleton, not_or]
        refine ⟨fun h => (hF x).1 (h.resolve_right fun e0 => hx e0.symm), fun h => (hF x).2 h.1⟩
    · have := dput_length ef (one c) tc (.str (tx (fullOf (fT T) c)) u); omega
  · intro p₂ hI9
    refine hI9.casesOn ?_
    intro G' k' sgn ef hG' hk' hF hel
    refine X_nil ?_
    dsimp only
    refine Run.freezeQ fun G₂ hG₂ z2 => ?_
    have hFd : DictG C.w G₂ fd ef := ⟨hfsy, z2 _ fun _ h => h⟩
    have hF9 : FullE (fT T) (poolOf e) ef := by
      rw [show (strValues P).length = 9 by simp [strValues, hPl]] at hF
      exact hF
    have hfl : ∀ c, (fullOf (fT T) c).length ≤ 11 := fun c => full_len (fT_len hgood c)
    refine X_cons (X_Assign (E_meth F.slot_str_join F.plainAttrs_str F.type_str_join (E_strQ fun tk htk => ⟨HasT.str, E_items_cons ?_⟩)))
    refine E_Comp1 (R := Str0 (fun a => once (fullOf (fT T)) (poolOf e) (dt[a]?.getD 0))) (fun _ => true) [("full", L + 3)] Str0.monoR (E_loc (v := .str (tx dt) tdt) at9 ⟨_, _, IterOn.str hR.hd, by rw [sizeLine_eq]; have := hdt.len; simp [tx]; omega, fun Cc i v Ga ka hi ⟨_, hs⟩ hGa hka => Tst.none fun _ => ?_, fun Da ys Ga ka hGa hka hMa => E_items_nil ?_⟩)
    · obtain ⟨ci, u2, e3, rfl⟩ := hs
      have hci : dt[i]?.getD 0 = ci := by
        have : (tx dt).cps[i]? = dt[i]? := by simp [tx]
        rw [this] at e3; rw [e3]; rfl
      have hFa := hFd.mono hGa
      refine E_meth F.slot_dict_get F.plainAttrs_dict F.type_dict_get (E_cell (c := L + 3) at3 rfl ⟨HasT.dict hFa, E_items_cons (E_loc (v := .str ⟨#[ci]⟩ u2) at0 (E_items_cons (E_loc (v := .str ⟨#[ci]⟩ u2) at0 (E_items_nil (R_dictGet3 hFa.a ⟨Ga, ka, rfl, GLe.refl _, Nat.le_refl _, ?_⟩)))))⟩)
      unfold Str0
      dsimp only
      rw [hci]
      show ∃ u, (dget ef (one ci)).getD (.str (one ci) u2) = _
      unfold once
      by_cases hc : ci ∈ poolOf e
      · obtain ⟨u, hu⟩ := (hF9 ci).1 hc
        rw [hu, if_pos hc]; exact ⟨u, rfl⟩
      · rw [(hF9 ci).2 hc, if_neg hc]; exact ⟨u2, rfl⟩
    · rw [filt] at hMa
      have e0 : (tx dt).cps.size = dt.length := by simp [tx]
      rw [e0] at hMa
      have hfl' : (List.range dt.length).flatMap (fun a => once (fullOf (fT T)) (poolOf e) (dt[a]?.getD 0)) = dt.flatMap (once (fullOf (fT T)) (poolOf e)) := range_flat dt _
      refine R_joinC0 hMa ?_ fun u4 G₅ k₅ hG₅ hk₅ => storeLoc (.tail (.tail (.tail (.tail (.tail (.tail (.tail (.tail (.tail (.tail (.tail .head))))))))))) ?_
      · rw [hfl']
        have := flatMap_len (f := once (fullOf (fT T)) (poolOf e)) (n := 11) (once_len fun c _ => hfl c) dt
        have := hdt.len
        omega
      rw [hfl']
      replace htk : k' ≤ tk := htk
      replace hka : tk + 1 ≤ ka := hka
      exact h G₅ k₅ _ od eo fd ef u4 (GLe.trans hG₁ (GLe.trans hG' (GLe.trans hG₂ (GLe.trans hGa hG₅)))) (by omega) ((((hod1.mono hG').mono hG₂).mono hGa).mono hG₅) heo ((hFd.mono hGa).mono hG₅) hF9
end Two
end Mine

open PySem PySem.Calls PyProof.Rows
set_option Elab.async false
set_option linter.unusedVariables false
set_option maxRecDepth 100000
namespace Mine
theorem Ents.snoc {k : Nat} {es : List Ent} {T : Tab} {c : Nat} {y : List Nat} {t u : Nat} (h : Ents k es T) (h1 : 0 < t) (h2 : t < k) (h3 : 0 < u) (h4 : u < k) (h5 : t ≠ u) : Ents k (es ++ [(one c, t, .str (tx y) u)]) (T ++ [(c, y)]) := by
  induction h with
  | nil => exact .cons h1 h2 h3 h4 h5 .nil
  | cons a b cc d e _ ih => exact .cons a b cc d e ih
theorem Ents.keys {k : Nat} {es : List Ent} {T : Tab} (h : Ents k es T) : es.map (·.1) = (T.map (·.1)).map one := by
  induction h with
  | nil => rfl
  | cons a b cc d e _ ih => simp only [List.map_cons, ih]
def oneP (cs : List (Nat × Nat)) : List (Str × Tok) := cs.map fun q => (one q.1, q.2)
theorem oneP_keys (cs : List (Nat × Nat)) : (oneP cs).map (·.1) = (cs.map (·.1)).map one := by simp [oneP]
/-- what a turn of the law's loop leans on -/
structure Tn (C : Cx) (G : Addr → Option Obj) (k lo : Nat) (td fd pl : Addr) (et ef : List Ent) (T : Tab) (P : List (Str × Tok)) (e : Nat) (dt : List Nat) : Prop where
  he : e ∈ [67, 10, 9, 13]
  lok : lo ≤ k
  htd : DictG C.w G td et
  hT : T.map (·.1) = [65, 46, e]
  hgood : ∀ q ∈ T, GoodT q.2
  htx : TxE lo k et T
  hfd : DictG C.w G fd ef
  hF : FullE (fT T) (Two.poolOf e) ef
  hpl : ListG G pl (strValues P)
  hP : P.map (·.1) = (Two.poolOf e).map one
  hdt : Two.DataOk e dt
theorem Tn.mono {C : Cx} {G G' : Addr → Option Obj} {k k' lo : Nat} {td fd pl : Addr} {et ef : List Ent} {T : Tab} {P : List (Str × Tok)} {e : Nat} {dt : List Nat} (h : Tn C G k lo td fd pl et ef T P e dt) (x : GLe G G') (hk : k ≤ k') : Tn C G' k' lo td fd pl et ef T P e dt :=
  ⟨h.he, Nat.le_trans h.lok hk, h.htd.mono x, h.hT, h.hgood, h.htx.mono hk, h.hfd.mono x, h.hF, h.hpl.mono x, h.hP, h.hdt⟩
structure Od (G : Addr → Option Obj) (lo : Nat) (oa : Addr) (cs : List (Nat × Nat)) (e : Nat) : Prop where
  list : ListG G oa (strValues (oneP cs))
  perm : (cs.map (·.1)).Perm [65, 46, e]
  tok : ∀ q ∈ cs, 0 < q.2 ∧ q.2 < lo
theorem Od.mono {G G' : Addr → Option Obj} {lo : Nat} {oa : Addr} {cs : List (Nat × Nat)} {e : Nat} (h : Od G lo oa cs e) (x : GLe G G') : Od G' lo oa cs e := ⟨h.list.mono x, h.perm, h.tok⟩
theorem Od.ord {G : Addr → Option Obj} {lo : Nat} {oa : Addr} {cs : List (Nat × Nat)} {e : Nat} (h : Od G lo oa cs e) (he : e ∈ [67, 10, 9, 13]) : Ord (cs.map (·.1)) := by
  have key : ∀ e ∈ [67, 10, 9, 13], [65, 46, e].Nodup ∧ ∀ c ∈ [65, 46, e], c ∈ [65, 46, 67, 10, 13, 9] := by decide
  obtain ⟨k1, k2⟩ := key e he
  exact ⟨h.perm.nodup_iff.mpr k1, by rw [h.perm.length_eq]; exact Nat.le_refl _, fun c hc => k2 c (h.perm.mem_iff.mp hc)⟩
def hdOf (q : Str × Tok) : Nat × Nat := (q.1.cps.toList.headD 0, q.2)
theorem Od.of {G : Addr → Option Obj} {lo : Nat} {oa : Addr} {o : List (Str × Tok)} {e : Nat} {t1 t2 t3 : Nat} (hl : ListG G oa (strValues o)) (hp : o.Perm [(one 65, t1), (one 46, t2), (one e, t3)]) (h1 : 0 < t1 ∧ t1 < lo) (h2 : 0 < t2 ∧ t2 < lo) (h3 : 0 < t3 ∧ t3 < lo) : ∃ cs, Od G lo oa cs e := by
  refine ⟨o.map hdOf, ?_, ?_, fun q hq => ?_⟩
  · have : oneP (o.map hdOf) = o := by
      unfold oneP
      rw [List.map_map]
      conv => rhs; rw [← List.map_id o]
      refine List.map_congr_left fun q hq => ?_
      have := hp.mem_iff.mp hq
      simp only [List.mem_cons, List.not_mem_nil, or_false] at this
      rcases this with rfl | rfl | rfl <;> rfl
    rw [this]; exact hl
  · have := (hp.map hdOf).map (·.1)
    exact this
  · obtain ⟨z, hz, rfl⟩ := List.mem_map.mp hq
    have := hp.mem_iff.mp hz
    simp only [List.mem_cons, List.not_mem_nil, or_false] at this
    rcases this with rfl | rfl | rfl
    · exact h1
    · exact h2
    · exact h3
namespace Two
def turnOf (i : Nat) : List Stmt :=
  match bodyL[i]? with
  | some (.For target iter body orelse pos) => body
  | _ => []
def turnBody : List Stmt := turnOf 14
variable {C : Cx} {A : Around} {L : Addr}
inductive T1I (C : Cx) (G : Addr → Option Obj) (k : Nat) (m : Option Value → List (Str × Option Value)) (N : List (Addr × Cell)) (tb : Addr) (f : Nat → List Nat) (cs : List Nat) (i : Nat) : Pt → Prop
  | mk (sgn : Option Value) (es : List Ent) (h : Ents k es (tabOf f (cs.take i))) : T1I C G k m N tb f cs i ⟨G, m sgn, (tb, dictC C.w es) :: N, k⟩
theorem turn1 (H : Cx2 C) {d : Nat} (hR : Room A d) {script number ox rest sl sgn txt oth data kk ao nd wr pn od tbo lno : Option Value} {td fd pl oa : Addr} {et ef : List Ent} {T : Tab} {P : List (Str × Tok)} {e lo : Nat} {dt : List Nat} {cs : List (Nat × Nat)} {G : Addr → Option Obj} {k : Nat} {Q : Flow → Pt → Prop}
    (X : Tn C G k lo td fd pl et ef T P e dt) (O : Od G lo oa cs e)
    (h : ∀ G' sgn tb es, GLe G G' → DictG C.w G' tb es → Ents k es (tabOf (fT T) (cs.map (·.1))) →
      Run C A L (execs (turnBody.drop 2) (envL L)) ⟨G', mL script number ox rest sl sgn txt oth (some (.ref pl)) data kk ao nd wr pn, nL L (some (.ref td)) od (some (.ref fd)) (some (.ref oa)) (some (.ref tb)) lno, k⟩ Q) :
    Run C A L (execs turnBody (envL L)) ⟨G, mL script number ox rest sl sgn txt oth (some (.ref pl)) data kk ao nd wr pn, nL L (some (.ref td)) od (some (.ref fd)) (some (.ref oa)) tbo lno, k⟩ Q := by
  refine X_cons (X_Assign (E_Dict0 fun tb htb => storeCell (c := L + 5) (.tail (.tail .head)) rfl ?_))
  have hsy := ne_sys H htb
  have hordd := O.ord X.he
  have hlen : cs.length ≤ 3 := by have := hordd.len; simpa using this
  dsimp only
  refine X_cons (X_ForV (T1I C G k (fun sgn => mL script number ox rest sl sgn txt oth (some (.ref pl)) data kk ao nd wr pn) (nL L (some (.ref td)) od (some (.ref fd)) (some (.ref oa)) (some (.ref tb)) lno) tb (fT T) (cs.map (·.1)))
    (fun h => E_cell (c := L + 4) at3 rfl h) (IterOn.list hR.hd O.list.at) ⟨sgn, [], .nil⟩ ?_ ?_)
  · intro i p₂ hi hI9
    refine hI9.casesOn ?_
    intro sgn es hE
    dsimp only
    have hic : i < cs.length := by simpa [strValues, oneP] using hi
    refine AsgRun.name fun v ⟨_, hvx⟩ => storeLoc (.tail (.tail (.tail (.tail (.tail .head))))) ?_
    dsimp only
    have hv : v = .str (one cs[i].1) cs[i].2 := by
      have : (strValues (oneP cs))[i]? = some (.str (one cs[i].1) cs[i].2) := by simp [strValues, oneP, hic]
      rw [this] at hvx; exact (Option.some.inj hvx).symm
    subst hv
    obtain ⟨ht0, htl⟩ := O.tok cs[i] (List.getElem_mem hic)
    have hcT : cs[i].1 ∈ T.map (·.1) := by rw [X.hT]; exact O.perm.mem_iff.mp (List.mem_map_of_mem (f := (·.1)) (List.getElem_mem hic))
    obtain ⟨y, hy, hm⟩ := kget_mem hcT
    obtain ⟨u, hu, hul, huk⟩ := X.htx _ hm
    have hel : es.length ≤ 3 := by rw [hE.length]; simp only [tabOf, List.length_map, List.length_take]; omega
    have hkl := X.lok
    have hnot : one cs[i].1 ∉ es.map (·.1) := by
      rw [hE.keys, keys_tabOf]
      intro hm'
      obtain ⟨z, hz, e0⟩ := List.mem_map.mp hm'
      rw [one_inj.mp e0] at hz
      have hnd := hordd.nd
      have hgi : (cs.map (·.1))[i]'(by simpa using hic) = cs[i].1 := by simp
      rw [← hgi] at hz
      obtain ⟨j, hj, e1⟩ := List.getElem_of_mem hz
      rw [List.getElem_take] at e1
      have hj' : j < i := by have := hj; rw [List.length_take] at this; omega
      have := (List.getElem_inj hnd).mp e1
      omega
    refine X_one (X_AssignSub (E_Sb F.slot_dict_getitem.lookup (E_cell (c := L + 1) at6 rfl (E_loc (v := .str (one cs[i].1) cs[i].2) at5 ⟨HasTy.dict X.htd, G_dict X.htd hu (E_cell (c := L + 5) at2 rfl (E_loc (v := .str (one cs[i].1) cs[i].2) at5 (S_dict .head (by rw [sizeLine_eq]; omega) ?_)))⟩))))
    refine ⟨_, _, ?_⟩
    rw [dput_none hnot]
    have htk : (cs.map (·.1)).take (i + 1) = (cs.map (·.1)).take i ++ [cs[i].1] := by
      rw [List.take_add_one, List.getElem?_map, List.getElem?_eq_getElem hic]; rfl
    rw [htk]
    have hfy : fT T cs[i].1 = y := by unfold fT; rw [hy]; rfl
    unfold tabOf at hE ⊢
    rw [List.map_append, List.map_singleton, hfy]
    exact hE.snoc ht0 (by omega) (by omega) huk (by omega)
  · intro p₂ hI9
    refine hI9.casesOn ?_
    intro sgn es hE
    refine X_nil ?_
    dsimp only
    refine Run.freezeQ fun G₂ hG₂ z2 => ?_
    have hall : (cs.map (·.1)).take (strValues (oneP cs)).length = cs.map (·.1) := List.take_of_length_le (by simp [strValues, oneP])
    rw [hall] at hE
    exact h G₂ sgn tb es hG₂ ⟨hsy, z2 _ fun _ h => h⟩ hE
end Two
end Mine

open PySem PySem.Calls PyProof.Rows
set_option Elab.async false
set_option linter.unusedVariables false
set_option maxRecDepth 100000
namespace Mine
namespace Two
variable {C : Cx} {A : Around} {L : Addr}
def wsAt (a : Nat) : Nat := ([10, 13, 9] : List Nat)[a]?.getD 0
def selR (os : List Nat) (a : Nat) : Bool := decide (wsAt a ∉ os)
theorem sel_rest (os : List Nat) : (((List.range 3).filter (selR os)).map fun a => [wsAt a]).map tx = (restOf os).map one := by
  have a0 : selR os 0 = decide (10 ∉ os) := rfl
  have a1 : selR os 1 = decide (13 ∉ os) := rfl
  have a2 : selR os 2 = decide (9 ∉ os) := rfl
  show ((List.filter (selR os) [0, 1, 2]).map fun a => [wsAt a]).map tx = _
  unfold restOf
  simp only [List.filter_cons, List.filter_nil, a0, a1, a2]
  cases decide (10 ∉ os) <;> cases decide (13 ∉ os) <;> cases decide (9 ∉ os) <;> rfl
set_option maxHeartbeats 1000000 in
theorem turn2 (H : Cx2 C) {d : Nat} (hR : Room A d) {script number ox rest sl sgn txt oth pl data kk ao nd wr pn td od fd tbo lno : Option Value} {oa : Addr} {e lo : Nat} {cs : List (Nat × Nat)} {G : Addr → Option Obj} {k : Nat} {Q : Flow → Pt → Prop}
    (O : Od G lo oa cs e) (he : e ∈ [67, 10, 9, 13])
    (h : ∀ G' k' ln lnS, GLe G G' → k ≤ k' → ListG G' ln (strValues lnS) → lnS.map (·.1) = (lineOf (cs.map (·.1))).map one →
      Run C A L (execs (turnBody.drop 3) (envL L)) ⟨G', mL script number ox rest sl sgn txt oth pl data kk ao nd wr pn, nL L td od fd (some (.ref oa)) tbo (some (.ref ln)), k'⟩ Q) :
    Run C A L (execs (turnBody.drop 2) (envL L)) ⟨G, mL script number ox rest sl sgn txt oth pl data kk ao nd wr pn, nL L td od fd (some (.ref oa)) tbo lno, k⟩ Q := by
  have hordd := O.ord he
  have hlen : cs.length ≤ 3 := by have := hordd.len; simpa using this
  refine X_cons (X_Assign (E_BinOp (E_BinOp (E_listS (xs := [one 38, one 62, one 60]) fun w1 c1 G₁ k₁ hG₁ hk₁ hc1 _ hw1 => ?_))))
  have hc1l : c1.length = 3 := by simpa using congrArg List.length hc1
  refine E_cell (c := L + 4) at2 rfl (B_addLQ hw1 (O.list.mono hG₁) (by rw [sizeLine_eq]; simp [strValues, oneP, hc1l]; omega) fun w2 => ?_)
  refine Run.freezeQ fun G₂ hG₂ z2 => ?_
  have hw2 : ListG G₂ w2 (strValues c1 ++ strValues (oneP cs)) := .ofQ z2
  have hoa := (O.list.mono hG₁).mono hG₂
  refine E_Comp1 (R := Str0 (fun a => [wsAt a])) (selR (cs.map (·.1))) [("order", L + 4)] Str0.monoR (E_strQ fun t5 h5 => ⟨_, _, IterOn.str hR.hd, by rw [sizeLine_eq]; decide, fun Cc i v Ga ka hi ⟨_, hs⟩ hGa hka => ?_, fun D ys Ga ka hGa hka hM => ?_⟩)
  · obtain ⟨ci, u, hci, rfl⟩ := hs
    have hcw : wsAt i = ci := by
      have : i = 0 ∨ i = 1 ∨ i = 2 := by
        have : i < 3 := hi
        omega
      rcases this with rfl | rfl | rfl <;> exact Option.some.inj hci
    refine R_tests_one (T_Cmp (E_loc (v := .str ⟨#[ci]⟩ u) at0 (E_cell (c := L + 4) at2 rfl (C_notInSL (.inl (hoa.mono hGa).at) (truthy_bool ⟨?_, _, _, rfl, GLe.refl _, Nat.le_refl _, fun hs => ?_⟩)))))
    · rw [oneP_keys]
      unfold selR
      rw [hcw]
      have : ((⟨#[ci]⟩ : Str) ∈ (cs.map (·.1)).map one) ↔ ci ∈ cs.map (·.1) := by
        constructor
        · intro hm
          obtain ⟨z, hz, e0⟩ := List.mem_map.mp hm
          exact one_inj.mp e0 ▸ hz
        · exact fun hm => List.mem_map_of_mem hm
      by_cases hm : ci ∈ cs.map (·.1)
      · rw [decide_eq_true (this.mpr hm), decide_eq_false fun hn => hn hm]; rfl
      · rw [decide_eq_false fun hn => hm (this.mp hn), decide_eq_true hm]; rfl
    · refine E_loc (v := .str ⟨#[ci]⟩ u) at0 ⟨_, _, rfl, GLe.refl _, Nat.le_refl _, u, ?_⟩
      dsimp only
      rw [hcw]; rfl
  · replace hM : Made (Str0 (fun a => [wsAt a])) ((List.range 3).filter (selR (cs.map (·.1)))) ys Ga ka := hM
    obtain ⟨ls, rfl, hls⟩ := hM.strs0
    rw [sel_rest] at hls
    have hlsl : ls.length ≤ 3 := by
      have h1 := congrArg List.length hls
      rw [List.length_map, List.length_map] at h1
      have h2 : (restOf (cs.map (·.1))).length ≤ 3 := List.length_filter_le _ _
      omega
    refine Run.freezeQ fun G₃ hG₃ z3 => ?_
    have hD : ListG G₃ D (strValues ls) := .ofQ z3
    refine B_addLQ ((hw2.mono hGa).mono hG₃) hD (by rw [sizeLine_eq]; simp [strValues, oneP, hc1l]; omega) fun ln => ?_
    refine Run.freezeQ fun G₄ hG₄ z4 => storeCell (c := L + 6) .head rfl ?_
    have hln : ListG G₄ ln (strValues (c1 ++ oneP cs ++ ls)) := by
      have : ListG G₄ ln (strValues c1 ++ strValues (oneP cs) ++ strValues ls) := .ofQ z4
      simpa only [strValues, List.map_append] using this
    have hkk : k ≤ ka := by
      have h1 : k ≤ k₁ := hk₁
      have h5 : k₁ ≤ t5 := h5
      have hka : t5 + 1 ≤ ka := hka
      omega
    refine h G₄ ka ln _ (GLe.trans hG₁ (GLe.trans hG₂ (GLe.trans hGa (GLe.trans hG₃ hG₄)))) hkk hln ?_
    rw [List.map_append, List.map_append, oneP_keys, hls, hc1]
    unfold lineOf
    rw [List.map_append, List.map_append, List.append_assoc]; rfl
end Two
end Mine

open PySem PySem.Calls PyProof.Rows
set_option Elab.async false
set_option linter.unusedVariables false
set_option maxRecDepth 100000
namespace Mine
theorem range_filt (y : List Nat) (g : Nat → Bool) : ((List.range y.length).filter fun a => g (y[a]?.getD 0)).map (fun a => y[a]?.getD 0) = y.filter g := by
  conv => rhs; rw [← range_get y, List.filter_map]
  rfl
def needOf (full : Nat → List Nat) (line : List Nat) (c : Nat) : Str × List Str := (one c, ((full c).filter fun x => decide (x ≠ c) && decide (x ∈ line)).map one)
theorem NeedsAt.snoc {G : Addr → Option Obj} {vs : List Value} {nds : List ((Str × Tok) × List (Str × Tok))} {s : Str} {t : Tok} {T al : Addr} {ls : List (Str × Tok)} (h : NeedsAt G vs nds) (hT : TupAt G T [.str s t, .ref al]) (hl : ListAt G al (strValues ls)) : NeedsAt G (vs ++ [.ref T]) (nds ++ [((s, t), ls)]) := by
  refine ⟨by simp [h.1], fun i q hq => ?_⟩
  by_cases hi : i < nds.length
  · rw [List.getElem?_append_left hi] at hq
    rw [List.getElem?_append_left (by rw [h.1]; exact hi)]
    exact h.2 i q hq
  · rw [List.getElem?_append_right (by omega)] at hq
    rw [List.getElem?_append_right (by rw [h.1]; omega), h.1]
    have : i - nds.length = 0 := by
      have := (List.getElem?_eq_some_iff.mp hq).1
      simp at this; omega
    rw [this] at hq ⊢
    cases hq
    exact ⟨T, al, rfl, hT, hl⟩
namespace Two
variable {C : Cx} {A : Around} {L : Addr}
theorem line_pool0 : ∀ e ∈ [67, 10, 9, 13], (∀ c ∈ lineOf [65, 46, e], c ∈ poolOf e) ∧ ∀ c ∈ poolOf e, c ∈ lineOf [65, 46, e] := by decide
theorem line_mem {os : List Nat} {c : Nat} : c ∈ lineOf os ↔ c ∈ [38, 62, 60] ∨ c ∈ os ∨ (c ∈ [10, 13, 9] ∧ c ∉ os) := by
  unfold lineOf restOf
  rw [List.mem_append, List.mem_append, List.mem_filter, decide_eq_true_eq]
theorem line_pool {os : List Nat} {e : Nat} (hp : os.Perm [65, 46, e]) (he : e ∈ [67, 10, 9, 13]) (c : Nat) : c ∈ lineOf os ↔ c ∈ poolOf e := by
  obtain ⟨h1, h2⟩ := line_pool0 e he
  rw [line_mem, hp.mem_iff, ← line_mem]
  exact ⟨h1 c, h2 c⟩
theorem line_len {os : List Nat} (h : Ord os) : (lineOf os).length ≤ 9 := by
  have h1 := h.len
  have h2 : (restOf os).length ≤ 3 := List.length_filter_le _ _
  unfold lineOf
  simp only [List.length_append, List.length_cons, List.length_nil]; omega
inductive T3I (G : Addr → Option Obj) (k : Nat) (N : List (Addr × Cell)) (f : Nat → List Nat) (line : List Nat) (Cc : Addr) (i : Nat) (ys : List Value) : Pt → Prop
  | mk (G' : Addr → Option Obj) (k' : Nat) (o2 : Option Value) (nds : List ((Str × Tok) × List (Str × Tok))) (h1 : GLe G G') (h2 : k ≤ k') (h3 : ys.length ≤ 9) (h4 : NeedsAt G' ys nds) (h5 : nds.map (fun q => (q.1.1, q.2.map (·.1))) = (line.take i).map (needOf f line)) :
    T3I G k N f line Cc i ys ⟨G', [], (Cc + 1, cellC o2) :: N, k'⟩
set_option maxHeartbeats 1000000 in
theorem turn3 (H : Cx2 C) {d : Nat} (hR : Room A d) {script number ox rest sl sgn txt oth data kk ao nd wr pn od tbo : Option Value} {td fd pl oa ln : Addr} {et ef : List Ent} {T : Tab} {P lnS : List (Str × Tok)} {e lo : Nat} {dt : List Nat} {cs : List (Nat × Nat)} {G : Addr → Option Obj} {k : Nat} {Q : Flow → Pt → Prop}
    (X : Tn C G k lo td fd pl et ef T P e dt) (O : Od G lo oa cs e) (hln : ListG G ln (strValues lnS)) (hlnS : lnS.map (·.1) = (lineOf (cs.map (·.1))).map one)
    (h : ∀ G' k' na nvs nds, GLe G G' → k ≤ k' → ListG G' na nvs → NeedsAt G' nvs nds → NeedsOf (fullOf (fT T)) (lineOf (cs.map (·.1))) nds →
      Run C A L (execs (turnBody.drop 4) (envL L)) ⟨G', mL script number ox rest sl sgn txt oth (some (.ref pl)) data kk ao (some (.ref na)) wr pn, nL L (some (.ref td)) od (some (.ref fd)) (some (.ref oa)) tbo (some (.ref ln)), k'⟩ Q) :
    Run C A L (execs (turnBody.drop 3) (envL L)) ⟨G, mL script number ox rest sl sgn txt oth (some (.ref pl)) data kk ao nd wr pn, nL L (some (.ref td)) od (some (.ref fd)) (some (.ref oa)) tbo (some (.ref ln)), k⟩ Q := by
  have hordd := O.ord X.he
  have hll := line_len hordd
  have hlpool := line_pool O.perm X.he
  generalize lineOf (cs.map (·.1)) = line at *
  have hlnl : lnS.length = line.length := by simpa using congrArg List.length hlnS
  have hfl : ∀ c, (fullOf (fT T) c).length ≤ 11 := fun c => full_len (fT_len X.hgood c)
  refine X_cons (X_Assign_ListCompK (cl := [("line", L + 6), ("full", L + 3)]) [] rfl (by decide) (by simp) (by simp) (E_cell (c := L + 6) at0 rfl
    ⟨(strValues lnS).length, _, T3I G k (nL L (some (.ref td)) od (some (.ref fd)) (some (.ref oa)) tbo (some (.ref ln))) (fullOf (fT T)) line, IterOn.list hR.hd hln.at, ?_, ?_, ?_, ?_⟩))
  · rintro Cc i ys p ⟨_, _, _, _, _, _, h1, _⟩
    rw [sizeLine_eq]; omega
  · exact fun Cc => ⟨G, k, none, [], GLe.refl _, Nat.le_refl _, Nat.zero_le _, ⟨rfl, fun i q hq => by simp at hq⟩, rfl⟩
  · intro Cc i ys p₂ hi hI9 _
    refine hI9.casesOn ?_
    intro G' k' o2 nds hG' hk' hyl hN hnd
    have hil : i < line.length := by rw [← hlnl]; simpa [strValues] using hi
    have hilS : i < lnS.length := by omega
    refine AsgRun.name fun v ⟨_, hvx⟩ => storeCell (c := Cc + 1) .head rfl ?_
    dsimp only
    obtain ⟨c, tc, hci, rfl⟩ : ∃ c tc, line[i]? = some c ∧ v = .str (one c) tc := by
      have h2 : (lnS.map (·.1))[i]? = (line.map one)[i]? := by rw [hlnS]
      rw [List.getElem?_map, List.getElem?_map, List.getElem?_eq_getElem hil, List.getElem?_eq_getElem hilS] at h2
      refine ⟨line[i], lnS[i].2, List.getElem?_eq_getElem hil, ?_⟩
      have h3 : (strValues lnS)[i]? = some (.str lnS[i].1 lnS[i].2) := by simp [strValues, hilS]
      rw [h3] at hvx
      rw [← Option.some.inj hvx]
      simp only [Option.map_some] at h2
      rw [Option.some.inj h2]
    have hcm : c ∈ line := List.mem_of_getElem? hci
    obtain ⟨uf, huf⟩ := (X.hF c).1 ((hlpool c).mp hcm)
    have hfd' := X.hfd.mono hG'
    have hys : ys.length = i := by
      have h1 := congrArg List.length hnd
      rw [List.length_map, List.length_map, List.length_take] at h1
      rw [hN.1]; omega
    refine R_tests_nil ?_
    rw [if_pos rfl]
    refine E_Tuple (E_items_cons (E_cell (c := Cc + 1) at0 rfl (E_items_cons ?_)))
    refine E_Comp1 (R := Str0 (fun a => [(fullOf (fT T) c)[a]?.getD 0])) (fun a => decide ((fullOf (fT T) c)[a]?.getD 0 ≠ c) && decide ((fullOf (fT T) c)[a]?.getD 0 ∈ line)) [("sign", Cc + 1), ("line", L + 6)] Str0.monoR
      (E_Sb F.slot_dict_getitem.lookup (E_cell (c := L + 3) at4 rfl (E_cell (c := Cc + 1) at0 rfl ⟨HasTy.dict hfd', G_dict hfd' huf ⟨_, _, IterOn.str hR.hd, by rw [sizeLine_eq]; have := hfl c; simp [tx]; omega, fun C2 j w Ga ka hj ⟨_, hs⟩ hGa hka => ?_, fun D zs Ga ka hGa hka hM => E_items_nil ?_⟩⟩)))
    · obtain ⟨cj, u, hcj, rfl⟩ := hs
      have hcw : (fullOf (fT T) c)[j]?.getD 0 = cj := by
        have : (tx (fullOf (fT T) c)).cps[j]? = (fullOf (fT T) c)[j]? := by simp [tx]
        rw [this] at hcj; rw [hcj]; rfl
      dsimp only
      rw [hcw]
      refine R_tests_one (T_BoolOp (T_And_cons (T_Cmp (E_loc (v := .str ⟨#[cj]⟩ u) at0 (E_cell (c := Cc + 1) at0 rfl (C_neS (truthy_bool ?_)))))))
      have e1 : (!decide ((⟨#[cj]⟩ : Str) = one c)) = decide (cj ≠ c) := by
        have : (⟨#[cj]⟩ : Str) = one c ↔ cj = c := one_inj
        by_cases hq : cj = c
        · rw [decide_eq_true (this.mpr hq), decide_eq_false fun hn => hn hq]; rfl
        · rw [decide_eq_false fun hn => hq (this.mp hn), decide_eq_true hq]; rfl
      rw [e1]
      by_cases h1 : cj ≠ c
      · rw [decide_eq_true h1, if_pos rfl]
        refine T_And_cons (T_Cmp (E_loc (v := .str ⟨#[cj]⟩ u) at0 (E_cell (c := L + 6) at1 rfl (C_inSL (.inl ((hln.mono hG').mono hGa).at) (truthy_bool ?_)))))
        have e2 : decide ((⟨#[cj]⟩ : Str) ∈ lnS.map (·.1)) = decide (cj ∈ line) := by
          rw [hlnS]
          refine decide_eq_decide.mpr ⟨fun hm => ?_, fun hm => List.mem_map_of_mem (f := one) hm⟩
          obtain ⟨z, hz, e0⟩ := List.mem_map.mp hm
          exact one_inj.mp e0 ▸ hz
        rw [e2]
        by_cases h2 : cj ∈ line
        · rw [decide_eq_true h2, if_pos rfl]
          refine T_And_nil ⟨rfl, _, _, rfl, GLe.refl _, Nat.le_refl _, fun _ => E_loc (v := .str ⟨#[cj]⟩ u) at0 ⟨_, _, rfl, GLe.refl _, Nat.le_refl _, u, ?_⟩⟩
          dsimp only
          rw [hcw]; rfl
        · rw [decide_eq_false h2, if_neg Bool.false_ne_true]
          exact ⟨rfl, _, _, rfl, GLe.refl _, Nat.le_refl _, fun hs => nomatch hs⟩
      · rw [decide_eq_false h1, if_neg Bool.false_ne_true]
        exact ⟨rfl, _, _, rfl, GLe.refl _, Nat.le_refl _, fun hs => nomatch hs⟩
    · obtain ⟨ls, rfl, hls⟩ := hM.strs0
      have e0 : (tx (fullOf (fT T) c)).cps.size = (fullOf (fT T) c).length := by simp [tx]
      have hls' : ls.map (·.1) = ((fullOf (fT T) c).filter fun x => decide (x ≠ c) && decide (x ∈ line)).map one := by
        rw [hls, e0, ← range_filt (fullOf (fT T) c) fun x => decide (x ≠ c) && decide (x ∈ line), List.map_map, List.map_map]
        rfl
      refine Run.freezeQ fun G₃ hG₃ z3 => ?_
      have hD : ListG G₃ D (strValues ls) := .ofQ z3
      refine newTuple_G (by rw [sizeLine_eq]; simp) fun Tu G₄ hG₄ hn4 => ?_
      have g4 : GLe G₃ G₄ := by rw [hG₄]; exact GLe.add hn4
      have hTu : TupAt G₄ Tu [.str (one c) tc, .ref D] := by rw [hG₄]; exact TupAt.new
      refine ⟨G₄, _, _, nds ++ [((one c, tc), ls)], GLe.trans hG' (GLe.trans hGa (GLe.trans hG₃ g4)), Nat.le_trans hk' hka, ?_, ?_, ?_⟩
      · rw [List.length_append, List.length_singleton]; omega
      · exact (((hN.mono hGa).mono hG₃).mono g4).snoc hTu (hD.mono g4).at
      · rw [List.map_append, hnd, List.take_add_one, hci, Option.toList_some, List.map_append, List.map_singleton, List.map_singleton, hls']
        rfl
  · intro Cc D ys p₂ hI9 _
    refine hI9.casesOn ?_
    intro G' k' o2 nds hG' hk' hyl hN hnd
    dsimp only
    refine Run.freezeQ fun G₂ hG₂ z2 => ?_
    have hall : line.take (strValues lnS).length = line := List.take_of_length_le (by simp [strValues, hlnl])
    rw [hall] at hnd
    refine Run.mono (Q := fun _ p => p = ⟨G₂, mL script number ox rest sl sgn txt oth (some (.ref pl)) data kk ao (some (.ref D)) wr pn, (Cc + 1, cellC o2) :: nL L (some (.ref td)) od (some (.ref fd)) (some (.ref oa)) tbo (some (.ref ln)), k'⟩) (storeLoc (.tail (.tail (.tail (.tail (.tail (.tail (.tail (.tail (.tail (.tail (.tail (.tail .head)))))))))))) rfl) fun _ p hp => ?_
    subst hp
    refine Run.freezeQ fun G₃ hG₃ _ => ?_
    exact h G₃ k' D ys nds (GLe.trans hG' (GLe.trans hG₂ hG₃)) hk' (ListG.mono (.ofQ z2) hG₃) ((hN.mono hG₂).mono hG₃) hnd
end Two
end Mine

open PySem PySem.Calls PyProof.Rows
set_option Elab.async false
set_option linter.unusedVariables false
set_option maxRecDepth 100000
namespace Mine
theorem qt_len (D : List Nat) : 2 ≤ (qt D).length ∧ (qt D).length ≤ 6 * D.length + 2 := by
  have h1 : (rp 34 quot D).length ≤ D.length * 6 := rp_len 34 quot D
  unfold qt
  split
  · split
    · simp only [List.length_cons, List.length_append, List.length_nil]; omega
    · simp only [List.length_cons, List.length_append, List.length_nil]; omega
  · simp only [List.length_cons, List.length_append, List.length_nil]; omega
theorem fT_noq {T : Tab} (h : ∀ q ∈ T, GoodT q.2) (c : Nat) : 113 ∉ fT T c := by
  unfold fT
  cases e : kget T c with
  | none => simp
  | some y =>
    have hc : c ∈ T.map (·.1) := by
      by_cases hc : c ∈ T.map (·.1)
      · exact hc
      · rw [kget_none.mpr hc] at e; cases e
    obtain ⟨y', h1, h2⟩ := kget_mem hc
    rw [e] at h1; cases h1
    exact (h _ h2).noq
theorem full_noq {f : Nat → List Nat} (h : ∀ c, 113 ∉ f c) (c : Nat) : 113 ∉ fullOf f c := by
  unfold fullOf
  cases e : kget ownAll c with
  | none => exact h c
  | some y =>
    have hc : c ∈ ownAll.map (·.1) := by
      by_cases hc : c ∈ ownAll.map (·.1)
      · exact hc
      · rw [kget_none.mpr hc] at e; cases e
    obtain ⟨y', h1, h2⟩ := kget_mem hc
    rw [e] at h1; cases h1
    have : ∀ q ∈ ownAll, 113 ∉ q.2 := by decide
    exact this _ h2
theorem line_noq {f : Nat → List Nat} (h : ∀ c, 113 ∉ f c) (os : List Nat) : ∀ q ∈ lineTab f os, 113 ∉ q.2 := fun q hq => by
  obtain ⟨c, hc, rfl⟩ := List.mem_map.mp hq
  exact full_noq h c
/-- what the line makes of a text -/
def along (f : Nat → List Nat) (os : List Nat) (x : List Nat) : List Nat := x.flatMap fun c => thru c (lineTab f os)
theorem along_noq {f : Nat → List Nat} (h : ∀ c, 113 ∉ f c) (os : List Nat) {x : List Nat} (hx : 113 ∉ x) : 113 ∉ along f os x := fun hm => by
  obtain ⟨c, hc, hm⟩ := List.mem_flatMap.mp hm
  exact thru_noq (line_noq h os) (fun e => hx (e ▸ hc)) hm
theorem along_len {f : Nat → List Nat} {os : List Nat} (h : Ord os) (hf : ∀ c ∈ os, (f c).length ≤ 11) (x : List Nat) : (along f os x).length ≤ x.length * 6655 :=
  flatMap_len (fun c => by have := line_room f h hf 0 c; rwa [List.drop_zero] at this) x
namespace Two
variable {C : Cx} {A : Around} {L : Addr}
theorem has_line {f : Nat → List Nat} {os : List Nat} {e : Nat} {ef : List Ent} (hF : FullE f (poolOf e) ef) (hp : os.Perm [65, 46, e]) (he : e ∈ [67, 10, 9, 13]) : HasTab ef (lineTab f os) := fun q hq => by
  obtain ⟨c, hc, rfl⟩ := List.mem_map.mp hq
  exact (hF c).1 ((line_pool hp he c).mp hc)
/-- quoteattr with the table -/
theorem w_quoteT (H : Cx2 C) {d : Nat} (hr : Room A (d + 3)) {x : List Nat} {t : Tok} {tb : Addr} {es : List Ent} {T : Tab} {os : List Nat} {G : Addr → Option Obj} {k : Nat} (hk0 : 0 < k) (hd : DictG C.w G tb es) (hE : Ents k es (tabOf (fT T) os)) (ho : Ord os) (hgood : ∀ q ∈ T, GoodT q.2) (hx : x.length ≤ 40) :
    PureCall C A 46 [.str (tx x) t, .ref tb] G k fun v G' k' => ∃ u, v = .str (tx (qt (along (fT T) os x))) u := by
  have hf : ∀ c ∈ os, (fT T c).length ≤ 11 := fun c _ => fT_len hgood c
  have := w_quote H hr (T := tabOf (fT T) os) (x := x) (t := t) (dd := tb) (es := es) (G := G) (k := k) (quote_args2 H) hk0 hd hE (by omega) (quote_room (fT T) ho hf hx) (fun q hq => by
    obtain ⟨c, hc, rfl⟩ := List.mem_map.mp hq
    exact hf c hc) (by have := ho.len; simp only [tabOf, List.length_map]; omega)
  rw [quoted_eq (fT T) ho x] at this
  exact this
/-- _law_from along the line -/
theorem w_fromL (H : Cx2 C) (hr : Room A 11) {fd ln : Addr} {ef : List Ent} {T : Tab} {os : List Nat} {e : Nat} {lnS : List (Str × Tok)} {c : Nat} {t : Tok} {G : Addr → Option Obj} {k : Nat} (he : e ∈ [67, 10, 9, 13]) (hfd : DictG C.w G fd ef) (hF : FullE (fT T) (poolOf e) ef) (hgood : ∀ q ∈ T, GoodT q.2) (ho : Ord os) (hp : os.Perm [65, 46, e])
    (hln : ListG G ln (strValues lnS)) (hlnS : lnS.map (·.1) = (lineOf os).map one) :
    PureCall C A 183 [.str (one c) t, .ref ln, .ref fd] G k fun v G' k' => ∃ u, v = .str (tx (thru c (lineTab (fT T) os))) u := by
  have hf : ∀ c ∈ os, (fT T c).length ≤ 11 := fun c _ => fT_len hgood c
  have hl9 : (lineTab (fT T) os).length ≤ 9 := by unfold lineTab; rw [List.length_map]; exact line_len ho
  refine w_from H (lineTab (fT T) os).length (hr.less (by omega)) rfl (by omega) ?_ hln hfd (has_line hF hp he) (fun i c => Nat.le_trans (line_room (fT T) ho hf i c) (by decide)) fun q hq => ?_
  · rw [hlnS]; unfold lineTab; rw [List.map_map]; rfl
  · obtain ⟨c, hc, rfl⟩ := List.mem_map.mp hq
    exact Nat.le_trans (full_len (fT_len hgood c)) (by decide)
theorem turn4 (H : Cx2 C) {d : Nat} (hR : Room A (d + 3)) {script number ox rest sl sgn txt oth kk ao nd wr pn od lno oo : Option Value} {td fd pl tb : Addr} {et ef es : List Ent} {T : Tab} {P : List (Str × Tok)} {e lo : Nat} {dt os : List Nat} {tdt : Tok} {G : Addr → Option Obj} {k : Nat} {Q : Flow → Pt → Prop}
    (X : Tn C G k lo td fd pl et ef T P e dt) (ho : Ord os) (hk0 : 0 < k) (htb : DictG C.w G tb es) (hE : Ents k es (tabOf (fT T) os))
    (h : ∀ G' k' tw, GLe G G' → k ≤ k' →
      Run C A L (execs (turnBody.drop 5) (envL L)) ⟨G', mL script number ox rest sl sgn txt oth (some (.ref pl)) (some (.str (tx dt) tdt)) kk ao nd (some (.str (tx (qt (along (fT T) os dt))) tw)) pn, nL L (some (.ref td)) od (some (.ref fd)) oo (some (.ref tb)) lno, k'⟩ Q) :
    Run C A L (execs (turnBody.drop 4) (envL L)) ⟨G, mL script number ox rest sl sgn txt oth (some (.ref pl)) (some (.str (tx dt) tdt)) kk ao nd wr pn, nL L (some (.ref td)) od (some (.ref fd)) oo (some (.ref tb)) lno, k⟩ Q := by
  obtain ⟨⟨o, hof, hd⟩, hc⟩ := H.f46
  refine X_cons (X_Assign (E_callF hof hd (E_glob H.base at2) (E_items_cons (E_loc (v := .str (tx dt) tdt) at9 (E_items_cons (E_cell (c := L + 5) at1 rfl (E_items_nil (R_pure ((w_quoteT H hR hk0 htb hE ho X.hgood (by have := X.hdt.len; omega)).mono fun v G' k' hG' hk' ⟨u, hv⟩ => ?_)))))))))
  subst hv
  exact storeLoc (.tail (.tail (.tail (.tail (.tail (.tail (.tail (.tail (.tail (.tail (.tail (.tail (.tail .head))))))))))))) (h G' k' u hG' hk')
set_option maxHeartbeats 1000000 in
theorem turn5 (H : Cx2 C) (hR : Room A 12) {script number ox rest sl sgn txt oth kk ao nd pn od oo tbo : Option Value} {td fd pl ln : Addr} {et ef : List Ent} {T : Tab} {P lnS : List (Str × Tok)} {e lo : Nat} {dt os : List Nat} {tdt tw : Tok} {G : Addr → Option Obj} {k : Nat} {Q : Flow → Pt → Prop}
    (X : Tn C G k lo td fd pl et ef T P e dt) (ho : Ord os) (hp : os.Perm [65, 46, e]) (hln : ListG G ln (strValues lnS)) (hlnS : lnS.map (·.1) = (lineOf os).map one)
    (h : ∀ G' k', GLe G G' → k ≤ k' →
      Run C A L (execs (turnBody.drop 6) (envL L)) ⟨G', mL script number ox rest sl sgn txt oth (some (.ref pl)) (some (.str (tx dt) tdt)) kk ao nd (some (.str (tx (qt (along (fT T) os dt))) tw)) pn, nL L (some (.ref td)) od (some (.ref fd)) oo tbo (some (.ref ln)), k'⟩ Q) :
    Run C A L (execs (turnBody.drop 5) (envL L)) ⟨G, mL script number ox rest sl sgn txt oth (some (.ref pl)) (some (.str (tx dt) tdt)) kk ao nd (some (.str (tx (qt (along (fT T) os dt))) tw)) pn, nL L (some (.ref td)) od (some (.ref fd)) oo tbo (some (.ref ln)), k⟩ Q := by
  obtain ⟨⟨o1, ho1, hd1⟩, _⟩ := H.f190
  obtain ⟨⟨o2, ho2, hd2⟩, _⟩ := H.f183
  have hf : ∀ c ∈ os, (fT T c).length ≤ 11 := fun c _ => fT_len X.hgood c
  have hal := along_len ho hf dt
  have hdl := X.hdt.len
  refine X_cons (X_If (T_Not (T_val (E_callF ho1 hd1 (E_glob H.base at8) (E_items_cons (E_loc (v := .str (tx (qt (along (fT T) os dt))) tw) at13 (E_items_cons (E_meth F.slot_str_join F.plainAttrs_str F.type_str_join (E_strQ fun tk htk => ⟨HasT.str, E_items_cons ?_⟩)))))))))
  refine E_Comp1 (R := Str0 (fun a => thru (dt[a]?.getD 0) (lineTab (fT T) os))) (fun _ => true) [("line", L + 6), ("full", L + 3)] Str0.monoR (E_loc (v := .str (tx dt) tdt) at9 ⟨_, _, IterOn.str hR.hd, by rw [sizeLine_eq]; simp [tx]; omega, fun Cc i v Ga ka hi ⟨_, hs⟩ hGa hka => Tst.none fun _ => ?_, fun Da ys Ga ka hGa hka hMa => E_items_nil ?_⟩)
  · obtain ⟨ci, u2, e3, rfl⟩ := hs
    have hci : dt[i]?.getD 0 = ci := by
      have : (tx dt).cps[i]? = dt[i]? := by simp [tx]
      rw [this] at e3; rw [e3]; rfl
    refine E_callF ho2 hd2 (E_glob H.base at7) (E_items_cons (E_loc (v := .str ⟨#[ci]⟩ u2) at0 (E_items_cons (E_cell (c := L + 6) at0 rfl (E_items_cons (E_cell (c := L + 3) at3 rfl (E_items_nil ?_)))))))
    refine R_pure ((w_fromL H (hR.less (by omega)) X.he (X.hfd.mono hGa) X.hF X.hgood ho hp (hln.mono hGa) hlnS (c := ci)).mono fun v G₄ k₄ hG₄ hk₄ ⟨u3, hv⟩ => ⟨G₄, k₄, rfl, hG₄, hk₄, u3, ?_⟩)
    dsimp only
    rw [hv, hci]
  · rw [filt] at hMa
    have e0 : (tx dt).cps.size = dt.length := by simp [tx]
    rw [e0] at hMa
    have hfl' : (List.range dt.length).flatMap (fun a => thru (dt[a]?.getD 0) (lineTab (fT T) os)) = along (fT T) os dt := range_flat dt fun c => thru c (lineTab (fT T) os)
    refine R_joinC0 hMa (by rw [hfl']; omega) fun u4 G₅ k₅ hG₅ hk₅ => ?_
    rw [hfl']
    have hq := qt_len (along (fT T) os dt)
    refine E_items_nil (R_pure ((w_isq H (d := 11) hR hq.1 (by omega)).mono fun v G₆ k₆ hG₆ hk₆ hv => ?_))
    subst hv
    rw [isq_qt (along_noq (fT_noq X.hgood) os X.hdt.noq), decide_eq_true rfl]
    refine truthy_bool ?_
    dsimp only
    rw [if_neg (by decide)]
    refine X_nil ?_
    replace htk : k ≤ tk := htk
    replace hka : tk + 1 ≤ ka := hka
    replace hk₆ : k₅ ≤ k₆ := hk₆
    exact h G₆ k₆ (GLe.trans hGa (GLe.trans hG₅ hG₆)) (by omega)
end Two
end Mine

open PySem PySem.Calls PyProof.Rows
set_option Elab.async false
set_option linter.unusedVariables false
set_option maxRecDepth 100000
namespace Mine
namespace Two
variable {C : Cx} {A : Around} {L : Addr}
set_option maxHeartbeats 1000000 in
theorem turn6 (H : Cx2 C) (hR : Room A 12) {script number ox rest sl sgn txt oth data kk ao nd wr pn od oo : Option Value} {td fd pl ln tb : Addr} {et ef es : List Ent} {T : Tab} {P lnS : List (Str × Tok)} {e lo : Nat} {dt os : List Nat} {G : Addr → Option Obj} {k : Nat} {Q : Flow → Pt → Prop}
    (X : Tn C G k lo td fd pl et ef T P e dt) (ho : Ord os) (hp : os.Perm [65, 46, e]) (hk0 : 0 < k) (htb : DictG C.w G tb es) (hE : Ents k es (tabOf (fT T) os)) (hln : ListG G ln (strValues lnS)) (hlnS : lnS.map (·.1) = (lineOf os).map one)
    (h : ∀ G' k', GLe G G' → k ≤ k' →
      Run C A L (execs (turnBody.drop 7) (envL L)) ⟨G', mL script number ox rest sl sgn txt oth (some (.ref pl)) data kk ao nd wr pn, nL L (some (.ref td)) od (some (.ref fd)) oo (some (.ref tb)) (some (.ref ln)), k'⟩ Q) :
    Run C A L (execs (turnBody.drop 6) (envL L)) ⟨G, mL script number ox rest sl sgn txt oth (some (.ref pl)) data kk ao nd wr pn, nL L (some (.ref td)) od (some (.ref fd)) oo (some (.ref tb)) (some (.ref ln)), k⟩ Q := by
  obtain ⟨⟨o1, ho1, hd1⟩, _⟩ := H.f190
  obtain ⟨⟨o2, ho2, hd2⟩, _⟩ := H.f183
  obtain ⟨⟨o3, ho3, hd3⟩, _⟩ := H.f46
  have hf : ∀ c ∈ os, (fT T c).length ≤ 11 := fun c _ => fT_len X.hgood c
  have hPl : P.length = 9 := by have := congrArg List.length X.hP; simpa [poolOf] using this
  refine X_cons (X_If (T_Cmp ?_))
  refine E_Comp1 (R := fun _ _ _ _ => True) (fun _ => false) [("table", L + 5), ("line", L + 6), ("full", L + 3)] (fun _ _ _ _ _ _ _ _ _ => trivial) (E_loc (v := .ref pl) at8 ⟨(strValues P).length, _, IterOn.list hR.hd X.hpl.at, by rw [sizeLine_eq]; simp [strValues]; omega, fun Cc i v Ga ka hi ⟨_, hvx⟩ hGa hka => ?_, fun Da ys Ga ka hGa hka hMa => ?_⟩)
  · have hi9 : i < (poolOf e).length := by simpa [strValues, hPl, poolOf] using hi
    obtain ⟨c, tc, hcm, hcv⟩ := pool_at X.hP hi9
    rw [hcv] at hvx
    cases hvx
    have hc113 : c ≠ 113 := by
      exact fun e0 => (data0 e X.he).2.2.2 (e0 ▸ hcm)
    have hal := along_len ho hf [c]
    have hq := qt_len (along (fT T) os [c])
    simp only [List.length_cons, List.length_nil] at hal
    replace hka : k ≤ ka := hka
    refine R_tests_one (T_Not (T_val (E_callF ho1 hd1 (E_glob H.base at8) (E_items_cons (E_callF ho3 hd3 (E_glob H.base at2) (E_items_cons (E_loc (v := .str (tx [c]) tc) at0 (E_items_cons (E_cell (c := L + 5) at1 rfl (E_items_nil ?_))))))))))
    refine R_pure ((w_quoteT H (hR.less (e := 11 + 3 - 2) (by omega)) (d := 9) (by omega) (htb.mono hGa) (hE.mono hka) ho X.hgood (by simp)).mono fun v G₁ k₁ hG₁ hk₁ ⟨u, hv⟩ => ?_)
    subst hv
    refine E_items_cons (E_callF ho2 hd2 (E_glob H.base at7) (E_items_cons (E_loc (v := .str (one c) tc) at0 (E_items_cons (E_cell (c := L + 6) at0 rfl (E_items_cons (E_cell (c := L + 3) at3 rfl (E_items_nil ?_))))))))
    refine R_pure ((w_fromL H (hR.less (by omega)) X.he ((X.hfd.mono hGa).mono hG₁) X.hF X.hgood ho hp ((hln.mono hGa).mono hG₁) hlnS (c := c)).mono fun v G₂ k₂ hG₂ hk₂ ⟨u3, hv⟩ => ?_)
    subst hv
    refine E_items_nil (R_pure ((w_isq H (d := 11) hR hq.1 (by omega)).mono fun v G₃ k₃ hG₃ hk₃ hv => ?_))
    subst hv
    have hone : along (fT T) os [c] = thru c (lineTab (fT T) os) := by simp [along]
    rw [isq_qt (along_noq (fT_noq X.hgood) os (by simpa using fun e0 => hc113 e0.symm)), hone, decide_eq_true rfl]
    refine truthy_bool ⟨rfl, _, _, rfl, ?_, ?_, fun hs => nomatch hs⟩
    · exact GLe.trans hG₁ (GLe.trans hG₂ hG₃)
    · exact Nat.le_trans hk₁ (Nat.le_trans hk₂ hk₃)
  · have hys : ys = [] := by
      have h1 := hMa.1
      rw [List.filter_eq_nil_iff.mpr (by simp)] at h1
      exact List.length_eq_zero_iff.mp (by simpa using h1)
    subst hys
    refine E_List (E_items_nil (newList_Q (by decide) fun b => C_neL (vs := []) hR.u (.inr at1) at0 (truthy_bool ?_)))
    rw [if_neg (by decide)]
    refine X_nil ?_
    refine Run.freezeQ fun G₁ hG₁ _ => Run.freezeQ fun G₂ hG₂ _ => ?_
    exact h G₂ ka (GLe.trans hGa (GLe.trans hG₁ hG₂)) hka
end Two
end Mine

open PySem PySem.Calls PyProof.Rows
set_option Elab.async false
set_option linter.unusedVariables false
set_option maxRecDepth 100000
namespace Mine
def tabTx2 (T : Tab) : List (Str × Str) := T.map fun q => (one q.1, tx q.2)
def TupR2 (S : Tab) (a : Nat) (y : Value) (G : Addr → Option Obj) (k : Nat) : Prop := ∀ q, S[a]? = some q → ∃ b t u, y = Value.ref b ∧ TupAt G b [Value.str (one q.1) t, Value.str (tx q.2) u]
theorem TupR2.monoR {S : Tab} : MonoR (TupR2 S) := fun a y G G' k k' h hG _ q hq => let ⟨b, t, u, e, ht⟩ := h q hq; ⟨b, t, u, e, ht.mono hG⟩
theorem TupR2.pairs {S : Tab} {ys : List Value} {G : Addr → Option Obj} {k : Nat} (h : Made (TupR2 S) (List.range S.length) ys G k) : PairsG G ys (tabTx2 S) := by
  refine ⟨by rw [h.1]; simp [tabTx2], fun i q hq => ?_⟩
  simp only [tabTx2, List.getElem?_map, Option.map_eq_some_iff] at hq
  obtain ⟨r, hr, rfl⟩ := hq
  have hlt : i < S.length := (List.getElem?_eq_some_iff.mp hr).1
  have h1 : (List.range S.length)[i]? = some i := by simp [hlt]
  have hy : ys[i]? = some (ys[i]'(by rw [h.1]; simpa using hlt)) := by simp
  obtain ⟨b, t, u, e, ht⟩ := h.2 i _ _ h1 hy r hr
  rw [e] at hy
  exact ⟨b, t, u, hy, ht⟩
theorem pairs_of2 {k : Nat} {es : List Ent} {T : Tab} (h : Ents k es T) {G : Addr → Option Obj} {as : List Addr} (hl : as.length = es.length) (hp : ∀ (i : Nat) (q : Ent), es[i]? = some q → ∃ b t, as[i]? = some b ∧ TupAt G b [Value.str q.1 t, q.2.2]) : PairsG G (as.map Value.ref) (tabTx2 T) := by
  refine ⟨by simp [tabTx2, hl, h.length], fun i q hq => ?_⟩
  simp only [tabTx2, List.getElem?_map, Option.map_eq_some_iff] at hq
  obtain ⟨r, hr, rfl⟩ := hq
  have hi : i < es.length := by rw [h.length]; exact (List.getElem?_eq_some_iff.mp hr).1
  obtain ⟨c, y, t, u, e1, e2, _⟩ := h.get (i := i) (q := es[i]) (by simp [hi])
  rw [hr] at e2; cases e2
  obtain ⟨b, t', e3, ht⟩ := hp i es[i] (by simp [hi])
  rw [e1] at ht
  exact ⟨b, t', u, by rw [List.getElem?_map, e3]; rfl, ht⟩
namespace Two
variable {C : Cx} {A : Around} {L : Addr}
theorem line_nodup {os : List Nat} (h : Ord os) : (lineOf os).Nodup := by
  unfold lineOf
  refine List.nodup_append.mpr ⟨by decide, List.nodup_append.mpr ⟨h.nd, ?_, fun a ha b hb e => ?_⟩, fun a ha b hb e => ?_⟩
  · exact List.Nodup.sublist List.filter_sublist (by decide)
  · subst e
    have := (List.mem_filter.mp hb).2
    simp only [decide_eq_true_eq] at this
    exact this ha
  · subst e
    have key : ∀ a ∈ [38, 62, 60], a ∉ [65, 46, 67, 10, 13, 9] ∧ a ∉ [10, 13, 9] := by decide
    rcases List.mem_append.mp hb with hb | hb
    · exact (key a ha).1 (h.mem a hb)
    · exact (key a ha).2 (List.mem_filter.mp hb).1
theorem line_marks {T : Tab} {os : List Nat} {e : Nat} (hT : T.map (·.1) = [65, 46, e]) (hgood : ∀ q ∈ T, GoodT q.2) (hp : os.Perm [65, 46, e]) (he : e ∈ [67, 10, 9, 13]) : ∀ c ∈ lineOf os, ∃ m ∈ fullOf (fT T) c, m ∉ lineOf os := fun c hc => by
  have hcp := (line_pool hp he c).mp hc
  have out : ∀ m, m ∈ [59, 120, 92, 122] → m ∉ lineOf os := fun m hm hn => by
    have key : ∀ e ∈ [67, 10, 9, 13], ∀ m ∈ [59, 120, 92, 122], m ∉ poolOf e := by decide
    exact key e he m hm ((line_pool hp he m).mp hn)
  unfold fullOf
  cases ek : kget ownAll c with
  | some y =>
    have hc : c ∈ ownAll.map (·.1) := by
      by_cases hc : c ∈ ownAll.map (·.1)
      · exact hc
      · rw [kget_none.mpr hc] at ek; cases ek
    obtain ⟨y', h1, h2⟩ := kget_mem hc
    rw [ek] at h1; cases h1
    have : ∀ q ∈ ownAll, 59 ∈ q.2 := by decide
    exact ⟨59, this _ h2, out 59 (by decide)⟩
  | none =>
    have hcT : c ∈ T.map (·.1) := by
      rw [hT]
      exact pool_own e he c hcp (kget_none.mp ek)
    obtain ⟨y, hy, hm⟩ := kget_mem hcT
    obtain ⟨m, hm1, hm2⟩ := (hgood _ hm).mark
    refine ⟨m, ?_, out m ?_⟩
    · show m ∈ fT T c
      unfold fT; rw [hy]; exact hm1
    · exact List.mem_cons_of_mem _ hm2
theorem once_eq {full : Nat → List Nat} {l1 l2 : List Nat} (h : ∀ c, c ∈ l1 ↔ c ∈ l2) : once full l1 = once full l2 := by
  funext c
  unfold once
  by_cases hc : c ∈ l1
  · rw [if_pos hc, if_pos ((h c).mp hc)]
  · rw [if_neg hc, if_neg fun h2 => hc ((h c).mpr h2)]
set_option maxHeartbeats 1000000 in
theorem turn7 (H : Cx2 C) (hR : Room A 12) (hA : A.frames = some [envL L]) {script number ox rest sl sgn txt oth kk pn od oo tbo : Option Value} {td fd pl ln na : Addr} {et ef : List Ent} {T : Tab} {P lnS : List (Str × Tok)} {nvs : List Value} {nds : List ((Str × Tok) × List (Str × Tok))} {e lo : Nat} {dt os : List Nat} {tdt ta tw : Tok} {G : Addr → Option Obj} {k : Nat} {Q : Flow → Pt → Prop}
    (X : Tn C G k lo td fd pl et ef T P e dt) (ho : Ord os) (hp : os.Perm [65, 46, e]) (hln : ListG G ln (strValues lnS)) (hlnS : lnS.map (·.1) = (lineOf os).map one)
    (hna : ListG G na nvs) (hN : NeedsAt G nvs nds) (hnds : NeedsOf (fullOf (fT T)) (lineOf os) nds)
    (h : ∀ G' k', GLe G G' → k ≤ k' →
      Run C A L (execs (turnBody.drop 8) (envL L)) ⟨G', mL script number ox rest sl sgn txt oth (some (.ref pl)) (some (.str (tx dt) tdt)) kk (some (.str (tx (dt.flatMap (once (fullOf (fT T)) (poolOf e)))) ta)) (some (.ref na)) (some (.str (tx (qt (along (fT T) os dt))) tw)) pn, nL L (some (.ref td)) od (some (.ref fd)) oo tbo (some (.ref ln)), k'⟩ Q) :
    Run C A L (execs (turnBody.drop 7) (envL L)) ⟨G, mL script number ox rest sl sgn txt oth (some (.ref pl)) (some (.str (tx dt) tdt)) kk (some (.str (tx (dt.flatMap (once (fullOf (fT T)) (poolOf e)))) ta)) (some (.ref na)) (some (.str (tx (qt (along (fT T) os dt))) tw)) pn, nL L (some (.ref td)) od (some (.ref fd)) oo tbo (some (.ref ln)), k⟩ Q := by
  obtain ⟨⟨o1, ho1, hd1⟩, _⟩ := H.f190
  obtain ⟨⟨o2, ho2, hd2⟩, _⟩ := H.f178
  have hf : ∀ c ∈ os, (fT T c).length ≤ 11 := fun c _ => fT_len X.hgood c
  have hal := along_len ho hf dt
  have hdl := X.hdt.len
  have hq := qt_len (along (fT T) os dt)
  have hl9 := line_len ho
  have hnd := line_nodup ho
  have hlp := line_pool hp X.he
  have key : decide (along (fT T) os dt = dt.flatMap (once (fullOf (fT T)) (poolOf e))) = letsB (prOf nds) (lnS.map (·.1)) := by
    rw [hlnS, once_eq fun c => (hlp c).symm]
    have h1 := once_iff (full := fullOf (fT T)) (data := dt) hnd (line_marks X.hT X.hgood hp X.he) fun c hc => X.hdt.all c ((hlp c).mp hc)
    have h2 := letsB_iff hnd hnds
    rw [Bool.eq_iff_iff, decide_eq_true_iff, h2]
    exact h1
  have hndl : nds.length = (lineOf os).length := by simpa [NeedsOf] using congrArg List.length hnds
  have hlnl : lnS.length = (lineOf os).length := by simpa using congrArg List.length hlnS
  have hin : ∀ q ∈ nds, ∃ c ∈ lineOf os, q.1.1 = one c ∧ q.2.map (·.1) = (((fullOf (fT T) c).filter fun x => decide (x ≠ c) && decide (x ∈ lineOf os)).map one) := fun q hq => by
    have := List.mem_map_of_mem (f := fun q : (Str × Tok) × List (Str × Tok) => (q.1.1, q.2.map (·.1))) hq
    rw [hnds] at this
    obtain ⟨c, hc, e0⟩ := List.mem_map.mp this
    simp only [Prod.mk.injEq] at e0
    exact ⟨c, hc, e0.1.symm, e0.2.symm⟩
  refine X_cons (X_If (T_Cmp (E_callF ho1 hd1 (E_glob H.base at8) (E_items_cons (E_loc (v := .str (tx (qt (along (fT T) os dt))) tw) at13 (E_items_cons (E_loc (v := .str (tx (dt.flatMap (once (fullOf (fT T)) (poolOf e)))) ta) at11 (E_items_nil ?_))))))))
  refine R_pure ((w_isq H (d := 11) hR hq.1 (by omega)).mono fun v G₁ k₁ hG₁ hk₁ hv => ?_)
  subst hv
  rw [isq_qt (along_noq (fT_noq X.hgood) os X.hdt.noq), key]
  refine E_callF ho2 hd2 (E_glob H.base at6) (E_items_cons (E_loc (v := .ref na) at12 (E_items_cons (E_cell (c := L + 6) at0 rfl (E_items_nil ?_)))))
  refine R_callLP (Nc := nL L (some (.ref td)) od (some (.ref fd)) oo tbo (some (.ref ln))) (Nr := []) (by rw [List.append_nil]) ?_
  refine (w_lets H (d := 5) hR hA (fun en hen => ?_) (hna.mono hG₁).at (hN.mono hG₁) (hln.mono hG₁).at (by omega) (by omega) (fun q hq => ?_) ?_ (fun q hq => ?_) fun n hn => ?_).mono fun v G₂ N₂ k₂ hv => ?_
  · rw [List.mem_singleton.mp hen]
    exact ⟨show ScopeKind.function ≠ ScopeKind.module from by decide, L, _, rfl, .head _⟩
  · obtain ⟨c, hc, _, e2⟩ := hin q hq
    have h1 := congrArg List.length e2
    rw [List.length_map, List.length_map] at h1
    have h2 : ((fullOf (fT T) c).filter fun x => decide (x ≠ c) && decide (x ∈ lineOf os)).length ≤ (fullOf (fT T) c).length := List.length_filter_le _ _
    have h3 := full_len (fT_len X.hgood c)
    omega
  · rw [hlnS]
    exact List.Pairwise.map _ (fun a b hab e0 => hab (one_inj.mp e0)) hnd
  · obtain ⟨c, hc, e1, e2⟩ := hin q hq
    rw [hlnS]
    refine ⟨e1 ▸ List.mem_map_of_mem hc, fun m hm => ?_⟩
    have := List.mem_map_of_mem (f := fun z : Str × Tok => z.1) hm
    rw [e2] at this
    obtain ⟨x, hx, e3⟩ := List.mem_map.mp this
    have h4 := (List.mem_filter.mp hx).2
    simp only [ne_eq, Bool.and_eq_true, decide_eq_true_eq] at h4
    rw [← e3]; exact List.mem_map_of_mem h4.2
  · rw [hlnS] at hn
    obtain ⟨c, hc, rfl⟩ := List.mem_map.mp hn
    have : needOf (fullOf (fT T)) (lineOf os) c ∈ nds.map (fun q => (q.1.1, q.2.map (·.1))) := by
      rw [hnds]; exact List.mem_map_of_mem (f := needOf (fullOf (fT T)) (lineOf os)) hc
    obtain ⟨q, hq, e0⟩ := List.mem_map.mp this
    exact ⟨q, hq, congrArg Prod.fst e0⟩
  · refine hv.casesOn ?_
    intro G₂ k₂ hG₂ hk₂
    refine ⟨_, .refl _, C_neB (truthy_bool ?_)⟩
    rw [beq_self_eq_true, if_neg (by decide)]
    refine X_nil ?_
    exact h G₂ k₂ (GLe.trans hG₁ hG₂) (Nat.le_trans hk₁ hk₂)
end Two
end Mine

open PySem PySem.Calls PyProof.Rows
set_option Elab.async false
set_option linter.unusedVariables false
set_option maxRecDepth 100000
namespace Mine
namespace Two
variable {C : Cx} {A : Around} {L : Addr}
set_option maxHeartbeats 1000000 in
theorem turn8 (H : Cx2 C) (hR : Room A 12) {script number ox rest sl sgn txt oth pl' data kk ao nd wr pn od lno : Option Value} {td fd pl tb oa : Addr} {et ef es : List Ent} {T : Tab} {P : List (Str × Tok)} {e lo : Nat} {dt : List Nat} {cs : List (Nat × Nat)} {G : Addr → Option Obj} {k : Nat} {Q : Flow → Pt → Prop}
    (X : Tn C G k lo td fd pl et ef T P e dt) (O : Od G lo oa cs e) (htb : DictG C.w G tb es) (hE : Ents k es (tabOf (fT T) (cs.map (·.1))))
    (h : ∀ G' k', GLe G G' → k ≤ k' → Q .next ⟨G', mL script number ox rest sl sgn txt oth pl' data kk ao nd wr pn, nL L (some (.ref td)) od (some (.ref fd)) (some (.ref oa)) (some (.ref tb)) lno, k'⟩) :
    Run C A L (execs (turnBody.drop 8) (envL L)) ⟨G, mL script number ox rest sl sgn txt oth pl' data kk ao nd wr pn, nL L (some (.ref td)) od (some (.ref fd)) (some (.ref oa)) (some (.ref tb)) lno, k⟩ Q := by
  have hordd := O.ord X.he
  have hcl : cs.length ≤ 3 := by have := hordd.len; simpa using this
  have hel : es.length ≤ 3 := by rw [hE.length]; simp only [tabOf, List.length_map]; omega
  refine Run.fz (X_one (X_If (T_Cmp (E_callV (f := .type "list") (E_blt H.base at4) (E_items_cons (E_meth F.slot_dict_items F.plainAttrs_dict F.type_dict_items (E_cell (c := L + 5) at1 rfl
    ⟨HasT.dict htb, E_items_nil (R_items htb fun v G₁ hG₁ hv1 => E_items_nil (R_listItems hR.hd hv1 (htb.mono hG₁) (by rw [sizeLine_eq]; omega) fun a7 G₂ as hG₂ hal hpa => ?_))⟩)))))))
  dsimp only
  refine Run.freezeQ fun G₃ hG₃ z3 => ?_
  have ha7 : ListG G₃ a7 (as.map Value.ref) := .ofQ z3
  have hPs : PairsG G₃ (as.map Value.ref) (tabTx2 (tabOf (fT T) (cs.map (·.1)))) := (pairs_of2 hE hal hpa).mono hG₃
  have g3 : GLe G G₃ := GLe.trans hG₁ (GLe.trans hG₂ hG₃)
  refine E_Comp1 (R := TupR2 (tabOf (fT T) (cs.map (·.1)))) (fun _ => true) [("texts", L + 1)] TupR2.monoR (E_cell (c := L + 4) at2 rfl ⟨(strValues (oneP cs)).length, _, IterOn.list hR.hd (O.list.mono g3).at, by rw [sizeLine_eq]; simp [strValues, oneP]; omega, fun Cc i v Ga ka hi ⟨_, hvx⟩ hGa hka => Tst.none fun _ => ?_, fun D ys Ga ka hGa hka hM => ?_⟩)
  · have hic : i < cs.length := by simpa [strValues, oneP] using hi
    have hv : v = .str (one cs[i].1) cs[i].2 := by
      have : (strValues (oneP cs))[i]? = some (.str (one cs[i].1) cs[i].2) := by simp [strValues, oneP, hic]
      rw [this] at hvx; exact (Option.some.inj hvx).symm
    subst hv
    have hcT : cs[i].1 ∈ T.map (·.1) := by rw [X.hT]; exact O.perm.mem_iff.mp (List.mem_map_of_mem (f := (·.1)) (List.getElem_mem hic))
    obtain ⟨y, hy, hm⟩ := kget_mem hcT
    obtain ⟨u, hu, hul, huk⟩ := X.htx _ hm
    have htd := (X.htd.mono g3).mono hGa
    refine E_Tuple (E_items_cons (E_loc (v := .str (one cs[i].1) cs[i].2) at0 (E_items_cons (E_Sb F.slot_dict_getitem.lookup (E_cell (c := L + 1) at5 rfl (E_loc (v := .str (one cs[i].1) cs[i].2) at0 ⟨HasTy.dict htd, G_dict htd hu (E_items_nil (newTuple_G (by rw [sizeLine_eq]; simp) fun Tu G₄ hG₄ hn4 => ?_))⟩))))))
    refine ⟨G₄, ka, rfl, by rw [hG₄]; exact GLe.add hn4, Nat.le_refl _, fun q hq => ?_⟩
    have hq' : q = (cs[i].1, y) := by
      have e1 : (tabOf (fT T) (cs.map (·.1)))[i]? = some (cs[i].1, fT T cs[i].1) := by simp [tabOf, hic]
      rw [e1] at hq
      have : fT T cs[i].1 = y := by unfold fT; rw [hy]; rfl
      rw [← Option.some.inj hq, this]
    subst hq'
    exact ⟨Tu, _, _, rfl, by rw [hG₄]; exact TupAt.new⟩
  · rw [filt, show (strValues (oneP cs)).length = (tabOf (fT T) (cs.map (·.1))).length by simp [strValues, oneP, tabOf]] at hM
    have hPy := TupR2.pairs hM
    refine C_nePairs (by have := hR.units; show _ + 1 < _; omega) (.inl (ha7.mono hGa).at) (.inr at0) (hPs.mono hGa) hPy (truthy_bool ?_)
    rw [if_neg Bool.false_ne_true]
    refine X_nil ⟨D, _, _, .head, fun o6 c6 n6 => ?_⟩
    exact h _ ka (GLe.trans g3 (GLe.trans hGa (GLe.add n6))) hka
end Two
end Mine

open PySem PySem.Calls PyProof.Rows
set_option Elab.async false
set_option linter.unusedVariables false
set_option maxRecDepth 100000
namespace Mine
def plainOf (x : List Nat) : List Nat := x.flatMap fun c => (kget ownAll c).getD [c]
theorem thru_own (c : Nat) : thru c ownAll = (kget ownAll c).getD [c] := by
  cases e : kget ownAll c with
  | none => exact thru_free (kget_none.mp e)
  | some y =>
    have hc : c ∈ ownAll.map (·.1) := by
      by_cases hc : c ∈ ownAll.map (·.1)
      · exact hc
      · rw [kget_none.mpr hc] at e; cases e
    have : ∀ c ∈ ownAll.map (·.1), thru c ownAll = (kget ownAll c).getD [c] := by decide
    rw [this c hc, e]
theorem plain_eq (x : List Nat) : repls (kputs [] own3) (esc3 x) = plainOf x := by
  rw [← repls_first, show kputs [] own3 = own3 from rfl, ← repls_app, repls_thru]
  unfold plainOf
  congr 1
  funext c
  exact thru_own c
theorem plain_room {x : List Nat} (hx : x.length ≤ 40) (i : Nat) : (repls ((kputs [] own3).take i) (esc3 x)).length ≤ 999990 := by
  rw [← repls_first, show kputs [] own3 = own3 from rfl, ← repls_app, repls_thru]
  have key : ∀ c, (thru c (first3 ++ own3.take i)).length ≤ 6655 := fun c => by
    have := thru_all (O := []) (W := own3.take i) (by decide) (fun q hq => nomatch hq) (fun q hq => nomatch hq) (fun q hq => List.mem_of_mem_take hq) 0 c
    simpa using this
  have := flatMap_len key x
  omega
theorem own_len1 (c : Nat) : ((kget ownAll c).getD [c]).length ≤ 5 := by
  cases e : kget ownAll c with
  | none => simp
  | some y =>
    have hc : c ∈ ownAll.map (·.1) := by
      by_cases hc : c ∈ ownAll.map (·.1)
      · exact hc
      · rw [kget_none.mpr hc] at e; cases e
    have : ∀ c ∈ ownAll.map (·.1), ((kget ownAll c).getD [c]).length ≤ 5 := by decide
    rw [← e]; exact this c hc
theorem plain_noq {x : List Nat} (hx : 113 ∉ x) : 113 ∉ plainOf x := fun hm => by
  obtain ⟨c, hc, hm⟩ := List.mem_flatMap.mp hm
  cases e : kget ownAll c with
  | none => rw [e] at hm; exact hx (List.mem_singleton.mp hm ▸ hc)
  | some y =>
    have hc : c ∈ ownAll.map (·.1) := by
      by_cases hc : c ∈ ownAll.map (·.1)
      · exact hc
      · rw [kget_none.mpr hc] at e; cases e
    have : ∀ c ∈ ownAll.map (·.1), 113 ∉ (kget ownAll c).getD [c] := by decide
    exact this c hc hm
namespace Two
variable {C : Cx} {A : Around} {L : Addr}
theorem turn (H : Cx2 C) (hR : Room A 12) (hA : A.frames = some [envL L]) {script number ox rest sl sgn txt oth kk nd wr pn od tbo lno : Option Value} {td fd pl oa : Addr} {et ef : List Ent} {T : Tab} {P : List (Str × Tok)} {e lo : Nat} {dt : List Nat} {tdt ta : Tok} {cs : List (Nat × Nat)} {G : Addr → Option Obj} {k : Nat} {Q : Flow → Pt → Prop}
    (X : Tn C G k lo td fd pl et ef T P e dt) (O : Od G lo oa cs e) (hk0 : 0 < k)
    (h : ∀ G' k' sgn nd wr tb ln, GLe G G' → k ≤ k' → Q .next ⟨G', mL script number ox rest sl sgn txt oth (some (.ref pl)) (some (.str (tx dt) tdt)) kk (some (.str (tx (dt.flatMap (once (fullOf (fT T)) (poolOf e)))) ta)) nd wr pn, nL L (some (.ref td)) od (some (.ref fd)) (some (.ref oa)) tb ln, k'⟩) :
    Run C A L (execs turnBody (envL L)) ⟨G, mL script number ox rest sl sgn txt oth (some (.ref pl)) (some (.str (tx dt) tdt)) kk (some (.str (tx (dt.flatMap (once (fullOf (fT T)) (poolOf e)))) ta)) nd wr pn, nL L (some (.ref td)) od (some (.ref fd)) (some (.ref oa)) tbo lno, k⟩ Q := by
  have ho := O.ord X.he
  refine turn1 H hR X O fun G₁ sgn tb es hG₁ htb hE => ?_
  refine turn2 H hR (O.mono hG₁) X.he fun G₂ k₂ ln lnS hG₂ hk₂ hln hlnS => ?_
  refine turn3 H hR ((X.mono hG₁ (Nat.le_refl _)).mono hG₂ hk₂) ((O.mono hG₁).mono hG₂) hln hlnS fun G₃ k₃ na nvs nds hG₃ hk₃ hna hN hnds => ?_
  have g3 : GLe G₁ G₃ := GLe.trans hG₂ hG₃
  have hk3 : k ≤ k₃ := Nat.le_trans hk₂ hk₃
  refine turn4 H (d := 9) hR ((X.mono hG₁ (Nat.le_refl _)).mono g3 hk3) ho (by omega) (htb.mono g3) (hE.mono hk3) fun G₄ k₄ tw hG₄ hk₄ => ?_
  have g4 : GLe G₁ G₄ := GLe.trans g3 hG₄
  have hk4 : k ≤ k₄ := Nat.le_trans hk3 hk₄
  refine turn5 H hR ((X.mono hG₁ (Nat.le_refl _)).mono g4 hk4) ho O.perm ((hln.mono hG₃).mono hG₄) hlnS fun G₅ k₅ hG₅ hk₅ => ?_
  have g5 : GLe G₁ G₅ := GLe.trans g4 hG₅
  have hk5 : k ≤ k₅ := Nat.le_trans hk4 hk₅
  refine turn6 H hR ((X.mono hG₁ (Nat.le_refl _)).mono g5 hk5) ho O.perm (by omega) (htb.mono g5) (hE.mono hk5) (((hln.mono hG₃).mono hG₄).mono hG₅) hlnS fun G₆ k₆ hG₆ hk₆ => ?_
  have g6 : GLe G₁ G₆ := GLe.trans g5 hG₆
  have hk6 : k ≤ k₆ := Nat.le_trans hk5 hk₆
  have g36 : GLe G₃ G₆ := GLe.trans hG₄ (GLe.trans hG₅ hG₆)
  refine turn7 H hR hA ((X.mono hG₁ (Nat.le_refl _)).mono g6 hk6) ho O.perm ((hln.mono hG₃).mono g36) hlnS (hna.mono g36) (hN.mono g36) hnds fun G₇ k₇ hG₇ hk₇ => ?_
  have g7 : GLe G₁ G₇ := GLe.trans g6 hG₇
  have hk7 : k ≤ k₇ := Nat.le_trans hk6 hk₇
  refine turn8 H hR ((X.mono hG₁ (Nat.le_refl _)).mono g7 hk7) ((O.mono hG₁).mono g7) (htb.mono g7) (hE.mono hk7) fun G₈ k₈ hG₈ hk₈ => ?_
  exact h G₈ k₈ _ _ _ _ _ (GLe.trans hG₁ (GLe.trans g7 hG₈)) (Nat.le_trans hk7 hk₈)
inductive Seg5I (G : Addr → Option Obj) (k : Nat) (m : Option Value → Option Value → Option Value → List (Str × Option Value)) (N : Option Value → Option Value → Option Value → List (Addr × Cell)) (i : Nat) : Pt → Prop
  | mk (G' : Addr → Option Obj) (k' : Nat) (sgn nd wr oo tb ln : Option Value) (h1 : GLe G G') (h2 : k ≤ k') : Seg5I G k m N i ⟨G', m sgn nd wr, N oo tb ln, k'⟩
theorem seg5 (H : Cx2 C) (hR : Room A 12) (hA : A.frames = some [envL L]) {script number ox rest sgn txt oth kk od : Option Value} {td fd pl sl : Addr} {et ef : List Ent} {T : Tab} {P : List (Str × Tok)} {e lo : Nat} {dt : List Nat} {tdt ta : Tok} {t1 t2 t3 : Nat} {G : Addr → Option Obj} {k : Nat} {Q : Flow → Pt → Prop}
    (X : Tn C G k lo td fd pl et ef T P e dt) (hk0 : 0 < k) (hsl : ListG G sl (strValues [(one 65, t1), (one 46, t2), (one e, t3)])) (h1 : 0 < t1 ∧ t1 < lo) (h2 : 0 < t2 ∧ t2 < lo) (h3 : 0 < t3 ∧ t3 < lo)
    (h : ∀ G' k' sgn nd wr oo tb ln, GLe G G' → k ≤ k' → Run C A L (execs (bodyL.drop 15) (envL L)) ⟨G', mL script number ox rest (some (.ref sl)) sgn txt oth (some (.ref pl)) (some (.str (tx dt) tdt)) kk (some (.str (tx (dt.flatMap (once (fullOf (fT T)) (poolOf e)))) ta)) nd wr none, nL L (some (.ref td)) od (some (.ref fd)) oo tb ln, k'⟩ Q) :
    Run C A L (execs (bodyL.drop 14) (envL L)) ⟨G, mL script number ox rest (some (.ref sl)) sgn txt oth (some (.ref pl)) (some (.str (tx dt) tdt)) kk (some (.str (tx (dt.flatMap (once (fullOf (fT T)) (poolOf e)))) ta)) none none none, nL L (some (.ref td)) od (some (.ref fd)) none none none, k⟩ Q := by
  obtain ⟨⟨o1, ho1, hd1⟩, _⟩ := H.f171
  have hnd : (([(one 65, t1), (one 46, t2), (one e, t3)] : List (Str × Tok)).map (·.1)).Nodup := by
    have key : ∀ e ∈ [67, 10, 9, 13], [65, 46, e].Nodup := by decide
    exact List.Pairwise.map one (fun a b hab e0 => hab (one_inj.mp e0)) (key e X.he)
  refine X_cons (X_For (Seg5I G k (fun sgn nd wr => mL script number ox rest (some (.ref sl)) sgn txt oth (some (.ref pl)) (some (.str (tx dt) tdt)) kk (some (.str (tx (dt.flatMap (once (fullOf (fT T)) (poolOf e)))) ta)) nd wr none) fun oo tb ln => nL L (some (.ref td)) od (some (.ref fd)) oo tb ln)
    (E_callF ho1 hd1 (E_glob H.base at5) (E_items_cons (E_loc (v := .ref sl) at4 (E_items_nil (R_pure ((w_orders H 3 (hR.less (by omega)) rfl (by decide) hnd hsl).mono fun v G₁ k₁ hG₁ hk₁ hI9 => ?_)))))))
  revert hG₁ hk₁
  refine hI9.casesOn ?_
  intro G₁ k₁ D ws hD hO hz hG₁ hk₁
  refine ⟨ws.length, _, IterOn.list hR.hd hD.at, ⟨G₁, k₁, sgn, none, none, none, none, none, hG₁, hk₁⟩, ?_, ?_⟩
  · intro i p₂ hi hI9
    refine hI9.casesOn ?_
    intro G' k' sgn nd wr oo tb ln hG' hk' hmono
    refine AsgRun.name fun v ⟨_, hvx⟩ => storeCell (c := L + 4) (.tail (.tail .head)) rfl ?_
    dsimp only
    obtain ⟨a, o, rfl, hoa, hop⟩ := hO v (List.mem_of_getElem? hvx)
    obtain ⟨cs, O⟩ := Od.of (hoa.mono hmono) hop h1 h2 h3
    exact turn H hR hA (X.mono hG' hk') O (by omega) fun G₂ k₂ sgn nd wr tb ln hG₂ hk₂ => ⟨G₂, k₂, _, _, _, _, _, _, GLe.trans hG' hG₂, Nat.le_trans hk' hk₂⟩
  · intro p₂ hI9 _
    refine hI9.casesOn ?_
    intro G' k' sgn nd wr oo tb ln hG' hk'
    refine X_nil ?_
    exact h G' k' sgn nd wr oo tb ln hG' hk'
end Two
end Mine

open PySem PySem.Calls PyProof.Rows
set_option Elab.async false
set_option linter.unusedVariables false
set_option maxRecDepth 100000
namespace Mine
namespace Two
variable {C : Cx} {A : Around} {L : Addr}
/-- quoteattr with an empty table -/
theorem w_quoteE (H : Cx2 C) {d : Nat} (hr : Room A (d + 3)) {x : List Nat} {t : Tok} {dd : Addr} {G : Addr → Option Obj} {k : Nat} {args : List Value} (hargs : ∀ fd, fd = fdF 4 (.ref 39) pmX (.ref 45) → Binds C fd args [("data", .str (tx x) t), ("entities", .ref dd)])
    (hk0 : 0 < k) (hd : DictG C.w G dd []) (hx : x.length ≤ 40) : PureCall C A 46 args G k fun v G' k' => ∃ u, v = .str (tx (qt (plainOf x))) u := by
  have := w_quote H hr (T := []) (es := []) hargs hk0 hd .nil (by omega) (plain_room hx) (fun q hq => nomatch hq) (by decide)
  rw [plain_eq] at this
  exact this
set_option maxHeartbeats 1000000 in
theorem seg6 (H : Cx2 C) (hR : Room A 12) {script number ox rest sl sgn txt oth pl kk ao nd wr td fd oo tb ln : Option Value} {od : Addr} {eo : List Ent} {e : Nat} {dt : List Nat} {tdt : Tok} {G : Addr → Option Obj} {k : Nat} {Q : Flow → Pt → Prop}
    (hdt : DataOk e dt) (hk0 : 0 < k) (hod : DictG C.w G od eo) (heo : OwnE eo) (h38 : DictG C.w G 38 []) (h : ∀ p, Q (.ret (.bool true)) p) :
    Run C A L (execs (bodyL.drop 15) (envL L)) ⟨G, mL script number ox rest sl sgn txt oth pl (some (.str (tx dt) tdt)) kk ao nd wr none, nL L td (some (.ref od)) fd oo tb ln, k⟩ Q := by
  obtain ⟨⟨o1, ho1, hd1⟩, _⟩ := H.f190
  obtain ⟨⟨o3, ho3, hd3⟩, _⟩ := H.f46
  have hdl := hdt.len
  have hpl : (plainOf dt).length ≤ 150 := by
    have := flatMap_len own_len1 dt
    show (dt.flatMap _).length ≤ 150
    omega
  have hq := qt_len (plainOf dt)
  refine X_cons (X_Assign (E_meth F.slot_str_join F.plainAttrs_str F.type_str_join (E_strQ fun tk htk => ⟨HasT.str, E_items_cons ?_⟩)))
  refine E_Comp1 (R := Str0 (fun a => (kget ownAll (dt[a]?.getD 0)).getD [dt[a]?.getD 0])) (fun _ => true) [("own", L + 2)] Str0.monoR (E_loc (v := .str (tx dt) tdt) at9 ⟨_, _, IterOn.str hR.hd, by rw [sizeLine_eq]; simp [tx]; omega, fun Cc i v Ga ka hi ⟨_, hs⟩ hGa hka => Tst.none fun _ => ?_, fun Da ys Ga ka hGa hka hMa => E_items_nil ?_⟩)
  · obtain ⟨ci, u2, e3, rfl⟩ := hs
    have hci : dt[i]?.getD 0 = ci := by
      have : (tx dt).cps[i]? = dt[i]? := by simp [tx]
      rw [this] at e3; rw [e3]; rfl
    have hO := hod.mono hGa
    refine E_meth F.slot_dict_get F.plainAttrs_dict F.type_dict_get (E_cell (c := L + 2) at4 rfl ⟨HasT.dict hO, E_items_cons (E_loc (v := .str ⟨#[ci]⟩ u2) at0 (E_items_cons (E_loc (v := .str ⟨#[ci]⟩ u2) at0 (E_items_nil (R_dictGet3 hO.a ⟨Ga, ka, rfl, GLe.refl _, Nat.le_refl _, ?_⟩)))))⟩)
    unfold Str0
    dsimp only
    rw [hci]
    show ∃ u, (dget eo (one ci)).getD (.str (one ci) u2) = _
    cases ek : kget ownAll ci with
    | none => rw [(heo ci).1 ek]; exact ⟨u2, rfl⟩
    | some y => obtain ⟨u, hu⟩ := (heo ci).2 y ek; rw [hu]; exact ⟨u, rfl⟩
  rw [filt] at hMa
  have e0 : (tx dt).cps.size = dt.length := by simp [tx]
  rw [e0] at hMa
  have hfl' : (List.range dt.length).flatMap (fun a => (kget ownAll (dt[a]?.getD 0)).getD [dt[a]?.getD 0]) = plainOf dt := range_flat dt fun c => (kget ownAll c).getD [c]
  refine R_joinC0 hMa (by rw [hfl']; omega) fun u4 G₅ k₅ hG₅ hk₅ => storeLoc (.tail (.tail (.tail (.tail (.tail (.tail (.tail (.tail (.tail (.tail (.tail (.tail (.tail (.tail .head)))))))))))))) ?_
  rw [hfl']
  replace htk : k ≤ tk := htk
  replace hka : tk + 1 ≤ ka := hka
  dsimp only
  have g5 : GLe G G₅ := GLe.trans hGa hG₅
  refine X_cons (X_If (T_BoolOp (T_Or_cons (T_Not (T_val (E_callF ho1 hd1 (E_glob H.base at8) (E_items_cons (E_callF ho3 hd3 (E_glob H.base at2) (E_items_cons (E_loc (v := .str (tx dt) tdt) at9 (E_items_nil ?_)))))))))))
  refine R_pure ((w_quoteE H (d := 9) hR (quote_args1 H) (by show 0 < k₅; have := hk₅; omega) (h38.mono g5) (by omega)).mono fun v G₆ k₆ hG₆ hk₆ ⟨u, hv⟩ => ?_)
  subst hv
  replace hk₆ : k₅ ≤ k₆ := hk₆
  refine E_items_cons (E_loc (v := .str (tx (plainOf dt)) u4) at14 (E_items_nil (R_pure ((w_isq H (d := 11) hR hq.1 (by omega)).mono fun v G₇ k₇ hG₇ hk₇ hv => ?_))))
  subst hv
  replace hk₇ : k₆ ≤ k₇ := hk₇
  rw [isq_qt (plain_noq hdt.noq), decide_eq_true rfl]
  refine truthy_bool ?_
  rw [if_neg (by decide)]
  refine T_Or_cons (T_Not (T_val (E_callF ho1 hd1 (E_glob H.base at8) (E_items_cons (E_callF ho3 hd3 (E_glob H.base at2) (E_items_cons (E_loc (v := .str (tx dt) tdt) at9 (E_items_cons (E_Dict0 fun d0 hd0 => E_items_nil ?_)))))))))
  have hsy := ne_sys H hd0
  dsimp only
  refine Run.freezeQ fun G₈ hG₈ z8 => ?_
  refine R_pure ((w_quoteE H (d := 9) hR (quote_args2 H) (by show 0 < k₇; have := hk₅; omega) ⟨hsy, z8 _ fun _ h => h⟩ (by omega)).mono fun v G₉ k₉ hG₉ hk₉ ⟨u9, hv⟩ => ?_)
  subst hv
  replace hk₉ : k₇ ≤ k₉ := hk₉
  refine E_items_cons (E_loc (v := .str (tx (plainOf dt)) u4) at14 (E_items_nil (R_pure ((w_isq H (d := 11) hR hq.1 (by omega)).mono fun v Gb kb hGb hkb hv => ?_))))
  subst hv
  replace hkb : k₉ ≤ kb := hkb
  rw [isq_qt (plain_noq hdt.noq), decide_eq_true rfl]
  refine truthy_bool ?_
  rw [if_neg (by decide)]
  refine T_Or_nil ?_
  rw [if_neg Bool.false_ne_true]
  refine X_nil ?_
  have gb : GLe G Gb := GLe.trans g5 (GLe.trans hG₆ (GLe.trans hG₇ (GLe.trans hG₈ (GLe.trans hG₉ hGb))))
  refine X_one (X_Return (E_Cmp (E_callF ho3 hd3 (E_glob H.base at2) (E_items_cons (E_strQ fun t7 h7 => E_items_nil ?_)))))
  refine R_pure ((w_quoteE H (d := 9) (x := []) hR (quote_args1 H) (by show 0 < t7 + 1; omega) (h38.mono gb) (by decide)).mono fun v Gc kc hGc hkc ⟨uc, hv⟩ => ?_)
  subst hv
  refine E_strQ fun t8 h8 => C_eqT (x := qt (plainOf [])) (y := [34, 34]) rfl rfl ?_
  exact h _
theorem w_law (H : Cx2 C) (hr : Room A 13) (hA : A.frames = some []) {l : Addr} {vs : List Value} {ns : List Int} {G : Addr → Option Obj} {k : Nat} (hl : ListAt G l vs) (hv : IntsAt vs ns) (hn : ns.length ≤ 63) (hb : ∀ n ∈ ns, Builtin.Int.intBits n ≤ 2 ^ 20) (h38 : DictG C.w G 38 []) :
    PureCall C A 195 [.ref l] G k fun v G' k' => v = .bool true := by
  obtain ⟨⟨o, ho, hd⟩, hc⟩ := H.f195
  refine PureCall.of (CallRun.goK (mL (some (.ref l)) none none none none none none none none none none none none none none) H.base hr ho hd hc (.of_eq (binds := [("script", .ref l)]) rfl) fun L hR => ?_)
  show Run C _ L (execs bodyL (envL L)) ⟨G, _, nL L none none none none none none, k⟩ _
  have hAL : (A.deeper (envL L)).frames = some [envL L] := Around.frames_deeper hA
  refine seg1 H hR hl hv hn hb fun G₁ k₁ nb tn ox rest sl e t1 t2 t3 hG₁ a1 b1 a2 b2 a3 b3 he hsl => ?_
  refine seg2 H hR (number := none) he hsl fun G₂ k₂ nb tn rest sgn txt oth td et T hG₂ hk₂ htd hT hgood htx => ?_
  refine seg3 H hR he (hsl.mono hG₂) fun G₃ k₃ number rest kk pl P dt tdt hG₃ hk₃ hpl hP hdt => ?_
  refine seg4 H hR (e := e) (by omega) (htd.mono hG₃) hT hgood (htx.mono hk₃) hpl hP hdt he fun G₄ k₄ sgn od eo fd ef ta hG₄ hk₄ hod heo hfd hF => ?_
  have X : Tn C G₄ k₄ k₁ td fd pl et ef T P e dt := ⟨he, by omega, (htd.mono hG₃).mono hG₄, hT, hgood, htx.mono (by omega), hfd, hF, hpl.mono hG₄, hP, hdt⟩
  refine seg5 H hR hAL X (by omega) (((hsl.mono hG₂).mono hG₃).mono hG₄) ⟨a1, b1⟩ ⟨a2, b2⟩ ⟨a3, b3⟩ fun G₅ k₅ sgn nd wr oo tb ln hG₅ hk₅ => ?_
  refine seg6 H hR hdt (by omega) (hod.mono hG₅) heo (h38.mono (GLe.trans hG₁ (GLe.trans hG₂ (GLe.trans hG₃ (GLe.trans hG₄ hG₅))))) fun p => rfl
theorem law_ends (H : Cx2 C) (hr : Room A 13) (hA : A.frames = some []) {l : Addr} {vs : List Value} {ns : List Int} (hl : C.B.IsList l vs.toArray) (hI : IntsAre vs ns) (hn : ns.length ≤ 63) (hb : ∀ n ∈ ns, Builtin.Int.intBits n ≤ 2 ^ 20) (s : Shared) (hs : s.heap = C.B) :
    wpAny (model C.prog C.w) A (PySem.call (.ref 195) [.ref l]) (fun v s' => v = .bool true ∧ (∀ b o, s.heap.get? b = some o → s'.heap.get? b = some o) ∧ s'.os = s.os ∧ s'.gens = s.gens) (fun _ _ => False) s := by
  obtain ⟨o, ho, hc, n, hd⟩ := hl
  have S : Sat0 C.B (fun b => C.B.get? b) [] s.heap := by
    rw [hs]
    exact ⟨fun _ _ e => e, fun _ _ e => e, (fun q hq => nomatch hq), (fun b hb => nomatch hb), (fun b hb => nomatch hb), List.nodup_nil⟩
  refine wpAny_call (codeAny_mono (w_law H hr hA (G := fun b => C.B.get? b) (k := s.toks) ⟨o, n, ho, hc, hd⟩ (ints_at hI) hn hb ⟨by decide, H.e38⟩ s S ⟨Nat.le_refl _⟩) fun r s' hr => ?_)
  obtain ⟨v, G', N', k', rfl, S', x, _, _, _, hv⟩ := hr
  exact ⟨hv, fun b o e => x.keep b o e id (fun h => nomatch h), x.os, x.gens⟩
end Two
end Mine

namespace Mine
open PySem PySem.W PyProof.Rows
theorem left_of {p q : Program} {loose : List Str} {Xt : Shared → Bool} {α : Type} {Yf : Shared → α} {Ya : World → α} {N : Nat} (e : opening p = plainProg p.main.scope.names) (hN : Nat.ble 600 N = true) (f : ∀ s, fenceModules? p s = some s)
    (h : ∀ (w : World) (os : OsState), (topFrom treeTable p w N ⟨boot_heap w.params, Array.mk [], boot_drawn, boot_toks, os⟩).map (fun s => (openSeen q loose (importedModules p.main.body) Xt true s, Yf s)) = some (openGood q loose, Ya w)) : LeftO p q loose Xt Yf Ya N := fun w => by
  obtain ⟨⟨h', gs, d, k, os⟩, e1, e2⟩ := Option.map_eq_some_iff.mp (boot_open e hN f w)
  obtain ⟨rfl, rfl, rfl, rfl⟩ : h' = _ ∧ gs = _ ∧ d = _ ∧ k = _ := by simpa using e2
  unfold openEnds
  rw [e1]
  exact h w os
def codeIs (h : Heap) (c : Addr) (q : Str) : Bool := match h.get? c with
  | some o => (match o.data with
    | .fields vs => (match (vs : Array Value)[1]? with
      | some (Value.str x _) => x == q
      | _ => false)
    | _ => false)
  | none => false
theorem codeIs.spec {h : Heap} {c : Addr} {q : Str} (e : codeIs h c q = true) : h.CodeRec (.ref c) q := by
  unfold codeIs at e
  split at e
  · rename_i o ho
    split at e
    · rename_i vs hd
      split at e
      · rename_i x t ex
        exact ⟨c, o, vs, t, rfl, ho, hd, by rw [ex, eq_of_beq e]⟩
      · cases e
    · cases e
  · cases e
def en (P : Params) (x : Str) (t : Nat) (v : Value) : DictEntry := ⟨PyData.keyHash P x, .str x t, v⟩
theorem fnAt_of {K : Frag} {h : Heap} (X : K.In h) {a : Addr} {fd : FuncData} (e : (K.lookup a).map (·.data) = some (.func fd)) : ∃ o, h.get? a = some o ∧ o.data = .func fd := by
  cases q : K.lookup a with
  | none => rw [q] at e; cases e
  | some o => rw [q] at e; exact ⟨o, X a o q, by injection e⟩
theorem someAt_of {K : Frag} {h : Heap} (X : K.In h) {a : Addr} (e : (K.lookup a).isSome = true) : ∃ o, h.get? a = some o := by
  obtain ⟨o, q⟩ := Option.isSome_iff_exists.mp e
  exact ⟨o, X a o q⟩
theorem fa_of {o : Option Value} {a b : Addr} (h1 : o = some (.ref a)) (h2 : o = some (.ref b)) : b = a := by
  rw [h1] at h2
  injection h2 with h2
  injection h2 with h2
  exact h2.symm
namespace Two
def headK (P : Params) : Frag := [
  (2, { cls := .none, data := .dict #[] }),
  (3, { cls := .type "dict", data := .dict #[en P "__name__" 165 (.str "law_dn0038_02" 404), en P "__doc__" 166 (.none), en P "__package__" 167 (.none), en P "__loader__" 168 (.builtin "__main__.__loader__#opaque"), en P "__spec__" 169 (.none), en P "__annotations__" 170 (.ref 6), en P "__builtins__" 171 (.ref 4), en P "__file__" 173 (.str "/claim/cut.py" 172), en P "__cached__" 174 (.none), en P "_wall" 193 (.ref 21), en P "dict_replace_saxutils" 205 (.ref 28), en P "escape" 213 (.ref 37), en P "quoteattr" 221 (.ref 46), en P "_NODE_OUT" 226 (.int (-1) 225), en P "_NODE_DONE" 229 (.int (-2) 228), en P "_NodeInfo" 266 (.ref 65), en P "CycleError" 284 (.ref 80), en P "TopologicalSorter" 403 (.ref 162), en P "_law_orders" 411 (.ref 171), en P "_law_lets_through" 423 (.ref 178), en P "_law_from" 429 (.ref 183), en P "_law_is_quoted" 438 (.ref 190), en P "law" 444 (.ref 195)] 23 }),
  (28, { cls := .type "function", data := .func (fdF 2 .none pmX (.ref 27)) }),
  (29, { cls := .type "dict", data := .dict #[] }),
  (30, { cls := .type "tuple", data := .seq #[.ref 29] }),
  (37, { cls := .type "function", data := .func (fdF 3 (.ref 30) pmX (.ref 36)) }),
  (38, { cls := .type "dict", data := .dict #[] }),
  (39, { cls := .type "tuple", data := .seq #[.ref 38] }),
  (46, { cls := .type "function", data := .func (fdF 4 (.ref 39) pmX (.ref 45)) }),
  (61, { cls := .type "function", data := .func (fdM 8 1 "_NodeInfo.__init__" .none (.ref 60)) }),
  (64, { cls := .type "dict", data := .dict #[en P "__module__" 237 (.str "cpy313.graphlib" 222), en P "__firstlineno__" 241 (.int 30 240), en P "__slots__" 245 (.ref 54), en P "__init__" 253 (.ref 61), en P "__static_attributes__" 257 (.ref 62), en P "node" 259 (.ref 66), en P "npredecessors" 261 (.ref 67), en P "successors" 263 (.ref 68), en P "__doc__" 264 (.none)] 5 }),
  (65, { cls := .type "type", data := .cls { name := "_NodeInfo", bases := [.type "object"], mro := [.ref 65, .type "object"], ns := 64, qualname := "_NodeInfo", hasDict := false, slotNames := ["node", "npredecessors", "successors"] }, slots := #[none, none, some (.str "_NodeInfo" 230), some (.str "_NodeInfo" 238), some (.builtin "object.__new__"), some (.bool false)] }),
  (66, { cls := .type "member_descriptor", data := .fields #[.str "node" 258, .ref 65, .builtin "proto.slot", .builtin "proto.slot#set", .int 2 0] }),
  (67, { cls := .type "member_descriptor", data := .fields #[.str "npredecessors" 260, .ref 65, .builtin "proto.slot", .builtin "proto.slot#set", .int 1 0] }),
  (68, { cls := .type "member_descriptor", data := .fields #[.str "successors" 262, .ref 65, .builtin "proto.slot", .builtin "proto.slot#set", .int 0 0] }),
  (79, { cls := .type "dict", data := .dict #[en P "__module__" 274 (.str "cpy313.graphlib" 222), en P "__firstlineno__" 278 (.int 37 277), en P "__static_attributes__" 279 (.ref 78), en P "__weakref__" 281 (.ref 81), en P "__doc__" 282 (.none)] 3 }),
  (80, { cls := .type "type", data := .cls { name := "CycleError", bases := [.type "ValueError"], mro := [.ref 80, .type "ValueError", .type "Exception", .type "BaseException", .type "object"], ns := 79, qualname := "CycleError" }, slots := #[some (.ref 71), none, some (.str "CycleError" 267), some (.str "CycleError" 275), some (.builtin "ValueError.__new__"), some (.bool true)] }),
  (91, { cls := .type "tuple", data := .seq #[.none] }),
  (98, { cls := .type "function", data := .func (fdM 10 0 "TopologicalSorter.__init__" (.ref 91) (.ref 97)) }),
  (105, { cls := .type "function", data := .func (fdM 10 1 "TopologicalSorter._get_nodeinfo" .none (.ref 104)) }),
  (112, { cls := .type "function", data := .func (fdM 10 2 "TopologicalSorter.add" .none (.ref 111)) }),
  (117, { cls := .type "function", data := .func (fdM 10 3 "TopologicalSorter.prepare" .none (.ref 116)) }),
  (124, { cls := .type "function", data := .func (fdM 10 4 "TopologicalSorter.get_ready" .none (.ref 123)) }),
  (131, { cls := .type "function", data := .func (fdM 10 5 "TopologicalSorter.is_active" .none (.ref 130)) }),
  (145, { cls := .type "function", data := .func (fdM 10 7 "TopologicalSorter.done" .none (.ref 144)) }),
  (152, { cls := .type "function", data := .func (fdM 10 8 "TopologicalSorter._find_cycle" .none (.ref 151)) }),
  (161, { cls := .type "dict", data := .dict #[en P "__module__" 292 (.str "cpy313.graphlib" 222), en P "__firstlineno__" 296 (.int 39 295), en P "__init__" 306 (.ref 98), en P "_get_nodeinfo" 315 (.ref 105), en P "add" 327 (.ref 112), en P "prepare" 333 (.ref 117), en P "get_ready" 343 (.ref 124), en P "is_active" 350 (.ref 131), en P "__bool__" 357 (.ref 138), en P "done" 371 (.ref 145), en P "_find_cycle" 384 (.ref 152), en P "static_order" 391 (.ref 159), en P "__static_attributes__" 396 (.ref 160), en P "__dict__" 398 (.ref 163), en P "__weakref__" 400 (.ref 164), en P "__doc__" 401 (.none)] 4 }),
  (162, { cls := .type "type", data := .cls { name := "TopologicalSorter", bases := [.type "object"], mro := [.ref 162, .type "object"], ns := 161, qualname := "TopologicalSorter" }, slots := #[none, none, some (.str "TopologicalSorter" 285), some (.str "TopologicalSorter" 293), some (.builtin "object.__new__"), some (.bool true)] }),
  (171, { cls := .type "function", data := .func (fdF 12 .none pmL (.ref 170)) }),
  (178, { cls := .type "function", data := .func (fdF 13 .none pmL (.ref 177)) }),
  (183, { cls := .type "function", data := .func (fdF 14 .none pmL (.ref 182)) }),
  (190, { cls := .type "function", data := .func (fdF 15 .none pmL (.ref 189)) }),
  (195, { cls := .type "function", data := .func (fdF 16 .none pmL (.ref 194)) })]
def headCodes : List (Addr × Str) := [(27, "dict_replace_saxutils"), (36, "escape"), (45, "quoteattr"), (170, "_law_orders"), (177, "_law_lets_through"), (182, "_law_from"), (189, "_law_is_quoted"), (194, "law"), (60, "_NodeInfo.__init__"), (97, "TopologicalSorter.__init__"), (104, "TopologicalSorter._get_nodeinfo"), (111, "TopologicalSorter.add"), (116, "TopologicalSorter.prepare"), (123, "TopologicalSorter.get_ready"), (130, "TopologicalSorter.is_active"), (144, "TopologicalSorter.done"), (151, "TopologicalSorter._find_cycle")]
def headAs : List Addr := [2, 3, 28, 29, 30, 37, 38, 39, 46, 61, 64, 65, 66, 67, 68, 79, 80, 91, 98, 105, 112, 117, 124, 131, 145, 152, 161, 162, 171, 178, 183, 190, 195]
def headH : Hook := ⟨List (Option Obj) × Bool, fun s => (headAs.map s.heap.get?, headCodes.all fun q => codeIs s.heap q.1 q.2), fun w => ((headK w.params).map fun p => some p.2, true),
  fun w h => (headK w.params).In h ∧ ∀ q ∈ headCodes, h.CodeRec (.ref q.1) q.2,
  fun w s e => ⟨Frag.in_of (as := headAs) rfl (congrArg Prod.fst e), fun q hq => codeIs.spec (List.all_eq_true.mp (congrArg Prod.snd e) q hq)⟩,
  fun w h h' x k => ⟨x.1.keeps k, fun q hq => (x.2 q hq).keeps k⟩⟩
def headQ : Program := view PySem.Challenge.pw_dn0038_02 [16]
def headL : List Str := ["dict_replace_saxutils", "escape", "quoteattr", "_NODE_OUT", "_NODE_DONE", "_NodeInfo", "CycleError", "TopologicalSorter", "_law_orders", "_law_lets_through", "_law_from", "_law_is_quoted", "_wall"]
def headX (s : Shared) : Bool := xlAt headQ [] s && recOk (RowW.records (OpenRow.toRowW (OpenLaw.row PySem.Challenge.rw_dn0038_02))) s
set_option maxHeartbeats 0
theorem and_tt {a b : Bool} (ha : a = true) (hb : b = true) : (a && b) = true := by rw [ha, hb]; rfl
theorem head_said : OpenLaw.wellSaid PySem.Challenge.rw_dn0038_02 = true := by
  rw [PySem.W.Fast.te9446332074065402090]
  unfold PySem.W.Fast.tw9446332074065402090
  repeat' (with_reducible refine and_tt ?_ ?_)
  · unfold PySem.W.Fast.tw17960256430627541270 PySem.W.Fast.tw2436336058641802641 PySem.W.Fast.tw12908688711261696721
    repeat' (with_reducible refine and_tt ?_ ?_)
    all_goals decide +kernel
  all_goals decide +kernel
theorem head_boot : opening PySem.Challenge.pw_dn0038_02 = plainProg PySem.Challenge.pw_dn0038_02.main.scope.names := by kernel_rfl
theorem head_fence : ∀ s, fenceModules? PySem.Challenge.pw_dn0038_02 s = some s := fun s => by kernel_rfl
theorem head_run : ∀ (w : World) (os : OsState), (topFrom treeTable PySem.Challenge.pw_dn0038_02 w 1500 ⟨boot_heap w.params, Array.mk [], boot_drawn, boot_toks, os⟩).map (fun s => (openSeen headQ headL (importedModules PySem.Challenge.pw_dn0038_02.main.body) headX true s, headH.obs s)) = some (openGood headQ headL, headH.val w) := by
  unfold topFrom
  rw [PySem.W.Fast.te14082659384304107361, PySem.W.Fast.te14364793385576792824, PySem.W.Fast.te4187177175401517315]
  intro w os; kernel_rfl
theorem head_left0 : LeftO PySem.Challenge.pw_dn0038_02 headQ headL headX headH.obs headH.val 1500 := left_of (p := PySem.Challenge.pw_dn0038_02) head_boot (by decide) head_fence head_run
theorem head_prog : (OpenRow.toRowW (OpenLaw.row PySem.Challenge.rw_dn0038_02)).prog = PySem.Challenge.pw_dn0038_02 := rfl
theorem head_left : LeftO (OpenRow.toRowW (OpenLaw.row PySem.Challenge.rw_dn0038_02)).prog headQ headL headX headH.obs headH.val 1500 := head_prog ▸ head_left0
def headD : DefRec × List (Str × PySem.Expr) := (defOf headQ (OpenLaw.row PySem.Challenge.rw_dn0038_02).name).getD (⟨"", ⟨[], [], none, [], [], none, []⟩, [], ⟨.function, [], false, false, []⟩, ⟨0, 0, 0, 0⟩⟩, [])
theorem head_def : defOf headQ (OpenLaw.row PySem.Challenge.rw_dn0038_02).name = some (headD.1, headD.2) := by kernel_rfl
theorem head_the : (OpenRow.toRowW (OpenLaw.row PySem.Challenge.rw_dn0038_02)).prog.theDef (OpenLaw.row PySem.Challenge.rw_dn0038_02).name = some (headD.1.params, headD.1.body, headD.1.scope) := by kernel_rfl
theorem head_kw : kwWritten? headD.1.params.kwonlyargs headD.1.params.kw_defaults = some headD.2 := by kernel_rfl
theorem head_name : headD.1.name = Str.ofString "law" := by kernel_rfl
theorem head_top (h : WalkO headQ headL (XL headQ []) headH.says (OpenRow.toRowW (OpenLaw.row PySem.Challenge.rw_dn0038_02)) headD.1 headD.2 fun f vs => PySem.call f vs) : (OpenLaw.row PySem.Challenge.rw_dn0038_02).Holds := by
  refine holds_open (q := headQ) (loose := headL) (Xt := headX) (XP := XL headQ []) (Yf := headH.obs) (Ya := headH.val) (YP := headH.says) (d := headD.1) (kwd := headD.2) (N := 1500) head_left headH.of headH.keeps
    (fun s e => xl_of s (Bool.and_eq_true_iff.mp e).1) XL.keeps head_def head_the head_kw (fun s e => recFacts_of (Bool.and_eq_true_iff.mp e).2) ?h5 ?h6 ?h7 ?h8 ?hw h
  case h5 => kernel_rfl
  case h6 => exact row_said head_said
  case h7 => decide +kernel
  case h8 => exact ⟨rfl, rfl, rfl, rfl, rfl, by decide +kernel⟩
  case hw => w_witness2
end Two
end Mine
open PySem PySem.W PyProof.Rows
set_option maxRecDepth 100000 in
set_option maxHeartbeats 0 in
theorem PySem.Challenge.cw_dn0038_02_holds : PySem.Challenge.rw_dn0038_02.Holds := by
  refine holds_law Mine.Two.head_said fun said => Mine.Two.head_top ?_
  intro w s₀ s₁ mg mb G Y fa o pm cd doc dV kV ho hd hcd hD hmg hg args vals as hpre hlay hrd hwl hlo
  obtain ⟨KX, KC⟩ := Y
  rw [Mine.Two.head_name] at hmg
  refine Ground.open G ?_
  intro T B D TE TW
  wrow_args hpre hlay hrd hwl hlo
  all_goals rename Heap.IsList _ _ _ => hL
  all_goals rename IntsAre _ _ => hI
  all_goals rename (¬ _ < _) => hlen
  all_goals rename (PyData.layable0 _ = true) => hLay
  all_goals have hfa := Mine.fa_of (mg_of (n := Str.ofString "law") (v := .ref 195) KX T.g (by kernel_rfl)) hmg
  all_goals (have HS : Mine.Two.SCx ⟨PySem.Challenge.rw_dn0038_02.row.prog, w, s₁.heap⟩ := {
    base := { mg := mg, mb := mb, hg := T.g, hb := T.b, lim := T.nolimit, g := List.forall_mem_cons.mpr ⟨mg_of KX T.g (by kernel_rfl), List.forall_mem_cons.mpr ⟨mg_of KX T.g (by kernel_rfl), List.forall_mem_cons.mpr ⟨mg_of KX T.g (by kernel_rfl), List.forall_mem_cons.mpr ⟨mg_of KX T.g (by kernel_rfl), List.forall_mem_cons.mpr ⟨mg_of KX T.g (by kernel_rfl), (fun _ h => nomatch h)⟩⟩⟩⟩⟩, b := List.forall_mem_cons.mpr ⟨⟨mg_none_of KX T.g (by kernel_rfl), (T.builtins _ (by decide)).trans (by kernel_rfl)⟩, List.forall_mem_cons.mpr ⟨⟨mg_none_of KX T.g (by kernel_rfl), (T.builtins _ (by decide)).trans (by kernel_rfl)⟩, List.forall_mem_cons.mpr ⟨⟨mg_none_of KX T.g (by kernel_rfl), (T.builtins _ (by decide)).trans (by kernel_rfl)⟩, List.forall_mem_cons.mpr ⟨⟨mg_none_of KX T.g (by kernel_rfl), (T.builtins _ (by decide)).trans (by kernel_rfl)⟩, List.forall_mem_cons.mpr ⟨⟨mg_none_of KX T.g (by kernel_rfl), (T.builtins _ (by decide)).trans (by kernel_rfl)⟩, List.forall_mem_cons.mpr ⟨⟨mg_none_of KX T.g (by kernel_rfl), (T.builtins _ (by decide)).trans (by kernel_rfl)⟩, (fun _ h => nomatch h)⟩⟩⟩⟩⟩⟩ },
    hsm := Mine.someAt_of KX (by kernel_rfl),
    K := _,
    X := KX,
    mk65 := by kernel_rfl,
    mk162 := by kernel_rfl,
    kp65 := by kernel_rfl,
    kp162 := by kernel_rfl,
    in65 := by kernel_rfl,
    in162 := by kernel_rfl,
    ty61 := by kernel_rfl,
    ty98 := by kernel_rfl,
    s0 := ⟨by kernel_rfl, by kernel_rfl, by kernel_rfl, by kernel_rfl, by kernel_rfl, by kernel_rfl, by kernel_rfl, by kernel_rfl, by kernel_rfl, by kernel_rfl, by decide⟩,
    s1 := ⟨by kernel_rfl, by kernel_rfl, by kernel_rfl, by kernel_rfl, by kernel_rfl, by kernel_rfl, by kernel_rfl, by kernel_rfl, by kernel_rfl, by kernel_rfl, by decide⟩,
    s2 := ⟨by kernel_rfl, by kernel_rfl, by kernel_rfl, by kernel_rfl, by kernel_rfl, by kernel_rfl, by kernel_rfl, by kernel_rfl, by kernel_rfl, by kernel_rfl, by decide⟩,
    o0 := ⟨by kernel_rfl, by kernel_rfl, by kernel_rfl, by kernel_rfl, by kernel_rfl, by kernel_rfl⟩,
    o1 := ⟨by kernel_rfl, by kernel_rfl, by kernel_rfl, by kernel_rfl, by kernel_rfl, by kernel_rfl⟩,
    o2 := ⟨by kernel_rfl, by kernel_rfl, by kernel_rfl, by kernel_rfl, by kernel_rfl, by kernel_rfl⟩,
    o3 := ⟨by kernel_rfl, by kernel_rfl, by kernel_rfl, by kernel_rfl, by kernel_rfl, by kernel_rfl⟩,
    mGet := ⟨by kernel_rfl, by kernel_rfl, by kernel_rfl⟩,
    mAdd := ⟨by kernel_rfl, by kernel_rfl, by kernel_rfl⟩,
    mPrep := ⟨by kernel_rfl, by kernel_rfl, by kernel_rfl⟩,
    mReady := ⟨by kernel_rfl, by kernel_rfl, by kernel_rfl⟩,
    mAct := ⟨by kernel_rfl, by kernel_rfl, by kernel_rfl⟩,
    mDone := ⟨by kernel_rfl, by kernel_rfl, by kernel_rfl⟩,
    mFind := ⟨by kernel_rfl, by kernel_rfl, by kernel_rfl⟩,
    exc := ⟨"CycleError", "CycleError", 79, [.type "ValueError"], true, [], [], false, none, none, some (.ref 71), none, some (.str "CycleError" 267), some (.str "CycleError" 275), some (.bool true), s₁.heap.nsMap 79, KX 80 _ (by kernel_rfl), .of_isNs (isNs_of_in KX (by kernel_rfl)), nsMap_none_of_in KX (by kernel_rfl) (by kernel_rfl)⟩,
    f61 := ⟨Mine.fnAt_of KX (by kernel_rfl), KC (60, _) (List.getElem_mem (l := Mine.Two.headCodes) (n := 8) (by decide))⟩,
    f98 := ⟨Mine.fnAt_of KX (by kernel_rfl), KC (97, _) (List.getElem_mem (l := Mine.Two.headCodes) (n := 9) (by decide))⟩,
    f105 := ⟨Mine.fnAt_of KX (by kernel_rfl), KC (104, _) (List.getElem_mem (l := Mine.Two.headCodes) (n := 10) (by decide))⟩,
    f112 := ⟨Mine.fnAt_of KX (by kernel_rfl), KC (111, _) (List.getElem_mem (l := Mine.Two.headCodes) (n := 11) (by decide))⟩,
    f117 := ⟨Mine.fnAt_of KX (by kernel_rfl), KC (116, _) (List.getElem_mem (l := Mine.Two.headCodes) (n := 12) (by decide))⟩,
    f124 := ⟨Mine.fnAt_of KX (by kernel_rfl), KC (123, _) (List.getElem_mem (l := Mine.Two.headCodes) (n := 13) (by decide))⟩,
    f131 := ⟨Mine.fnAt_of KX (by kernel_rfl), KC (130, _) (List.getElem_mem (l := Mine.Two.headCodes) (n := 14) (by decide))⟩,
    f145 := ⟨Mine.fnAt_of KX (by kernel_rfl), KC (144, _) (List.getElem_mem (l := Mine.Two.headCodes) (n := 15) (by decide))⟩,
    f152 := ⟨Mine.fnAt_of KX (by kernel_rfl), KC (151, _) (List.getElem_mem (l := Mine.Two.headCodes) (n := 16) (by decide))⟩,
    t91 := ⟨{ cls := .type "tuple", data := .seq #[.none] }, 0, KX 91 _ (by kernel_rfl), rfl⟩ })
  all_goals (have H : Mine.Two.Cx2 ⟨PySem.Challenge.rw_dn0038_02.row.prog, w, s₁.heap⟩ := {
    base := { mg := mg, mb := mb, hg := T.g, hb := T.b, lim := T.nolimit, g := List.forall_mem_cons.mpr ⟨mg_of KX T.g (by kernel_rfl), List.forall_mem_cons.mpr ⟨mg_of KX T.g (by kernel_rfl), List.forall_mem_cons.mpr ⟨mg_of KX T.g (by kernel_rfl), List.forall_mem_cons.mpr ⟨mg_of KX T.g (by kernel_rfl), List.forall_mem_cons.mpr ⟨mg_of KX T.g (by kernel_rfl), List.forall_mem_cons.mpr ⟨mg_of KX T.g (by kernel_rfl), List.forall_mem_cons.mpr ⟨mg_of KX T.g (by kernel_rfl), List.forall_mem_cons.mpr ⟨mg_of KX T.g (by kernel_rfl), List.forall_mem_cons.mpr ⟨mg_of KX T.g (by kernel_rfl), (fun _ h => nomatch h)⟩⟩⟩⟩⟩⟩⟩⟩⟩, b := List.forall_mem_cons.mpr ⟨⟨mg_none_of KX T.g (by kernel_rfl), (T.builtins _ (by decide)).trans (by kernel_rfl)⟩, List.forall_mem_cons.mpr ⟨⟨mg_none_of KX T.g (by kernel_rfl), (T.builtins _ (by decide)).trans (by kernel_rfl)⟩, List.forall_mem_cons.mpr ⟨⟨mg_none_of KX T.g (by kernel_rfl), (T.builtins _ (by decide)).trans (by kernel_rfl)⟩, List.forall_mem_cons.mpr ⟨⟨mg_none_of KX T.g (by kernel_rfl), (T.builtins _ (by decide)).trans (by kernel_rfl)⟩, List.forall_mem_cons.mpr ⟨⟨mg_none_of KX T.g (by kernel_rfl), (T.builtins _ (by decide)).trans (by kernel_rfl)⟩, (fun _ h => nomatch h)⟩⟩⟩⟩⟩ },
    nb := (by obtain ⟨mc, hmc, _⟩ := T.nodigits; exact ⟨mc, hmc, ns_none_of KX hmc (by kernel_rfl)⟩),
    hsm := Mine.someAt_of KX (by kernel_rfl),
    S := HS,
    own := ⟨"CycleError", [.type "ValueError", .type "Exception", .type "BaseException", .type "object"], "ValueError.__new__", (fun _ => some (.ref 80)), by decide, ⟨rfl, ⟨[.type "ValueError", .type "Exception", .type "BaseException", .type "object"], 79, "CycleError", "CycleError", [.type "ValueError"], true, [], [], false, none, none, some (.ref 71), none, some (.str "CycleError" 267), some (.str "CycleError" 275), some (.bool true), s₁.heap.nsMap 79, KX 80 _ (by kernel_rfl), .of_isNs (isNs_of_in KX (by kernel_rfl)), List.forall_mem_cons.mpr ⟨nsMap_none_of_in KX (by kernel_rfl) (by kernel_rfl), List.forall_mem_cons.mpr ⟨nsMap_none_of_in KX (by kernel_rfl) (by kernel_rfl), List.forall_mem_cons.mpr ⟨nsMap_none_of_in KX (by kernel_rfl) (by kernel_rfl), List.forall_mem_cons.mpr ⟨nsMap_none_of_in KX (by kernel_rfl) (by kernel_rfl), (fun _ h => nomatch h)⟩⟩⟩⟩, .base⟩⟩⟩,
    bAdd := ⟨by kernel_rfl, by kernel_rfl, by kernel_rfl, by kernel_rfl, by kernel_rfl, by kernel_rfl, by decide⟩,
    f28 := ⟨Mine.fnAt_of KX (by kernel_rfl), KC (27, _) (List.getElem_mem (l := Mine.Two.headCodes) (n := 0) (by decide))⟩,
    f37 := ⟨Mine.fnAt_of KX (by kernel_rfl), KC (36, _) (List.getElem_mem (l := Mine.Two.headCodes) (n := 1) (by decide))⟩,
    f46 := ⟨Mine.fnAt_of KX (by kernel_rfl), KC (45, _) (List.getElem_mem (l := Mine.Two.headCodes) (n := 2) (by decide))⟩,
    f171 := ⟨Mine.fnAt_of KX (by kernel_rfl), KC (170, _) (List.getElem_mem (l := Mine.Two.headCodes) (n := 3) (by decide))⟩,
    f178 := ⟨Mine.fnAt_of KX (by kernel_rfl), KC (177, _) (List.getElem_mem (l := Mine.Two.headCodes) (n := 4) (by decide))⟩,
    f183 := ⟨Mine.fnAt_of KX (by kernel_rfl), KC (182, _) (List.getElem_mem (l := Mine.Two.headCodes) (n := 5) (by decide))⟩,
    f190 := ⟨Mine.fnAt_of KX (by kernel_rfl), KC (189, _) (List.getElem_mem (l := Mine.Two.headCodes) (n := 6) (by decide))⟩,
    f195 := ⟨Mine.fnAt_of KX (by kernel_rfl), KC (194, _) (List.getElem_mem (l := Mine.Two.headCodes) (n := 7) (by decide))⟩,
    t30 := ⟨{ cls := .type "tuple", data := .seq #[.ref 29] }, 0, KX 30 _ (by kernel_rfl), rfl⟩,
    t39 := ⟨{ cls := .type "tuple", data := .seq #[.ref 38] }, 0, KX 39 _ (by kernel_rfl), rfl⟩,
    e38 := ⟨{ cls := .type "dict", data := .dict #[] }, KX 38 _ (by kernel_rfl), 0, ⟨rfl, rfl, rfl⟩, rfl, List.nodup_nil⟩ })
  all_goals clear hd hcd hD hmg KX KC
  all_goals subst hfa
  all_goals refine wpAny_mono (Mine.Two.law_ends (C := ⟨PySem.Challenge.rw_dn0038_02.row.prog, w, s₁.heap⟩) H ⟨by decide, by decide, rfl⟩ rfl hL hI (by omega) (fun n hn => PyData.bits_item_of_ints hLay hn) s₁ rfl) (fun v s' hv => ?_) (fun _ _ h => h.elim)
  all_goals (obtain ⟨rfl, hk, hos, hgn⟩ := hv)
  all_goals exact GoodW.toG ⟨.inl ⟨.bool true, .bool true, [], rfl, fun _ => rfl, .bool _, by kernel_rfl, fun _ => ⟨List.nodup_nil, (fun _ h => nomatch h)⟩⟩, hk, hos, hgn.trans hg⟩
