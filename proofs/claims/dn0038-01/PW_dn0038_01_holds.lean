import PyProof.Rows.All
import Wide.All
import OpenK.AllK
import Wide.FinOn
import PySem.Challenge.RW_dn0038_01
open PySem PySem.Calls PyProof.Rows
set_option Elab.async false
set_option linter.unusedVariables false
namespace Mine

abbrev Cell := Obj → Prop

/-- the abstract state: G what is frozen, m the frame's slots, N what is owned and may change, k a bound below the tokens to come -/
structure Pt where
  G : Addr → Option Obj
  m : List (Str × Option Value)
  N : List (Addr × Cell)
  k : Nat

structure TokOk (k : Nat) (s : Shared) : Prop where
  le : k ≤ s.toks

def look : List (Str × Option Value) → Str → Option Value
  | [], _ => none
  | (y, v) :: r, x => if x = y then v else look r x

structure Cx where
  prog : Program
  w : World
  B : Heap

def dom (N : List (Addr × Cell)) : List Addr := N.map (·.1)

/-- the part without the frame -/
structure Sat0 (B : Heap) (G : Addr → Option Obj) (N : List (Addr × Cell)) (h : Heap) : Prop where
  base : ∀ b o, B.get? b = some o → h.get? b = some o
  gs : ∀ b o, G b = some o → h.get? b = some o
  own : ∀ q ∈ N, ∃ o, h.get? q.1 = some o ∧ q.2 o
  nB : ∀ b ∈ dom N, B.get? b = none
  nG : ∀ b ∈ dom N, G b = none
  nd : (dom N).Nodup

structure Sat (B : Heap) (L : Addr) (p : Pt) (h : Heap) : Prop where
  s0 : Sat0 B p.G p.N h
  ns : h.Ns L (look p.m)
  bL : B.get? L = none
  gL : p.G L = none
  nL : L ∉ dom p.N
  mnd : (p.m.map (·.1)).Nodup

/-- from s at (G, N) to s' at (G', N'), the frame L (if any) set free -/
structure Ext0 (Lk : Addr → Prop) (G : Addr → Option Obj) (N : List (Addr × Cell)) (k : Nat) (s : Shared) (G' : Addr → Option Obj) (N' : List (Addr × Cell)) (k' : Nat) (s' : Shared) : Prop where
  keep : ∀ b o, s.heap.get? b = some o → ¬ Lk b → b ∉ dom N → s'.heap.get? b = some o
  grow : ∀ b o, G b = some o → G' b = some o
  fresh : ∀ b, (G' b ≠ none ∨ b ∈ dom N') → G b ≠ none ∨ b ∈ dom N ∨ s.heap.get? b = none
  noleak : ∀ b ∈ dom N, b ∈ dom N' ∨ G' b ≠ none
  gens : s'.gens = s.gens
  os : s'.os = s.os
  km : k ≤ k'
  kk : k' ≤ k ∨ k' ≤ s'.toks

def Ext (L : Addr) (p : Pt) (s : Shared) (p' : Pt) (s' : Shared) : Prop := Ext0 (· = L) p.G p.N p.k s p'.G p'.N p'.k s'
theorem TokOk.next {Lk : Addr → Prop} {G G₁ : Addr → Option Obj} {N N₁ : List (Addr × Cell)} {k k₁ : Nat} {s s₁ : Shared} (T : TokOk k s) (x : Ext0 Lk G N k s G₁ N₁ k₁ s₁) (h : s.toks ≤ s₁.toks) : TokOk k₁ s₁ :=
  ⟨x.kk.elim (fun e => Nat.le_trans e (Nat.le_trans T.le h)) id⟩

theorem Ext.refl {L : Addr} {p : Pt} {s : Shared} : Ext L p s p s :=
  ⟨fun _ _ e _ _ => e, fun _ _ e => e, fun _ h => h.elim .inl (fun h => .inr (.inl h)), fun _ h => .inl h, rfl, rfl, Nat.le_refl _, .inl (Nat.le_refl _)⟩

theorem Ext0.trans {Lk : Addr → Prop} {B : Heap} {G G₁ G₂ : Addr → Option Obj} {N N₁ N₂ : List (Addr × Cell)} {k k₁ k₂ : Nat} {s s₁ s₂ : Shared}
    (S : Sat0 B G N s.heap) (S₁ : Sat0 B G₁ N₁ s₁.heap) (hL : ∀ b, Lk b → s.heap.get? b ≠ none → s₁.heap.get? b ≠ none)
    (x : Ext0 Lk G N k s G₁ N₁ k₁ s₁) (y : Ext0 Lk G₁ N₁ k₁ s₁ G₂ N₂ k₂ s₂) (ht : s₁.toks ≤ s₂.toks) : Ext0 Lk G N k s G₂ N₂ k₂ s₂ := by
  have al : ∀ b o, s.heap.get? b = some o → s₁.heap.get? b ≠ none := fun b o e => by
    by_cases h1 : Lk b
    · exact hL b h1 (by rw [e]; exact fun h => nomatch h)
    · by_cases h2 : b ∈ dom N
      · rcases x.noleak b h2 with h3 | h3
        · obtain ⟨q, hq, rfl⟩ := List.mem_map.mp h3
          obtain ⟨o', ho', _⟩ := S₁.own q hq
          rw [ho']; exact fun h => nomatch h
        · cases hg : G₁ b with
          | none => exact absurd hg h3
          | some o' => rw [S₁.gs b o' hg]; exact fun h => nomatch h
      · rw [x.keep b o e h1 h2]; exact fun h => nomatch h
  have fr : ∀ b, s₁.heap.get? b = none → s.heap.get? b = none := fun b hb => by
    cases e : s.heap.get? b with
    | none => rfl
    | some o => exact absurd hb (al b o e)
  refine ⟨fun b o e h1 h2 => ?_, fun b o e => y.grow b o (x.grow b o e), fun b h => ?_, fun b h => ?_, y.gens.trans x.gens, y.os.trans x.os, Nat.le_trans x.km y.km,
    y.kk.elim (fun e => x.kk.elim (fun e' => .inl (Nat.le_trans e e')) fun e' => .inr (Nat.le_trans e (Nat.le_trans e' ht))) .inr⟩
  · have e1 := x.keep b o e h1 h2
    refine y.keep b o e1 h1 fun h3 => ?_
    rcases x.fresh b (.inr h3) with h4 | h4 | h4
    · cases hg : G b with
      | none => exact h4 hg
      | some o' =>
        have := S₁.nG b h3
        rw [x.grow b o' hg] at this; cases this
    · exact h2 h4
    · rw [e] at h4; cases h4
  · rcases y.fresh b h with h4 | h4 | h4
    · exact x.fresh b (.inl h4)
    · exact x.fresh b (.inr h4)
    · exact .inr (.inr (fr b h4))
  · rcases x.noleak b h with h4 | h4
    · exact y.noleak b h4
    · right
      cases hg : G₁ b with
      | none => exact absurd hg h4
      | some o' => rw [y.grow b o' hg]; exact fun h => nomatch h

theorem Ext.trans {B : Heap} {L : Addr} {p p₁ p₂ : Pt} {s s₁ s₂ : Shared} (S : Sat B L p s.heap) (S₁ : Sat B L p₁ s₁.heap) (x : Ext L p s p₁ s₁) (y : Ext L p₁ s₁ p₂ s₂) (ht : s₁.toks ≤ s₂.toks) : Ext L p s p₂ s₂ :=
  Ext0.trans S.s0 S₁.s0 (fun b hb _ => by
    cases hb
    obtain ⟨o, _, _, ho, _⟩ := S₁.ns
    rw [ho]; exact fun h => nomatch h) x y ht

/-- from every heap that satisfies p the tree t comes back, without an exception, and then Q -/
structure Run (C : Cx) (A : Around) (L : Addr) {α : Type} (t : Sem α) (p : Pt) (Q : α → Pt → Prop) : Prop where
  of :: go : ∀ s, Sat C.B L p s.heap → TokOk p.k s → wpAny (model C.prog C.w) A t (fun a s' => ∃ p', Sat C.B L p' s'.heap ∧ Ext L p s p' s' ∧ Q a p') (fun _ _ => False) s

/-- what a raw rule wants to hear at its end -/
def Post (C : Cx) (L : Addr) (p : Pt) (s : Shared) {α : Type} (Q : α → Pt → Prop) (a : α) (s' : Shared) : Prop := ∃ p', Sat C.B L p' s'.heap ∧ Ext L p s p' s' ∧ Q a p'

section
variable {C : Cx} {A : Around} {L : Addr} {α β : Type} {p : Pt}

theorem Run.pure {a : α} {Q : α → Pt → Prop} (h : Q a p) : Run C A L (Pure.pure a : Sem α) p Q := .of fun _ S _ => wpAny_pure ⟨p, S, .refl, h⟩

theorem Run.mono {t : Sem α} {Q Q' : α → Pt → Prop} (h : Run C A L t p Q) (hq : ∀ a p', Q a p' → Q' a p') : Run C A L t p Q' :=
  .of fun s S T => wpAny_mono (h.go s S T) (fun a _ ⟨p', S', x, q⟩ => ⟨p', S', x, hq a p' q⟩) fun _ _ e => e

/-- one thing behind another: the second's ends, seen from the first's start -/
theorem Run.after {t : Sem β} {p₁ : Pt} {Q : β → Pt → Prop} {s s₁ : Shared} (S : Sat C.B L p s.heap) (T : TokOk p.k s) (S₁ : Sat C.B L p₁ s₁.heap) (x : Ext L p s p₁ s₁) (ht : s.toks ≤ s₁.toks) (h : Run C A L t p₁ Q) :
    wpAny (model C.prog C.w) A t (Post C L p s Q) (fun _ _ => False) s₁ :=
  wpAny_mono (wpAny_toks (h.go s₁ S₁ (T.next x ht))) (fun b s₂ ⟨ht₂, p₂, S₂, y, r⟩ => ⟨p₂, S₂, x.trans S S₁ y ht₂, r⟩) fun _ _ e => e.2

theorem Run.bind {m : Sem α} {f : α → Sem β} {Q : β → Pt → Prop} (h : Run C A L m p fun a p₁ => Run C A L (f a) p₁ Q) : Run C A L (m >>= f) p Q :=
  .of fun s S T => wpAny_bind (wpAny_mono (wpAny_toks (h.go s S T)) (fun a s₁ ⟨ht, p₁, S₁, x, q⟩ => Run.after S T S₁ x ht q) fun _ _ e => e.2)

theorem Run.of_eq {t t' : Sem α} {Q : α → Pt → Prop} (e : t = t') (h : Run C A L t' p Q) : Run C A L t p Q := e ▸ h

/-- in the same state, whatever the tokens -/
theorem Post.same {s : Shared} {Q : α → Pt → Prop} {a : α} {tk : Nat} (S : Sat C.B L p s.heap) (q : Q a p) : Post C L p s Q a { s with toks := tk } :=
  ⟨p, S, ⟨fun _ _ e _ _ => e, fun _ _ e => e, fun _ h => h.elim .inl (fun h => .inr (.inl h)), fun _ h => .inl h, rfl, rfl, Nat.le_refl _, .inl (Nat.le_refl _)⟩, q⟩
/-- a new token -/
theorem Post.fresh {s : Shared} {Q : α → Pt → Prop} {a : α} (S : Sat C.B L p s.heap) (T : TokOk p.k s) (q : Q a { p with k := s.toks + 1 }) : Post C L p s Q a { s with toks := s.toks + 1 } :=
  ⟨{ p with k := s.toks + 1 }, ⟨S.s0, S.ns, S.bL, S.gL, S.nL, S.mnd⟩, ⟨fun _ _ e _ _ => e, fun _ _ e => e, fun _ h => h.elim .inl (fun h => .inr (.inl h)), fun _ h => .inl h, rfl, rfl, Nat.le_succ_of_le T.le, .inr (Nat.le_refl _)⟩, q⟩

theorem Run.holding {vs : List Value} {t : Sem α} {Q : α → Pt → Prop} (h : Run C A L t p Q) : Run C A L (PySem.holding vs t) p Q := .of fun s S T => wpAny_holding (h.go s S T)
theorem Run.standAt {pos : Pos} {Q : Unit → Pt → Prop} (h : Q () p) : Run C A L (PySem.standAt pos) p Q := .of fun _ S _ => wpAny_standAt ⟨p, S, .refl, h⟩
theorem Run.rule {t : String} {Q : Unit → Pt → Prop} (h : Q () p) : Run C A L (PySem.rule t) p Q := .of fun _ S _ => wpAny_rule ⟨p, S, .refl, h⟩
theorem Run.point {Q : Unit → Pt → Prop} (h : Q () p) : Run C A L PySem.point p Q := .of fun _ S _ => wpAny_point ⟨p, S, .refl, h⟩

end
/-! slots -/
inductive PutM : List (Str × Option Value) → Str → Option Value → List (Str × Option Value) → Prop
  | head {x : Str} {o v : Option Value} {r : List (Str × Option Value)} : PutM ((x, o) :: r) x v ((x, v) :: r)
  | tail {q : Str × Option Value} {x : Str} {v : Option Value} {r r' : List (Str × Option Value)} : PutM r x v r' → PutM (q :: r) x v (q :: r')

theorem PutM.names {m m' : List (Str × Option Value)} {x : Str} {v : Option Value} (h : PutM m x v m') : m'.map (·.1) = m.map (·.1) := by
  induction h with
  | head => rfl
  | tail _ ih => simp only [List.map_cons, ih]
theorem PutM.mem {m m' : List (Str × Option Value)} {x : Str} {v : Option Value} (h : PutM m x v m') : x ∈ m.map (·.1) := by
  induction h with
  | head => simp
  | tail _ ih => exact List.mem_cons_of_mem _ ih
theorem PutM.look {m m' : List (Str × Option Value)} {x : Str} {v : Option Value} (h : PutM m x v m') (hn : (m.map (·.1)).Nodup) :
    Mine.look m' = fun y => if y = x then v else Mine.look m y := by
  induction h with
  | head => funext y; simp only [Mine.look]; split <;> rfl
  | @tail q x v r r' h ih =>
    obtain ⟨z, u⟩ := q
    have h1 := List.nodup_cons.mp hn
    funext y
    simp only [Mine.look, ih h1.2]
    by_cases hz : y = z
    · subst hz
      have : y ≠ x := fun e => h1.1 (e ▸ h.mem)
      simp [this]
    · simp [hz]
theorem look_of_mem : ∀ {m : List (Str × Option Value)} {x : Str} {v : Option Value}, (x, v) ∈ m → (m.map (·.1)).Nodup → look m x = v
  | (y, u) :: r, x, v, hm, hn => by
    have h1 := List.nodup_cons.mp hn
    rcases List.mem_cons.mp hm with e | hm
    · cases e; simp [look]
    · have : x ≠ y := fun e => h1.1 (e ▸ List.mem_map_of_mem (f := (·.1)) hm)
      simp only [look, if_neg this]
      exact look_of_mem hm h1.2

inductive PutN : List (Addr × Cell) → Addr → Cell → Cell → List (Addr × Cell) → Prop
  | head {a : Addr} {c c' : Cell} {r : List (Addr × Cell)} : PutN ((a, c) :: r) a c c' ((a, c') :: r)
  | tail {q : Addr × Cell} {a : Addr} {c c' : Cell} {r r' : List (Addr × Cell)} : PutN r a c c' r' → PutN (q :: r) a c c' (q :: r')
theorem PutN.dom {N N' : List (Addr × Cell)} {a : Addr} {c c' : Cell} (h : PutN N a c c' N') : dom N' = dom N := by
  induction h with
  | head => rfl
  | tail _ ih => simp only [Mine.dom, List.map_cons] at *; rw [ih]
theorem PutN.mem {N N' : List (Addr × Cell)} {a : Addr} {c c' : Cell} (h : PutN N a c c' N') : (a, c) ∈ N := by
  induction h with
  | head => simp
  | tail _ ih => exact List.mem_cons_of_mem _ ih
theorem mem_dom {N : List (Addr × Cell)} {a : Addr} {c : Cell} (h : (a, c) ∈ N) : a ∈ dom N := List.mem_map_of_mem (f := (·.1)) h
theorem PutN.cases {N N' : List (Addr × Cell)} {a : Addr} {c c' : Cell} (h : PutN N a c c' N') (hn : (Mine.dom N).Nodup) : ∀ q ∈ N', q = (a, c') ∨ (q ∈ N ∧ q.1 ≠ a) := by
  induction h with
  | @head a c c' r =>
    intro q hq
    have h1 := List.nodup_cons.mp hn
    rcases List.mem_cons.mp hq with e | hq
    · exact .inl e
    · exact .inr ⟨List.mem_cons_of_mem _ hq, fun e => h1.1 (by rw [← e]; exact List.mem_map_of_mem (f := (·.1)) hq)⟩
  | @tail z a c c' r r' h ih =>
    intro q hq
    have h1 := List.nodup_cons.mp hn
    rcases List.mem_cons.mp hq with e | hq
    · subst e
      exact .inr ⟨List.mem_cons_self, fun e => h1.1 (by show q.1 ∈ Mine.dom r; rw [e]; exact mem_dom h.mem)⟩
    · rcases ih h1.2 q hq with e | ⟨e1, e2⟩
      · exact .inl e
      · exact .inr ⟨List.mem_cons_of_mem _ e1, e2⟩

inductive DelN : List (Addr × Cell) → Addr → Cell → List (Addr × Cell) → Prop
  | head {a : Addr} {c : Cell} {r : List (Addr × Cell)} : DelN ((a, c) :: r) a c r
  | tail {q : Addr × Cell} {a : Addr} {c : Cell} {r r' : List (Addr × Cell)} : DelN r a c r' → DelN (q :: r) a c (q :: r')
theorem DelN.mem {N N' : List (Addr × Cell)} {a : Addr} {c : Cell} (h : DelN N a c N') : (a, c) ∈ N := by
  induction h with
  | head => simp
  | tail _ ih => exact List.mem_cons_of_mem _ ih
theorem DelN.sub {N N' : List (Addr × Cell)} {a : Addr} {c : Cell} (h : DelN N a c N') : ∀ q ∈ N', q ∈ N := by
  induction h with
  | head => exact fun q hq => List.mem_cons_of_mem _ hq
  | tail _ ih =>
    intro q hq
    rcases List.mem_cons.mp hq with e | hq
    · rw [e]; exact List.mem_cons_self
    · exact List.mem_cons_of_mem _ (ih q hq)
theorem DelN.dom {N N' : List (Addr × Cell)} {a : Addr} {c : Cell} (h : DelN N a c N') : ∀ b ∈ dom N, b = a ∨ b ∈ dom N' := by
  induction h with
  | head =>
    intro b hb
    rcases List.mem_cons.mp hb with e | hb
    · exact .inl e
    · exact .inr hb
  | tail _ ih =>
    intro b hb
    rcases List.mem_cons.mp hb with e | hb
    · exact .inr (e ▸ List.mem_cons_self)
    · exact (ih b hb).imp id fun h => List.mem_cons_of_mem _ h
theorem DelN.nodup {N N' : List (Addr × Cell)} {a : Addr} {c : Cell} (h : DelN N a c N') (hn : (Mine.dom N).Nodup) : (Mine.dom N').Nodup ∧ a ∉ Mine.dom N' := by
  induction h with
  | head => exact ⟨(List.nodup_cons.mp hn).2, (List.nodup_cons.mp hn).1⟩
  | @tail q a c r r' h ih =>
    have h1 := List.nodup_cons.mp hn
    have h2 := ih h1.2
    refine ⟨List.nodup_cons.mpr ⟨fun hm => h1.1 ?_, h2.1⟩, fun hm => ?_⟩
    · obtain ⟨z, hz, e⟩ := List.mem_map.mp hm
      exact e ▸ List.mem_map_of_mem (f := (·.1)) (h.sub z hz)
    · rcases List.mem_cons.mp hm with e | hm
      · exact h1.1 (e ▸ mem_dom h.mem)
      · exact h2.2 hm

def addG (G : Addr → Option Obj) (a : Addr) (o : Obj) : Addr → Option Obj := fun b => if b = a then some o else G b

section
variable {B : Heap} {L : Addr} {p : Pt} {h h' : Heap}

theorem Sat.some_ne {a b : Addr} {o : Obj} (ha : h.get? a = none) (hb : h.get? b = some o) : b ≠ a := fun e => by rw [e, ha] at hb; cases hb

theorem Sat0.lt {G : Addr → Option Obj} {N : List (Addr × Cell)} (S : Sat0 B G N h) {b : Addr} (hb : b ∈ dom N) : b < h.objs.size := by
  obtain ⟨q, hq, rfl⟩ := List.mem_map.mp hb
  obtain ⟨o, ho, _⟩ := S.own q hq
  exact Heap.lt_size ho

theorem Sat0.keep {G : Addr → Option Obj} {N : List (Addr × Cell)} (S : Sat0 B G N h) (hk : ∀ b o, h.get? b = some o → h'.get? b = some o) : Sat0 B G N h' :=
  ⟨fun b o e => hk b o (S.base b o e), fun b o e => hk b o (S.gs b o e), fun q hq => let ⟨o, ho, hc⟩ := S.own q hq; ⟨o, hk _ _ ho, hc⟩, S.nB, S.nG, S.nd⟩
/-- a cell of the frame or of what is hidden changes -/
theorem Sat0.sameBut {G : Addr → Option Obj} {N : List (Addr × Cell)} {a : Addr} (S : Sat0 B G N h) (hs : Heap.ExtBut a h h') (aB : B.get? a = none) (aG : G a = none) (aN : a ∉ dom N) : Sat0 B G N h' :=
  ⟨fun b o e => hs b o (fun q => by rw [q, aB] at e; cases e) (S.base b o e), fun b o e => hs b o (fun q => by rw [q, aG] at e; cases e) (S.gs b o e),
   fun q hq => let ⟨o, ho, hc⟩ := S.own q hq; ⟨o, hs _ _ (fun e => aN (e ▸ List.mem_map_of_mem (f := (·.1)) hq)) ho, hc⟩, S.nB, S.nG, S.nd⟩

theorem Sat.keep (S : Sat B L p h) (hk : ∀ b o, h.get? b = some o → h'.get? b = some o) : Sat B L p h' := ⟨S.s0.keep hk, S.ns.keeps hk, S.bL, S.gL, S.nL, S.mnd⟩
theorem Sat.none_at (S : Sat B L p h) {a : Addr} (ha : h.get? a = none) : B.get? a = none ∧ p.G a = none ∧ a ∉ dom p.N ∧ a ≠ L := by
  refine ⟨?_, ?_, fun hm => ?_, fun e => ?_⟩
  · cases hb : B.get? a with
    | none => rfl
    | some o => have := S.s0.base a o hb; rw [ha] at this; cases this
  · cases hb : p.G a with
    | none => rfl
    | some o => have := S.s0.gs a o hb; rw [ha] at this; cases this
  · obtain ⟨q, hq, e⟩ := List.mem_map.mp hm
    obtain ⟨o, ho, _⟩ := S.s0.own q hq
    rw [e, ha] at ho; cases ho
  · obtain ⟨o, _, _, ho, _⟩ := S.ns
    rw [← e, ha] at ho; cases ho
theorem get_size_none (h : Heap) : h.get? h.objs.size = none := by
  cases e : h.get? h.objs.size with
  | none => rfl
  | some o => exact absurd (Heap.lt_size e) (Nat.lt_irrefl _)

theorem Sat.extBut {a : Addr} (S : Sat B L p h) (hs : Heap.ExtBut a h h') (aB : B.get? a = none) (aG : p.G a = none) (aN : a ∉ dom p.N) (aL : a ≠ L) : Sat B L p h' :=
  ⟨S.s0.sameBut hs aB aG aN, S.ns.extBut hs (Ne.symm aL), S.bL, S.gL, S.nL, S.mnd⟩

theorem Sat.setM (S : Sat B L p h) {x : Str} {v : Option Value} {m' : List (Str × Option Value)} (hs : Heap.SameBut L h h') (hn : h'.Ns L fun y => if y = x then v else look p.m y) (P : PutM p.m x v m') :
    Sat B L { p with m := m' } h' :=
  ⟨S.s0.sameBut hs.extBut S.bL S.gL S.nL, by rw [P.look S.mnd]; exact hn, S.bL, S.gL, S.nL, by rw [P.names]; exact S.mnd⟩

theorem Sat.pushN (S : Sat B L p h) {o : Obj} {c : Cell} (hf : o.isFreed = false) (hc : c o) : Sat B L { p with N := (h.objs.size, c) :: p.N } (h.push o) := by
  have hk : ∀ b ob, h.get? b = some ob → (h.push o).get? b = some ob := fun b ob e => Heap.get?_push_of_some _ e
  obtain ⟨nb, ng, nn, nl⟩ := S.none_at (get_size_none h)
  have S' := S.keep hk
  refine ⟨⟨S'.s0.base, S'.s0.gs, fun q hq => ?_, fun b hb => ?_, fun b hb => ?_, List.nodup_cons.mpr ⟨nn, S.s0.nd⟩⟩, S'.ns, S.bL, S.gL, fun hm => ?_, S.mnd⟩
  · rcases List.mem_cons.mp hq with e | hq
    · subst e; exact ⟨o, Heap.get?_push_size _ hf, hc⟩
    · exact S'.s0.own q hq
  · rcases List.mem_cons.mp hb with e | hb
    · exact e ▸ nb
    · exact S.s0.nB b hb
  · rcases List.mem_cons.mp hb with e | hb
    · exact e ▸ ng
    · exact S.s0.nG b hb
  · rcases List.mem_cons.mp hm with e | hm
    · exact nl e.symm
    · exact S.nL hm

theorem Sat.pushG (S : Sat B L p h) {o : Obj} (hf : o.isFreed = false) : Sat B L { p with G := addG p.G h.objs.size o } (h.push o) := by
  have hk : ∀ b ob, h.get? b = some ob → (h.push o).get? b = some ob := fun b ob e => Heap.get?_push_of_some _ e
  obtain ⟨nb, ng, nn, nl⟩ := S.none_at (get_size_none h)
  have S' := S.keep hk
  refine ⟨⟨S'.s0.base, fun b ob e => ?_, S'.s0.own, S.s0.nB, fun b hb => ?_, S.s0.nd⟩, S'.ns, S.bL, ?_, S.nL, S.mnd⟩
  · simp only [addG] at e
    split at e
    · rename_i q; cases e; rw [q]; exact Heap.get?_push_size _ hf
    · exact S'.s0.gs b ob e
  · simp only [addG]; rw [if_neg (by rintro rfl; exact nn hb)]; exact S.s0.nG b hb
  · simp only [addG]; rw [if_neg (Ne.symm nl)]; exact S.gL

theorem Sat.putN (S : Sat B L p h) {a : Addr} {c c' : Cell} {N' : List (Addr × Cell)} {o : Obj} (P : PutN p.N a c c' N') (hs : Heap.ExtBut a h h') (ho : h'.get? a = some o) (hc : c' o) : Sat B L { p with N := N' } h' := by
  have am := mem_dom P.mem
  have aB := S.s0.nB a am
  have aG := S.s0.nG a am
  have aL : a ≠ L := fun e => S.nL (e ▸ am)
  refine ⟨⟨fun b ob e => hs b ob (fun q => by rw [q, aB] at e; cases e) (S.s0.base b ob e), fun b ob e => hs b ob (fun q => by rw [q, aG] at e; cases e) (S.s0.gs b ob e), fun q hq => ?_,
    by show ∀ b ∈ dom N', _; rw [P.dom]; exact S.s0.nB, by show ∀ b ∈ dom N', _; rw [P.dom]; exact S.s0.nG, by show (dom N').Nodup; rw [P.dom]; exact S.s0.nd⟩, S.ns.extBut hs (Ne.symm aL), S.bL, S.gL, by show L ∉ dom N'; rw [P.dom]; exact S.nL, S.mnd⟩
  rcases P.cases S.s0.nd q hq with rfl | ⟨h1, h2⟩
  · exact ⟨o, ho, hc⟩
  · obtain ⟨o', ho', hc'⟩ := S.s0.own q h1
    exact ⟨o', hs _ _ h2 ho', hc'⟩

/-- what is owned is frozen -/
theorem Sat.freeze (S : Sat B L p h) {a : Addr} {c : Cell} {N' : List (Addr × Cell)} (P : DelN p.N a c N') : ∃ o, c o ∧ h.get? a = some o ∧ Sat B L { p with G := addG p.G a o, N := N' } h := by
  obtain ⟨o, ho, hc⟩ := S.s0.own _ P.mem
  refine ⟨o, hc, ho, ⟨S.s0.base, fun b ob e => ?_, fun q hq => S.s0.own q (P.sub q hq), fun b hb => S.s0.nB b ?_, fun b hb => ?_, (P.nodup S.s0.nd).1⟩, S.ns, S.bL, ?_, fun hm => S.nL ?_, S.mnd⟩
  · simp only [addG] at e
    split at e
    · rename_i q; cases e; rw [q]; exact ho
    · exact S.s0.gs b ob e
  · obtain ⟨q, hq, rfl⟩ := List.mem_map.mp hb
    exact List.mem_map_of_mem (f := (·.1)) (P.sub q hq)
  · simp only [addG]
    rw [if_neg (by rintro rfl; exact (P.nodup S.s0.nd).2 hb)]
    obtain ⟨q, hq, rfl⟩ := List.mem_map.mp hb
    exact S.s0.nG _ (List.mem_map_of_mem (f := (·.1)) (P.sub q hq))
  · simp only [addG]; rw [if_neg (by intro q; exact S.nL (by rw [q]; exact mem_dom P.mem))]; exact S.gL
  · obtain ⟨q, hq, e⟩ := List.mem_map.mp hm
    exact e ▸ List.mem_map_of_mem (f := (·.1)) (P.sub q hq)

end

section
variable {L : Addr} {p p' : Pt} {s s' : Shared}
theorem Ext.heap {h' : Heap} {tk : Nat} (hk : ∀ b o, s.heap.get? b = some o → h'.get? b = some o) : Ext L p s p { s with heap := h', toks := tk } :=
  ⟨fun b o e _ _ => hk b o e, fun _ _ e => e, fun _ h => h.elim .inl (fun h => .inr (.inl h)), fun _ h => .inl h, rfl, rfl, Nat.le_refl _, .inl (Nat.le_refl _)⟩
theorem Ext.setM {h' : Heap} {tk : Nat} {m' : List (Str × Option Value)} (hs : Heap.ExtBut L s.heap h') : Ext L p s { p with m := m' } { s with heap := h', toks := tk } :=
  ⟨fun b o e h1 _ => hs b o h1 e, fun _ _ e => e, fun _ h => h.elim .inl (fun h => .inr (.inl h)), fun _ h => .inl h, rfl, rfl, Nat.le_refl _, .inl (Nat.le_refl _)⟩
theorem Ext.putN {h' : Heap} {tk : Nat} {a : Addr} {c c' : Cell} {N' : List (Addr × Cell)} (P : PutN p.N a c c' N') (hs : Heap.ExtBut a s.heap h') : Ext L p s { p with N := N' } { s with heap := h', toks := tk } :=
  ⟨fun b o e _ h2 => hs b o (fun q => h2 (q ▸ mem_dom P.mem)) e, fun _ _ e => e, fun b h => h.elim .inl fun h => .inr (.inl (P.dom ▸ h)), fun b h => .inl (by show b ∈ dom N'; rw [P.dom]; exact h), rfl, rfl, Nat.le_refl _, .inl (Nat.le_refl _)⟩
theorem Ext.pushN {o : Obj} {c : Cell} {tk : Nat} : Ext L p s { p with N := (s.heap.objs.size, c) :: p.N } { s with heap := s.heap.push o, toks := tk } :=
  ⟨fun b o e _ _ => Heap.get?_push_of_some _ e, fun _ _ e => e, fun b h => h.elim .inl fun h => by
    rcases List.mem_cons.mp h with e | h
    · exact .inr (.inr (e ▸ get_size_none _))
    · exact .inr (.inl h), fun b h => .inl (List.mem_cons_of_mem _ h), rfl, rfl, Nat.le_refl _, .inl (Nat.le_refl _)⟩
theorem Ext.pushG (S : Sat B L p s.heap) {o : Obj} {tk : Nat} : Ext L p s { p with G := addG p.G s.heap.objs.size o } { s with heap := s.heap.push o, toks := tk } :=
  ⟨fun b o e _ _ => Heap.get?_push_of_some _ e, fun b ob e => by
      simp only [addG]
      rw [if_neg (by intro q; rw [q, (S.none_at (get_size_none _)).2.1] at e; cases e)]; exact e,
    fun b h => h.elim (fun h => by
      simp only [addG] at h
      split at h
      · rename_i q; exact .inr (.inr (q ▸ get_size_none _))
      · exact .inl h) fun h => .inr (.inl h), fun b h => .inl h, rfl, rfl, Nat.le_refl _, .inl (Nat.le_refl _)⟩
theorem Ext.freeze (S : Sat B L p s.heap) {a : Addr} {c : Cell} {N' : List (Addr × Cell)} {o : Obj} (P : DelN p.N a c N') : Ext L p s { p with G := addG p.G a o, N := N' } s :=
  ⟨fun b o e _ _ => e, fun b ob e => by
      simp only [addG]
      rw [if_neg (by intro q; rw [q, S.s0.nG a (mem_dom P.mem)] at e; cases e)]; exact e,
    fun b h => h.elim (fun h => by
      simp only [addG] at h
      split at h
      · rename_i q; exact .inr (.inl (q ▸ mem_dom P.mem))
      · exact .inl h) fun h => .inr (.inl (by
        obtain ⟨q, hq, e⟩ := List.mem_map.mp h
        exact e ▸ List.mem_map_of_mem (f := (·.1)) (P.sub q hq))),
    fun b h => (P.dom b h).elim (fun e => .inr (by simp [addG, e])) .inl, rfl, rfl, Nat.le_refl _, .inl (Nat.le_refl _)⟩
end

/-- a step of the ghost: what is owned is frozen -/
theorem Run.freeze {C : Cx} {A : Around} {L : Addr} {α : Type} {t : Sem α} {p : Pt} {Q : α → Pt → Prop} {a : Addr} {c : Cell} {N' : List (Addr × Cell)} (P : DelN p.N a c N')
    (h : ∀ o G', c o → G' = addG p.G a o → p.G a = none → Run C A L t { p with G := G', N := N' } Q) : Run C A L t p Q := .of fun s S T => by
  obtain ⟨o, hc, ho, S'⟩ := S.freeze P
  exact Run.after S T S' (Ext.freeze S P) (Nat.le_refl _) (h o _ hc rfl (S.s0.nG a (mem_dom P.mem)))
end Mine

open PySem PySem.Calls PyProof.Rows
set_option Elab.async false
set_option linter.unusedVariables false
namespace Mine

/-- room above for d further frames -/
structure Room (A : Around) (d : Nat) : Prop where
  depth : A.depth + d < recursionLimit
  units : A.units + 8 * d < cLine
  hd : A.handled = none
theorem Room.deeper {A : Around} {d : Nat} (h : Room A (d + 1)) (env : Env) : Room (A.deeper env) d :=
  ⟨by have := h.depth; show A.depth + 1 + d < _; omega, by have := h.units; show A.units + 3 + 8 * d < _; omega, h.hd⟩
theorem Room.in1 {A : Around} {d : Nat} (h : Room A (d + 1)) : Room A.in1 d :=
  ⟨by have := h.depth; show A.depth + d < _; omega, by have := h.units; show A.units + 1 + 8 * d < _; omega, h.hd⟩
theorem Room.less {A : Around} {d e : Nat} (h : Room A d) (he : e ≤ d) : Room A e :=
  ⟨by have := h.depth; omega, by have := h.units; omega, h.hd⟩
theorem Room.u {A : Around} {d : Nat} (h : Room A d) : A.units < cLine := by have := h.units; omega

/-- what is known of the names of the module and of the built-ins -/
structure Base (C : Cx) (gl bl : List (Str × Value)) where
  mg : Str → Option Value
  mb : Str → Option Value
  hg : C.B.Ns mainGlobals mg
  hb : C.B.Ns builtinsNs mb
  lim : C.B.NoLimit
  g : ∀ q ∈ gl, mg q.1 = some q.2
  b : ∀ q ∈ bl, mg q.1 = none ∧ mb q.1 = some q.2

section
variable {C : Cx} {A : Around} {L : Addr} {α β : Type} {p : Pt} {env : Env}

theorem Run.release {vs keep : List Value} {Q : Unit → Pt → Prop} (h : Q () p) : Run C A L (release vs keep) p Q := .of fun _ S T => wpAny_release ⟨p, S, .refl, h⟩
theorem Run.operate {vs : List Value} {t : Sem Value} {Q : Value → Pt → Prop} (h : Run C A L t p Q) : Run C A L (operate vs t) p Q := .of fun s S T => wpAny_operating (h.go s S T)

/-! expressions -/
theorem E_int {i k pos} {Q : Value → Pt → Prop} (h : ∀ t, Q (.int i t) p) : Run C A L (eval (.Constant (.int i) k pos) env) p Q := .of fun s S T => wpAny_Constant_int (Post.same S (h s.toks))
theorem E_str {x k pos} {Q : Value → Pt → Prop} (h : ∀ t, p.k ≤ t → Q (.str x t) { p with k := t + 1 }) : Run C A L (eval (.Constant (.str x) k pos) env) p Q := .of fun s S T => wpAny_Constant_str (Post.fresh S T (h s.toks T.le))
theorem E_bool {b k pos} {Q : Value → Pt → Prop} (h : Q (.bool b) p) : Run C A L (eval (.Constant (.bool b) k pos) env) p Q := .of fun s S T => wpAny_Constant_bool ⟨p, S, .refl, h⟩
theorem E_none {k pos} {Q : Value → Pt → Prop} (h : Q .none p) : Run C A L (eval (.Constant .none k pos) env) p Q := .of fun s S T => wpAny_Constant_none ⟨p, S, .refl, h⟩

theorem E_loc {x : Str} {pos : Pos} {v : Value} {Q : Value → Pt → Prop} (hm : (x, some v) ∈ p.m) (h : Q v p) (hL : env.locals = L := by rfl) (hk : env.scope.kind = .function := by rfl) (hl : env.kindOf x = some .local := by rfl)
    (hd : (x == ("__debug__" : Str)) = false := by decide) : Run C A L (eval (.Name x pos) env) p Q := .of fun s S T => by
  subst hL
  exact wpAny_Name (wpAny_loadName_local hk hl S.ns (look_of_mem hm S.mnd) ⟨p, S, .refl, h⟩) hd
theorem E_glob {gl bl : List (Str × Value)} {x : Str} {pos : Pos} {v : Value} {Q : Value → Pt → Prop} (K : Base C gl bl) (hm : (x, v) ∈ gl) (h : Q v p) (hk : env.scope.kind = .function := by rfl) (hg : env.globals = mainGlobals := by rfl)
    (hl : env.kindOf x = some .globalImplicit := by rfl) (hd : (x == ("__debug__" : Str)) = false := by decide) : Run C A L (eval (.Name x pos) env) p Q := .of fun s S T =>
  Name_function_global hk hl (loadGlobal_global (hg ▸ K.hg.keeps S.s0.base) (K.g _ hm) ⟨p, S, .refl, h⟩) hd
theorem E_blt {gl bl : List (Str × Value)} {x : Str} {pos : Pos} {v : Value} {Q : Value → Pt → Prop} (K : Base C gl bl) (hm : (x, v) ∈ bl) (h : Q v p) (hk : env.scope.kind = .function := by rfl) (hg : env.globals = mainGlobals := by rfl) (hb : env.builtins = builtinsNs := by rfl)
    (hl : env.kindOf x = some .globalImplicit := by rfl) (hd : (x == ("__debug__" : Str)) = false := by decide) : Run C A L (eval (.Name x pos) env) p Q := .of fun s S T =>
  Name_function_global hk hl (loadGlobal_builtin (hg ▸ K.hg.keeps S.s0.base) (K.b _ hm).1 (hb ▸ K.hb.keeps S.s0.base) (K.b _ hm).2 ⟨p, S, .refl, h⟩) hd

/-- a variable's cell (closures) -/
def cellC (v : Option Value) : Cell := fun o => o.data = .cell v
theorem E_cell {x : Str} {pos : Pos} {c : Addr} {v : Value} {Q : Value → Pt → Prop} (hm : (c, cellC (some v)) ∈ p.N) (hc : env.cells.lookup x = some c) (h : Q v p) (hk : env.scope.kind = .function := by rfl)
    (hl : env.kindOf x = some .cell ∨ env.kindOf x = some .free := by first | exact .inl rfl | exact .inr rfl) (hd : (x == ("__debug__" : Str)) = false := by decide) (hn : (x == ("__classdict__" : Str)) = false := by decide) :
    Run C A L (eval (.Name x pos) env) p Q := .of fun s S T => by
  obtain ⟨o, ho, hv⟩ := S.s0.own _ hm
  rcases hl with hl | hl
  · exact wpAny_Name (wpAny_loadName_cell hk hl hc ⟨o, ho, hv⟩ ⟨p, S, .refl, h⟩) hd
  · exact wpAny_Name (wpAny_loadName_free hk hl hc ⟨o, ho, hv⟩ ⟨p, S, .refl, h⟩ hn) hd

theorem E_BinOp {l r : Expr} {op : Operator} {pos : Pos} {Q : Value → Pt → Prop} (h : Run C A L (eval l env) p fun a p₁ => Run C A L (eval r env) p₁ fun b p₂ => Run C A L (binaryOp op a b) p₂ Q) :
    Run C A L (eval (.BinOp l op r pos) env) p Q :=
  Run.of_eq (eval_BinOp ..) (.bind (h.mono fun a p₁ h₁ => .bind (.holding (h₁.mono fun b p₂ h₂ => .bind (.standAt (.operate h₂))))))
theorem E_Unary {op : UnaryOp} {x : Expr} {pos : Pos} {Q : Value → Pt → Prop} (h : Run C A L (eval x env) p fun a p₁ => Run C A L (unaryOp op a) p₁ Q) : Run C A L (eval (.UnaryOp op x pos) env) p Q :=
  Run.of_eq (arm_eval_UnaryOp ..) (.bind (h.mono fun a p₁ h₁ => .bind (.standAt (.holding h₁))))
theorem E_Cmp {l r : Expr} {op : CmpOp} {pos : Pos} {Q : Value → Pt → Prop} (h : Run C A L (eval l env) p fun a p₁ => Run C A L (eval r env) p₁ fun b p₂ => Run C A L (compareOp op a b) p₂ Q)
    (hm : behindInMarks op r = false := by with_unfolding_all rfl) : Run C A L (eval (.Compare l [op] [r] pos) env) p Q :=
  Run.of_eq (eval_Compare1 ..) (.bind (h.mono fun a p₁ h₁ => .bind (.holding (Run.of_eq (markedBehindIn_of_false hm) (h₁.mono fun b p₂ h₂ => .bind (.standAt (.operate h₂)))))))
theorem E_IfExp {t b o : Expr} {pos : Pos} {Q : Value → Pt → Prop} (h : Run C A L (isTrue t env (eval t env)) p fun c p₁ => if c then Run C A L (eval b env) p₁ Q else Run C A L (eval o env) p₁ Q) :
    Run C A L (eval (.IfExp t b o pos) env) p Q :=
  Run.of_eq (arm_eval_IfExp ..) (.bind (h.mono fun c p₁ h₁ => by cases c <;> exact h₁))
theorem E_Tuple {es : List Expr} {k : Nat} {pos : Pos} {Q : Value → Pt → Prop} (h : Run C A L (spliced (backTo pos (starEach es env))) p fun vs p₁ => Run C A L (newTuple vs) p₁ Q) : Run C A L (eval (.Tuple es k pos) env) p Q :=
  Run.of_eq (arm_eval_Tuple ..) (.bind (.standAt (.bind h)))
theorem E_List {es : List Expr} {pos : Pos} {Q : Value → Pt → Prop} (h : Run C A L (spliced (backTo pos (starEach es env))) p fun vs p₁ => Run C A L (newList vs) p₁ Q) : Run C A L (eval (.List es pos) env) p Q :=
  Run.of_eq (arm_eval_List ..) (.bind (.standAt (.bind h)))
theorem E_items_nil {pos : Pos} {Q : List Value → Pt → Prop} (h : Q [] p) : Run C A L (spliced (backTo pos (starEach [] env))) p Q := Run.pure h
theorem starEach_cons {e : Expr} {r : List Expr} (hs : PySem.W.isStarred e = false) : starEach (e :: r) env = (false, eval e env) :: starEach r env := by cases e <;> first | rfl | cases hs
theorem E_items_cons {pos : Pos} {e : Expr} {r : List Expr} {Q : List Value → Pt → Prop} (h : Run C A L (eval e env) p fun v p₁ => Run C A L (spliced (backTo pos (starEach r env))) p₁ fun vs p₂ => Q (v :: vs) p₂)
    (hs : PySem.W.isStarred e = false := by rfl) : Run C A L (spliced (backTo pos (starEach (e :: r) env))) p Q := by
  rw [starEach_cons hs]
  show Run C A L (spliced ((false, eval e env) :: backTo pos (starEach r env))) p Q
  rw [spliced]
  refine .bind (h.mono fun v p₁ h₁ => ?_)
  simp only [Bool.false_eq_true, if_false]
  exact .bind (.pure (.bind (.holding (h₁.mono fun vs p₂ h₂ => .pure h₂))))

/-! tests -/
theorem T_val {e : Expr} {whole : Sem Value} {Q : Bool → Pt → Prop} (h : Run C A L whole p fun v p₁ => Run C A L (truthy v) p₁ Q)
    (he : isTrue e env whole = (do let v ← whole; standAt e.pos; PySem.holding [v] (truthy v)) := by rfl) : Run C A L (isTrue e env whole) p Q :=
  Run.of_eq he (.bind (h.mono fun v p₁ h₁ => .bind (.standAt (.holding h₁))))
theorem T_Not {x : Expr} {pos : Pos} {whole : Sem Value} {Q : Bool → Pt → Prop} (h : Run C A L (isTrue x env (eval x env)) p fun b p₁ => Q (!b) p₁) : Run C A L (isTrue (.UnaryOp .Not x pos) env whole) p Q :=
  Run.of_eq (arm_isTrue_UnaryOp ..) (.bind (h.mono fun b p₁ h₁ => .pure h₁))
theorem T_Cmp {l r : Expr} {op : CmpOp} {pos : Pos} {whole : Sem Value} {Q : Bool → Pt → Prop}
    (h : Run C A L (eval l env) p fun a p₁ => Run C A L (eval r env) p₁ fun b p₂ => Run C A L (compareOp op a b) p₂ fun c p₃ => Run C A L (truthy c) p₃ Q)
    (hm : behindInMarks op r = false := by with_unfolding_all rfl) : Run C A L (isTrue (.Compare l [op] [r] pos) env whole) p Q :=
  Run.of_eq (isTrue_Compare1 ..) (.bind (h.mono fun a p₁ h₁ => .bind (.holding (Run.of_eq (markedBehindIn_of_false hm) (h₁.mono fun b p₂ h₂ => .bind (.standAt (.bind (.operate (h₂.mono fun c p₃ h₃ => .holding h₃)))))))))
theorem T_BoolOp {op : BoolOp} {vs : List Expr} {pos : Pos} {whole : Sem Value} {Q : Bool → Pt → Prop} (h : Run C A L (allTrue op vs env) p Q) : Run C A L (isTrue (.BoolOp op vs pos) env whole) p Q := h
theorem T_And_nil {Q : Bool → Pt → Prop} (h : Q true p) : Run C A L (allTrue .And [] env) p Q := Run.pure h
theorem T_Or_nil {Q : Bool → Pt → Prop} (h : Q false p) : Run C A L (allTrue .Or [] env) p Q := Run.pure h
theorem T_And_cons {x : Expr} {r : List Expr} {Q : Bool → Pt → Prop} (h : Run C A L (isTrue x env (eval x env)) p fun b p₁ => if b then Run C A L (allTrue .And r env) p₁ Q else Q false p₁) : Run C A L (allTrue .And (x :: r) env) p Q :=
  Run.of_eq (arm_allTrue_cons ..) (.bind (h.mono fun b p₁ h₁ => by cases b <;> first | exact h₁ | exact .pure h₁))
theorem T_Or_cons {x : Expr} {r : List Expr} {Q : Bool → Pt → Prop} (h : Run C A L (isTrue x env (eval x env)) p fun b p₁ => if b then Q true p₁ else Run C A L (allTrue .Or r env) p₁ Q) : Run C A L (allTrue .Or (x :: r) env) p Q :=
  Run.of_eq (arm_allTrue_cons ..) (.bind (h.mono fun b p₁ h₁ => by cases b <;> first | exact h₁ | exact .pure h₁))
theorem truthy_bool {b : Bool} {Q : Bool → Pt → Prop} (h : Q b p) : Run C A L (truthy (.bool b)) p Q := .of fun s S T => wpAny_truthy_bool ⟨p, S, .refl, h⟩

/-! statements -/
theorem X_nil {Q : Flow → Pt → Prop} (h : Q .next p) : Run C A L (execs [] env) p Q := Run.pure h
theorem X_cons {st : Stmt} {r : List Stmt} {Q : Flow → Pt → Prop} (h : Run C A L (exec st env) p fun f p₁ => match f with | .next => Run C A L (execs r env) p₁ Q | f => Q f p₁) : Run C A L (execs (st :: r) env) p Q :=
  Run.of_eq (execs_cons ..) (.bind (h.mono fun f p₁ h₁ => by cases f <;> first | exact h₁ | exact .pure h₁))
theorem X_one {st : Stmt} {Q : Flow → Pt → Prop} (h : Run C A L (exec st env) p Q) (hn : ∀ p', Q .next p' → Q .next p' := by exact fun _ h => h) : Run C A L (execs [st] env) p Q :=
  Run.of_eq (execs_cons ..) (.bind (h.mono fun f p₁ h₁ => by cases f <;> exact .pure h₁))
theorem X_Return {e : Expr} {pos : Pos} {Q : Flow → Pt → Prop} (h : Run C A L (eval e env) p fun v p₁ => Q (.ret v) p₁) : Run C A L (exec (.Return (some e) pos) env) p Q :=
  Run.of_eq (exec_Return_some ..) (.bind (.standAt (.bind (h.mono fun v p₁ h₁ => .pure h₁))))
theorem X_ReturnNone {pos : Pos} {Q : Flow → Pt → Prop} (h : Q (.ret .none) p) : Run C A L (exec (.Return none pos) env) p Q := Run.of_eq (exec_Return_none ..) (.bind (.standAt (.pure h)))
theorem X_Pass {pos : Pos} {Q : Flow → Pt → Prop} (h : Q .next p) : Run C A L (exec (.Pass pos) env) p Q := Run.of_eq (exec_Pass ..) (.bind (.standAt (.pure h)))
theorem X_Break {pos : Pos} {Q : Flow → Pt → Prop} (h : Q .brk p) : Run C A L (exec (.Break pos) env) p Q := .of fun s S T => wpAny_Break ⟨p, S, .refl, h⟩
theorem X_Continue {pos : Pos} {Q : Flow → Pt → Prop} (h : Q .cont p) : Run C A L (exec (.Continue pos) env) p Q := .of fun s S T => wpAny_Continue ⟨p, S, .refl, h⟩
theorem X_If {t : Expr} {b o : List Stmt} {pos : Pos} {Q : Flow → Pt → Prop} (h : Run C A L (isTrue t env (eval t env)) p fun c p₁ => if c then Run C A L (execs b env) p₁ Q else Run C A L (execs o env) p₁ Q) :
    Run C A L (exec (.If t b o pos) env) p Q :=
  Run.of_eq (exec_If ..) (.bind (.standAt (.bind (h.mono fun c p₁ h₁ => by cases c <;> exact h₁))))

theorem storeLoc {x : Str} {v : Value} {m' : List (Str × Option Value)} {Q : Unit → Pt → Prop} (P : PutM p.m x (some v) m') (h : Q () { p with m := m' }) (hL : env.locals = L := by rfl) (hk : env.scope.kind = .function := by rfl)
    (hl : env.kindOf x = some .local := by rfl) : Run C A L (bindName env x v) p Q := .of fun s S T => by
  subst hL
  refine wpAny_bindName (wpAny_storeName_local hl S.ns (fun h' hn hs => ⟨_, S.setM hs hn P, Ext.setM hs.extBut, h⟩) ?_)
  rw [hk]; rfl
theorem storeCell {x : Str} {v : Value} {v₀ : Option Value} {c : Addr} {N' : List (Addr × Cell)} {Q : Unit → Pt → Prop} (P : PutN p.N c (cellC v₀) (cellC (some v)) N') (hc : env.cells.lookup x = some c) (h : Q () { p with N := N' })
    (hk : env.scope.kind = .function := by rfl) (hl : env.kindOf x = some .cell := by rfl) : Run C A L (bindName env x v) p Q := .of fun s S T => by
  obtain ⟨o, ho, hd⟩ := S.s0.own _ P.mem
  refine wpAny_bindName (wpAny_storeName_cell hk hl hc ⟨o, ho, hd⟩ fun h' hv hs => ?_)
  obtain ⟨o', ho', hd'⟩ := hv
  exact ⟨_, S.putN P hs.extBut ho' hd', Ext.putN P hs.extBut, h⟩
theorem X_Assign {x : Str} {e : Expr} {pos pos' : Pos} {Q : Flow → Pt → Prop} (h : Run C A L (eval e env) p fun v p₁ => Run C A L (bindName env x v) p₁ fun _ p₂ => Q .next p₂)
    (hs : swapsWith e (some (.Name x pos')) pos.line env = pure false := by rfl) : Run C A L (exec (.Assign [.Name x pos'] e pos) env) p Q :=
  Run.of_eq (exec_Assign_Name _ _ _ _ _ hs) (.bind (.standAt (.bind (h.mono fun v p₁ h₁ => .bind (.standAt (.bind (h₁.mono fun _ p₂ h₂ => .pure h₂)))))))
theorem X_Aug {x : Str} {e : Expr} {op : Operator} {pos pos' : Pos} {v : Value} {Q : Flow → Pt → Prop} (hm : (x, some v) ∈ p.m)
    (h : Run C A L (eval e env) p fun u p₁ => Run C A L (inplaceOp op v u) p₁ fun z p₂ => Run C A L (bindName env x z) p₂ fun _ p₃ => Q .next p₃)
    (hL : env.locals = L := by rfl) (hk : env.scope.kind = .function := by rfl) (hl : env.kindOf x = some .local := by rfl) : Run C A L (exec (.AugAssign (.Name x pos') op e pos) env) p Q := by
  refine Run.of_eq (exec_AugAssign_Name ..) (.bind (.standAt (.bind ?_)))
  refine .of fun s S T => ?_
  subst hL
  refine wpAny_loadName_local hk hl S.ns (look_of_mem hm S.mnd) ⟨p, S, .refl, ?_⟩
  exact .bind (.holding (h.mono fun u p₁ h₁ => .bind (.standAt (.bind (.operate (h₁.mono fun z p₂ h₂ => .bind (.standAt (.bind (h₂.mono fun _ p₃ h₃ => .pure h₃)))))))))

theorem X_Expr {e : Expr} {pos : Pos} {Q : Flow → Pt → Prop} (h : Run C A L (eval e env) p fun v p₁ => (∀ a, v ≠ .ref a) ∧ Q .next p₁)
    (hi : interactive env = false := by rfl) (hs : swapsWith e none pos.line env = pure false := by rfl) : Run C A L (exec (.Expr e pos) env) p Q :=
  Run.of_eq (exec_Expr _ _ _ hi hs) (.bind (.standAt (.bind (h.mono fun v p₁ h₁ => Run.of_eq (dropValue_plain h₁.1) (.pure h₁.2)))))

theorem X_While {t : Expr} {b o : List Stmt} {pos : Pos} {Q : Flow → Pt → Prop} (I : Nat → Pt → Prop) (n : Nat) (h0 : I n p)
    (h : ∀ n p₁, I n p₁ → Run C A L (isTrue t env (eval t env)) p₁ fun c p₂ => if c then Run C A L (execs b env) p₂ (fun f p₃ => match f with
        | .next | .cont => ∃ k, k < n ∧ I k p₃
        | .brk => Q .next p₃
        | .ret v => Q (.ret v) p₃) else Run C A L (execs o env) p₂ Q) : Run C A L (exec (.While t b o pos) env) p Q := .of fun s S T => by
  refine wpAny_While ?_
  refine codeAny_mono (codeAny_whileLoop (R := fun r s' => ∃ f, r = .ok f ∧ ∃ p', Sat C.B L p' s'.heap ∧ Ext L p s p' s' ∧ Q f p')
    (fun n s' => ∃ p', Sat C.B L p' s'.heap ∧ Ext L p s p' s' ∧ s.toks ≤ s'.toks ∧ I n p') ?_ n ⟨p, S, .refl, Nat.le_refl _, h0⟩) fun r s' hr => by obtain ⟨f, rfl, hq⟩ := hr; exact hq
  rintro n s₁ ⟨p₁, S₁, x₁, t₁, hI⟩
  refine wpAny_mono (wpAny_toks (Run.after S T S₁ x₁ t₁ (h n p₁ hI))) (fun c s₂ hc => ?_) fun _ _ e => e.2.elim
  obtain ⟨t₂, p₂, S₂, x₂, hc⟩ := hc
  have t₂' := Nat.le_trans t₁ t₂
  cases c with
  | false =>
    refine wpAny_mono (Run.after S T S₂ x₂ t₂' hc) (fun f s₃ h₃ => ?_) fun _ _ e => e.elim
    obtain ⟨p₃, S₃, x₃, h₃⟩ := h₃
    exact ⟨f, rfl, p₃, S₃, x₃, h₃⟩
  | true =>
    refine wpAny_mono (wpAny_toks (Run.after S T S₂ x₂ t₂' hc)) (fun f s₃ h₃ => ?_) fun _ _ e => e.2.elim
    obtain ⟨t₃, p₃, S₃, x₃, h₃⟩ := h₃
    have t₃' := Nat.le_trans t₂' t₃
    cases f with
    | next => obtain ⟨k, hk, hI⟩ := h₃; exact ⟨k, hk, p₃, S₃, x₃, t₃', hI⟩
    | cont => obtain ⟨k, hk, hI⟩ := h₃; exact ⟨k, hk, p₃, S₃, x₃, t₃', hI⟩
    | brk => exact ⟨_, rfl, p₃, S₃, x₃, h₃⟩
    | ret v => exact ⟨_, rfl, p₃, S₃, x₃, h₃⟩

/-! objects -/
def listC (vs : List Value) : Cell := fun o => ∃ n, o = { cls := .type "list", data := .seq vs.toArray n }
def tupO (vs : List Value) : Obj := { cls := .type "tuple", data := .seq vs.toArray }

theorem newList_N {vs : List Value} {Q : Value → Pt → Prop} (hz : vs.length ≤ sizeLine) (h : ∀ a, Q (.ref a) { p with N := (a, listC vs) :: p.N }) : Run C A L (newList vs) p Q := .of fun s S T =>
  wpAny_newObj_type ⟨_, S.pushN rfl ⟨0, rfl⟩, Ext.pushN, h _⟩ (by show vs.toArray.size ≤ sizeLine; rw [List.size_toArray]; exact hz)
theorem newTuple_G {vs : List Value} {Q : Value → Pt → Prop} (hz : vs.length ≤ sizeLine) (h : ∀ a G', G' = addG p.G a (tupO vs) → p.G a = none → Q (.ref a) { p with G := G' }) : Run C A L (newTuple vs) p Q := .of fun s S T =>
  wpAny_newObj_type ⟨_, S.pushG rfl, Ext.pushG S, h _ _ rfl (S.none_at (get_size_none _)).2.1⟩ (by show vs.toArray.size ≤ sizeLine; rw [List.size_toArray]; exact hz)
end
end Mine

open PySem PySem.Calls PyProof.Rows
set_option Elab.async false
set_option linter.unusedVariables false
namespace Mine

/-- a def of the text, called with vs -/
def CallRun (C : Cx) (A : Around) (f : Addr) (vs : List Value) (G : Addr → Option Obj) (N : List (Addr × Cell)) (k : Nat) (Q : Value → (Addr → Option Obj) → List (Addr × Cell) → Nat → Prop) : Prop :=
  ∀ s, Sat0 C.B G N s.heap → TokOk k s → codeAny (model C.prog C.w) A (.call (.ref f) ⟨vs, []⟩)
    (fun r s' => ∃ v G' N' k', r = .ok (.ret v) ∧ Sat0 C.B G' N' s'.heap ∧ Ext0 (fun _ => False) G N k s G' N' k' s' ∧ Q v G' N' k') s

section
variable {C : Cx} {A : Around} {L : Addr} {α β : Type} {p : Pt} {env : Env}

theorem Sat0.framed {B : Heap} {p : Pt} {s s' : Shared} {G' : Addr → Option Obj} {Nc Nr N' : List (Addr × Cell)} {k' : Nat} (S : Sat B L p s.heap) (hp : p.N.Perm (Nc ++ Nr))
    (S' : Sat0 B G' N' s'.heap) (x : Ext0 (fun _ => False) p.G Nc p.k s G' N' k' s') : Sat B L { p with G := G', N := N' ++ Nr, k := k' } s'.heap ∧ Ext L p s { p with G := G', N := N' ++ Nr, k := k' } s' := by
  have hd : (dom p.N).Perm (dom Nc ++ dom Nr) := by have := hp.map (·.1); simpa [dom] using this
  have hnd : (dom Nc ++ dom Nr).Nodup := hd.nodup_iff.mp S.s0.nd
  obtain ⟨nc, nr, disj⟩ := List.nodup_append.mp hnd
  have mr : ∀ b ∈ dom Nr, b ∈ dom p.N := fun b hb => hd.mem_iff.mpr (List.mem_append_right _ hb)
  have mc : ∀ b ∈ dom Nc, b ∈ dom p.N := fun b hb => hd.mem_iff.mpr (List.mem_append_left _ hb)
  have notc : ∀ b ∈ dom Nr, b ∉ dom Nc := fun b hr hc => disj b hc b hr rfl
  have alive : ∀ b ∈ dom Nr, s.heap.get? b ≠ none := fun b hb => by
    obtain ⟨q, hq, rfl⟩ := List.mem_map.mp (mr b hb)
    obtain ⟨o, ho, _⟩ := S.s0.own q hq
    rw [ho]; exact fun h => nomatch h
  have Lnc : L ∉ dom Nc := fun h => S.nL (mc L h)
  have Lal : s.heap.get? L ≠ none := by
    obtain ⟨o, _, _, ho, _⟩ := S.ns
    rw [ho]; exact fun h => nomatch h
  have offG : ∀ b, p.G b = none → b ∉ dom Nc → s.heap.get? b ≠ none → G' b = none := fun b h1 h2 h3 => by
    cases h : G' b with
    | none => rfl
    | some o =>
      rcases x.fresh b (.inl (by rw [h]; exact fun h => nomatch h)) with e | e | e
      · exact absurd h1 e
      · exact absurd e h2
      · exact absurd e h3
  have offN : ∀ b, p.G b = none → b ∉ dom Nc → s.heap.get? b ≠ none → b ∉ dom N' := fun b h1 h2 h3 h => by
    rcases x.fresh b (.inr h) with e | e | e
    · exact e h1
    · exact h2 e
    · exact h3 e
  have da : dom (N' ++ Nr) = dom N' ++ dom Nr := by simp [dom]
  refine ⟨⟨⟨S'.base, S'.gs, fun q hq => ?_, fun b hb => ?_, fun b hb => ?_, ?_⟩, ?_, S.bL, offG L S.gL Lnc Lal, fun h => ?_, S.mnd⟩, ⟨fun b o e h1 h2 => x.keep b o e id fun h => h2 (mc b h), x.grow, fun b h => ?_, fun b h => ?_, x.gens, x.os, x.km, x.kk⟩⟩
  · rcases List.mem_append.mp hq with h | h
    · exact S'.own q h
    · have hm : q.1 ∈ dom Nr := List.mem_map_of_mem (f := (·.1)) h
      obtain ⟨o, ho, hc⟩ := S.s0.own q (hp.mem_iff.mpr (List.mem_append_right _ h))
      exact ⟨o, x.keep _ _ ho id (notc _ hm), hc⟩
  · rw [da] at hb
    rcases List.mem_append.mp hb with h | h
    · exact S'.nB b h
    · exact S.s0.nB b (mr b h)
  · rw [da] at hb
    rcases List.mem_append.mp hb with h | h
    · exact S'.nG b h
    · exact offG b (S.s0.nG b (mr b h)) (notc b h) (alive b h)
  · show (dom (N' ++ Nr)).Nodup
    rw [da]
    refine List.nodup_append.mpr ⟨S'.nd, nr, fun a ha b hb e => ?_⟩
    subst e
    exact offN a (S.s0.nG a (mr a hb)) (notc a hb) (alive a hb) ha
  · exact S.ns.at' fun o e => x.keep L o e id Lnc
  · rw [da] at h
    rcases List.mem_append.mp h with h | h
    · exact offN L S.gL Lnc Lal h
    · exact S.nL (mr L h)
  · rcases h with h | h
    · rcases x.fresh b (.inl h) with e | e | e
      · exact .inl e
      · exact .inr (.inl (mc b e))
      · exact .inr (.inr e)
    · change b ∈ dom (N' ++ Nr) at h
      rw [da] at h
      rcases List.mem_append.mp h with h | h
      · rcases x.fresh b (.inr h) with e | e | e
        · exact .inl e
        · exact .inr (.inl (mc b e))
        · exact .inr (.inr e)
      · exact .inr (.inl (mr b h))
  · show b ∈ dom (N' ++ Nr) ∨ _
    rw [da]
    rcases List.mem_append.mp (hd.mem_iff.mp h) with h | h
    · exact (x.noleak b h).imp (List.mem_append_left _) id
    · exact .inl (List.mem_append_right _ h)

theorem Sat0.sub {B : Heap} {G : Addr → Option Obj} {N Nc : List (Addr × Cell)} {h : Heap} (S : Sat0 B G N h) (hs : ∀ q ∈ Nc, q ∈ N) (hn : (dom Nc).Nodup) : Sat0 B G Nc h := by
  have hm : ∀ b ∈ dom Nc, b ∈ dom N := fun b hb => by
    obtain ⟨q, hq, rfl⟩ := List.mem_map.mp hb
    exact List.mem_map_of_mem (f := (·.1)) (hs q hq)
  exact ⟨S.base, S.gs, fun q hq => S.own q (hs q hq), fun b hb => S.nB b (hm b hb), fun b hb => S.nG b (hm b hb), hn⟩

theorem R_call {f : Addr} {vs : List Value} {Nc Nr : List (Addr × Cell)} {Q : Value → Pt → Prop} (hp : p.N.Perm (Nc ++ Nr))
    (h : CallRun C A f vs p.G Nc p.k fun v G' N' k' => Q v { p with G := G', N := N' ++ Nr, k := k' }) : Run C A L (PySem.call (.ref f) vs) p Q := .of fun s S T => by
  have hd : (dom p.N).Perm (dom Nc ++ dom Nr) := by have := hp.map (·.1); simpa [dom] using this
  refine wpAny_call (codeAny_mono (h s (S.s0.sub (fun q hq => hp.mem_iff.mpr (List.mem_append_left _ hq)) (List.nodup_append.mp (hd.nodup_iff.mp S.s0.nd)).1) T) fun r s' hr => ?_)
  obtain ⟨v, G', N', k', rfl, S', x, q⟩ := hr
  obtain ⟨S'', x'⟩ := S'.framed S hp x
  exact ⟨_, S'', x', q⟩
/-- a def that wants and hands back nothing that is owned -/
theorem R_call0 {f : Addr} {vs : List Value} {Q : Value → Pt → Prop} (h : CallRun C A f vs p.G [] p.k fun v G' N' k' => Q v { p with G := G', N := N' ++ p.N, k := k' }) : Run C A L (PySem.call (.ref f) vs) p Q :=
  R_call (Nc := []) (Nr := p.N) (List.Perm.refl _) h

theorem CallRun.mono {f : Addr} {vs : List Value} {G : Addr → Option Obj} {N : List (Addr × Cell)} {k : Nat} {Q Q' : Value → (Addr → Option Obj) → List (Addr × Cell) → Nat → Prop} (h : CallRun C A f vs G N k Q) (hq : ∀ v G' N' k', Q v G' N' k' → Q' v G' N' k') :
    CallRun C A f vs G N k Q' := fun s S T => codeAny_mono (h s S T) fun r s' ⟨v, G', N', k', e, S', x, q⟩ => ⟨v, G', N', k', e, S', x, hq _ _ _ _ q⟩

def retOf : Flow → Value
  | .ret v => v
  | _ => .none

theorem look_of_binds {binds : List (Str × Value)} {m₀ : List (Str × Option Value)} (hm : m₀ = (m₀.map (·.1)).map fun x => (x, binds.reverse.lookup x)) (hs : (binds.all fun q => (m₀.map (·.1)).contains q.1) = true) :
    look m₀ = fun x => binds.reverse.lookup x := by
  have key : ∀ (ns : List Str) (y : Str), look (ns.map fun x => (x, binds.reverse.lookup x)) y = if y ∈ ns then binds.reverse.lookup y else none := by
    intro ns y
    induction ns with
    | nil => rfl
    | cons n r ih =>
      simp only [List.map_cons, look, ih, List.mem_cons]
      by_cases h : y = n
      · simp [h]
      · simp [h]
  funext y
  rw [hm, key]
  by_cases h : y ∈ m₀.map (·.1)
  · rw [if_pos h]
  · rw [if_neg h]
    cases e : binds.reverse.lookup y with
    | none => rfl
    | some v =>
      exfalso
      have hmem : (y, v) ∈ binds := List.mem_reverse.mp (mem_of_lookup e)
      have := List.all_eq_true.mp hs _ hmem
      exact h (List.contains_iff_mem.mp this)

/-- what a call binds, whatever the heap -/
def Binds (C : Cx) (fd : FuncData) (vs : List Value) (binds : List (Str × Value)) : Prop := ∀ s : Shared, (∀ b o, C.B.get? b = some o → s.heap.get? b = some o) → BindsTo s fd ⟨vs, []⟩ binds
theorem Binds.of_eq {fd : FuncData} {vs : List Value} {binds : List (Str × Value)} (h : bindArgs fd ⟨vs, []⟩ = pure binds) : Binds C fd vs binds := fun _ _ => .of_eq h
theorem Binds.of_defaults {fd : FuncData} {vs : List Value} {binds : List (Str × Value)} {T : Addr} {o : Obj} {items : Array Value} {n : Nat}
    {kk : Option (Array Value) → Sem (List (Str × Value))} (hd : fd.defaults = .ref T) (ho : C.B.get? T = some o) (hs : o.data = .seq items n) (h₁ : bindArgs fd ⟨vs, []⟩ = seqItems? fd.defaults >>= kk) (h₂ : kk (some items) = pure binds) : Binds C fd vs binds :=
  fun s S => .of_defaults hd (S _ _ ho) hs h₁ h₂

theorem CallRun.body {gl bl : List (Str × Value)} {f : Addr} {o : Obj} {fd : FuncData} {body : List Stmt} {vs : List Value} {binds : List (Str × Value)} {G : Addr → Option Obj} {N : List (Addr × Cell)} {m₀ : List (Str × Option Value)} {k : Nat}
    {Q : Value → (Addr → Option Obj) → List (Addr × Cell) → Nat → Prop} {d : Nat} (K : Base C gl bl) (hr : Room A (d + 1)) (ho : C.B.get? f = some o) (hdata : o.data = .func fd) (hcd : C.B.CodeRec fd.code fd.qualname)
    (hbind : Binds C fd vs binds) (hm : m₀ = (m₀.map (·.1)).map fun x => (x, binds.reverse.lookup x)) (hs : (binds.all fun q => (m₀.map (·.1)).contains q.1) = true) (hnd : (m₀.map (·.1)).Nodup)
    (hbody : fd.body = .stmts body) (hcell : ∀ x ∈ fd.scope.names, x.2 ≠ .cell) (hloc : ∀ x ∈ binds, fd.scope.names.lookup x.1 = some .local)
    (h : ∀ L, Room (A.deeper (callEnv fd L f)) d → Run C (A.deeper (callEnv fd L f)) L (execs body (callEnv fd L f)) ⟨G, m₀, N, k⟩ fun fl p' => Q (retOf fl) p'.G p'.N p'.k)
    (hco : fd.scope.isCoroutine = false := by rfl) (hgen : fd.scope.isGenerator = false := by rfl) (hk : fd.scope.kind = .function := by rfl) : CallRun C A f vs G N k Q := fun s S T => by
  have hroom : A.depth < recursionLimit := by have := hr.depth; omega
  refine codeAny_call_def hroom (S.base _ _ ho) hdata (K.lim.keeps S.base) ?_ hbody (hbind s S.base) hcell hloc (fun h₁ hns hk₁ => ?_) hco hgen hk
  · obtain ⟨c, oc, x, y, e1, e2, e3⟩ := hcd
    exact ⟨c, oc, x, y, e1, S.base _ _ e2, e3⟩
  have Lnone : s.heap.get? s.heap.objs.size = none := get_size_none _
  have S1 := S.keep hk₁
  have Sat1 : Sat C.B s.heap.objs.size ⟨G, m₀, N, k⟩ h₁ := ⟨S1, by rw [look_of_binds hm hs]; exact hns, by
      cases e : C.B.get? s.heap.objs.size with
      | none => rfl
      | some o => (have := S.base _ _ e; rw [Lnone] at this; cases this), by
      show G s.heap.objs.size = none
      cases e : G s.heap.objs.size with
      | none => rfl
      | some o => (have := S.gs _ _ e; rw [Lnone] at this; cases this), fun hL => Nat.lt_irrefl _ (S.lt hL), hnd⟩
  refine wpAny_mono ((h s.heap.objs.size (hr.deeper _)).go _ Sat1 ⟨Nat.le_trans T.le (Nat.le_add_right _ _)⟩) (fun fl s' hq => ?_) fun _ _ e => e.elim
  obtain ⟨p', S', x, q⟩ := hq
  refine ⟨_, p'.G, p'.N, p'.k, by cases fl <;> rfl, S'.s0, ⟨fun b o e _ hb => x.keep b o (hk₁ b o e) (Nat.ne_of_lt (Heap.lt_size e)) hb, x.grow, fun b hb => ?_, x.noleak, x.gens, x.os, x.km, x.kk⟩, q⟩
  rcases x.fresh b hb with e | e | e
  · exact .inl e
  · exact .inr (.inl e)
  · refine .inr (.inr ?_)
    cases e2 : s.heap.get? b with
    | none => rfl
    | some o => rw [hk₁ b o e2] at e; cases e

/-! calls -/
theorem R_evalArgs {f : Value} {args : List (Bool × Sem Value)} {Q : Args → Pt → Prop} (hp : args.any (·.1) = false) (h : Run C A L (spliced args) p fun vs p₁ => Q ⟨vs, []⟩ p₁) : Run C A L (PySem.evalArgs f true args []) p Q := by
  have e : PySem.evalArgs f true args [] = (do
      let vs ← spliced args
      PySem.holding (vs ++ []) (do let ks ← evalAll []; let ps ← (Pure.pure vs : Sem (List Value)); Pure.pure ⟨ps, (([] : List (Option Str × Sem Value)).filterMap (·.1)).zip ks⟩)) := by
    cases args with
    | nil => rfl
    | cons x r =>
      obtain ⟨b, t⟩ := x
      have hb : b = false := by
        simp only [List.any_cons, Bool.or_eq_false_iff] at hp
        exact hp.1
      subst hb
      rfl
  refine Run.of_eq e (.bind (h.mono fun vs p₁ h₁ => .holding (.bind (.pure (.bind (.pure (.pure ?_)))))))
  exact h₁
end
end Mine

open PySem PySem.Calls PyProof.Rows
set_option Elab.async false
set_option linter.unusedVariables false
namespace Mine

section
variable {C : Cx} {A : Around} {L : Addr} {α β : Type} {p : Pt} {env : Env}

theorem R_chain {t : Sem α} {k : α → Sem β} {P : α → Shared → Prop} {Q : β → Pt → Prop} {s : Shared} (S : Sat C.B L p s.heap) (T : TokOk p.k s) (h : Run C A L t p fun a p₁ => (∀ s₁, Sat C.B L p₁ s₁.heap → P a s₁) ∧ Run C A L (k a) p₁ Q) :
    wpAny (model C.prog C.w) A t (fun a s₁ => P a s₁ ∧ wpAny (model C.prog C.w) A (k a) (Post C L p s Q) (fun _ _ => False) s₁) (fun _ _ => False) s :=
  wpAny_mono (wpAny_toks (h.go s S T)) (fun a s₁ ⟨ht, p₁, S₁, x, q⟩ => ⟨q.1 s₁ S₁, Run.after S T S₁ x ht q.2⟩) fun _ _ e => e.2

theorem R_callV {f : Value} {first : List Value} {args : List (Bool × Sem Value)} {pos : Pos} {Q : Value → Pt → Prop} (hk : keeperOf f = pure .machine) (hp : args.any (·.1) = false)
    (h : Run C A L (spliced args) p fun vs p₁ => Run C A L (PySem.call f (first ++ vs)) p₁ Q) : Run C A L (callWith pos f first args []) p Q := by
  unfold callWith
  refine .bind (.holding (R_evalArgs hp (h.mono fun vs p₁ h₁ => .bind (.standAt ?_))))
  simp only [hp, List.any_nil, Bool.or_false]
  refine .bind (Run.of_eq hk (.pure ?_))
  exact .bind (h₁.mono fun r p₂ h₂ => .bind (.holding (.point (.pure h₂))))
theorem R_callF {f : Addr} {o : Obj} {fd : FuncData} {first : List Value} {args : List (Bool × Sem Value)} {pos : Pos} {Q : Value → Pt → Prop} (ho : C.B.get? f = some o) (hd : o.data = .func fd) (hp : args.any (·.1) = false)
    (h : Run C A L (spliced args) p fun vs p₁ => Run C A L (PySem.call (.ref f) (first ++ vs)) p₁ Q) : Run C A L (callWith pos (.ref f) first args []) p Q := .of fun s S T => by
  refine callWith_function (o := o) (fd := fd) (wpAny_mono (R_chain (P := fun a s₁ => (s₁.heap.get? f = some o ∧ o.data = .func fd) ∧ a.kw = []) (k := fun a => PySem.call (.ref f) (first ++ a.pos)) S T
    (R_evalArgs hp (h.mono fun vs p₁ h₁ => ⟨fun s₁ S₁ => ⟨⟨S₁.s0.base _ _ ho, hd⟩, rfl⟩, h₁⟩))) (fun a s₁ h₁ => ⟨h₁.1.1, ?_⟩) fun _ _ e => e)
  rw [h₁.1.2]; exact h₁.2

theorem plainTrees {pos : Pos} : ∀ {args : List Expr}, (args.all fun e => !PySem.W.isStarred e) = true → ((backTo pos (starEach args env)).any (·.1)) = false
  | [], _ => rfl
  | e :: r, h => by
    simp only [List.all_cons, Bool.and_eq_true, Bool.not_eq_true'] at h
    rw [starEach_cons h.1]
    have := plainTrees (pos := pos) h.2
    simpa [backTo] using this

/-- a name is called: a built-in or a type -/
theorem E_callV {id : Str} {np pos : Pos} {args : List Expr} {f : Value} {Q : Value → Pt → Prop} (hf : ∀ {Q : Value → Pt → Prop}, Q f p → Run C A L (eval (.Name id np) env) p Q)
    (h : Run C A L (spliced (backTo pos (starEach args env))) p fun vs p₁ => Run C A L (PySem.call f vs) p₁ Q) (hk : keeperOf f = pure .machine := by rfl) (hp : (args.all fun e => !PySem.W.isStarred e) = true := by rfl) :
    Run C A L (eval (.Call (.Name id np) args [] pos) env) p Q :=
  Run.of_eq (arm_eval_Call_Name' ..) (.bind (hf (R_callV (first := []) hk (plainTrees hp) h)))
/-- a name is called: a def of the text -/
theorem E_callF {id : Str} {np pos : Pos} {args : List Expr} {f : Addr} {o : Obj} {fd : FuncData} {Q : Value → Pt → Prop} (ho : C.B.get? f = some o) (hd : o.data = .func fd) (hf : ∀ {Q : Value → Pt → Prop}, Q (.ref f) p → Run C A L (eval (.Name id np) env) p Q)
    (h : Run C A L (spliced (backTo pos (starEach args env))) p fun vs p₁ => Run C A L (PySem.call (.ref f) vs) p₁ Q) (hp : (args.all fun e => !PySem.W.isStarred e) = true := by rfl) :
    Run C A L (eval (.Call (.Name id np) args [] pos) env) p Q :=
  Run.of_eq (arm_eval_Call_Name' ..) (.bind (hf (R_callF (first := []) ho hd (plainTrees hp) h)))

/-- the type of a value, as every heap of the state tells it -/
def HasT (C : Cx) (L : Addr) (p : Pt) (v : Value) (T : String) : Prop := ∀ s : Shared, Sat C.B L p s.heap → s.TypeIs v T ∧ ∀ a, v = .ref a → ∃ ob, s.heap.get? a = some ob ∧ ob.dict = none
theorem HasT.str {x : Str} {t : Tok} : HasT C L p (.str x t) "str" := fun s _ => ⟨rfl, fun _ e => nomatch e⟩
theorem HasT.int {x : Int} {t : Tok} : HasT C L p (.int x t) "int" := fun s _ => ⟨rfl, fun _ e => nomatch e⟩
theorem HasT.listN {a : Addr} {vs : List Value} (hm : (a, listC vs) ∈ p.N) : HasT C L p (.ref a) "list" := fun s S => by
  obtain ⟨o, ho, n, rfl⟩ := S.s0.own _ hm
  exact ⟨⟨_, ho, rfl⟩, fun b e => by cases e; exact ⟨_, ho, rfl⟩⟩

theorem E_meth {T id : String} {o : Expr} {name : Str} {apos pos : Pos} {args : List Expr} {Q : Value → Pt → Prop} (slot : Slot T name id) (pa : PlainAttrs T) (hty : typeOf (.builtin id) = pure (.type "method_descriptor"))
    (h : Run C A L (eval o env) p fun ov p₁ => HasT C L p₁ ov T ∧ Run C A L (spliced (backTo pos (starEach args env))) p₁ fun vs p₂ => Run C A L (PySem.call (.builtin id) (ov :: vs)) p₂ Q)
    (hbase : attributeBase o name env (eval o env) = eval o env := by rfl) (hp : (args.all fun e => !PySem.W.isStarred e) = true := by rfl)
    (hfew : ((backTo pos (starEach args env)).all (fun x => !x.1) && (backToKw pos (keywordEach [] env)).all (fun x => x.1.isSome) && decide (args.length + ([] : List Keyword).length + (if ([] : List Keyword).isEmpty then 0 else 1) < 30)) = true := by rfl)
    (hline : (apos.endLine == pos.line) = true := by rfl) : Run C A L (eval (.Call (.Attribute o name apos) args [] pos) env) p Q := .of fun s S TK => by
  refine wpAny_Call_method hbase hfew hline pa slot hty (wpAny_mono (R_chain (P := fun ov s₁ => s₁.TypeIs ov T ∧ ∀ a, ov = .ref a → ∃ ob, s₁.heap.get? a = some ob ∧ ob.dict = none)
    (k := fun ov => callWith pos (.builtin id) [ov] (backTo pos (starEach args env)) []) S TK (h.mono fun ov p₁ h₁ => ⟨fun s₁ S₁ => h₁.1 s₁ S₁, R_callV (first := [ov]) rfl (plainTrees hp) h₁.2⟩)) (fun ov s₁ h₁ => ⟨h₁.1.1, h₁.1.2, h₁.2⟩) fun _ _ e => e)

/-- a built-in method's summary, as a step -/
theorem R_meets {T : String} {name : Str} {id : String} {B : Builtin} {self : Value} {rest : List Value} {Q : Value → Pt → Prop} (slot : Slot T name id) (entry : entryFor table id = some B) (args : argsOk id ⟨self :: rest, []⟩) (hT : HasT C L p self T)
    (h : ∀ s, Sat C.B L p s.heap → TokOk p.k s → ∃ S, MeetsIn C.prog C.w (B ⟨self :: rest, []⟩) S ∧ S A (wants (Post C L p s Q) fun _ _ => False) s) : Run C A L (PySem.call (.builtin id) (self :: rest)) p Q := .of fun s S TK => by
  obtain ⟨Sp, g, hs⟩ := h s S TK
  exact call_meetsIn slot (hT s S).1 entry args g hs
end
end Mine

open PySem PySem.Calls PyProof.Rows
set_option Elab.async false
set_option linter.unusedVariables false
namespace Mine

/-- objects that the state does not speak of -/
def Hid (B : Heap) (L : Addr) (W : List Addr) (p : Pt) (h : Heap) : Prop := ∀ b ∈ W, B.get? b = none ∧ p.G b = none ∧ b ∉ dom p.N ∧ b ≠ L ∧ h.get? b ≠ none

section
variable {B : Heap} {L : Addr} {W : List Addr} {p p' p₀ : Pt} {h h' : Heap} {s s' s₀ : Shared}
theorem Hid.step (H : Hid B L W p s.heap) (x : Ext L p s p' s') : Hid B L W p' s'.heap ∧ ∀ b ∈ W, ∀ o, s.heap.get? b = some o → s'.heap.get? b = some o := by
  have kp : ∀ b ∈ W, ∀ o, s.heap.get? b = some o → s'.heap.get? b = some o := fun b hb o e => x.keep b o e (H b hb).2.2.2.1 (H b hb).2.2.1
  refine ⟨fun b hb => ?_, kp⟩
  obtain ⟨h1, h2, h3, h4, h5⟩ := H b hb
  refine ⟨h1, ?_, fun h => ?_, h4, ?_⟩
  · cases e : p'.G b with
    | none => rfl
    | some o =>
      rcases x.fresh b (.inl (by rw [e]; exact fun h => nomatch h)) with q | q | q
      · exact absurd h2 q
      · exact absurd q h3
      · exact absurd q h5
  · rcases x.fresh b (.inr h) with q | q | q
    · exact q h2
    · exact h3 q
    · exact h5 q
  · cases e : s.heap.get? b with
    | none => exact absurd e h5
    | some o => rw [kp b hb o e]; exact fun h => nomatch h
theorem Hid.only (H : Hid B L W p h) (ha : ∀ b ∈ W, h'.get? b ≠ none) : Hid B L W p h' := fun b hb => let ⟨h1, h2, h3, h4, _⟩ := H b hb; ⟨h1, h2, h3, h4, ha b hb⟩
theorem Sat.hid (S : Sat B L p h) (H : Hid B L W p h) (hk : ∀ b o, b ∉ W → h.get? b = some o → h'.get? b = some o) : Sat B L p h' := by
  refine ⟨⟨fun b o e => hk b o (fun hb => by rw [(H b hb).1] at e; cases e) (S.s0.base b o e), fun b o e => hk b o (fun hb => by rw [(H b hb).2.1] at e; cases e) (S.s0.gs b o e), fun q hq => ?_, S.s0.nB, S.s0.nG, S.s0.nd⟩, ?_, S.bL, S.gL, S.nL, S.mnd⟩
  · obtain ⟨o, ho, hc⟩ := S.s0.own q hq
    exact ⟨o, hk _ _ (fun hb => (H _ hb).2.2.1 (List.mem_map_of_mem (f := (·.1)) hq)) ho, hc⟩
  · exact S.ns.at' fun o e => hk _ _ (fun hb => (H _ hb).2.2.2.1 rfl) e
theorem Ext.hid (x : Ext L p₀ s₀ p s) (hW : ∀ b ∈ W, s₀.heap.get? b = none) {tk : Nat} (ht : s.toks ≤ tk) (hk : ∀ b o, b ∉ W → s.heap.get? b = some o → h'.get? b = some o) : Ext L p₀ s₀ p { s with heap := h', toks := tk } :=
  ⟨fun b o e h1 h2 => hk b o (fun hb => by rw [hW b hb] at e; cases e) (x.keep b o e h1 h2), x.grow, x.fresh, x.noleak, x.gens, x.os, x.km, x.kk.imp id fun e => Nat.le_trans e ht⟩
end

section
variable {C : Cx} {A : Around} {L : Addr} {α β : Type} {p : Pt} {env : Env}

/-- what a for or a comprehension goes over -/
def IterOn (C : Cx) (A : Around) (L : Addr) (p : Pt) (target : Expr) (xv : Value) (n : Nat) (P : Nat → Value → Heap → Prop) : Prop :=
  ∀ s, Sat C.B L p s.heap → TokOk p.k s → wpAny (model C.prog C.w) A (pyIter xv) (fun itv s₂ => ∃ I fp wr Md St h' tk, itv = .ref I ∧ s₂ = { s with heap := h', toks := tk } ∧ PySem.W.KTurns C.prog C.w A target I fp wr n P Md St ∧ St 0 h' ∧
    (∀ b o, s.heap.get? b = some o → h'.get? b = some o) ∧ (∀ b ∈ wr, s.heap.get? b = none) ∧ (∀ b ∈ fp, b ∈ wr ∨ ∃ o, p.G b = some o) ∧ (∀ i h, St i h → ∀ b ∈ wr, h.get? b ≠ none) ∧
    (∀ i (s : Shared) (Q : Value → Shared → Prop) (E : Value → Shared → Prop), St i s.heap → Q (.ref I) s → wpAny (model C.prog C.w) A (pyIter (.ref I)) Q E s)) (fun _ _ => False) s

/-- the target takes one item -/
def AsgRun (C : Cx) (A : Around) (L : Addr) (target : Expr) (env : Env) (P : Value → Heap → Prop) (p : Pt) (Q : Pt → Prop) : Prop :=
  ∀ v s, P v s.heap → Sat C.B L p s.heap → TokOk p.k s → wpAny (model C.prog C.w) A (assign target env v) (Post C L p s fun _ p' => Q p') (fun _ _ => False) s

theorem Hid.ofNew {wr : List Addr} {s : Shared} {h' : Heap} (S : Sat C.B L p s.heap) (hw : ∀ b ∈ wr, s.heap.get? b = none) (ha : ∀ b ∈ wr, h'.get? b ≠ none) : Hid C.B L wr p h' := fun b hb =>
  let ⟨h1, h2, h3, h4⟩ := S.none_at (hw b hb); ⟨h1, h2, h3, h4, ha b hb⟩

theorem X_For {target iter : Expr} {body orelse : List Stmt} {pos : Pos} {Q : Flow → Pt → Prop} (I : Nat → Pt → Prop)
    (h : Run C A L (eval iter env) p fun xv p₁ => ∃ n P, IterOn C A L p₁ target xv n P ∧ I 0 p₁ ∧
      (∀ i p₂, i < n → I i p₂ → (∀ b o, p₁.G b = some o → p₂.G b = some o) → AsgRun C A L target env (P i) p₂ fun p₃ => Run C A L (execs body env) p₃ fun f p₄ => match f with
        | .next | .cont => I (i + 1) p₄
        | .brk => Q .next p₄
        | .ret v => Q (.ret v) p₄) ∧
      (∀ p₂, I n p₂ → (∀ b o, p₁.G b = some o → p₂.G b = some o) → Run C A L (execs orelse env) p₂ Q))
    (hs : ∀ x, foldedSetIterable iter env x = pure x := by intro _; rfl) : Run C A L (exec (.For target iter body orelse pos) env) p Q := .of fun s S T => by
  refine wpAny_For (wpAny_mono (wpAny_toks (h.go s S T)) (fun xv s₁ h₁ => ?_) fun _ _ e => e.2) hs
  obtain ⟨t₁, p₁, S₁, x₁, n, P, it, hI0, step, fin⟩ := h₁
  have T₁ := T.next x₁ t₁
  refine wpAny_mono (wpAny_toks (it s₁ S₁ T₁)) (fun itv s₂ h₂ => ?_) fun _ _ e => e.2.elim
  obtain ⟨t₂, Ia, fp, wr, Md, St, h', tk, rfl, rfl, W, st0, hk, hw, hf, hal, _⟩ := h₂
  refine codeAny_mono (PySem.codeAny_forLoop_any (R := fun r s' => ∃ f, r = .ok f ∧ ∃ p', Sat C.B L p' s'.heap ∧ Ext L p s p' s' ∧ Q f p')
    (fun k s' => ∃ i p₂, St i s'.heap ∧ Sat C.B L p₂ s'.heap ∧ Ext L p₁ s₁ p₂ s' ∧ s₁.toks ≤ s'.toks ∧ Hid C.B L wr p₂ s'.heap ∧ I i p₂ ∧ i ≤ n ∧ k = n + 1 - i) ?_ (n + 1)
    ⟨0, p₁, st0, S₁.keep hk, Ext.heap hk, t₂, Hid.ofNew S₁ hw (hal 0 _ st0), hI0, Nat.zero_le _, rfl⟩) fun r s' hr => by obtain ⟨f, rfl, hq⟩ := hr; exact hq
  rintro k s' ⟨i, p₂, st, S₂, x₂, t₃, H, hI, hi, rfl⟩
  by_cases hlt : i < n
  · refine wpAny_with_toks (Nat.le_refl _) (W.item i _ _ _ hlt st fun v h₄ tk₄ hMd hk₄ ht₄ => W.go i v _ _ _ hMd fun h₅ hP st₅ hk₅ => ?_)
    have hk₅' : ∀ b o, b ∉ wr → s'.heap.get? b = some o → h₅.get? b = some o := fun b o hb e => hk₅ b o hb (hk₄ b o hb e)
    have H₅ : Hid C.B L wr p₂ h₅ := H.only (hal _ _ st₅)
    have S₅ : Sat C.B L p₂ h₅ := S₂.hid H hk₅'
    have x₅ : Ext L p₁ s₁ p₂ { s' with heap := h₅, toks := tk₄ } := x₂.hid hw ht₄ hk₅'
    have t₅ : s₁.toks ≤ tk₄ := Nat.le_trans t₃ ht₄
    refine wpAny_mono (wpAny_toks (step i p₂ hlt hI x₂.grow v { s' with heap := h₅, toks := tk₄ } hP S₅ (T₁.next x₅ t₅))) (fun _ s₆ h₆ => ?_) fun _ _ e => e.2.elim
    obtain ⟨t₆, p₆, S₆, y₆, run⟩ := h₆
    obtain ⟨H₆, W₆⟩ := Hid.step H₅ y₆
    have st₆ : St (i + 1) s₆.heap := W.frame _ _ _ st₅ fun b hb o e => by
      rcases hf b hb with hb | ⟨o', ho'⟩
      · exact W₆ b hb o e
      · have e1 := S₅.s0.gs b o' (x₂.grow b o' ho')
        have e2 := S₆.s0.gs b o' (y₆.grow b o' (x₂.grow b o' ho'))
        rw [e1] at e; cases e; exact e2
    have x₆ := x₅.trans S₁ S₅ y₆ t₆
    have t₆' : s₁.toks ≤ s₆.toks := Nat.le_trans t₅ t₆
    refine wpAny_mono (wpAny_toks ((run : Run ..).go s₆ S₆ (T₁.next x₆ t₆'))) (fun f s₇ h₇ => ?_) fun _ _ e => e.2.elim
    obtain ⟨t₇, p₇, S₇, y₇, q⟩ := h₇
    obtain ⟨H₇, W₇⟩ := Hid.step H₆ y₇
    have st₇ : St (i + 1) s₇.heap := W.frame _ _ _ st₆ fun b hb o e => by
      rcases hf b hb with hb | ⟨o', ho'⟩
      · exact W₇ b hb o e
      · have e0 := y₆.grow b o' (x₂.grow b o' ho')
        have e1 := S₆.s0.gs b o' e0
        have e2 := S₇.s0.gs b o' (y₇.grow b o' e0)
        rw [e1] at e; cases e; exact e2
    have x₇ := x₆.trans S₁ S₆ y₇ t₇
    have t₇' : s₁.toks ≤ s₇.toks := Nat.le_trans t₆' t₇
    have big := x₁.trans S S₁ x₇ t₇'
    cases f with
    | next => exact ⟨n + 1 - (i + 1), by omega, i + 1, p₇, st₇, S₇, x₇, t₇', H₇, q, hlt, rfl⟩
    | cont => exact ⟨n + 1 - (i + 1), by omega, i + 1, p₇, st₇, S₇, x₇, t₇', H₇, q, hlt, rfl⟩
    | brk => exact ⟨_, rfl, p₇, S₇, big, q⟩
    | ret v => exact ⟨_, rfl, p₇, S₇, big, q⟩
  · have hin : i = n := by omega
    subst hin
    refine wpAny_with_toks (Nat.le_refl _) (W.done _ _ _ st fun h₄ tk₄ hk₄ ht₄ => ?_)
    have S₅ : Sat C.B L p₂ h₄ := S₂.hid H hk₄
    have x₅ : Ext L p₁ s₁ p₂ { s' with heap := h₄, toks := tk₄ } := x₂.hid hw ht₄ hk₄
    have t₅ : s₁.toks ≤ tk₄ := Nat.le_trans t₃ ht₄
    refine wpAny_mono (wpAny_toks ((fin p₂ hI x₂.grow).go { s' with heap := h₄, toks := tk₄ } S₅ (T₁.next x₅ t₅))) (fun f s₆ h₆ => ?_) fun _ _ e => e.2.elim
    obtain ⟨t₆, p₆, S₆, y₆, q⟩ := h₆
    have x₆ := x₅.trans S₁ S₅ y₆ t₆
    exact ⟨f, rfl, p₆, S₆, x₁.trans S S₁ x₆ (Nat.le_trans t₅ t₆), q⟩

theorem AsgRun.name {x : Str} {px : Pos} {P : Value → Heap → Prop} {Q : Pt → Prop} (h : ∀ v, (∃ h', P v h') → Run C A L (bindName env x v) p fun _ p' => Q p') : AsgRun C A L (.Name x px) env P p Q := fun v s hP S T => by
  rw [arm_assign_Name]
  exact wpAny_bind (wpAny_standAt ((h v ⟨_, hP⟩).go s S T))

/-! comprehensions -/
theorem R_tests_nil {Q : Bool → Pt → Prop} (h : Q true p) : Run C A L (forIn ([] : List Expr) true fun c r => if r = true then do let ok ← isTrue c env (eval c env); Pure.pure (ForInStep.yield ok) else Pure.pure (ForInStep.yield r)) p Q :=
  .of fun s S T => wpAny_tests_nil ⟨p, S, .refl, h⟩
theorem R_tests_one {c : Expr} {Q : Bool → Pt → Prop} (h : Run C A L (isTrue c env (eval c env)) p Q) :
    Run C A L (forIn [c] true fun c r => if r = true then do let ok ← isTrue c env (eval c env); Pure.pure (ForInStep.yield ok) else Pure.pure (ForInStep.yield r)) p Q := .of fun s S T => wpAny_tests_one (h.go s S T)

/-- one comprehension's loop, its frame Cc, its list D -/
theorem comp_loop {R : Result → Shared → Prop} {elt target iter : Expr} {ifs : List Expr} {scope : Scope} {pos : Pos} {cenv : Env} {s₁ s : Shared} {Ia D Cc : Addr} {fp wr : List Addr} {n : Nat} {P Md : Nat → Value → Heap → Prop} {St : Nat → Heap → Prop}
    (I : Nat → List Value → Pt → Prop) {p₀ : Pt} (W : PySem.W.KTurns C.prog C.w A target Ia fp wr n P Md St) (hD : D ∉ wr) (hDf : D ∉ fp) (hw : ∀ b ∈ wr, s₁.heap.get? b = none) (hD1 : s₁.heap.get? D = none) (hf : ∀ b ∈ fp, b ∈ wr ∨ ∃ o, p₀.G b = some o)
    (hal : ∀ i h, St i h → ∀ b ∈ wr, h.get? b ≠ none) (S₁ : Sat0 C.B p₀.G p₀.N s₁.heap) (T₁ : TokOk p₀.k s₁) (hCc : s₁.heap.get? Cc = none)
    (st0 : St 0 s.heap) (S : Sat C.B Cc p₀ s.heap) (x : Ext Cc p₀ s₁ p₀ s) (t : s₁.toks ≤ s.toks) (H : Hid C.B Cc (D :: wr) p₀ s.heap) (hl : s.heap.PlainList D #[]) (hI : I 0 [] p₀) (hn : n ≤ sizeLine)
    (step : ∀ i ys p₂, i < n → ys.length ≤ i → I i ys p₂ → (∀ b o, p₀.G b = some o → p₂.G b = some o) → AsgRun C A Cc target cenv (P i) p₂ fun p₃ =>
      Run C A Cc (forIn ifs true fun c r => if r = true then do let ok ← isTrue c cenv (eval c cenv); Pure.pure (ForInStep.yield ok) else Pure.pure (ForInStep.yield r)) p₃ fun b p₄ =>
        if b then Run C A Cc (eval elt cenv) p₄ (fun y p₅ => I (i + 1) (ys ++ [y]) p₅) else I (i + 1) ys p₄)
    (fin : ∀ ys p₂ s', I n ys p₂ → Sat C.B Cc p₂ s'.heap → Ext Cc p₀ s₁ p₂ s' → s₁.toks ≤ s'.toks → Hid C.B Cc [D] p₂ s'.heap → s'.heap.PlainList D ys.toArray → R (.ok .next) s') :
    codeAny (model C.prog C.w) A (.compLoop (.ListComp elt [⟨target, iter, ifs, 0⟩] scope pos) 0 (.ref Ia) (.ref D) cenv) R s := by
  have hW : ∀ b ∈ D :: wr, s₁.heap.get? b = none := fun b hb => by
    rcases List.mem_cons.mp hb with e | hb
    · exact e ▸ hD1
    · exact hw b hb
  have up : ∀ {h h' : Heap}, (∀ b o, b ∉ wr → h.get? b = some o → h'.get? b = some o) → ∀ b o, b ∉ D :: wr → h.get? b = some o → h'.get? b = some o := fun hk b o hb e => hk b o (fun q => hb (List.mem_cons_of_mem _ q)) e
  have upD : ∀ {h h' : Heap}, Heap.ExtBut D h h' → ∀ b o, b ∉ D :: wr → h.get? b = some o → h'.get? b = some o := fun hk b o hb e => hk b o (fun q => hb (q ▸ List.mem_cons_self)) e
  have alive : ∀ {i : Nat} {h : Heap} {ys : Array Value}, St i h → h.PlainList D ys → ∀ b ∈ D :: wr, h.get? b ≠ none := fun st hl b hb => by
    rcases List.mem_cons.mp hb with e | hb
    · obtain ⟨n, e'⟩ := hl; rw [e, e']; exact fun h => nomatch h
    · exact hal _ _ st b hb
  have stK : ∀ {i : Nat} {p₅ p₆ : Pt} {s₅ s₆ : Shared}, St i s₅.heap → (∀ b o, p₀.G b = some o → p₅.G b = some o) → Sat C.B Cc p₅ s₅.heap → Sat C.B Cc p₆ s₆.heap → Hid C.B Cc (D :: wr) p₅ s₅.heap → Ext Cc p₅ s₅ p₆ s₆ → St i s₆.heap := fun st g S₅ S₆ H₅ y =>
    W.frame _ _ _ st fun b hb o e => by
      rcases hf b hb with hb | ⟨o', ho'⟩
      · exact (Hid.step H₅ y).2 b (List.mem_cons_of_mem _ hb) o e
      · have e1 := S₅.s0.gs b o' (g b o' ho')
        have e2 := S₆.s0.gs b o' (y.grow b o' (g b o' ho'))
        rw [e1] at e; cases e; exact e2
  have lK : ∀ {p₅ p₆ : Pt} {s₅ s₆ : Shared} {ys : Array Value}, s₅.heap.PlainList D ys → Hid C.B Cc (D :: wr) p₅ s₅.heap → Ext Cc p₅ s₅ p₆ s₆ → s₆.heap.PlainList D ys := fun hl H₅ y => hl.at fun o e => (Hid.step H₅ y).2 D List.mem_cons_self o e
  have tr : ∀ {p₅ p₆ : Pt} {s₅ s₆ : Shared}, Sat C.B Cc p₅ s₅.heap → Ext Cc p₀ s₁ p₅ s₅ → Ext Cc p₅ s₅ p₆ s₆ → s₅.toks ≤ s₆.toks → Ext Cc p₀ s₁ p₆ s₆ := fun S₅ x y t => Ext0.trans S₁ S₅.s0 (fun b hb h => absurd (by rw [hb]; exact hCc) h) x y t
  refine codeAny_loop rfl (fun k s' => ∃ i ys p₂, St i s'.heap ∧ Sat C.B Cc p₂ s'.heap ∧ Ext Cc p₀ s₁ p₂ s' ∧ s₁.toks ≤ s'.toks ∧ Hid C.B Cc (D :: wr) p₂ s'.heap ∧ s'.heap.PlainList D ys.toArray ∧ I i ys p₂ ∧ i ≤ n ∧ ys.length ≤ i ∧ k = n + 1 - i) (fun k s' hinv => ?_) (n + 1)
    ⟨0, [], p₀, st0, S, x, t, H, hl, hI, Nat.zero_le _, Nat.le_refl _, rfl⟩
  obtain ⟨i, ys, p₂, st, S₂, x₂, t₂, H₂, hl₂, hI₂, hi, hys, rfl⟩ := hinv
  show wpAny _ A ((compTurn (.ListComp elt [⟨target, iter, ifs, 0⟩] scope pos) 0 (.ref Ia) (.ref D) cenv).onRaise (fun x => do noteFrame x cenv; theTreesLotGoes x)) _ _ s'
  refine wpAny_noted ?_
  rw [compTurn_list]
  refine wpAny_bind (wpAny_standAt (wpAny_bind ?_))
  by_cases hlt : i < n
  · refine wpAny_with_toks (Nat.le_refl _) (W.item i _ _ _ hlt st fun v h₄ tk₄ hMd hk₄ ht₄ => ?_)
    refine wpAny_bind (W.go i v _ _ _ hMd fun h₅ hP st₅ hk₅ => ?_)
    have hk₅' : ∀ b o, b ∉ D :: wr → s'.heap.get? b = some o → h₅.get? b = some o := up fun b o hb e => hk₅ b o hb (hk₄ b o hb e)
    have hl₅ : h₅.PlainList D ys.toArray := hl₂.at fun o e => hk₅ _ o hD (hk₄ _ o hD e)
    have H₅ : Hid C.B Cc (D :: wr) p₂ h₅ := H₂.only (alive st₅ hl₅)
    have S₅ : Sat C.B Cc p₂ h₅ := S₂.hid H₂ hk₅'
    have x₅ : Ext Cc p₀ s₁ p₂ { s' with heap := h₅, toks := tk₄ } := x₂.hid hW ht₄ hk₅'
    have t₅ : s₁.toks ≤ tk₄ := Nat.le_trans t₂ ht₄
    refine wpAny_bind (wpAny_mono (wpAny_toks (step i ys p₂ hlt hys hI₂ x₂.grow v { s' with heap := h₅, toks := tk₄ } hP S₅ (T₁.next x₅ t₅))) (fun _ s₆ h₆ => ?_) fun _ _ e => e.2.elim)
    obtain ⟨t₆, p₆, S₆, y₆, run⟩ := h₆
    have st₆ := stK st₅ x₂.grow S₅ S₆ H₅ y₆
    have H₆ := (Hid.step H₅ y₆).1
    have hl₆ : s₆.heap.PlainList D ys.toArray := lK (s₅ := { s' with heap := h₅, toks := tk₄ }) hl₅ H₅ y₆
    have x₆ := tr S₅ x₅ y₆ t₆
    have t₆' : s₁.toks ≤ s₆.toks := Nat.le_trans t₅ t₆
    refine wpAny_bind (wpAny_mono (wpAny_toks ((run : Run ..).go s₆ S₆ (T₁.next x₆ t₆'))) (fun ok s₇ h₇ => ?_) fun _ _ e => e.2.elim)
    obtain ⟨t₇, p₇, S₇, y₇, q⟩ := h₇
    have st₇ := stK st₆ x₆.grow S₆ S₇ H₆ y₇
    have H₇ := (Hid.step H₆ y₇).1
    have hl₇ := lK hl₆ H₆ y₇
    have x₇ := tr S₆ x₆ y₇ t₇
    have t₇' : s₁.toks ≤ s₇.toks := Nat.le_trans t₆' t₇
    cases ok with
    | false =>
      simp only [Bool.false_eq_true, if_false] at q ⊢
      exact wpAny_pure ⟨rfl, n + 1 - (i + 1), by omega, i + 1, ys, p₇, st₇, S₇, x₇, t₇', H₇, hl₇, q, hlt, Nat.le_succ_of_le hys, rfl⟩
    | true =>
      simp only [if_true] at q ⊢
      refine wpAny_bind (wpAny_bind (wpAny_mono (wpAny_toks ((q : Run ..).go s₇ S₇ (T₁.next x₇ t₇'))) (fun y s₈ h₈ => ?_) fun _ _ e => e.2.elim))
      obtain ⟨t₈, p₈, S₈, y₈, q⟩ := h₈
      have st₈ := stK st₇ x₇.grow S₇ S₈ H₇ y₈
      have H₈ := (Hid.step H₇ y₈).1
      have hl₈ := lK hl₇ H₇ y₈
      have x₈ := tr S₇ x₇ y₈ t₈
      have t₈' : s₁.toks ≤ s₈.toks := Nat.le_trans t₇' t₈
      refine wpAny_bind (wpAny_list_append_plain (hsz := by rw [List.size_toArray]; omega) hl₈ fun h₉ hl₉ hs₉ => wpAny_pure (wpAny_pure ⟨rfl, n + 1 - (i + 1), by omega, i + 1, ys ++ [y], p₈, ?_, ?_, ?_, t₈', ?_, ?_, q, hlt, ?_, rfl⟩))
      · exact W.frame _ _ _ st₈ fun b hb o e => hs₉.extBut b o (fun q => hDf (q ▸ hb)) e
      · exact S₈.hid H₈ (upD hs₉.extBut)
      · exact x₈.hid hW (Nat.le_refl _) (upD hs₉.extBut)
      · refine H₈.only (alive (i := i + 1) (W.frame _ _ _ st₈ fun b hb o e => hs₉.extBut b o (fun q => hDf (q ▸ hb)) e) hl₉)
      · show h₉.PlainList D (ys ++ [y]).toArray
        rw [show (ys ++ [y]).toArray = ys.toArray.push y by simp]; exact hl₉
      · rw [List.length_append, List.length_singleton]; omega
  · have hin : i = n := by omega
    subst hin
    refine wpAny_with_toks (Nat.le_refl _) (W.done _ _ _ st fun h₄ tk₄ hk₄ ht₄ => wpAny_pure ?_)
    have hl₅ : h₄.PlainList D ys.toArray := hl₂.at fun o e => hk₄ _ o hD e
    exact fin ys p₂ _ hI₂ (S₂.hid H₂ (up hk₄)) (x₂.hid hW ht₄ (up hk₄)) (Nat.le_trans t₂ ht₄) (fun b hb => by
      obtain ⟨h1, h2, h3, h4, _⟩ := H₂ b (List.mem_cons.mpr (.inl (List.mem_singleton.mp hb)))
      refine ⟨h1, h2, h3, h4, ?_⟩
      rw [List.mem_singleton.mp hb]
      obtain ⟨n, e⟩ := hl₅
      rw [e]; exact fun h => nomatch h) hl₅

/-- the frame of a comprehension, made: its slots empty -/
theorem look_none : ∀ {m : List (Str × Option Value)}, (∀ q ∈ m, q.2 = none) → ∀ y, look m y = none
  | [], _, _ => rfl
  | (x, v) :: r, h, y => by
    simp only [look]
    split
    · exact h _ List.mem_cons_self
    · exact look_none (fun q hq => h q (List.mem_cons_of_mem _ hq)) y

theorem comp_block {elt target iter : Expr} {ifs : List Expr} {scope : Scope} {pos : Pos} {cl : List (Str × Addr)} {s₁ : Shared} {xv : Value} {n : Nat} {P : Nat → Value → Heap → Prop}
    (I : Nat → List Value → Pt → Prop) {p₁ : Pt} {mc : List (Str × Option Value)} {RR : Value → Addr → Result → Shared → Prop} (it : IterOn C A L p₁ target xv n P)
    (S₁ : Sat C.B L p₁ s₁.heap) (T₁ : TokOk p₁.k s₁) (hcell : ∀ y ∈ scope.names, y.2 ≠ .cell) (hkind : scope.kind = .function) (hmc : ∀ q ∈ mc, q.2 = none) (hnd : (mc.map (·.1)).Nodup) (hn : n ≤ sizeLine) (hI : I 0 [] { p₁ with m := mc })
    (step : ∀ Cc i ys p₂, i < n → ys.length ≤ i → I i ys p₂ → (∀ b o, p₁.G b = some o → p₂.G b = some o) → AsgRun C A Cc target (compEnvC scope cl Cc env) (P i) p₂ fun p₃ =>
      Run C A Cc (forIn ifs true fun c r => if r = true then do let ok ← isTrue c (compEnvC scope cl Cc env) (eval c (compEnvC scope cl Cc env)); Pure.pure (ForInStep.yield ok) else Pure.pure (ForInStep.yield r)) p₃ fun b p₄ =>
        if b then Run C A Cc (eval elt (compEnvC scope cl Cc env)) p₄ (fun y p₅ => I (i + 1) (ys ++ [y]) p₅) else I (i + 1) ys p₄)
    (fin : ∀ D Cc ys p₂ s', I n ys p₂ → s'.heap.Ns Cc (look p₂.m) → s₁.heap.get? Cc = none → D ≠ Cc → Sat C.B L ⟨p₂.G, p₁.m, (D, listC ys) :: p₂.N, p₂.k⟩ s'.heap → Ext L p₁ s₁ ⟨p₂.G, p₁.m, (D, listC ys) :: p₂.N, p₂.k⟩ s' → s₁.toks ≤ s'.toks →
      (∀ h', Heap.SameBut Cc s'.heap h' → Sat C.B L ⟨p₂.G, p₁.m, (D, listC ys) :: p₂.N, p₂.k⟩ h' ∧ Ext L p₁ s₁ ⟨p₂.G, p₁.m, (D, listC ys) :: p₂.N, p₂.k⟩ { s' with heap := h' }) →
      (Cc ∉ dom p₂.N ∧ p₂.G Cc = none ∧ Cc ≠ L) → RR (.ref D) Cc (.ok .next) s') :
    wpAny (model C.prog C.w) A (pyIter xv) (fun it s₂ => wpAny (model C.prog C.w) A (newList []) (fun acc s₃ => wpAny (model C.prog C.w) A (newFunctionEnv scope env.globals cl [] env.qual none .none (some env)) (fun cenv s₄ =>
      codeAny (model C.prog C.w) A (.compStart (.ListComp elt [⟨target, iter, ifs, 0⟩] scope pos) 0 it acc { cenv with scope := relabel scope env }) (RR acc cenv.locals) s₄) (fun _ _ => False) s₃) (fun _ _ => False) s₂) (fun _ _ => False) s₁ := by
  refine wpAny_mono (wpAny_toks (it s₁ S₁ T₁)) (fun itv s₂ h₂ => ?_) fun _ _ e => e.2.elim
  obtain ⟨t₂, Ia, fp, wr, Md, St, h', tk, rfl, rfl, W, st0, hk, hw, hf, hal, self⟩ := h₂
  refine wpAny_newObj_type (wpAny_newFunctionEnv hcell (by intro y hy; simp at hy) (fun h₁ hns₁ hsb₁ => ?_) hkind)
  dsimp only at hns₁ hsb₁ t₂ ⊢
  generalize hH2 : h'.push { cls := .type "list", dict := none, data := .seq ([] : List Value).toArray } = H2 at hns₁ hsb₁ ⊢
  have hC : H2.objs.size = h'.objs.size + 1 := by rw [← hH2, Heap.size_push]
  have hDC : h'.objs.size ≠ H2.objs.size := by rw [hC]; exact Nat.ne_of_lt (Nat.lt_succ_self _)
  have below : ∀ b, b < h'.objs.size → b ≠ H2.objs.size ∧ b ≠ h'.objs.size := fun b hb => ⟨by rw [hC]; exact Nat.ne_of_lt (Nat.lt_succ_of_lt hb), Nat.ne_of_lt hb⟩
  have old : ∀ b o, h'.get? b = some o → h₁.get? b = some o := fun b o e => hsb₁.extBut b o (below b (Heap.lt_size e)).1 (Heap.get?_push_of_some _ (hH2 ▸ Heap.get?_push_of_some _ e))
  have hacc : h₁.PlainList h'.objs.size #[] := ⟨_, hsb₁.extBut _ _ hDC (Heap.get?_push_of_some _ (hH2 ▸ Heap.get?_push_size _ rfl))⟩
  have st₁ : St 0 h₁ := W.frame _ _ _ st0 fun b _ o e => old b o e
  have S₂ : Sat C.B L p₁ h' := S₁.keep hk
  have freshOf : ∀ a, h'.objs.size ≤ a → s₁.heap.get? a = none := fun a ha => by
    cases e : s₁.heap.get? a with
    | none => rfl
    | some o => exact absurd (Heap.lt_size (hk a o e)) (Nat.not_lt.mpr ha)
  have hD1 := freshOf h'.objs.size (Nat.le_refl _)
  have hC1 := freshOf H2.objs.size (by rw [hC]; exact Nat.le_succ _)
  have nC := S₁.none_at hC1
  have nD := S₁.none_at hD1
  have hlive : ∀ b ∈ wr, h'.get? b ≠ none := hal 0 _ st0
  have ltw : ∀ b ∈ wr, b < h'.objs.size := fun b hb => by
    cases e : h'.get? b with
    | none => exact absurd e (hlive b hb)
    | some o => exact Heap.lt_size e
  have ltf : ∀ b ∈ fp, b < h'.objs.size := fun b hb => by
    rcases hf b hb with hb | ⟨o, ho⟩
    · exact ltw b hb
    · exact Heap.lt_size (S₂.s0.gs b o ho)
  have Sc : Sat C.B H2.objs.size { p₁ with m := mc } h₁ := ⟨S₂.s0.keep old, by
      have e : look mc = fun x => ([] : List (Str × Value)).reverse.lookup x := by funext y; rw [look_none hmc]; rfl
      show h₁.Ns H2.objs.size (look mc)
      rw [e]; exact hns₁, nC.1, nC.2.1, nC.2.2.1, hnd⟩
  have live₁ : ∀ b ∈ h'.objs.size :: wr, h₁.get? b ≠ none := fun b hb => by
    rcases List.mem_cons.mp hb with e | hb
    · obtain ⟨n, e'⟩ := hacc; rw [e, e']; exact fun h => nomatch h
    · cases e : h'.get? b with
      | none => exact absurd e (hlive b hb)
      | some o => rw [old b o e]; exact fun h => nomatch h
  have Hd : Hid C.B H2.objs.size (h'.objs.size :: wr) { p₁ with m := mc } h₁ := fun b hb => by
    rcases List.mem_cons.mp hb with e | hb'
    · subst e; exact ⟨nD.1, nD.2.1, nD.2.2.1, hDC, live₁ _ hb⟩
    · have := S₁.none_at (hw b hb')
      exact ⟨this.1, this.2.1, this.2.2.1, (below b (ltw b hb')).1, live₁ _ hb⟩
  have x₁ : Ext H2.objs.size { p₁ with m := mc } s₁ { p₁ with m := mc } { s₁ with heap := h₁, toks := tk + ([] : List (Str × Value)).length } :=
    Ext.heap fun b o e => old b o (hk b o e)
  have loop : ∀ s₃ : Shared, s₃ = { s₁ with heap := h₁, toks := tk + ([] : List (Str × Value)).length } →
      codeAny (model C.prog C.w) A (.compLoop (.ListComp elt [⟨target, iter, ifs, 0⟩] scope pos) 0 (.ref Ia) (.ref h'.objs.size) (compEnvC scope cl H2.objs.size env)) (RR (.ref h'.objs.size) H2.objs.size) s₃ := by
    rintro s₃ rfl
    refine comp_loop I W (fun hb => Nat.lt_irrefl _ (ltw _ hb)) (fun hb => Nat.lt_irrefl _ (ltf _ hb)) hw hD1 (p₀ := { p₁ with m := mc }) hf hal S₁.s0 T₁ hC1 st₁ Sc x₁ t₂ Hd hacc hI hn (fun i ys p₂ a b c d => step _ i ys p₂ a b c d) fun ys p₂ s' hI' S' x' t' H' hl' => ?_
    obtain ⟨d1, d2, d3, d4, d5⟩ := H' h'.objs.size (List.mem_singleton.mpr rfl)
    have cN : H2.objs.size ∉ dom p₂.N := S'.nL
    have Ls : s₁.heap.get? L ≠ none := by
      obtain ⟨o, _, _, ho, _⟩ := S₁.ns
      rw [ho]; exact fun h => nomatch h
    have LC : L ≠ H2.objs.size := fun e => Ls (e ▸ hC1)
    have LD : L ≠ h'.objs.size := fun e => Ls (e ▸ hD1)
    have LN : L ∉ dom p₂.N := fun hm => by
      rcases x'.fresh L (.inr hm) with q | q | q
      · exact q S₁.gL
      · exact S₁.nL q
      · exact Ls q
    have LG : p₂.G L = none := by
      cases e : p₂.G L with
      | none => rfl
      | some o =>
        rcases x'.fresh L (.inl (by rw [e]; exact fun h => nomatch h)) with q | q | q
        · exact absurd S₁.gL q
        · exact absurd q S₁.nL
        · exact absurd q Ls
    obtain ⟨nl, hl''⟩ := hl'
    have SL : Sat C.B L ⟨p₂.G, p₁.m, (h'.objs.size, listC ys) :: p₂.N, p₂.k⟩ s'.heap := by
      refine ⟨⟨S'.s0.base, S'.s0.gs, fun q hq => ?_, fun b hb => ?_, fun b hb => ?_, List.nodup_cons.mpr ⟨d3, S'.s0.nd⟩⟩, ?_, S₁.bL, LG, fun hm => ?_, S₁.mnd⟩
      · rcases List.mem_cons.mp hq with e | hq
        · subst e; exact ⟨_, hl'', nl, rfl⟩
        · exact S'.s0.own q hq
      · rcases List.mem_cons.mp hb with e | hb
        · exact e ▸ d1
        · exact S'.s0.nB b hb
      · rcases List.mem_cons.mp hb with e | hb
        · exact e ▸ d2
        · exact S'.s0.nG b hb
      · exact S₁.ns.at' fun o e => x'.keep L o e LC S₁.nL
      · rcases List.mem_cons.mp hm with e | hm
        · exact LD e
        · exact LN hm
    have xL : Ext L p₁ s₁ ⟨p₂.G, p₁.m, (h'.objs.size, listC ys) :: p₂.N, p₂.k⟩ s' := by
      refine ⟨fun b o e _ h2 => x'.keep b o e (fun q => by rw [q, hC1] at e; cases e) h2, x'.grow, fun b hb => ?_, fun b hb => (x'.noleak b hb).imp (List.mem_cons_of_mem _) id, x'.gens, x'.os, x'.km, x'.kk⟩
      rcases hb with hb | hb
      · exact x'.fresh b (.inl hb)
      · rcases List.mem_cons.mp hb with e | hb
        · exact .inr (.inr (e ▸ hD1))
        · exact x'.fresh b (.inr hb)
    refine fin _ _ ys p₂ s' hI' S'.ns hC1 hDC SL xL t' (fun h₉ hs₉ => ⟨?_, ?_⟩) ⟨cN, S'.gL, Ne.symm LC⟩
    · exact SL.extBut hs₉.extBut S'.bL S'.gL (fun hm => by
        rcases List.mem_cons.mp hm with e | hm
        · exact hDC e.symm
        · exact cN hm) (Ne.symm LC)
    · exact xL.hid (W := [H2.objs.size]) (fun b hb => by rw [List.mem_singleton.mp hb]; exact hC1) (Nat.le_refl _) fun b o hb e => hs₉.extBut b o (fun q => hb (List.mem_singleton.mpr q)) e
  exact codeAny_compStart_list (loop _ rfl) (self 0 _ _ _ st₁ (loop _ rfl))

/-- a comprehension with one for -/
theorem E_ListComp {elt target iter : Expr} {ifs : List Expr} {scope : Scope} {pos : Pos} {cl : List (Str × Addr)} {Q : Value → Pt → Prop} (mc : List (Str × Option Value))
    (hclos : closureFor scope env = Pure.pure cl) (hcell : ∀ y ∈ scope.names, y.2 ≠ .cell) (hnames : ∀ y ∈ scope.names, y.2 = .local → scope.names.lookup y.1 = some .local) (hmc : ∀ q ∈ mc, q.2 = none) (hnd : (mc.map (·.1)).Nodup)
    (h : Run C A L (eval iter env) p fun xv p₁ => ∃ n P, ∃ I : Nat → List Value → Pt → Prop, IterOn C A L p₁ target xv n P ∧ n ≤ sizeLine ∧ I 0 [] { p₁ with m := mc } ∧
      (∀ Cc i ys p₂, i < n → ys.length ≤ i → I i ys p₂ → (∀ b o, p₁.G b = some o → p₂.G b = some o) → AsgRun C A Cc target (compEnvC scope cl Cc env) (P i) p₂ fun p₃ =>
        Run C A Cc (forIn ifs true fun c r => if r = true then do let ok ← isTrue c (compEnvC scope cl Cc env) (eval c (compEnvC scope cl Cc env)); Pure.pure (ForInStep.yield ok) else Pure.pure (ForInStep.yield r)) p₃ fun b p₄ =>
          if b then Run C A Cc (eval elt (compEnvC scope cl Cc env)) p₄ (fun y p₅ => I (i + 1) (ys ++ [y]) p₅) else I (i + 1) ys p₄) ∧
      (∀ D ys p₂, I n ys p₂ → (∀ b o, p₁.G b = some o → p₂.G b = some o) → Q (.ref D) ⟨p₂.G, p₁.m, (D, listC ys) :: p₂.N, p₂.k⟩))
    (hkind : scope.kind = .function := by rfl) (hs : ∀ x, foldedSetIterable iter env x = Pure.pure x := by intro _; rfl) :
    Run C A L (eval (.ListComp elt [⟨target, iter, ifs, 0⟩] scope pos) env) p Q := .of fun s S T => by
  rw [eval_ListComp]
  refine wpAny_comprehension_free (use := none) rfl hs hclos hkind hnames (wpAny_mono (wpAny_toks (h.go s S T)) (fun xv s₁ h₁ => ?_) fun _ _ e => e.2)
  obtain ⟨t₁, p₁, S₁, x₁, n, P, I, it, hn, hI0, step, fin⟩ := h₁
  refine comp_block (RR := fun acc C' => compPost (model C.prog C.w) A (fun _ _ => False) none (fun a s' => ∃ p', Sat C.B L p' s'.heap ∧ Ext L p s p' s' ∧ Q a p') acc C') I it S₁ (T.next x₁ t₁) hcell hkind hmc hnd hn hI0 step fun D Cc ys p₂ s' hI hns hC hDC SL xL t' up nc => ?_
  exact ⟨_, hns, fun h' hs' => ⟨_, (up h' hs').1, x₁.trans S S₁ (up h' hs').2 t', fin D ys p₂ hI xL.grow⟩⟩

/-- the same, its list a name's -/
theorem X_Assign_ListComp {y : Str} {py spos : Pos} {elt target iter : Expr} {ifs : List Expr} {scope : Scope} {pos : Pos} {cl : List (Str × Addr)} {Q : Flow → Pt → Prop} (mc : List (Str × Option Value))
    (hclos : closureFor scope env = Pure.pure cl) (hcell : ∀ y ∈ scope.names, y.2 ≠ .cell) (hnames : ∀ y ∈ scope.names, y.2 = .local → scope.names.lookup y.1 = some .local) (hmc : ∀ q ∈ mc, q.2 = none) (hnd : (mc.map (·.1)).Nodup)
    (h : Run C A L (eval iter env) p fun xv p₁ => ∃ n P, ∃ I : Nat → List Value → Pt → Prop, IterOn C A L p₁ target xv n P ∧ n ≤ sizeLine ∧ I 0 [] { p₁ with m := mc } ∧
      (∀ Cc i ys p₂, i < n → ys.length ≤ i → I i ys p₂ → (∀ b o, p₁.G b = some o → p₂.G b = some o) → AsgRun C A Cc target (compEnvC scope cl Cc env) (P i) p₂ fun p₃ =>
        Run C A Cc (forIn ifs true fun c r => if r = true then do let ok ← isTrue c (compEnvC scope cl Cc env) (eval c (compEnvC scope cl Cc env)); Pure.pure (ForInStep.yield ok) else Pure.pure (ForInStep.yield r)) p₃ fun b p₄ =>
          if b then Run C A Cc (eval elt (compEnvC scope cl Cc env)) p₄ (fun y p₅ => I (i + 1) (ys ++ [y]) p₅) else I (i + 1) ys p₄) ∧
      (∀ D ys p₂, I n ys p₂ → (∀ b o, p₁.G b = some o → p₂.G b = some o) → Run C A L (bindName env y (.ref D)) ⟨p₂.G, p₁.m, (D, listC ys) :: p₂.N, p₂.k⟩ fun _ p₃ => Q .next p₃))
    (hsw : swapsWith (.ListComp elt [⟨target, iter, ifs, 0⟩] scope pos) (some (.Name y py)) spos.line env = Pure.pure true := by rfl)
    (hkind : scope.kind = .function := by rfl) (hs : ∀ x, foldedSetIterable iter env x = Pure.pure x := by intro _; rfl) :
    Run C A L (exec (.Assign [.Name y py] (.ListComp elt [⟨target, iter, ifs, 0⟩] scope pos) spos) env) p Q := .of fun s S T => by
  rw [exec_Assign_Name_used _ _ _ _ hsw]
  refine wpAny_bind (wpAny_standAt (wpAny_bind ?_))
  show wpAny _ A (do let _ ← comprehension (.ListComp elt [⟨target, iter, ifs, 0⟩] scope pos) scope env _ (newList []) false (eval iter env) (some (assign (.Name y py) env))) _ _ s
  refine wpAny_bind (wpAny_mono (wpAny_comprehension_free (use := some (assign (.Name y py) env)) (Q := fun _ s' => ∃ p', Sat C.B L p' s'.heap ∧ Ext L p s p' s' ∧ Q .next p') rfl hs hclos hkind hnames
    (wpAny_mono (wpAny_toks (h.go s S T)) (fun xv s₁ h₁ => ?_) fun _ _ e => e.2)) (fun _ s' hq => wpAny_pure (wpAny_pure hq)) fun _ _ e => e)
  obtain ⟨t₁, p₁, S₁, x₁, n, P, I, it, hn, hI0, step, fin⟩ := h₁
  refine comp_block (RR := fun acc C' => compPost (model C.prog C.w) A (fun _ _ => False) (some (assign (.Name y py) env)) (fun _ s' => ∃ p', Sat C.B L p' s'.heap ∧ Ext L p s p' s' ∧ Q .next p') acc C') I it S₁ (T.next x₁ t₁) hcell hkind hmc hnd hn hI0 step fun D Cc ys p₂ s' hI hns hC hDC SL xL t' up nc => ?_
  show wpAny _ A (assign (.Name y py) env (.ref D)) _ _ s'
  rw [arm_assign_Name]
  have T' := (T.next x₁ t₁).next xL t'
  have Hc : Hid C.B L [Cc] ⟨p₂.G, p₁.m, (D, listC ys) :: p₂.N, p₂.k⟩ s'.heap := fun b hb => by
    rw [List.mem_singleton.mp hb]
    refine ⟨(S₁.none_at hC).1, nc.2.1, fun hm => ?_, nc.2.2, ?_⟩
    · rcases List.mem_cons.mp hm with e | hm
      · exact hDC e.symm
      · exact nc.1 hm
    · obtain ⟨o, _, _, ho, _⟩ := hns
      rw [ho]; exact fun h => nomatch h
  refine wpAny_bind (wpAny_standAt (wpAny_mono (wpAny_toks ((fin D ys p₂ hI xL.grow).go s' SL T')) (fun _ s₄ h₄ => ?_) fun _ _ e => e.2))
  obtain ⟨t₄, p₄, S₄, x₄, q⟩ := h₄
  obtain ⟨H₄, k₄⟩ := Hid.step Hc x₄
  refine ⟨_, hns.at' fun o e => k₄ Cc (List.mem_singleton.mpr rfl) o e, fun h' hs' => ?_⟩
  have x₅ := x₁.trans S S₁ (xL.trans S₁ SL x₄ t₄) (Nat.le_trans t' t₄)
  have hsC : s.heap.get? Cc = none := by
    cases e : s.heap.get? Cc with
    | none => rfl
    | some o =>
      exfalso
      by_cases h1 : Cc = L
      · exact nc.2.2 h1
      · by_cases h2 : Cc ∈ dom p.N
        · rcases x₁.noleak Cc h2 with h3 | h3
          · obtain ⟨z, hz, e2⟩ := List.mem_map.mp h3
            obtain ⟨o2, ho2, _⟩ := S₁.s0.own z hz
            rw [e2, hC] at ho2; cases ho2
          · cases hg : p₁.G Cc with
            | none => exact h3 hg
            | some o2 => have := S₁.s0.gs _ _ hg; rw [hC] at this; cases this
        · have := x₁.keep Cc o e h1 h2
          rw [hC] at this; cases this
  refine ⟨p₄, S₄.extBut hs'.extBut (H₄ Cc (List.mem_singleton.mpr rfl)).1 (H₄ Cc (List.mem_singleton.mpr rfl)).2.1 (H₄ Cc (List.mem_singleton.mpr rfl)).2.2.1 (H₄ Cc (List.mem_singleton.mpr rfl)).2.2.2.1, ?_, q⟩
  exact x₅.hid (W := [Cc]) (fun b hb => by rw [List.mem_singleton.mp hb]; exact hsC) (Nat.le_refl _) fun b o hb e => hs'.extBut b o (fun q => hb (List.mem_singleton.mpr q)) e
end
end Mine

open PySem PySem.Calls PyProof.Rows
set_option Elab.async false
set_option linter.unusedVariables false
namespace Mine

/-- frozen sequences -/
def ListAt (G : Addr → Option Obj) (l : Addr) (vs : List Value) : Prop := ∃ o n, G l = some o ∧ o.cls = .type "list" ∧ o.data = .seq vs.toArray n
def TupAt (G : Addr → Option Obj) (l : Addr) (vs : List Value) : Prop := ∃ o n, G l = some o ∧ o.cls = .type "tuple" ∧ o.data = .seq vs.toArray n
abbrev GLe (G G' : Addr → Option Obj) : Prop := ∀ b o, G b = some o → G' b = some o
theorem GLe.refl (G : Addr → Option Obj) : GLe G G := fun _ _ e => e
theorem GLe.trans {G G' G'' : Addr → Option Obj} (x : GLe G G') (y : GLe G' G'') : GLe G G'' := fun b o e => y b o (x b o e)
theorem GLe.add {G : Addr → Option Obj} {a : Addr} {o : Obj} (h : G a = none) : GLe G (addG G a o) := fun b ob e => by
  simp only [addG]; rw [if_neg (by rintro rfl; rw [h] at e; cases e)]; exact e
theorem addG_self {G : Addr → Option Obj} {a : Addr} {o : Obj} : addG G a o a = some o := by simp [addG]
theorem ListAt.mono {G G' : Addr → Option Obj} {l : Addr} {vs : List Value} (h : ListAt G l vs) (x : GLe G G') : ListAt G' l vs := let ⟨o, n, e, r⟩ := h; ⟨o, n, x _ _ e, r⟩
theorem TupAt.mono {G G' : Addr → Option Obj} {l : Addr} {vs : List Value} (h : TupAt G l vs) (x : GLe G G') : TupAt G' l vs := let ⟨o, n, e, r⟩ := h; ⟨o, n, x _ _ e, r⟩
theorem TupAt.new {G : Addr → Option Obj} {a : Addr} {vs : List Value} : TupAt (addG G a (tupO vs)) a vs := ⟨_, 0, addG_self, rfl, rfl⟩
theorem ListAt.new {G : Addr → Option Obj} {a : Addr} {vs : List Value} {o : Obj} (h : listC vs o) : ListAt (addG G a o) a vs := let ⟨n, e⟩ := h; ⟨o, n, addG_self, by rw [e], by rw [e]⟩

section
variable {C : Cx} {A : Around} {L : Addr} {α β : Type} {p : Pt} {env : Env}

theorem ListAt.isList {B : Heap} {h : Heap} {l : Addr} {vs : List Value} (x : ListAt p.G l vs) (S : Sat B L p h) : h.IsList l vs.toArray := let ⟨o, n, e, hc, hd⟩ := x; ⟨o, S.s0.gs _ _ e, hc, n, hd⟩
theorem TupAt.isTup {B : Heap} {h : Heap} {l : Addr} {vs : List Value} (x : TupAt p.G l vs) (S : Sat B L p h) : h.IsTuple l vs.toArray := let ⟨o, n, e, hc, hd⟩ := x; ⟨o, S.s0.gs _ _ e, hc, n, hd⟩

/-- a target that unpacks nothing, or unpacks what a list's iterator hands out -/
def EasyTarget : Expr → Bool
  | .Name .. => true
  | .Tuple .. => true
  | _ => false

theorem go_list {target : Expr} {I l : Addr} {i : Nat} {v : Value} {s : Shared} {Q : Unit → Shared → Prop} {E : Value → Shared → Prop} (ht : EasyTarget target = true) (hi : s.heap.IsListIter I l i) (hQ : Q () s) :
    wpAny (model C.prog C.w) A (letOwnedTupleGo target (.ref I) v) Q E s := by
  cases target with
  | Name x p => exact wpAny_pure hQ
  | Tuple es k pos =>
    cases v with
    | ref T => exact wpAny_letOwnedTupleGo_listiter hi hQ
    | _ => exact wpAny_pure hQ
  | _ => cases ht

theorem IterOn.list {target : Expr} {l : Addr} {vs : List Value} (hh : A.handled = none) (hl : ListAt p.G l vs) (ht : EasyTarget target = true := by rfl) : IterOn C A L p target (.ref l) vs.length fun i v _ => vs[i]? = some v := fun s S T => by
  have hls := hl.isList S
  obtain ⟨o, n, e, _⟩ := id hl
  have hlt : l < s.heap.objs.size := Heap.lt_size (S.s0.gs _ _ e)
  have hne : l ≠ s.heap.objs.size := Nat.ne_of_lt hlt
  refine wpAny_pyIter_list hls ?_
  have W := Walks.list (prog := C.prog) (w := C.w) hh s.heap.objs.size l hne vs.toArray
  have W' := PySem.W.KTurns.ofWalks (target := target) W fun i v s Q E st hQ => go_list ht st.1 hQ
  rw [List.size_toArray] at W'
  refine ⟨_, _, _, _, _, _, _, rfl, rfl, { W' with item := fun i s Q E hi st hQ => W'.item i s Q E hi st hQ, go := fun i v s Q E hm hQ => W'.go i v s Q E hm fun h' hP st hk => hQ h' (by simpa using hP) st hk }, ⟨⟨_, Heap.get?_push_size _ rfl, rfl, rfl⟩, hls.at fun o e => Heap.get?_push_of_some _ e⟩,
    fun b o e => Heap.get?_push_of_some _ e, fun b hb => by rw [List.mem_singleton.mp hb]; exact get_size_none _, fun b hb => ?_, fun i h st b hb => ?_, fun i s Q E st hQ => W.self i s Q E st hQ⟩
  · rcases List.mem_cons.mp hb with q | q
    · exact .inl (List.mem_singleton.mpr q)
    · exact .inr ⟨o, by rw [List.mem_singleton.mp q]; exact e⟩
  · rw [List.mem_singleton.mp hb]
    obtain ⟨_, ho, _⟩ := st.1
    rw [ho]; exact fun h => nomatch h

theorem IterOn.tuple {x : Str} {px : Pos} {l : Addr} {vs : List Value} (hh : A.handled = none) (hl : TupAt p.G l vs) : IterOn C A L p (.Name x px) (.ref l) vs.length fun i v _ => vs[i]? = some v := fun s S T => by
  have hls := hl.isTup S
  obtain ⟨o, n, e, _⟩ := id hl
  have hlt : l < s.heap.objs.size := Heap.lt_size (S.s0.gs _ _ e)
  have hne : l ≠ s.heap.objs.size := Nat.ne_of_lt hlt
  refine wpAny_pyIter_tuple hls ?_
  have W := Walks.tuple (prog := C.prog) (w := C.w) hh s.heap.objs.size l hne vs.toArray
  have W' := PySem.W.KTurns.ofWalks (target := .Name x px) W fun i v s Q E st hQ => wpAny_pure hQ
  rw [List.size_toArray] at W'
  refine ⟨_, _, _, _, _, _, _, rfl, rfl, { W' with item := fun i s Q E hi st hQ => W'.item i s Q E hi st hQ, go := fun i v s Q E hm hQ => W'.go i v s Q E hm fun h' hP st hk => hQ h' (by simpa using hP) st hk }, ⟨⟨_, Heap.get?_push_size _ rfl, rfl, rfl⟩, hls.at fun o e => Heap.get?_push_of_some _ e⟩,
    fun b o e => Heap.get?_push_of_some _ e, fun b hb => by rw [List.mem_singleton.mp hb]; exact get_size_none _, fun b hb => ?_, fun i h st b hb => ?_, fun i s Q E st hQ => W.self i s Q E st hQ⟩
  · rcases List.mem_cons.mp hb with q | q
    · exact .inl (List.mem_singleton.mpr q)
    · exact .inr ⟨o, by rw [List.mem_singleton.mp q]; exact e⟩
  · rw [List.mem_singleton.mp hb]
    obtain ⟨_, ho, _⟩ := st.1
    rw [ho]; exact fun h => nomatch h

theorem IterOn.str {y : Str} {px : Pos} {x : Str} {t : Tok} (hh : A.handled = none) : IterOn C A L p (.Name y px) (.str x t) x.cps.size fun i v _ => SignAt x i v := fun s S T => by
  cases ha : x.cps.all (· < 128) with
  | true =>
    refine wpAny_pyIter_ascii ha ?_
    have W := Walks.strAscii (prog := C.prog) (w := C.w) hh s.heap.objs.size x t
    refine ⟨_, _, _, _, _, _, _, rfl, rfl, PySem.W.KTurns.ofWalks (target := .Name y px) W fun i v s Q E st hQ => wpAny_pure hQ, ⟨_, Heap.get?_push_size _ rfl, rfl, rfl⟩,
      fun b o e => Heap.get?_push_of_some _ e, fun b hb => by rw [List.mem_singleton.mp hb]; exact get_size_none _, fun b hb => .inl hb, fun i h st b hb => ?_, fun i s Q E st hQ => W.self i s Q E st hQ⟩
    rw [List.mem_singleton.mp hb]
    obtain ⟨_, ho, _⟩ := st
    rw [ho]; exact fun h => nomatch h
  | false =>
    refine wpAny_pyIter_wide ha ?_
    have W := Walks.strWide (prog := C.prog) (w := C.w) hh s.heap.objs.size x t
    refine ⟨_, _, _, _, _, _, _, rfl, rfl, PySem.W.KTurns.ofWalks (target := .Name y px) W fun i v s Q E st hQ => wpAny_pure hQ, ⟨_, Heap.get?_push_size _ rfl, rfl, rfl⟩,
      fun b o e => Heap.get?_push_of_some _ e, fun b hb => by rw [List.mem_singleton.mp hb]; exact get_size_none _, fun b hb => .inl hb, fun i h st b hb => ?_, fun i s Q E st hQ => W.self i s Q E st hQ⟩
    rw [List.mem_singleton.mp hb]
    obtain ⟨_, ho, _⟩ := st
    rw [ho]; exact fun h => nomatch h

/-- two names take a pair -/
theorem AsgRun.pair {x y : Str} {px py tp : Pos} {k : Nat} {P : Value → Heap → Prop} {Q : Pt → Prop} (hh : A.handled = none)
    (h : ∀ v h', P v h' → ∃ T a b, v = .ref T ∧ (TupAt p.G T [a, b] ∨ h'.IsTuple T #[a, b]) ∧ Run C A L (bindName env x a) p fun _ p₁ => Run C A L (bindName env y b) p₁ fun _ p₂ => Q p₂) :
    AsgRun C A L (.Tuple [.Name x px, .Name y py] k tp) env P p Q := fun v s hP S T => by
  obtain ⟨Tu, a, b, rfl, ht, run⟩ := h v s.heap hP
  have ht' : s.heap.IsTuple Tu #[a, b] := by
    rcases ht with ht | ht
    · exact ht.isTup S
    · exact ht
  refine wpAny_assign_Tuple hh ht' rfl rfl fun h' hs => ?_
  have nn := S.none_at (get_size_none s.heap)
  have S' : Sat C.B L p h' := S.extBut hs nn.1 nn.2.1 nn.2.2.1 nn.2.2.2
  have x' : Ext L p s p { s with heap := h' } := Ext.heap fun b o e => hs b o (Nat.ne_of_lt (Heap.lt_size e)) e
  refine Run.after S T S' x' (Nat.le_refl _) ?_
  show Run C A L (do PySem.holding [b] ((do PySem.standAt px; bindName env x a)); assignInOrder [assign (.Name y py) env] [b]) p _
  refine .bind (.holding (.bind (.standAt (run.mono fun _ p₁ h₁ => ?_))))
  show Run C A L (do PySem.holding [] ((do PySem.standAt py; bindName env y b)); assignInOrder [] []) p₁ _
  exact .bind (.holding (.bind (.standAt (h₁.mono fun _ p₂ h₂ => .pure h₂))))

end
end Mine

open PySem PySem.Calls PyProof.Rows
set_option Elab.async false
set_option linter.unusedVariables false
namespace Mine

section
variable {C : Cx} {A : Around} {L : Addr} {p : Pt} {env : Env}

/-! ints -/
section
variable {a b : Int} {t u : Tok} {Q : Value → Pt → Prop}
theorem B_add (h : ∀ tk, Q (.int (a + b) tk) p) : Run C A L (binaryOp .Add (.int a t) (.int b u)) p Q := .of fun s S T => PySem.P.add_int (Post.same S (h _))
theorem B_iadd (h : ∀ tk, Q (.int (a + b) tk) p) : Run C A L (inplaceOp .Add (.int a t) (.int b u)) p Q := .of fun s S T => PySem.P.iadd_int (Post.same S (h _))
theorem B_sub (h : ∀ tk, Q (.int (a - b) tk) p) : Run C A L (binaryOp .Sub (.int a t) (.int b u)) p Q := .of fun s S T => PySem.P.sub_int (Post.same S (h _))
theorem B_isub (h : ∀ tk, Q (.int (a - b) tk) p) : Run C A L (inplaceOp .Sub (.int a t) (.int b u)) p Q := .of fun s S T => PySem.P.isub_int (Post.same S (h _))
theorem B_mod (hb : b ≠ 0) (h : ∀ tk, Q (.int (a.fmod b) tk) p) : Run C A L (binaryOp .Mod (.int a t) (.int b u)) p Q := .of fun s S T => mod_int' hb (Post.same S (h _))
theorem B_fdiv (hb : b ≠ 0) (hs : b.natAbs < 1073741824) (h : ∀ tk, Q (.int (a.fdiv b) tk) p) : Run C A L (binaryOp .FloorDiv (.int a t) (.int b u)) p Q := .of fun s S T =>
  floordiv_int hb (Post.same S (h _)) (.inl (PyProof.noPylong_small hs))
theorem B_pow (hn : 0 ≤ b) (hs : (Builtin.Int.intBits a : Int) * b ≤ 2 ^ 27) (h : ∀ tk, Q (.int (a ^ b.toNat) tk) p) : Run C A L (binaryOp .Pow (.int a t) (.int b u)) p Q := .of fun s S T => pow_int hn hs (Post.same S (h _))
theorem C_eqI (h : Q (.bool (a == b)) p) : Run C A L (compareOp .Eq (.int a t) (.int b u)) p Q := .of fun s S T => PySem.P.eq_int ⟨p, S, .refl, h⟩
theorem C_neI (h : Q (.bool (a != b)) p) : Run C A L (compareOp .NotEq (.int a t) (.int b u)) p Q := .of fun s S T => PySem.P.ne_int ⟨p, S, .refl, h⟩
theorem C_ltI (h : Q (.bool (decide (a < b))) p) : Run C A L (compareOp .Lt (.int a t) (.int b u)) p Q := .of fun s S T => PySem.P.lt_int ⟨p, S, .refl, h⟩
theorem C_leI (h : Q (.bool (decide (a ≤ b))) p) : Run C A L (compareOp .LtE (.int a t) (.int b u)) p Q := .of fun s S T => PySem.P.le_int ⟨p, S, .refl, h⟩
theorem C_gtI (h : Q (.bool (decide (a > b))) p) : Run C A L (compareOp .Gt (.int a t) (.int b u)) p Q := .of fun s S T => PySem.P.gt_int ⟨p, S, .refl, h⟩
theorem C_geI (h : Q (.bool (decide (a ≥ b))) p) : Run C A L (compareOp .GtE (.int a t) (.int b u)) p Q := .of fun s S T => PySem.P.ge_int ⟨p, S, .refl, h⟩
end

/-! texts -/
section
variable {x y z : Str} {t u v : Tok} {Q : Value → Pt → Prop}
theorem C_eqS (h : Q (.bool (decide (x = y))) p) : Run C A L (compareOp .Eq (.str x t) (.str y u)) p Q := .of fun s S T => by
  refine PySem.P.eq_str ⟨p, S, .refl, ?_⟩
  have e : (x.cps.toList == y.cps.toList) = decide (x = y) := by
    by_cases h : x = y
    · subst h; simp
    · rw [decide_eq_false h]
      cases hb : (x.cps.toList == y.cps.toList) with
      | false => rfl
      | true => exact absurd (by cases x; cases y; simpa using hb) h
  rw [e]; exact h
theorem C_neS (h : Q (.bool (!decide (x = y))) p) : Run C A L (compareOp .NotEq (.str x t) (.str y u)) p Q := .of fun s S T => by
  refine PySem.P.ne_str ⟨p, S, .refl, ?_⟩
  have e : (x.cps.toList != y.cps.toList) = !decide (x = y) := by
    by_cases h : x = y
    · subst h; simp
    · rw [decide_eq_false h]
      cases hb : (x.cps.toList == y.cps.toList) with
      | false => simp [bne, hb]
      | true => exact absurd (by cases x; cases y; simpa using hb) h
  rw [e]; exact h
theorem C_inS (h : Q (.bool (Txt.contains x y)) p) : Run C A L (compareOp .In (.str y u) (.str x t)) p Q := .of fun s S T => SB.contains ⟨p, S, .refl, h⟩
theorem C_notInS (h : Q (.bool (!Txt.contains x y)) p) : Run C A L (compareOp .NotIn (.str y u) (.str x t)) p Q := .of fun s S T => SB.notContains ⟨p, S, .refl, h⟩
theorem B_addS (hz : x.length + y.length ≤ sizeLine) (h : ∀ tk, Q (.str (x ++ y) tk) p) : Run C A L (binaryOp .Add (.str x t) (.str y u)) p Q := .of fun s S T => SB.add (fun t' k => Post.same S (h t')) hz
theorem R_chr {i : Int} (h0 : 0 ≤ i) (h1 : i ≤ 1114111) (h : ∀ tk, p.k ≤ tk → Q (.str ⟨#[i.toNat]⟩ tk) { p with k := tk + 1 }) : Run C A L (PySem.call (.builtin "chr") [.int i t]) p Q := .of fun s S T =>
  PySem.P.chr_of_int (by rw [decide_eq_false (by omega), decide_eq_false (by omega)]; rfl) (Post.fresh S T (h _ T.le))
theorem R_mod_s {F : Str} {G : Str → Str} (hy : y.length ≤ 1000000) (hm : ∀ z : PySem.Str, z.length ≤ 1000000 → Meets (Builtin.«str.__mod__» ⟨[.str F t, .str z u], []⟩) (fun _ R s => ∀ t' k, R (.ok (.ret (.str (G z) t'))) { s with toks := k }))
    (h : ∀ tk, Q (.str (G y) tk) p) : Run C A L (binaryOp .Mod (.str F t) (.str y u)) p Q := .of fun s S T => PySem.W.KPc.mod_str (T := G) rfl hy hm fun t' k => Post.same S (h t')

/-- sep.join of texts: a lone one is handed on as it is -/
theorem R_join {a : Addr} {l : List (Str × Tok)} {sep : Str} (hl : ListAt p.G a (strValues l) ∨ (a, listC (strValues l)) ∈ p.N) (hz : Builtin.Str.tooLong ((l.map (·.1)).toArray.foldl (· + ·.length + sep.length) 0) = false) (hs : (Builtin.Str.glued sep (l.map (·.1))).length ≤ sizeLine)
    (h1 : ∀ q, l = [q] → Q (.str q.1 q.2) p) (h2 : (∀ q, l ≠ [q]) → ∀ tk, p.k ≤ tk → Q (.str (Builtin.Str.glued sep (l.map (·.1))) tk) { p with k := tk + 1 }) :
    Run C A L (PySem.call (.builtin "str.join") [.str sep t, .ref a]) p Q :=
  R_meets PySem.F.slot_str_join PySem.F.entry_str_join (PySem.F.args_str_join_2 _ _) HasT.str fun s S T => by
    have hla : s.heap.IsList a (strValues l).toArray := by
      rcases hl with hl | hl
      · exact hl.isList S
      · obtain ⟨o, ho, n, rfl⟩ := S.s0.own _ hl
        exact ⟨_, ho, rfl, n, rfl⟩
    refine ⟨_, (meets_str_join_list sep t a l hz).inModel _ _, hla, ?_⟩
    match l, hs, h1, h2 with
    | [], hs, h1, h2 => exact ⟨hs, Post.fresh S T (h2 (fun q e => nomatch e) _ T.le)⟩
    | [q], hs, h1, h2 => exact ⟨p, S, .refl, h1 q rfl⟩
    | q :: q' :: r, hs, h1, h2 => exact ⟨hs, Post.fresh S T (h2 (fun q e => nomatch e) _ T.le)⟩
end

/-! subscripts -/
theorem R_gip {o : Value} {T id : String} {Q : Bool → Pt → Prop} (hT : HasT C L p o T) (hl : typeLookup (.type T) "__getitem__" = Pure.pure (some (.builtin id))) (h : Q false p) : Run C A L (getitemInPython o) p Q := .of fun s S TK => by
  rw [getitemInPython_of_ne (hT s S).1.not_modules]
  exact wpAny_bind (wpAny_specialOf (hT s S).1 hl (wpAny_pure ⟨p, S, .refl, h⟩))
theorem R_subscripted {slice : Expr} {o i : Value} {Q : Value → Pt → Prop} (h : Run C A L (getItem o i) p Q) : Run C A L (subscripted slice false o i) p Q := by
  unfold subscripted
  split
  · exact .operate h
  · rename_i e; cases e
  · exact .operate h
theorem E_Sub {value slice : Expr} {pos : Pos} {T id : String} {Q : Value → Pt → Prop} (hl : typeLookup (.type T) "__getitem__" = Pure.pure (some (.builtin id)))
    (h : Run C A L (eval value env) p fun o p₁ => Run C A L (eval slice env) p₁ fun i p₂ => HasT C L p₂ o T ∧ Run C A L (getItem o i) p₂ fun r p₃ => letTemporaryGo value o r = Pure.pure () ∧ Q r p₃) : Run C A L (eval (.Subscript value slice pos) env) p Q :=
  Run.of_eq (eval_Subscript ..) (.bind (h.mono fun o p₁ h₁ => .bind (.holding (h₁.mono fun i p₂ h₂ => .bind (.standAt (.bind (R_gip h₂.1 hl (.bind (R_subscripted (h₂.2.mono fun r p₃ h₃ => .bind (Run.of_eq h₃.1 (.pure (.pure h₃.2)))))))))))))
theorem HasT.listG {l : Addr} {vs : List Value} (h : ListAt p.G l vs) (hd : ∀ o, p.G l = some o → o.dict = none) : HasT C L p (.ref l) "list" := fun s S => by
  obtain ⟨o, n, e, hc, _⟩ := id h
  exact ⟨⟨o, S.s0.gs _ _ e, hc⟩, fun b q => by cases q; exact ⟨o, S.s0.gs _ _ e, hd o e⟩⟩
/-- its type alone -/
def HasTy (C : Cx) (L : Addr) (p : Pt) (v : Value) (T : String) : Prop := ∀ s : Shared, Sat C.B L p s.heap → s.TypeIs v T
theorem R_gip' {o : Value} {T id : String} {Q : Bool → Pt → Prop} (hT : HasTy C L p o T) (hl : typeLookup (.type T) "__getitem__" = Pure.pure (some (.builtin id))) (h : Q false p) : Run C A L (getitemInPython o) p Q := .of fun s S TK => by
  rw [getitemInPython_of_ne (hT s S).not_modules]
  exact wpAny_bind (wpAny_specialOf (hT s S) hl (wpAny_pure ⟨p, S, .refl, h⟩))
theorem E_SubT {value slice : Expr} {pos : Pos} {T id : String} {Q : Value → Pt → Prop} (hl : typeLookup (.type T) "__getitem__" = Pure.pure (some (.builtin id)))
    (h : Run C A L (eval value env) p fun o p₁ => Run C A L (eval slice env) p₁ fun i p₂ => HasTy C L p₂ o T ∧ Run C A L (getItem o i) p₂ fun r p₃ => letTemporaryGo value o r = Pure.pure () ∧ Q r p₃) : Run C A L (eval (.Subscript value slice pos) env) p Q :=
  Run.of_eq (eval_Subscript ..) (.bind (h.mono fun o p₁ h₁ => .bind (.holding (h₁.mono fun i p₂ h₂ => .bind (.standAt (.bind (R_gip' h₂.1 hl (.bind (R_subscripted (h₂.2.mono fun r p₃ h₃ => .bind (Run.of_eq h₃.1 (.pure (.pure h₃.2)))))))))))))
theorem HasTy.str {x : Str} {t : Tok} : HasTy C L p (.str x t) "str" := fun _ _ => rfl
theorem HasTy.list {l : Addr} {vs : List Value} (h : ListAt p.G l vs ∨ (l, listC vs) ∈ p.N) : HasTy C L p (.ref l) "list" := fun s S => by
  rcases h with h | h
  · obtain ⟨o, n, e, hc, _⟩ := h
    exact ⟨o, S.s0.gs _ _ e, hc⟩
  · obtain ⟨o, ho, n, rfl⟩ := S.s0.own _ h
    exact ⟨_, ho, rfl⟩
theorem HasTy.tup {l : Addr} {vs : List Value} (h : TupAt p.G l vs) : HasTy C L p (.ref l) "tuple" := fun s S => by
  obtain ⟨o, n, e, hc, _⟩ := h
  exact ⟨o, S.s0.gs _ _ e, hc⟩
theorem isList_of {l : Addr} {vs : List Value} {s : Shared} (h : ListAt p.G l vs ∨ (l, listC vs) ∈ p.N) (S : Sat C.B L p s.heap) : s.heap.IsList l vs.toArray := by
  rcases h with h | h
  · exact h.isList S
  · obtain ⟨o, ho, n, rfl⟩ := S.s0.own _ h
    exact ⟨_, ho, rfl, n, rfl⟩

/-- a sign of a text -/
theorem G_str {x : Str} {t u : Tok} {i : Int} {c : Nat} {Q : Value → Pt → Prop} (h0 : 0 ≤ i) (h1 : i < 2 ^ 62) (hc : x.cps[i.toNat]? = some c) (h : ∀ tk, p.k ≤ tk → Q (.str ⟨#[c]⟩ tk) { p with k := tk + 1 }) :
    Run C A L (getItem (.str x t) (.int i u)) p Q := .of fun s S T => by
  refine PySem.P.getItem_str (c := c) (by rw [decide_eq_false (by omega), decide_eq_false (by omega)]; rfl) ?_ (Post.fresh S T (h _ T.le))
  have hlt : i.toNat < x.cps.size := by
    rcases Nat.lt_or_ge i.toNat x.cps.size with h | h
    · exact h
    · rw [Array.getElem?_eq_none h] at hc; cases hc
  have : seqIndex? i x.length = some i.toNat := by
    unfold seqIndex?
    have h2 : ¬ i < 0 := by omega
    have h3 : x.length = x.cps.size := rfl
    simp [h2]
    omega
  rw [this]; exact hc
theorem G_list {l : Addr} {vs : List Value} {i : Int} {u : Tok} {x : Value} {Q : Value → Pt → Prop} (hl : ListAt p.G l vs ∨ (l, listC vs) ∈ p.N) (h0 : 0 ≤ i) (h1 : i < 2 ^ 62) (hx : vs[i.toNat]? = some x) (h : Q x p) :
    Run C A L (getItem (.ref l) (.int i u)) p Q := .of fun s S T => wpAny_getItem_list (isList_of hl S) h0 (by omega) (by simpa using hx) ⟨p, S, .refl, h⟩
theorem G_tup {l : Addr} {vs : List Value} {i : Int} {u : Tok} {x : Value} {Q : Value → Pt → Prop} (hl : TupAt p.G l vs) (h0 : 0 ≤ i) (h1 : i < 2 ^ 62) (hx : vs[i.toNat]? = some x) (h : Q x p) :
    Run C A L (getItem (.ref l) (.int i u)) p Q := .of fun s S T => by
  have hlt : i.toNat < vs.length := by
    rcases Nat.lt_or_ge i.toNat vs.length with h | h
    · exact h
    · rw [List.getElem?_eq_none h] at hx; cases hx
  obtain ⟨o, n, e, hc, hd⟩ := hl
  refine PyProof.Rows.getItem_tuple (j := i.toNat) ⟨o, S.s0.gs _ _ e, hc, n, hd⟩ (by omega) (by omega) ?_ (by simpa using hx) ⟨p, S, .refl, h⟩
  unfold seqIndex?
  have h2 : ¬ i < 0 := by omega
  simp [h2]
  omega

/-- len of a list -/
theorem R_len_list {l : Addr} {vs : List Value} {Q : Value → Pt → Prop} (hl : ListAt p.G l vs ∨ (l, listC vs) ∈ p.N) (hz : vs.length < 2 ^ 62) (h : ∀ tk, Q (.int vs.length tk) p) : Run C A L (PySem.call (.builtin "len") [.ref l]) p Q := .of fun s S T => by
  refine call_len_list (isList_of hl S) (by rw [List.size_toArray]; omega) ?_
  rw [List.size_toArray]
  exact Post.same S (h _)
end
end Mine

open PySem PySem.Calls PyProof.Rows
set_option Elab.async false
set_option linter.unusedVariables false
namespace Mine

section
variable {C : Cx} {A : Around} {L : Addr} {p : Pt} {env : Env}

theorem L_loc {x : Str} {v : Value} {Q : Value → Pt → Prop} (hm : (x, some v) ∈ p.m) (h : Q v p) (hL : env.locals = L := by rfl) (hk : env.scope.kind = .function := by rfl) (hl : env.kindOf x = some .local := by rfl) : Run C A L (loadName env x) p Q := .of fun s S T => by
  subst hL
  exact wpAny_loadName_local hk hl S.ns (look_of_mem hm S.mnd) ⟨p, S, .refl, h⟩
theorem L_cell {x : Str} {c : Addr} {v : Value} {Q : Value → Pt → Prop} (hm : (c, cellC (some v)) ∈ p.N) (hc : env.cells.lookup x = some c) (h : Q v p) (hk : env.scope.kind = .function := by rfl) (hl : env.kindOf x = some .cell := by rfl) :
    Run C A L (loadName env x) p Q := .of fun s S T => by
  obtain ⟨o, ho, hv⟩ := S.s0.own _ hm
  exact wpAny_loadName_cell hk hl hc ⟨o, ho, hv⟩ ⟨p, S, .refl, h⟩
theorem X_AugN {x : Str} {e : Expr} {op : Operator} {pos pos' : Pos} {Q : Flow → Pt → Prop}
    (h : Run C A L (loadName env x) p fun v p₀ => Run C A L (eval e env) p₀ fun u p₁ => Run C A L (inplaceOp op v u) p₁ fun z p₂ => Run C A L (bindName env x z) p₂ fun _ p₃ => Q .next p₃) :
    Run C A L (exec (.AugAssign (.Name x pos') op e pos) env) p Q :=
  Run.of_eq (exec_AugAssign_Name ..) (.bind (.standAt (.bind (h.mono fun v p₀ h₀ => .bind (.holding (h₀.mono fun u p₁ h₁ => .bind (.standAt (.bind (.operate (h₁.mono fun z p₂ h₂ => .bind (.standAt (.bind (h₂.mono fun _ p₃ h₃ => .pure h₃)))))))))))))

/-- an assignment to a pair of names -/
theorem X_AssignT {es : List Expr} {k : Nat} {tp pos : Pos} {e : Expr} {Q : Flow → Pt → Prop} (h : Run C A L (eval e env) p fun v p₁ => AsgRun C A L (.Tuple es k tp) env (fun u _ => u = v) p₁ fun p₂ => Q .next p₂)
    (hs : swapsWithSole [.Tuple es k tp] e pos.line env = Pure.pure false := by rfl) (hw : swappedStores [.Tuple es k tp] e env = Pure.pure none := by rfl) : Run C A L (exec (.Assign [.Tuple es k tp] e pos) env) p Q := .of fun s S T =>
  PyProof.Rows.Assign_Tuple (wpAny_mono (wpAny_toks (h.go s S T)) (fun v s₁ ⟨t₁, p₁, S₁, x₁, q⟩ =>
    wpAny_mono (wpAny_toks (q v s₁ rfl S₁ (T.next x₁ t₁))) (fun _ s₂ ⟨t₂, p₂, S₂, x₂, r⟩ => ⟨p₂, S₂, x₁.trans S S₁ x₂ t₂, r⟩) fun _ _ e => e.2) fun _ _ e => e.2) hs hw

theorem X_AssignSub {o i : Expr} {pos pos' : Pos} {e : Expr} {Q : Flow → Pt → Prop} (h : Run C A L (eval e env) p fun v p₁ => Run C A L (eval o env) p₁ fun ov p₂ => Run C A L (eval i env) p₂ fun iv p₃ => Run C A L (setItem ov iv v) p₃ fun _ p₄ => Q .next p₄)
    (hs : swapsWith e (some (.Subscript o i pos')) pos.line env = Pure.pure false := by rfl) : Run C A L (exec (.Assign [.Subscript o i pos'] e pos) env) p Q :=
  Run.of_eq (exec_Assign_Subscript _ _ _ _ _ hs) (.bind (.standAt (.bind (h.mono fun v p₁ h₁ => .bind (Run.of_eq (arm_assign_Subscript ..) (.bind (.holding (h₁.mono fun ov p₂ h₂ => .bind (.holding (h₂.mono fun iv p₃ h₃ =>
    .bind (.standAt (.bind (.holding (h₃.mono fun _ p₄ h₄ => .release (Run.pure h₄)))))))))))))))

/-! pure defs -/
theorem CallRun.drop {f : Addr} {vs : List Value} {G : Addr → Option Obj} {N : List (Addr × Cell)} {k : Nat} {Q : Value → (Addr → Option Obj) → List (Addr × Cell) → Nat → Prop}
    (h : CallRun C A f vs G N k fun v G' N' k' => ∃ N'', (∀ q ∈ N'', q ∈ N') ∧ (dom N'').Nodup ∧ (∀ b ∈ dom N, b ∈ dom N'' ∨ G' b ≠ none) ∧ Q v G' N'' k') : CallRun C A f vs G N k Q := fun s S T =>
  codeAny_mono (h s S T) fun r s' ⟨v, G', N', k', e, S', x, N'', h1, h2, h3, q⟩ => ⟨v, G', N'', k', e, S'.sub h1 h2, ⟨x.keep, x.grow, fun b hb => x.fresh b (hb.imp id fun hb => by
    obtain ⟨q, hq, rfl⟩ := List.mem_map.mp hb
    exact List.mem_map_of_mem (f := (·.1)) (h1 q hq)), h3, x.gens, x.os, x.km, x.kk⟩, q⟩

/-- a call that wants nothing owned and hands back what is frozen, or no object at all -/
def PureCall (C : Cx) (A : Around) (f : Addr) (vs : List Value) (G : Addr → Option Obj) (k : Nat) (Q : Value → (Addr → Option Obj) → Nat → Prop) : Prop :=
  CallRun C A f vs G [] k fun v G' N' k' => N' = [] ∧ GLe G G' ∧ k ≤ k' ∧ Q v G' k'
theorem PureCall.mono {f : Addr} {vs : List Value} {G : Addr → Option Obj} {k : Nat} {Q Q' : Value → (Addr → Option Obj) → Nat → Prop} (h : PureCall C A f vs G k Q) (hq : ∀ v G' k', GLe G G' → k ≤ k' → Q v G' k' → Q' v G' k') : PureCall C A f vs G k Q' :=
  CallRun.mono h fun v G' N' k' ⟨h1, h2, h3, h4⟩ => ⟨h1, h2, h3, hq v G' k' h2 h3 h4⟩
theorem R_pure {f : Addr} {vs : List Value} {Q : Value → Pt → Prop} (h : PureCall C A f vs p.G p.k fun v G' k' => Q v { p with G := G', k := k' }) : Run C A L (PySem.call (.ref f) vs) p Q :=
  R_call0 (CallRun.mono h fun v G' N' k' ⟨h1, _, _, h4⟩ => by subst h1; exact h4)
theorem PureCall.of {f : Addr} {vs : List Value} {G : Addr → Option Obj} {k : Nat} {Q : Value → (Addr → Option Obj) → Nat → Prop} (h : CallRun C A f vs G [] k fun v G' N' k' => Q v G' k') : PureCall C A f vs G k Q := fun s S T =>
  (CallRun.drop (Q := fun v G' N' k' => N' = [] ∧ Q v G' k') (CallRun.mono h fun v G' N' k' q => ⟨[], (fun _ hq => nomatch hq), List.nodup_nil, (fun _ hb => nomatch hb), rfl, q⟩)) s S T |> fun z =>
    codeAny_mono z fun r s' ⟨v, G', N', k', e, S', x, e', q⟩ => ⟨v, G', N', k', e, S', x, e', x.grow, x.km, q⟩

/-- the call of a def of the text whose body has no cells -/
theorem PureCall.body {gl bl : List (Str × Value)} {f : Addr} {o : Obj} {fd : FuncData} {body : List Stmt} {vs : List Value} {binds : List (Str × Value)} {G : Addr → Option Obj} {m₀ : List (Str × Option Value)} {k : Nat}
    {Q : Value → (Addr → Option Obj) → Nat → Prop} {d : Nat} (K : Base C gl bl) (hr : Room A (d + 1)) (ho : C.B.get? f = some o) (hdata : o.data = .func fd) (hcd : C.B.CodeRec fd.code fd.qualname)
    (hbind : Binds C fd vs binds) (hm : m₀ = (m₀.map (·.1)).map fun x => (x, binds.reverse.lookup x)) (hs : (binds.all fun q => (m₀.map (·.1)).contains q.1) = true) (hnd : (m₀.map (·.1)).Nodup)
    (hbody : fd.body = .stmts body) (hcell : ∀ x ∈ fd.scope.names, x.2 ≠ .cell) (hloc : ∀ x ∈ binds, fd.scope.names.lookup x.1 = some .local)
    (h : ∀ L, Room (A.deeper (callEnv fd L f)) d → Run C (A.deeper (callEnv fd L f)) L (execs body (callEnv fd L f)) ⟨G, m₀, [], k⟩ fun fl p' => Q (retOf fl) p'.G p'.k)
    (hco : fd.scope.isCoroutine = false := by rfl) (hgen : fd.scope.isGenerator = false := by rfl) (hk : fd.scope.kind = .function := by rfl) : PureCall C A f vs G k Q :=
  .of (CallRun.body K hr ho hdata hcd hbind hm hs hnd hbody hcell hloc h hco hgen hk)

/-- the names of a def's locals and cells that start empty; the parameters are locals -/
theorem PureCall.bodyC {gl bl : List (Str × Value)} {f : Addr} {o : Obj} {fd : FuncData} {body : List Stmt} {vs : List Value} {binds : List (Str × Value)} {G : Addr → Option Obj} {m₀ : List (Str × Option Value)} {k : Nat}
    {Q : Value → (Addr → Option Obj) → Nat → Prop} {d : Nat} (K : Base C gl bl) (hr : Room A (d + 1)) (ho : C.B.get? f = some o) (hdata : o.data = .func fd) (hcd : C.B.CodeRec fd.code fd.qualname)
    (hbind : Binds C fd vs binds) (hm : m₀ = (m₀.map (·.1)).map fun x => (x, binds.reverse.lookup x)) (hs : (binds.all fun q => (m₀.map (·.1)).contains q.1) = true) (hnd : (m₀.map (·.1)).Nodup)
    (hbody : fd.body = .stmts body) (hclo : fd.closure = []) (hloc : ∀ x ∈ binds, fd.scope.names.lookup x.1 = some .local) (hcn : ((cellsFrom 0 fd.scope.names []).map (·.1)).Nodup)
    (h : ∀ L, Room (A.deeper (callEnvC fd L f)) d → Run C (A.deeper (callEnvC fd L f)) L (execs body (callEnvC fd L f)) ⟨G, m₀, (cellsFrom (L + 1) fd.scope.names []).map fun q => (q.2, cellC none), k⟩ fun fl p' => Q (retOf fl) p'.G p'.k)
    (hco : fd.scope.isCoroutine = false := by rfl) (hgen : fd.scope.isGenerator = false := by rfl) (hk : fd.scope.kind = .function := by rfl) : PureCall C A f vs G k Q := by
  refine .of fun s S T => ?_
  have hroom : A.depth < recursionLimit := by have := hr.depth; omega
  obtain ⟨cc, oc, xx, yy, e1, e2, e3⟩ := hcd
  have hbL : ∀ (bs : List (Str × Value)) (m : Str → Option Value), (∀ x ∈ bs, fd.scope.names.lookup x.1 = some .local) → bindL (callEnvC fd s.heap.objs.size f).kindOf bs m = fun y => (bs.reverse.lookup y).or (m y) := by
    intro bs
    induction bs with
    | nil => intro m _; funext y; simp [bindL]
    | cons q r ih =>
      intro m hl
      obtain ⟨n, v⟩ := q
      have h1 : (callEnvC fd s.heap.objs.size f).kindOf n = some .local := hl (n, v) List.mem_cons_self
      unfold bindL
      rw [if_pos h1, ih _ fun x hx => hl x (List.mem_cons_of_mem _ hx)]
      funext y
      simp only [List.reverse_cons, List.lookup_append, List.lookup_cons, List.lookup_nil]
      cases r.reverse.lookup y with
      | some w => rfl
      | none =>
        by_cases hy : y = n
        · subst hy; simp
        · have : (y == n) = false := by simpa using hy
          simp [this, hy]
  have hbC : ∀ (bs : List (Str × Value)) (m : Str → Option Value), (∀ x ∈ bs, fd.scope.names.lookup x.1 = some .local) → bindC (callEnvC fd s.heap.objs.size f).kindOf bs m = m := by
    intro bs
    induction bs with
    | nil => intro m _; rfl
    | cons q r ih =>
      intro m hl
      obtain ⟨n, v⟩ := q
      have h1 : (callEnvC fd s.heap.objs.size f).kindOf n = some .local := hl (n, v) List.mem_cons_self
      unfold bindC
      rw [if_pos h1, ih _ fun x hx => hl x (List.mem_cons_of_mem _ hx)]
  refine codeAny_call_function hroom (S.base _ _ ho) hdata hco hgen hbody ⟨cc, oc, xx, yy, e1, S.base _ _ e2, e3⟩ (hbind s S.base _ _ _ _ ?_)
  rw [hclo]
  refine wpAny_mono (wpAny_toks (wpAny_newFunctionEnv_cells (E := fun _ _ => False) (Q := fun env s' => env = callEnvC fd s.heap.objs.size f ∧ InCallC s env.locals (bindL env.kindOf binds fun _ => none) env.cells (bindC env.kindOf binds fun _ => none) s') hk
    (fun x hx => .inl (hloc x hx)) fun env he s' x => ⟨he, x⟩)) (fun env s₁ ⟨ht, he, x⟩ => ?_) fun _ _ e => e.2.elim
  subst he
  refine ⟨(K.lim.keeps S.base).keeps x.toInCall.keep, codeAny_func ?_⟩
  obtain ⟨h₁, tk, rfl, hk₁⟩ := x.toInCall.done
  have hns := x.toInCall.ns
  rw [hbL binds _ hloc] at hns
  have hnone := get_size_none s.heap
  have lowB : ∀ c, s.heap.objs.size ≤ c → s.heap.get? c = none := fun c hc => by
    cases e : s.heap.get? c with
    | none => rfl
    | some o => exact absurd (Heap.lt_size e) (Nat.not_lt.mpr hc)
  have offB : ∀ c, s.heap.get? c = none → C.B.get? c = none := fun c hc => by
    cases e : C.B.get? c with
    | none => rfl
    | some o => rw [S.base _ _ e] at hc; cases hc
  have offG : ∀ c, s.heap.get? c = none → G c = none := fun c hc => by
    cases e : G c with
    | none => rfl
    | some o => rw [S.gs _ _ e] at hc; cases hc
  have S1 := S.keep hk₁
  have memD : ∀ b, b ∈ dom ((cellsFrom (s.heap.objs.size + 1) fd.scope.names []).map fun q => (q.2, cellC none)) → ∃ n, (n, b) ∈ cellsFrom (s.heap.objs.size + 1) fd.scope.names [] := fun b hb => by
    simp only [dom, List.map_map, List.mem_map] at hb
    obtain ⟨q, hq, rfl⟩ := hb
    exact ⟨q.1, hq⟩
  have abv : ∀ b, b ∈ dom ((cellsFrom (s.heap.objs.size + 1) fd.scope.names []).map fun q => (q.2, cellC none)) → s.heap.objs.size < b := fun b hb => by
    obtain ⟨n, hn⟩ := memD b hb
    exact x.above n b hn
  have nn : ∀ b, b ∈ dom ((cellsFrom (s.heap.objs.size + 1) fd.scope.names []).map fun q => (q.2, cellC none)) → s.heap.get? b = none := fun b hb => lowB b (Nat.le_of_lt (abv b hb))
  have hap := x.apart
  have Sat1 : Sat C.B s.heap.objs.size ⟨G, m₀, (cellsFrom (s.heap.objs.size + 1) fd.scope.names []).map fun q => (q.2, cellC none), k⟩ h₁ := by
    refine ⟨⟨S1.base, S1.gs, fun q hq => ?_, fun b hb => offB b (nn b hb), fun b hb => offG b (nn b hb), ?_⟩, ?_, offB _ hnone, offG _ hnone, fun hm => Nat.lt_irrefl _ (abv _ hm), hnd⟩
    · obtain ⟨z, hz, rfl⟩ := List.mem_map.mp hq
      have hl : (cellsFrom (s.heap.objs.size + 1) fd.scope.names []).lookup z.1 = some z.2 := PyProof.Rows.lookup_of_mem_nodup (PyProof.Rows.cellsFrom_names fd.scope.names 0 (s.heap.objs.size + 1) [] [] rfl ▸ hcn) hz
      obtain ⟨o', ho', hd'⟩ := x.cell z.1 z.2 hl
      refine ⟨o', ho', ?_⟩
      rw [hbC binds _ hloc] at hd'
      exact hd'
    · show (dom _).Nodup
      simp only [dom, List.map_map]
      have : (cellsFrom (s.heap.objs.size + 1) fd.scope.names []).Pairwise fun x y => x.2 ≠ y.2 := hap
      exact List.Pairwise.map _ (fun a b h => h) this
    · show h₁.Ns s.heap.objs.size (look m₀)
      rw [look_of_binds hm hs]
      have e : (fun y => (List.lookup y binds.reverse).or ((fun _ => none : Str → Option Value) y)) = fun y => List.lookup y binds.reverse := by funext y; simp
      rw [← e]; exact hns
  refine wpAny_mono ((h s.heap.objs.size (hr.deeper _)).go _ Sat1 ⟨Nat.le_trans T.le ht⟩) (fun fl s' hq => ?_) fun _ _ e => e.elim
  obtain ⟨p', S', x', q⟩ := hq
  refine ⟨_, p'.G, [], p'.k, by cases fl <;> rfl, S'.s0.sub (fun _ hq => nomatch hq) List.nodup_nil, ⟨fun b o e _ _ => x'.keep b o (hk₁ b o e) (Nat.ne_of_lt (Heap.lt_size e)) (fun hb => ?_), x'.grow, fun b hb => ?_, (fun _ hb => nomatch hb), x'.gens, x'.os, x'.km, x'.kk⟩, q⟩
  · rw [nn b hb] at e; cases e
  · rcases hb with hb | hb
    · rcases x'.fresh b (.inl hb) with e | e | e
      · exact .inl e
      · exact .inr (.inr (nn b e))
      · refine .inr (.inr ?_)
        cases e2 : s.heap.get? b with
        | none => rfl
        | some o => rw [hk₁ b o e2] at e; cases e
    · cases hb

def nd : List Str → Bool
  | [] => true
  | x :: r => !(r.contains x) && nd r
theorem nodup_of : ∀ {b : List Str}, nd b = true → b.Nodup
  | [], _ => List.nodup_nil
  | x :: r, h => by
    simp only [nd, Bool.and_eq_true, Bool.not_eq_true'] at h
    refine List.nodup_cons.mpr ⟨fun hm => ?_, nodup_of h.2⟩
    have := List.contains_iff_mem.mpr hm
    rw [h.1] at this; cases this
def okB (m₀ : List (Str × Option Value)) (binds : List (Str × Value)) (names : List (Str × NameKind)) : Bool :=
  (binds.all fun q => (m₀.map (·.1)).contains q.1) && nd (m₀.map (·.1)) && binds.all fun q => names.lookup q.1 == some .local
theorem okB.split {m₀ : List (Str × Option Value)} {binds : List (Str × Value)} {names : List (Str × NameKind)} (h : okB m₀ binds names = true) :
    (binds.all fun q => (m₀.map (·.1)).contains q.1) = true ∧ (m₀.map (·.1)).Nodup ∧ ∀ x ∈ binds, names.lookup x.1 = some .local := by
  simp only [okB, Bool.and_eq_true] at h
  exact ⟨h.1.1, nodup_of h.1.2, fun x hx => eq_of_beq (List.all_eq_true.mp h.2 x hx)⟩
theorem PureCall.go {gl bl : List (Str × Value)} {f : Addr} {o : Obj} {fd : FuncData} {body : List Stmt} {vs : List Value} {binds : List (Str × Value)} {G : Addr → Option Obj} (m₀ : List (Str × Option Value)) {k : Nat}
    {Q : Value → (Addr → Option Obj) → Nat → Prop} {d : Nat} (K : Base C gl bl) (hr : Room A (d + 1)) (ho : C.B.get? f = some o) (hdata : o.data = .func fd) (hcd : C.B.CodeRec fd.code fd.qualname)
    (hbind : Binds C fd vs binds) (h : ∀ L, Room (A.deeper (callEnv fd L f)) d → Run C (A.deeper (callEnv fd L f)) L (execs body (callEnv fd L f)) ⟨G, m₀, [], k⟩ fun fl p' => Q (retOf fl) p'.G p'.k)
    (hm : m₀ = (m₀.map (·.1)).map fun x => (x, binds.reverse.lookup x) := by rfl) (hok : okB m₀ binds fd.scope.names = true := by rfl)
    (hbody : fd.body = .stmts body := by rfl) (hcell : ∀ x ∈ fd.scope.names, x.2 ≠ .cell := by decide)
    (hco : fd.scope.isCoroutine = false := by rfl) (hgen : fd.scope.isGenerator = false := by rfl) (hk : fd.scope.kind = .function := by rfl) : PureCall C A f vs G k Q :=
  .body K hr ho hdata hcd hbind hm (okB.split hok).1 (okB.split hok).2.1 hbody hcell (okB.split hok).2.2 h hco hgen hk
theorem PureCall.goC {gl bl : List (Str × Value)} {f : Addr} {o : Obj} {fd : FuncData} {body : List Stmt} {vs : List Value} {binds : List (Str × Value)} {G : Addr → Option Obj} (m₀ : List (Str × Option Value)) {k : Nat}
    {Q : Value → (Addr → Option Obj) → Nat → Prop} {d : Nat} (K : Base C gl bl) (hr : Room A (d + 1)) (ho : C.B.get? f = some o) (hdata : o.data = .func fd) (hcd : C.B.CodeRec fd.code fd.qualname)
    (hbind : Binds C fd vs binds) (h : ∀ L, Room (A.deeper (callEnvC fd L f)) d → Run C (A.deeper (callEnvC fd L f)) L (execs body (callEnvC fd L f)) ⟨G, m₀, (cellsFrom (L + 1) fd.scope.names []).map fun q => (q.2, cellC none), k⟩ fun fl p' => Q (retOf fl) p'.G p'.k)
    (hm : m₀ = (m₀.map (·.1)).map fun x => (x, binds.reverse.lookup x) := by rfl) (hok : okB m₀ binds fd.scope.names = true := by rfl)
    (hbody : fd.body = .stmts body := by rfl) (hclo : fd.closure = [] := by rfl) (hcn : ((cellsFrom 0 fd.scope.names []).map (·.1)).Nodup := by decide)
    (hco : fd.scope.isCoroutine = false := by rfl) (hgen : fd.scope.isGenerator = false := by rfl) (hk : fd.scope.kind = .function := by rfl) : PureCall C A f vs G k Q :=
  .bodyC K hr ho hdata hcd hbind hm (okB.split hok).1 (okB.split hok).2.1 hbody hclo (okB.split hok).2.2 hcn h hco hgen hk
end
end Mine

open PySem PySem.Calls PyProof.Rows
set_option Elab.async false
set_option linter.unusedVariables false
namespace Mine

/-! a dict of texts, its keys' tokens told -/
abbrev Ent := Str × Tok × Value
def entOf (w : World) (q : Ent) : DictEntry := ⟨hashStr w q.1, .str q.1 q.2.1, q.2.2⟩
def dput : List Ent → Str → Tok → Value → List Ent
  | [], k, t, v => [(k, t, v)]
  | q :: r, k, t, v => if q.1 = k then (k, q.2.1, v) :: r else q :: dput r k t v
def dget : List Ent → Str → Option Value
  | [], _ => none
  | q :: r, k => if q.1 = k then some q.2.2 else dget r k
def kvOf (es : List Ent) : List (Str × Value) := es.map fun q => (q.1, q.2.2)
def dictC (w : World) (es : List Ent) : Cell := fun o => ∃ ep, o.ExactDict ∧ o.data = .dict (es.map (entOf w)).toArray ep ∧ (es.map (·.1)).Nodup

theorem dput_names : ∀ (es : List Ent) (k : Str) (t : Tok) (v : Value), (dput es k t v).map (·.1) = if k ∈ es.map (·.1) then es.map (·.1) else es.map (·.1) ++ [k]
  | [], k, t, v => rfl
  | q :: r, k, t, v => by
    have ih := dput_names r k t v
    unfold dput
    by_cases h : q.1 = k
    · subst h; simp
    · rw [if_neg h]
      simp only [List.map_cons, ih, List.mem_cons]
      have : ¬ k = q.1 := fun e => h e.symm
      by_cases h2 : k ∈ r.map (·.1) <;> simp [this, h2]
theorem dput_nodup {es : List Ent} {k : Str} {t : Tok} {v : Value} (h : (es.map (·.1)).Nodup) : ((dput es k t v).map (·.1)).Nodup := by
  rw [dput_names]
  split
  · exact h
  · rename_i hn
    refine List.nodup_append.mpr ⟨h, by simp, fun a ha b hb e => ?_⟩
    rw [List.mem_singleton.mp hb] at e
    exact hn (e ▸ ha)
theorem dput_length : ∀ (es : List Ent) (k : Str) (t : Tok) (v : Value), (dput es k t v).length ≤ es.length + 1
  | [], k, t, v => Nat.le_refl _
  | q :: r, k, t, v => by
    have ih := dput_length r k t v
    unfold dput
    split <;> simp <;> omega

section
variable {prog : Program} {w : World}
theorem isKey (q : Ent) (k : Str) : (strKind prog w).is k (entOf w q).key = decide (q.1 = k) := by
  show Value.isStrOf k (.str q.1 q.2.1) = _
  show (q.1 == k) = decide (q.1 = k)
  by_cases h : q.1 = k
  · subst h; simp
  · rw [decide_eq_false h]; exact beq_eq_false_iff_ne.mpr h
theorem dput_arr : ∀ (es : List Ent) (k : Str) (t : Tok) (v : Value),
    match (es.map (entOf w)).findIdx? (fun e => (strKind prog w).is k e.key) with
    | some i => (es.map (entOf w)).modify i (fun e => { e with val := v }) = (dput es k t v).map (entOf w)
    | none => es.map (entOf w) ++ [⟨(strKind prog w).hash k, .str k t, v⟩] = (dput es k t v).map (entOf w)
  | [], k, t, v => rfl
  | q :: r, k, t, v => by
    have ih := dput_arr r k t v
    rw [List.map_cons, List.findIdx?_cons, isKey]
    unfold dput
    by_cases h : q.1 = k
    · subst h; simp [entOf]
    · rw [if_neg h]
      simp only [decide_eq_false h, Bool.false_eq_true, if_false]
      cases hf : (r.map (entOf w)).findIdx? (fun e => (strKind prog w).is k e.key) with
      | none => rw [hf] at ih; simpa using ih
      | some i => rw [hf] at ih; simpa using ih
theorem findBy_dget (es : List Ent) (k : Str) : findBy (strKind prog w).is (es.map (entOf w)).toArray k = dget es k := by
  simp only [findBy, List.find?_toArray]
  induction es with
  | nil => rfl
  | cons q r ih =>
    rw [List.map_cons, List.find?_cons, isKey]
    unfold dget
    by_cases h : q.1 = k
    · subst h; simp [entOf]
    · rw [if_neg h, decide_eq_false h]; exact ih
theorem keysOf_ent (es : List Ent) : KeysOf (strKind prog w) (es.map (entOf w)).toArray := fun e he => by
  have he' : e ∈ es.map (entOf w) := by simpa using he
  obtain ⟨q, _, rfl⟩ := List.mem_map.mp he'
  exact ⟨q.1, by rw [isKey]; simp, rfl⟩
theorem pairs_ent : ∀ (es : List Ent), Pairs (strKind prog w) (es.map (entOf w)) (kvOf es)
  | [] => .nil
  | q :: r => .cons (by rw [isKey]; simp) rfl (pairs_ent r)
theorem kvOf_names (es : List Ent) : (kvOf es).map (·.1) = es.map (·.1) := by simp [kvOf]
theorem dictC.isDictOf {es : List Ent} {o : Obj} (h : dictC w es o) : o.IsDictOf (strKind prog w) (kvOf es) :=
  let ⟨ep, h1, h2, h3⟩ := h; ⟨_, ep, h1, h2, keysOf_ent es, by simpa using pairs_ent es, by rw [kvOf_names]; exact h3⟩

variable {A : Around} {E : Value → Shared → Prop} {s : Shared}
theorem wp_put {d : Addr} {o : Obj} {es : List Ent} {k : Str} {t : Tok} {v : Value} {n : Nat} {Q : Option Nat → Shared → Prop} (ho : s.heap.get? d = some o) (hc : dictC w es o) (hq : Q ((es.map (entOf w)).findIdx? (fun e => (strKind prog w).is k e.key)) s) :
    wpAny (model prog w) A (dictFind d (.str k t) (hashStr w k)) Q E s := by
  obtain ⟨ep, hx, hd, hn⟩ := hc
  refine wpAny_dictFind_of (knd := strKind prog w) (strKind_is prog w k t) ho hd (keysOf_ent es) ?_
  rw [List.findIdx?_toArray]; exact hq
theorem wp_dictPut {d : Addr} {o : Obj} {es : List Ent} {k : Str} {t : Tok} {v : Value} {Q : Unit → Shared → Prop} (ho : s.heap.get? d = some o) (hc : dictC w es o) (hz : es.length ≤ sizeLine)
    (hQ : ∀ h' o', h'.get? d = some o' → dictC w (dput es k t v) o' → Heap.SameBut d s.heap h' → Q () { s with heap := h' }) : wpAny (model prog w) A (dictPut d (hashStr w k) (.str k t) v) Q E s := by
  unfold dictPut
  refine wpAny_bind (wp_put (n := 0) ho hc ?_ (v := v))
  obtain ⟨ep, hx, hd, hn⟩ := id hc
  have key := dput_arr (prog := prog) (w := w) es k t v
  cases hi : (es.map (entOf w)).findIdx? (fun e => (strKind prog w).is k e.key) with
  | some i =>
    rw [hi] at key
    dsimp only at key
    refine wpAny_updateDict ho hd (hQ _ _ (Heap.get?_update_self _ ho (Obj.isFreed_of_dict (Obj.data_mapDict hd _))) ⟨ep, hx.mapDict _, ?_, dput_nodup hn⟩ (Heap.SameBut.update ..))
    rw [Obj.data_mapDict hd, ← key]; simp
  | none =>
    rw [hi] at key
    dsimp only at key
    refine wpAny_updateDictKeys (hz := by simpa using hz) ho hd (hQ _ _ (Heap.get?_update_self _ ho (Obj.isFreed_of_dict (Obj.data_mapDictKeys hd _))) ⟨ep + 1, hx.mapDictKeys _, ?_, dput_nodup hn⟩ (Heap.SameBut.update ..))
    rw [Obj.data_mapDictKeys hd, ← key]
    simp; rfl
theorem wp_dictSet {d : Addr} {o : Obj} {es : List Ent} {k : Str} {t : Tok} {v : Value} {Q : Unit → Shared → Prop} (ho : s.heap.get? d = some o) (hc : dictC w es o) (hz : es.length ≤ sizeLine)
    (hQ : ∀ h' o', h'.get? d = some o' → dictC w (dput es k t v) o' → Heap.SameBut d s.heap h' → Q () { s with heap := h', toks := s.toks + 1 }) : wpAny (model prog w) A (dictSet d (.str k t) v) Q E s := by
  unfold dictSet
  refine wpAny_holding (wpAny_bind ((strKind prog w).pyHash (strKind_is prog w k t) ?_))
  unfold dictSetHashed
  refine wpAny_holding (wpAny_bind (wp_put (s := { s with toks := s.toks + 1 }) (n := 0) ho hc ?_ (v := v)))
  obtain ⟨ep, hx, hd, hn⟩ := id hc
  have key := dput_arr (prog := prog) (w := w) es k t v
  cases hi : (es.map (entOf w)).findIdx? (fun e => (strKind prog w).is k e.key) with
  | some i =>
    rw [hi] at key
    dsimp only at key
    refine wpAny_bind (wpAny_rule (wpAny_bind (wpAny_updateDict (s := { s with toks := s.toks + 1 }) ho hd (wpAny_point (hQ _ _ (Heap.get?_update_self _ ho (Obj.isFreed_of_dict (Obj.data_mapDict hd _))) ⟨ep, hx.mapDict _, ?_, dput_nodup hn⟩ (Heap.SameBut.update ..))))))
    rw [Obj.data_mapDict hd, ← key]; simp
  | none =>
    rw [hi] at key
    dsimp only at key
    refine wpAny_bind (wpAny_rule (wpAny_updateDictKeys (s := { s with toks := s.toks + 1 }) (hz := by simpa using hz) ho hd (hQ _ _ (Heap.get?_update_self _ ho (Obj.isFreed_of_dict (Obj.data_mapDictKeys hd _))) ⟨ep + 1, hx.mapDictKeys _, ?_, dput_nodup hn⟩ (Heap.SameBut.update ..))))
    rw [Obj.data_mapDictKeys hd, ← key]
    simp
theorem typeIs_dict {d : Addr} {o : Obj} (ho : s.heap.get? d = some o) (hx : o.ExactDict) : s.TypeIs (.ref d) "dict" := ⟨o, ho, hx.1⟩
theorem wp_setItem {d : Addr} {o : Obj} {es : List Ent} {k : Str} {t : Tok} {v : Value} {Q : Unit → Shared → Prop} (ho : s.heap.get? d = some o) (hc : dictC w es o) (hz : es.length ≤ sizeLine)
    (hQ : ∀ h' o', h'.get? d = some o' → dictC w (dput es k t v) o' → Heap.SameBut d s.heap h' → Q () { s with heap := h', toks := s.toks + 1 }) : wpAny (model prog w) A (setItem (.ref d) (.str k t) v) Q E s := by
  have hT : s.TypeIs (.ref d) "dict" := let ⟨_, hx, _⟩ := hc; typeIs_dict ho hx
  unfold setItem
  refine wpAny_holding (wpAny_bind (wpAny_sequenceKey hT (by decide) ?_))
  refine wpAny_bind (wpAny_callSpecial?_slot (name := Str.ofString "__setitem__") hT slot_dict_setitem
    (wpAny_call_entry slot_dict_setitem hT entry_dict_setitem ?_ (args_dict_setitem _ _ _)))
  show wpAny _ _ (Builtin.Dict.notOrdered "__setitem__" ⟨[.ref d, .str k t, v], []⟩ >>= _) _ _ s
  refine wpAny_bind (wpAny_notOrdered_dict hT ?_)
  show wpAny _ _ (dictSet d (.str k t) v >>= _) _ _ s
  exact wpAny_bind (wp_dictSet ho hc hz fun h' o' ho' hc' hs' => wpAny_pure ⟨.none, rfl, wpAny_pure (hQ h' o' ho' hc' hs')⟩)

def dputs (es more : List Ent) : List Ent := more.foldl (fun acc q => dput acc q.1 q.2.1 q.2.2) es
theorem dputs_length : ∀ (more es : List Ent), (dputs es more).length ≤ es.length + more.length
  | [], es => Nat.le_refl _
  | q :: r, es => by
    have h1 := dputs_length r (dput es q.1 q.2.1 q.2.2)
    have h2 := dput_length es q.1 q.2.1 q.2.2
    show (dputs (dput es q.1 q.2.1 q.2.2) r).length ≤ _
    simp only [List.length_cons]; omega
theorem dputs_nodup : ∀ (more es : List Ent), (es.map (·.1)).Nodup → ((dputs es more).map (·.1)).Nodup
  | [], es, h => h
  | q :: r, es, h => dputs_nodup r _ (dput_nodup h)
theorem dputs_take (es more : List Ent) (i : Nat) (q : Ent) (h : more[i]? = some q) : dputs es (more.take (i + 1)) = dput (dputs es (more.take i)) q.1 q.2.1 q.2.2 := by
  simp [dputs, List.take_add_one, h, List.foldl_append]

theorem wp_merge {d a : Addr} {oa o : Obj} {es ea : List Ent} {Q : Unit → Shared → Prop} (had : a ≠ d) (hsm : (a == sysModules) = false) (ho : s.heap.get? d = some o) (hc : dictC w es o) (hoa : s.heap.get? a = some oa) (hca : dictC w ea oa)
    (hz : es.length + ea.length ≤ sizeLine) (hQ : ∀ h' o', h'.get? d = some o' → dictC w (dputs es ea) o' → Heap.SameBut d s.heap h' → Q () { s with heap := h' }) :
    wpAny (model prog w) A (mergeMapping d (.ref a) false) Q E s := by
  obtain ⟨epa, hxa, hda, hna⟩ := id hca
  obtain ⟨epd, hxd, hdd, hnd⟩ := id hc
  have hT := typeIs_dict (s := s) hoa hxa
  unfold mergeMapping
  refine wpAny_bind (wpAny_isInstance hT isSubtype_dict_dict ?_)
  simp only [if_true]
  refine wpAny_bind (wpAny_specialOf hT F.slot_dict_iter.lookup (wpAny_bind (wpAny_pure ?_)))
  simp only [beq_self_eq_true, hsm, Bool.false_eq_true, if_false]
  refine wpAny_bind (wpAny_dictEntries ho hdd ?_)
  have rest : wpAny (model prog w) A (do
      let __do_lift ← dictEntries a
      let epoch ← dictEpoch a
      forIn (List.range __do_lift.size) PUnit.unit fun i (__s : PUnit) => do
        let __do_lift ← dictEntries a
        match __do_lift[i]? with
        | some e => do
          PySem.holding [e.key, e.val] (dictPut d e.hash e.key e.val)
          let __do_lift ← dictEpoch a
          if (__do_lift != epoch) = true then do
              unsupported "dict.changed-during-merge"
              Pure.pure (ForInStep.yield PUnit.unit)
            else Pure.pure (ForInStep.yield PUnit.unit)
        | x => do
          unsupported "dict.changed-during-merge"
          Pure.pure (ForInStep.yield PUnit.unit)
      Pure.pure ()) Q E s := by
    refine wpAny_bind (wpAny_dictEntries hoa hda (wpAny_bind (wpAny_dictEpoch hoa hda (wpAny_bind ?_))))
    refine wpAny_forIn_list _ (fun rest _ s' => ∃ i h' o', s' = { s with heap := h' } ∧ i ≤ ea.length ∧ rest = List.range' i (ea.length - i) ∧ h'.get? d = some o' ∧ dictC w (dputs es (ea.take i)) o' ∧ Heap.SameBut d s.heap h') _ ?_ ?_ _ _
      ⟨0, s.heap, o, rfl, Nat.zero_le _, by rw [List.range_eq_range']; simp, ho, hc, Heap.SameBut.refl _ _⟩
    · rintro x rest _ s' ⟨i, h', o', rfl, hi, hr, ho', hc', hs'⟩
      have hlt : i < ea.length := by
        rcases Nat.lt_or_ge i ea.length with h | h
        · exact h
        · rw [show ea.length - i = 0 from by omega] at hr; cases hr
      rw [show ea.length - i = (ea.length - (i + 1)) + 1 from by omega, List.range'_succ] at hr
      injection hr with hx hr
      subst hx
      have hoa' : h'.get? a = some oa := hs'.extBut a oa had hoa
      refine wpAny_bind (wpAny_dictEntries (s := { s with heap := h' }) hoa' hda ?_)
      have e1 : (ea.map (entOf w)).toArray[x]? = some (entOf w ea[x]) := by simp [hlt]
      rw [e1]
      dsimp only
      have tl : (dputs es (ea.take x)).length ≤ sizeLine := by
        have h1 := dputs_length (ea.take x) es
        have h2 : (ea.take x).length ≤ ea.length := by rw [List.length_take]; omega
        omega
      refine wpAny_bind (wpAny_holding (wp_dictPut (s := { s with heap := h' }) ho' hc' tl fun h'' o'' ho'' hc'' hs'' => ?_))
      have hoa'' : h''.get? a = some oa := hs''.extBut a oa had hoa'
      refine wpAny_bind (wpAny_dictEpoch (s := { s with heap := h'' }) hoa'' hda ?_)
      rw [if_neg (by simp)]
      refine wpAny_pure ⟨x + 1, h'', o'', rfl, hlt, hr, ho'', ?_, hs'.trans hs''⟩
      rw [dputs_take es ea x ea[x] (by simp [hlt])]
      exact hc''
    · rintro _ s' ⟨i, h', o', rfl, hi, hr, ho', hc', hs'⟩
      have hin : i = ea.length := by
        rcases Nat.lt_or_ge i ea.length with h | h
        · rw [show ea.length - i = (ea.length - (i + 1)) + 1 from by omega, List.range'_succ] at hr; cases hr
        · omega
      subst hin
      rw [List.take_length] at hc'
      exact wpAny_pure (hQ h' o' ho' hc' hs')
  split
  · refine wpAny_bind (wpAny_dictEntries hoa hda (wpAny_bind ?_))
    rw [List.forIn_toArray]
    refine wpAny_forIn_list _ (fun l _ s' => s' = s ∧ ∀ e ∈ l, ∃ q : Ent, e = entOf w q) _ ?_ ?_ _ _ ⟨rfl, fun e he => ?_⟩
    · rintro e l _ s' ⟨rfl, hl⟩
      obtain ⟨q, rfl⟩ := hl e List.mem_cons_self
      exact wpAny_pure ⟨rfl, fun e he => hl e (List.mem_cons_of_mem _ he)⟩
    · rintro _ s' ⟨rfl, _⟩
      exact rest
    · have he' : e ∈ ea.map (entOf w) := by simpa using he
      obtain ⟨q, _, rfl⟩ := List.mem_map.mp he'
      exact ⟨q, rfl⟩
  · exact rest
end
end Mine

open PySem PySem.Calls PyProof.Rows
set_option Elab.async false
set_option linter.unusedVariables false
namespace Mine

section
variable {prog : Program} {w : World} {A : Around} {E : Value → Shared → Prop} {s : Shared}
theorem dictC.at {h : Heap} {d : Addr} {o : Obj} {es : List Ent} (ho : h.get? d = some o) (hc : dictC w es o) : ∃ ep, h.DictAt (PySem.strKind prog w) d (kvOf es) ep ∧ o.ExactDict ∧ o.data = .dict (es.map (entOf w)).toArray ep := by
  obtain ⟨ep, h1, h2, h3⟩ := hc
  exact ⟨ep, ⟨o, _, ho, h1, h2, keysOf_ent es, by simpa using pairs_ent es, by rw [kvOf_names]; exact h3⟩, h1, h2⟩

/-- the next pair of a dict's items, its key to the token -/
theorem wp_items_next {it d : Addr} {od : Obj} {i ep : Nat} {es : List Ent} {q : Ent} {ok ov : Value} {Q : Option Value → Shared → Prop} (hit : IsItemIter s.heap it d i es.length ep ok ov) (hod : s.heap.get? d = some od)
    (hdd : od.data = .dict (es.map (entOf w)).toArray ep) (hx : es[i]? = some q)
    (hQ : ∀ h', IsItemIterOut h' it d (i + 1) es.length ep (.str q.1 q.2.1) q.2.2 s.heap.objs.size → h'.get? s.heap.objs.size = some { cls := .type "tuple", data := .seq #[.str q.1 q.2.1, q.2.2] } →
      (∀ b o, b ≠ it → s.heap.get? b = some o → h'.get? b = some o) → Q (some (.ref s.heap.objs.size)) { s with heap := h' }) : wpAny (model prog w) A (pyNext (.ref it)) Q E s := by
  have hT : s.TypeIs (.ref it) "dict_itemiterator" := ⟨_, hit, rfl⟩
  have hlt : i < es.length := (List.getElem?_eq_some_iff.mp hx).1
  have hown : Builtin.Dict_items.ownsTuple "dict_itemiterator" = true := by decide
  have e1 : (es.map (entOf w)).toArray[i]? = some (entOf w q) := by simp [hx]
  unfold pyNext
  refine wpAny_bind (wpAny_attempt (wpAny_callSpecial?_slot (name := Str.ofString "__next__") hT F.slot_dict_itemiterator_next
    (wpAny_call_entry F.slot_dict_itemiterator_next hT F.entry_dict_itemiterator_next ?_ (F.args_dict_itemiterator_next_1 _))))
  refine wpAny_bind (wpAny_pure (wpAny_bind (wpAny_bind (wpAny_bind ?_))))
  refine wpAny_typeNameOfWhole_itemiter hT (wpAny_pure ?_)
  refine wpAny_bind (wpAny_fieldsOf hit rfl ?_)
  simp only [hown, if_true]
  show wpAny _ _ (if (Value.ref d == Value.none) = true then _ else _) _ _ _
  rw [if_neg (show ¬ ((Value.ref d == Value.none) = true) from Bool.false_ne_true)]
  refine wpAny_bind (wpAny_pure (wpAny_bind (wpAny_dictEntries hod hdd ?_)))
  rw [if_neg (by simp)]
  refine wpAny_bind (wpAny_pure (wpAny_bind (wpAny_dictEpoch hod hdd ?_)))
  rw [if_neg (by simp)]
  refine wpAny_pure ?_
  simp only [show ¬ ((i : Int) < 0) from by omega, if_false, Int.toNat_natCast, e1]
  refine wpAny_bind (wpAny_bind (wpAny_typeNameOfWhole_itemiter hT (wpAny_pure ?_)))
  refine wpAny_bind (wpAny_isOneOf_itemiter hT ?_)
  show wpAny _ _ (setField (.ref it) 3 (rawInt ((i : Int) + 1)) >>= _) _ _ s
  refine wpAny_bind (wpAny_setField_rec hit (by simp) fun h₁ he₁ hs₁ => ?_)
  replace he₁ : IsItemIter h₁ it d (i + 1) es.length ep ok ov := by
    have e : ((i + 1 : Nat) : Int) = (i : Int) + 1 := by omega
    unfold IsItemIter; rw [e]; simpa [rawInt] using he₁
  have hT₁ : Shared.TypeIs { s with heap := h₁ } (.ref it) "dict_itemiterator" := ⟨_, he₁, rfl⟩
  refine wpAny_bind (wpAny_holding (wpAny_bind (wpAny_isOneOf_itemiter hT₁ (wpAny_bind (wpAny_isOneOf_itemiter hT₁ ?_)))))
  show wpAny _ _ (Builtin.Dict_items.pairFromOwner (.ref it) 6 (.str q.1 q.2.1) q.2.2) _ _ _
  unfold Builtin.Dict_items.pairFromOwner
  have hz₁ : h₁.objs.size = s.heap.objs.size := hs₁.1
  have hil : it < s.heap.objs.size := Heap.lt_size hit
  refine wpAny_bind (wpAny_newTuple ?_)
  have he₂ : IsItemIter (h₁.push { cls := .type "tuple", data := .seq #[.str q.1 q.2.1, q.2.2] }) it d (i + 1) es.length ep ok ov := Heap.get?_push_of_some _ he₁
  have ht₂ : (h₁.push { cls := .type "tuple", data := .seq #[.str q.1 q.2.1, q.2.2] }).get? s.heap.objs.size = some { cls := .type "tuple", data := .seq #[.str q.1 q.2.1, q.2.2] } := by rw [← hz₁]; exact Heap.get?_push_size _ rfl
  have hk₂ : ∀ b o, b ≠ it → s.heap.get? b = some o → (h₁.push { cls := .type "tuple", data := .seq #[.str q.1 q.2.1, q.2.2] }).get? b = some o := fun b o hb e => Heap.get?_push_of_some _ (hs₁.extBut b o hb e)
  generalize h₁.push { cls := .type "tuple", data := .seq #[.str q.1 q.2.1, q.2.2] } = h₂ at he₂ ht₂ hk₂ ⊢
  show wpAny _ _ (Builtin.Dict_items.ownedTupleIsFree (.ref it) >>= _) _ _ _
  rw [show ({ s with heap := h₁ } : Shared).heap.objs.size = s.heap.objs.size from hz₁]
  unfold Builtin.Dict_items.ownedTupleIsFree
  refine wpAny_bind (wpAny_bind (wpAny_field he₂ rfl (x := .none) rfl (wpAny_pure ?_)))
  simp only [if_true]
  refine wpAny_bind (wpAny_field he₂ rfl (x := ok) rfl (wpAny_bind (wpAny_field he₂ rfl (x := ov) rfl ?_)))
  refine wpAny_bind (wpAny_setField_rec he₂ (by simp) fun h₃ he₃ hs₃ => ?_)
  refine wpAny_bind (wpAny_setField_rec he₃ (by simp) fun h₄ he₄ hs₄ => ?_)
  refine wpAny_bind (wpAny_setField_rec he₄ (by simp) fun h₅ he₅ hs₅ => ?_)
  refine wpAny_bind (wpAny_setField_rec he₅ (by simp) fun h₆ he₆ hs₆ => ?_)
  have up : ∀ b o, b ≠ it → h₂.get? b = some o → h₆.get? b = some o := fun b o hb e => hs₆.extBut b o hb (hs₅.extBut b o hb (hs₄.extBut b o hb (hs₃.extBut b o hb e)))
  exact wpAny_bind (wpAny_letGo (wpAny_pure (wpAny_pure ⟨_, rfl, wpAny_pure (hQ h₆ he₆ (up _ _ (Nat.ne_of_gt hil) ht₂) fun b o hb e => up b o hb (hk₂ b o hb e))⟩)))
end

/-- a frozen dict -/
def DictG (w : World) (G : Addr → Option Obj) (d : Addr) (es : List Ent) : Prop := (d == sysModules) = false ∧ ∃ o, G d = some o ∧ dictC w es o
theorem DictG.mono {w : World} {G G' : Addr → Option Obj} {d : Addr} {es : List Ent} (h : DictG w G d es) (x : GLe G G') : DictG w G' d es := let ⟨h1, o, e, c⟩ := h; ⟨h1, o, x _ _ e, c⟩

section
variable {C : Cx} {A : Around} {L : Addr} {p : Pt} {env : Env}
theorem DictG.map {d : Addr} {es : List Ent} {h : Heap} (x : DictG C.w p.G d es) (S : Sat C.B L p h) : h.MapOf (PySem.strKind C.prog C.w) d (dget es) := by
  obtain ⟨_, o, e, ep, hx, hd, hn⟩ := x
  exact ⟨o, _, ep, S.s0.gs _ _ e, hx, hd, keysOf_ent es, findBy_dget es⟩
theorem DictG.dictAt {d : Addr} {es : List Ent} {h : Heap} (x : DictG C.w p.G d es) (S : Sat C.B L p h) : ∃ o ep, h.get? d = some o ∧ o.data = .dict (es.map (entOf C.w)).toArray ep ∧ h.DictAt (PySem.strKind C.prog C.w) d (kvOf es) ep := by
  obtain ⟨_, o, e, hc⟩ := x
  obtain ⟨ep, h1, h2, h3⟩ := dictC.at (prog := C.prog) (S.s0.gs _ _ e) hc
  exact ⟨o, ep, S.s0.gs _ _ e, h3, h1⟩
theorem C_inD {d : Addr} {es : List Ent} {k : Str} {t : Tok} {Q : Value → Pt → Prop} (x : DictG C.w p.G d es) (h : Q (.bool (dget es k).isSome) p) : Run C A L (compareOp .In (.str k t) (.ref d)) p Q := .of fun s S T =>
  wpAny_in_of (PySem.strKind_is _ _ k t) x.1 (x.map S) (Post.same S h)
theorem C_notInD {d : Addr} {es : List Ent} {k : Str} {t : Tok} {Q : Value → Pt → Prop} (x : DictG C.w p.G d es) (h : Q (.bool (!(dget es k).isSome)) p) : Run C A L (compareOp .NotIn (.str k t) (.ref d)) p Q := .of fun s S T =>
  wpAny_notIn_of (PySem.strKind_is _ _ k t) x.1 (x.map S) (Post.same S h)
theorem G_dict {d : Addr} {es : List Ent} {k : Str} {t : Tok} {v : Value} {Q : Value → Pt → Prop} (x : DictG C.w p.G d es) (hv : dget es k = some v) (h : Q v p) : Run C A L (getItem (.ref d) (.str k t)) p Q := .of fun s S T =>
  wpAny_getItem_of (PySem.strKind_is _ _ k t) (x.map S) hv (Post.same S h)
theorem truthy_dict {d : Addr} {es : List Ent} {Q : Bool → Pt → Prop} (x : DictG C.w p.G d es) (hz : es.length ≤ sizeLine) (h : Q (!es.isEmpty) p) : Run C A L (truthy (.ref d)) p Q := .of fun s S T => by
  obtain ⟨o, ep, e1, e2, e3⟩ := x.dictAt S
  have hl : (kvOf es).length = es.length := by simp [kvOf]
  refine wpAny_truthy_dict x.1 e3.dictOf (by rw [hl]; rw [sizeLine_eq] at hz; omega) ?_
  have : (kvOf es).isEmpty = es.isEmpty := by simp [kvOf]
  rw [this]
  exact Post.same S h
theorem HasT.dict {d : Addr} {es : List Ent} (x : DictG C.w p.G d es) : HasT C L p (.ref d) "dict" := fun s S => by
  obtain ⟨_, o, e, ep, hx, hd, hn⟩ := x
  exact ⟨⟨o, S.s0.gs _ _ e, hx.1⟩, fun b q => by cases q; exact ⟨o, S.s0.gs _ _ e, hx.2.1⟩⟩
theorem HasTy.dict {d : Addr} {es : List Ent} (x : DictG C.w p.G d es) : HasTy C L p (.ref d) "dict" := fun s S => (HasT.dict x s S).1

/-- a view of a dict's items -/
def ViewG (G : Addr → Option Obj) (v d : Addr) : Prop := ∃ o, G v = some o ∧ o.cls = .type "dict_items" ∧ o.data = .fields #[.ref d]
theorem ViewG.mono {G G' : Addr → Option Obj} {v d : Addr} (h : ViewG G v d) (x : GLe G G') : ViewG G' v d := let ⟨o, e, c⟩ := h; ⟨o, x _ _ e, c⟩
theorem R_items {d : Addr} {es : List Ent} {Q : Value → Pt → Prop} (x : DictG C.w p.G d es) (h : ∀ v G', GLe p.G G' → ViewG G' v d → Q (.ref v) { p with G := G' }) : Run C A L (PySem.call (.builtin "dict.items") [.ref d]) p Q :=
  R_meets F.slot_dict_items F.entry_dict_items (F.args_dict_items_1 _) (HasT.dict x) fun s S T => by
    obtain ⟨o, ep, e1, e2, e3⟩ := x.dictAt S
    have nn := S.none_at (get_size_none s.heap)
    refine ⟨_, meets_dict_items (PySem.strKind C.prog C.w) d x.1, ⟨_, e3.dictOf⟩, ?_⟩
    exact ⟨_, S.pushG rfl, Ext.pushG S, h _ _ (GLe.add nn.2.1) ⟨_, addG_self, rfl, rfl⟩⟩

/-- a pair that a dict's items hand out -/
def PairAt (es : List Ent) (i : Nat) (v : Value) (h : Heap) : Prop := ∃ T q, v = .ref T ∧ es[i]? = some q ∧ h.IsTuple T #[.str q.1 q.2.1, q.2.2]
theorem items_turns {elts : List Expr} {kk : Nat} {pos : Pos} (hh : A.handled = none) (I d : Addr) (hne : d ≠ I) (es : List Ent) (ep : Nat) (od : Obj) (hdd : od.data = .dict (es.map (entOf C.w)).toArray ep) :
    PySem.W.KTurns C.prog C.w A (.Tuple elts kk pos) I [I, d] [I] es.length (PairAt es)
      (fun i v h => ∃ T q ok ov, v = .ref T ∧ es[i]? = some q ∧ h.IsTuple T #[.str q.1 q.2.1, q.2.2] ∧ IsItemIterOut h I d (i + 1) es.length ep ok ov T ∧ h.get? d = some od ∧ h.DictAt (PySem.strKind C.prog C.w) d (kvOf es) ep ∧ T ≠ I)
      (fun i h => (∃ ok ov, IsItemIter h I d i es.length ep ok ov) ∧ h.get? d = some od ∧ h.DictAt (PySem.strKind C.prog C.w) d (kvOf es) ep) where
  sub := fun b hb => by simp at hb; simp [hb]
  frame := fun i h h' st hk => by
    obtain ⟨⟨ok, ov, he⟩, hd, hm⟩ := st
    exact ⟨⟨ok, ov, hk I (by simp) _ he⟩, hk d (by simp) _ hd, hm.at' fun o e => hk d (by simp) o e⟩
  item := fun i s Q E hi st hQ => by
    obtain ⟨⟨ok, ov, he⟩, hd, hm⟩ := st
    refine wp_items_next (q := es[i]) he hd hdd (by simp [hi]) fun h' ho hT hk => ?_
    exact hQ (.ref s.heap.objs.size) h' s.toks ⟨s.heap.objs.size, es[i], _, _, rfl, by simp [hi], ⟨_, hT, rfl, _, rfl⟩, ho, hk d od hne hd, hm.at' (fun o e => hk d o hne e), Nat.ne_of_gt (Heap.lt_size he)⟩ fun b o hb e => hk b o (fun h => hb (by simp [h])) e
  go := fun i v s Q E hm hQ => by
    obtain ⟨T, q, ok, ov, rfl, hx, hT, ho, hd, hda, hTI⟩ := hm
    refine wpAny_letOwnedTupleGo_items ho fun h' he hs => ?_
    exact hQ h' ⟨T, q, rfl, hx, hT.at fun o e => hs.extBut T o hTI e⟩ ⟨⟨ok, ov, he⟩, hs.extBut d _ hne hd, hda.extBut hs.extBut hne⟩ fun b o hb e => hs.extBut b o (fun h => hb (by simp [h])) e
  done := fun s Q E st hQ => by
    obtain ⟨⟨ok, ov, he⟩, hd, hm⟩ := st
    have he' : IsItemIter s.heap I d es.length (kvOf es).length ep ok ov := by rw [show (kvOf es).length = es.length by simp [kvOf]]; exact he
    exact wpAny_pyNext_items_end hh he' hm (by simp [kvOf]) fun h' hx => hQ h' s.toks fun b o hb e => hx b o (fun h => hb (by simp [h])) e
theorem IterOn.items {elts : List Expr} {kk : Nat} {pos : Pos} {v d : Addr} {es : List Ent} (hh : A.handled = none) (hv : ViewG p.G v d) (x : DictG C.w p.G d es) : IterOn C A L p (.Tuple elts kk pos) (.ref v) es.length (PairAt es) := fun s S T => by
  obtain ⟨od, ep, e1, e2, e3⟩ := x.dictAt S
  obtain ⟨ov, g1, g2, g3⟩ := hv
  have hlt := Heap.lt_size e1
  have hne : d ≠ s.heap.objs.size := Nat.ne_of_lt hlt
  refine wpAny_pyIter_items ⟨ov, S.s0.gs _ _ g1, g2, g3⟩ e3 ?_
  have hl : (kvOf es).length = es.length := by simp [kvOf]
  rw [hl]
  refine ⟨_, _, _, _, _, _, _, rfl, rfl, items_turns hh s.heap.objs.size d hne es ep od e2, ⟨⟨.none, .none, Heap.get?_push_size _ rfl⟩, Heap.get?_push_of_some _ e1, e3.push _⟩,
    fun b o e => Heap.get?_push_of_some _ e, fun b hb => by rw [List.mem_singleton.mp hb]; exact get_size_none _, fun b hb => ?_, fun i h st b hb => ?_, fun i s Q E st hQ => ?_⟩
  · rcases List.mem_cons.mp hb with q | q
    · exact .inl (List.mem_singleton.mpr q)
    · obtain ⟨_, o, e, _⟩ := x
      exact .inr ⟨o, by rw [List.mem_singleton.mp q]; exact e⟩
  · obtain ⟨⟨ok, ov, he⟩, _⟩ := st
    rw [List.mem_singleton.mp hb, he]; exact fun h => nomatch h
  · obtain ⟨⟨ok, ov, he⟩, _⟩ := st
    exact PySem.W.kcp_self he hQ

/-- a dict's keys -/
theorem IterOn.keys {y : Str} {py : Pos} {d : Addr} {es : List Ent} (hh : A.handled = none) (x : DictG C.w p.G d es) : IterOn C A L p (.Name y py) (.ref d) es.length fun i v _ => ∃ q t, es[i]? = some q ∧ v = .str q.1 t := fun s S T => by
  obtain ⟨od, ep, e1, e2, e3⟩ := x.dictAt S
  have hne : d ≠ s.heap.objs.size := Nat.ne_of_lt (Heap.lt_size e1)
  have hl : (kvOf es).length = es.length := by simp [kvOf]
  refine wpAny_pyIter_dict x.1 e3 ?_
  have W := Walks.dictKeys (knd := PySem.strKind C.prog C.w) hh s.heap.objs.size d hne (kvOf es) ep
  have W' := PySem.W.KTurns.ofWalks (target := .Name y py) W fun i v s Q E st hQ => wpAny_pure hQ
  rw [hl] at W' ⊢
  refine ⟨_, _, _, _, _, _, _, rfl, rfl, { W' with item := fun i s Q E hi st hQ => W'.item i s Q E hi st hQ, go := fun i v s Q E hm hQ => W'.go i v s Q E hm fun h' hP st hk => hQ h' ?_ st hk }, ⟨⟨_, Heap.get?_push_size _ rfl, rfl, rfl⟩, e3.push _⟩,
    fun b o e => Heap.get?_push_of_some _ e, fun b hb => by rw [List.mem_singleton.mp hb]; exact get_size_none _, fun b hb => ?_, fun i h st b hb => ?_, fun i s Q E st hQ => W.self i s Q E (by rw [hl]; exact st) hQ⟩
  · obtain ⟨k, xv, h1, h2⟩ := hP
    simp only [kvOf, List.getElem?_map, Option.map_eq_some_iff] at h1
    obtain ⟨q, h3, h4⟩ := h1
    obtain ⟨t, rfl⟩ := Value.isStrOf_shape h2
    cases h4
    exact ⟨q, t, h3, rfl⟩
  · rcases List.mem_cons.mp hb with q | q
    · exact .inl (List.mem_singleton.mpr q)
    · obtain ⟨_, o, e, _⟩ := x
      exact .inr ⟨o, by rw [List.mem_singleton.mp q]; exact e⟩
  · rw [List.mem_singleton.mp hb]
    obtain ⟨_, ho, _⟩ := st.1
    rw [ho]; exact fun h => nomatch h

/-- range of one number -/
def RangeG (G : Addr → Option Obj) (r : Addr) (n : Nat) : Prop := ∃ t u v, G r = some { cls := .type "range", dict := none, data := .fields #[.int 0 t, .int n u, .int 1 v], slots := #[] }
theorem R_range {n : Nat} {t : Tok} {Q : Value → Pt → Prop} (h : ∀ r G', GLe p.G G' → RangeG G' r n → Q (.ref r) { p with G := G' }) : Run C A L (PySem.call (.type "range") [.int n t]) p Q := .of fun s S T => by
  have nn := S.none_at (get_size_none s.heap)
  refine call_range_1 ?_
  exact ⟨_, S.pushG rfl, Ext.pushG S, h _ _ (GLe.add nn.2.1) ⟨_, _, _, addG_self⟩⟩
theorem IterOn.range {y : Str} {py : Pos} {r : Addr} {n : Nat} (hh : A.handled = none) (x : RangeG p.G r n) (hn : n < 2 ^ 60) : IterOn C A L p (.Name y py) (.ref r) n fun i v _ => ∃ t, v = .int i t := fun s S T => by
  obtain ⟨t, u, v, e⟩ := x
  have e' := S.s0.gs _ _ e
  have hsz : Builtin.Range.rangeSize 0 n 1 = (n : Int) := by unfold Builtin.Range.rangeSize; split <;> simp <;> omega
  refine wpAny_pyIter_range e' (small_one (by omega) (by omega) (by omega) (by omega)) ?_
  have W := Walks.range (prog := C.prog) (w := C.w) hh s.heap.objs.size 0 1 n
  have W' := PySem.W.KTurns.ofWalks (target := .Name y py) W fun i v s Q E st hQ => wpAny_pure hQ
  refine ⟨_, _, _, _, _, _, _, rfl, rfl, { W' with item := fun i s Q E hi st hQ => W'.item i s Q E hi st hQ, go := fun i v s Q E hm hQ => W'.go i v s Q E hm fun h' hP st hk => hQ h' (by simpa using hP) st hk }, ?_,
    fun b o e => Heap.get?_push_of_some _ e, fun b hb => by rw [List.mem_singleton.mp hb]; exact get_size_none _, fun b hb => .inl hb, fun i h st b hb => ?_, fun i s Q E st hQ => W.self i s Q E st hQ⟩
  · show IsRangeIter _ _ _ _ _
    rw [hsz]; simpa using Heap.get?_push_size _ rfl
  · rw [List.mem_singleton.mp hb, st]; exact fun h => nomatch h
end
end Mine

open PySem PySem.Calls PyProof.Rows
set_option Elab.async false
set_option linter.unusedVariables false
namespace Mine

/-- a frozen list, its object to the letter -/
def ListG (G : Addr → Option Obj) (l : Addr) (vs : List Value) : Prop := ∃ o, G l = some o ∧ listC vs o
theorem ListG.mono {G G' : Addr → Option Obj} {l : Addr} {vs : List Value} (h : ListG G l vs) (x : GLe G G') : ListG G' l vs := let ⟨o, e, c⟩ := h; ⟨o, x _ _ e, c⟩
theorem ListG.at {G : Addr → Option Obj} {l : Addr} {vs : List Value} (h : ListG G l vs) : ListAt G l vs := let ⟨o, e, n, c⟩ := h; ⟨o, n, e, by rw [c], by rw [c]⟩
theorem ListG.new {G : Addr → Option Obj} {a : Addr} {vs : List Value} {o : Obj} (h : listC vs o) : ListG (addG G a o) a vs := ⟨o, addG_self, h⟩

theorem listC_map {f : Array Value → Array Value} {vs ys : List Value} {n : Nat} (h : f vs.toArray = ys.toArray) : listC ys (Obj.mapSeq f { cls := .type "list", data := .seq vs.toArray n }) := Exists.intro _ (by rw [← h]; rfl)
section
variable {C : Cx} {A : Around} {L : Addr} {p : Pt} {env : Env}
theorem ListG.isL {B : Heap} {h : Heap} {l : Addr} {vs : List Value} (x : ListG p.G l vs) (S : Sat B L p h) : ∃ n, IsL h l vs.toArray n := by
  obtain ⟨o, e, n, rfl⟩ := x
  exact ⟨n, S.s0.gs _ _ e⟩
theorem own_isL {B : Heap} {h : Heap} {l : Addr} {vs : List Value} (x : (l, listC vs) ∈ p.N) (S : Sat B L p h) : ∃ n, IsL h l vs.toArray n := by
  obtain ⟨o, e, n, rfl⟩ := S.s0.own _ x
  exact ⟨n, e⟩
theorem HasT.list {l : Addr} {vs : List Value} (x : ListG p.G l vs ∨ (l, listC vs) ∈ p.N) : HasT C L p (.ref l) "list" := fun s S => by
  rcases x with x | x
  · obtain ⟨n, e⟩ := x.isL S
    exact ⟨⟨_, e, rfl⟩, fun b q => by cases q; exact ⟨_, e, rfl⟩⟩
  · obtain ⟨n, e⟩ := own_isL x S
    exact ⟨⟨_, e, rfl⟩, fun b q => by cases q; exact ⟨_, e, rfl⟩⟩
theorem HasTy.listG {l : Addr} {vs : List Value} (x : ListG p.G l vs) : HasTy C L p (.ref l) "list" := fun s S => (HasT.list (.inl x) s S).1

theorem E_Sb {value slice : Expr} {pos : Pos} {T id : String} {Q : Value → Pt → Prop} (hl : typeLookup (.type T) "__getitem__" = Pure.pure (some (.builtin id)))
    (h : Run C A L (eval value env) p fun o p₁ => Run C A L (eval slice env) p₁ fun i p₂ => HasTy C L p₂ o T ∧ Run C A L (getItem o i) p₂ Q) : Run C A L (eval (.Subscript value slice pos) env) p Q :=
  Run.of_eq (eval_Subscript ..) (.bind (h.mono fun o p₁ h₁ => .bind (.holding (h₁.mono fun i p₂ h₂ => .bind (.standAt (.bind (R_gip' h₂.1 hl (.bind (R_subscripted (h₂.2.mono fun r p₃ h₃ =>
    .bind (.of fun s S T => wpAny_letTemporaryGo ⟨p₃, S, .refl, Run.pure h₃⟩))))))))))) 

theorem R_append {l : Addr} {vs : List Value} {x : Value} {N' : List (Addr × Cell)} {Q : Value → Pt → Prop} (P : PutN p.N l (listC vs) (listC (vs ++ [x])) N') (hz : vs.length ≤ sizeLine) (h : Q .none { p with N := N' }) :
    Run C A L (PySem.call (.builtin "list.append") [.ref l, x]) p Q := .of fun s S T => by
  obtain ⟨n, e⟩ := own_isL P.mem S
  refine wpAny_list_append_plain ⟨n, e⟩ (fun h' hp hs => ?_) (by simpa using hz)
  obtain ⟨n', e'⟩ := hp
  exact ⟨_, S.putN P hs.extBut e' ⟨n', by simp⟩, Ext.putN P hs.extBut, h⟩
theorem R_pop {l : Addr} {vs : List Value} {x : Value} {N' : List (Addr × Cell)} {Q : Value → Pt → Prop} (P : PutN p.N l (listC (vs ++ [x])) (listC vs) N') (hz : vs.length < sizeLine) (h : Q x { p with N := N' }) :
    Run C A L (PySem.call (.builtin "list.pop") [.ref l]) p Q :=
  R_meets F.slot_list_pop F.entry_list_pop (F.args_list_pop_1 _) (HasT.list (.inr P.mem)) fun s S T => by
    obtain ⟨n, e⟩ := own_isL P.mem S
    have e1 : (vs ++ [x]).toArray.size - 1 = vs.length := by simp
    refine ⟨_, (MeetsSeq.list_pop_last l (vs ++ [x]).toArray n x (by rw [e1]; simp) (by simp; omega)).inModel _ _, e, ?_⟩
    rw [e1]
    refine ⟨_, S.putN P (Heap.SameBut.update ..).extBut (Heap.get?_update_self _ e rfl) ?_, Ext.putN P (Heap.SameBut.update ..).extBut, h⟩
    refine listC_map ?_
    simp [List.eraseIdx_append_of_length_le]
theorem R_extend {l b : Addr} {vs ws : List Value} {N' : List (Addr × Cell)} {Q : Value → Pt → Prop} (P : PutN p.N l (listC vs) (listC (vs ++ ws)) N') (hb : ListG p.G b ws) (hz : vs.length + ws.length ≤ sizeLine) (h : Q .none { p with N := N' }) :
    Run C A L (PySem.call (.builtin "list.extend") [.ref l, .ref b]) p Q :=
  R_meets F.slot_list_extend F.entry_list_extend (F.args_list_extend_2 _ _) (HasT.list (.inr P.mem)) fun s S T => by
    obtain ⟨n, e⟩ := own_isL P.mem S
    obtain ⟨n2, e2⟩ := hb.isL S
    refine ⟨_, (AutoSeq1.list_extend_list_list_0 l vs.toArray n b ws.toArray n2 ?_ (by simp; omega) (by simp; omega)).inModel _ _, e, e2, ?_⟩
    · simp only [Builtin.List.listTooLong, List.size_toArray]
      simp [sizeLine_eq] at hz ⊢; omega
    · refine ⟨_, S.putN P (Heap.SameBut.update ..).extBut (Heap.get?_update_self _ e rfl) ?_, Ext.putN P (Heap.SameBut.update ..).extBut, h⟩
      exact listC_map (by simp)
theorem B_addL {l b : Addr} {vs ws : List Value} {Q : Value → Pt → Prop} (hl : ListG p.G l vs) (hb : ListG p.G b ws) (hz : vs.length + ws.length ≤ sizeLine) (h : ∀ a, Q (.ref a) { p with N := (a, listC (vs ++ ws)) :: p.N }) :
    Run C A L (binaryOp .Add (.ref l) (.ref b)) p Q := .of fun s S T => by
  obtain ⟨n, e⟩ := hl.isL S
  obtain ⟨n2, e2⟩ := hb.isL S
  exact P.add_list e e2 ⟨_, S.pushN rfl ⟨0, by simp⟩, Ext.pushN, h _⟩ (by simpa using hz)

/-! slices -/
def SliceG (G : Addr → Option Obj) (a : Addr) (l u st : Value) : Prop := ∃ o, G a = some o ∧ o.cls = .type "slice" ∧ o.data = .fields #[l, u, st]
theorem E_Slice {lower upper step : Option Expr} {pos : Pos} {Q : Value → Pt → Prop}
    (h : Run C A L (evalPart lower env) p fun l p₁ => Run C A L (evalPart upper env) p₁ fun u p₂ => Run C A L (evalPart step env) p₂ fun st p₃ => ∀ a G', GLe p₃.G G' → SliceG G' a l u st → Q (.ref a) { p₃ with G := G' }) :
    Run C A L (eval (.Slice lower upper step pos) env) p Q := .of fun s S T => by
  refine wpAny_Slice (wpAny_mono (wpAny_toks (h.go s S T)) (fun l s₁ ⟨t₁, p₁, S₁, x₁, h₁⟩ => ?_) fun _ _ e => e.2)
  have T₁ := T.next x₁ t₁
  refine wpAny_mono (wpAny_toks (h₁.go s₁ S₁ T₁)) (fun u s₂ ⟨t₂, p₂, S₂, x₂, h₂⟩ => ?_) fun _ _ e => e.2.elim
  have T₂ := T₁.next x₂ t₂
  have y₂ := x₁.trans S S₁ x₂ t₂
  refine wpAny_mono (wpAny_toks (h₂.go s₂ S₂ T₂)) (fun st s₃ ⟨t₃, p₃, S₃, x₃, h₃⟩ => ?_) fun _ _ e => e.2.elim
  have y₃ := y₂.trans S S₂ x₃ t₃
  have nn := S₃.none_at (get_size_none s₃.heap)
  refine ⟨_, S₃.pushG rfl, y₃.trans S S₃ (Ext.pushG S₃) (Nat.le_refl _), h₃ _ _ (GLe.add nn.2.1) ⟨_, addG_self, rfl, rfl⟩⟩
theorem G_listS {l a : Addr} {vs : List Value} {vl vu vst : Value} {lo hi st : Option Int} {Q : Value → Pt → Prop} (hl : ListAt p.G l vs ∨ (l, listC vs) ∈ p.N) (hs : SliceG p.G a vl vu vst) (pl : IsPart vl lo) (pu : IsPart vu hi) (ps : IsPart vst st) (h0 : st ≠ some 0)
    (hz : vs.length ≤ sizeLine) (h : ∀ b, Q (.ref b) { p with N := (b, listC (slicePick vs.toArray lo hi st).toList) :: p.N }) : Run C A L (getItem (.ref l) (.ref a)) p Q := .of fun s S T => by
  obtain ⟨o, e, e2, e3⟩ := hs
  exact wpAny_getItem_list_slice (isList_of hl S) ⟨o, S.s0.gs _ _ e, e2, e3⟩ pl pu ps h0 ⟨_, S.pushN rfl ⟨0, by simp⟩, Ext.pushN, h _⟩ (by simpa using hz)
theorem G_strRev {x : Str} {t u : Tok} {a : Addr} {Q : Value → Pt → Prop} (hs : SliceG p.G a .none .none (.int (-1) u)) (hz : x.length ≤ sizeLine) (h : ∀ tk, Q (.str ⟨x.cps.toList.reverse.toArray⟩ tk) p) : Run C A L (getItem (.str x t) (.ref a)) p Q := .of fun s S T => by
  obtain ⟨o, e, e2, e3⟩ := hs
  refine wpAny_getItem_str_slice (l := none) (u := none) (st := some (-1, u)) ⟨o, S.s0.gs _ _ e, e2, e3⟩ rfl ?_
  have e4 : sliceMade x t none none (some (-1, u)) = .str ⟨x.cps.toList.reverse.toArray⟩ := by
    unfold sliceMade
    rw [if_neg (by simp)]
    congr 2
    unfold slicePicked
    show ((Builtin.Str.strSliceIndices none none (-1) x.length).filterMap (x.cps[·]?)).toArray = _
    congr 1
    rw [picked_rev, filterMap_get, List.map_map]
    · apply List.ext_getElem
      · simp [Str.length]
      · intro i h1 h2
        have h1' : i < x.cps.size := by simpa [Str.length] using h1
        have h3 : x.cps.size - 1 - i < x.cps.size := by omega
        simp [Str.length, Array.getD, h3]
    · intro i hi
      obtain ⟨k, hk, rfl⟩ := List.mem_map.mp hi
      have hk' : k < x.length := List.mem_range.mp hk
      show x.length - 1 - k < x.length
      omega
  rw [e4]
  exact ⟨by show x.cps.toList.reverse.toArray.size ≤ sizeLine; simpa [Str.length] using hz, Post.same S (h _)⟩

/-! lists against lists -/
theorem C_neL {l b : Addr} {vs : List Value} {Q : Value → Pt → Prop} (hu : A.units < cLine) (hl : ListAt p.G l vs ∨ (l, listC vs) ∈ p.N) (hb : (b, listC []) ∈ p.N) (h : Q (.bool (!vs.isEmpty)) p) : Run C A L (compareOp .NotEq (.ref l) (.ref b)) p Q := .of fun s S T => by
  have h1 := isList_of hl S
  have h2 := isList_of (.inr hb) S
  show wpAny _ A (richCompare .NotEq (.ref l) (.ref b)) _ _ s
  cases vs with
  | nil => exact SeqAt.RcNeAt.lists (e := fun _ => true) h1 h2 rfl hu (fun j a b => by simp at a) _ _ _ _ ⟨p, S, .refl, h⟩
  | cons v r => exact SeqAt.RcNeAt.lists_lengths h1 h2 (by simp) hu _ _ _ _ ⟨p, S, .refl, h⟩

/-- two frozen lists of pairs of texts -/
def PairsG (G : Addr → Option Obj) (vs : List Value) (xs : List (Str × Str)) : Prop := vs.length = xs.length ∧ ∀ (i : Nat) (q : Str × Str), xs[i]? = some q → ∃ a t u, vs[i]? = some (Value.ref a) ∧ TupAt G a [Value.str q.1 t, Value.str q.2 u]
theorem PairsG.mono {G G' : Addr → Option Obj} {vs : List Value} {xs : List (Str × Str)} (h : PairsG G vs xs) (x : GLe G G') : PairsG G' vs xs := ⟨h.1, fun i q hq => let ⟨a, t, u, e, ht⟩ := h.2 i q hq; ⟨a, t, u, e, ht.mono x⟩⟩
theorem C_eqPairs {l b : Addr} {vs ws : List Value} {xs ys : List (Str × Str)} {Q : Value → Pt → Prop} (hu : A.units + 1 < cLine) (hl : ListAt p.G l vs ∨ (l, listC vs) ∈ p.N) (hb : ListAt p.G b ws ∨ (b, listC ws) ∈ p.N) (hx : PairsG p.G vs xs) (hy : PairsG p.G ws xs)
    (h : Q (.bool true) p) : Run C A L (compareOp .Eq (.ref l) (.ref b)) p Q := .of fun s S T => by
  have h1 := isList_of hl S
  have h2 := isList_of hb S
  refine SeqAt.eq_listAt (e := fun _ => true) h1 h2 (by simp [hx.1, hy.1]) (by omega) (fun j j1 j2 => ?_) ?_
  · have j1' : j < vs.length := by simpa using j1
    have j2' : j < ws.length := by simpa using j2
    have jx : j < xs.length := hx.1 ▸ j1'
    obtain ⟨a, t, u, e1, t1⟩ := hx.2 j xs[j] (by simp)
    obtain ⟨a', t', u', e2, t2⟩ := hy.2 j xs[j] (by simp)
    have e1' : vs.toArray[j] = .ref a := by simpa [j1'] using e1
    have e2' : ws.toArray[j] = .ref a' := by simpa [j2'] using e2
    rw [e1', e2']
    by_cases haa : a = a'
    · subst haa; exact SeqAt.EqAt.same _
    · refine SeqAt.EqAt.of_refs haa ?_
      have := SeqAt.RcAt.tuples (A := A.in1) (e := fun _ => true) (t1.isTup S) (t2.isTup S) (by show A.units + 1 < cLine; exact hu) (fun i i1 i2 => ?_)
      · have e3 : ((List.range 2).all fun _ => true) = true := rfl
        simpa [e3] using this
      · have i1' : i < 2 := by simpa using i1
        match i, i1' with
        | 0, _ =>
          have := SeqAt.EqAt.str_str (A := A.in1.in1) (s := s) xs[j].1 t xs[j].1 t'
          simpa using this
        | 1, _ =>
          have := SeqAt.EqAt.str_str (A := A.in1.in1) (s := s) xs[j].2 u xs[j].2 u'
          simpa using this
  · have : ((List.range vs.toArray.size).all fun _ => true) = true := by simp
    rw [this]
    exact ⟨p, S, .refl, h⟩
end
end Mine

open PySem PySem.Calls PyProof.Rows
set_option Elab.async false
set_option linter.unusedVariables false
namespace Mine

/-- an address that the law's own run has made -/
def Fresh (C : Cx) (a : Addr) : Prop := ∀ b o, C.B.get? b = some o → b < a
theorem Sat.fresh {C : Cx} {L : Addr} {p : Pt} {h : Heap} (S : Sat C.B L p h) : Fresh C h.objs.size := fun b o e => Heap.lt_size (S.s0.base b o e)
section
variable {C : Cx} {A : Around} {L : Addr} {p : Pt} {env : Env}
theorem E_Dict0 {pos : Pos} {Q : Value → Pt → Prop} (h : ∀ a, Fresh C a → Q (.ref a) { p with N := (a, dictC C.w []) :: p.N }) : Run C A L (eval (.Dict [] [] pos) env) p Q :=
  Run.of_eq (eval_Dict_empty pos) (.bind (.standAt <| .of fun s S T => wpAny_newObj_type ⟨_, S.pushN rfl ⟨0, ⟨rfl, rfl, rfl⟩, rfl, List.nodup_nil⟩, Ext.pushN, h _ S.fresh⟩))
theorem S_dict {d : Addr} {es : List Ent} {k : Str} {t : Tok} {v : Value} {N' : List (Addr × Cell)} {Q : Unit → Pt → Prop} (P : PutN p.N d (dictC C.w es) (dictC C.w (dput es k t v)) N') (hz : es.length ≤ sizeLine) (h : Q () { p with N := N' }) :
    Run C A L (setItem (.ref d) (.str k t) v) p Q := .of fun s S T => by
  obtain ⟨o, ho, hc⟩ := S.s0.own _ P.mem
  exact wp_setItem ho hc hz fun h' o' ho' hc' hs' => ⟨_, S.putN P hs'.extBut ho' hc', Ext.putN P hs'.extBut, h⟩

def asPair (q : Ent) : Value × Value := (.str q.1 q.2.1, q.2.2)
theorem wp_storeAll {prog : Program} {w : World} {A : Around} {E : Value → Shared → Prop} {d : Addr} : ∀ (more es : List Ent) (o : Obj) (s : Shared) (Q : PUnit → Shared → Prop), s.heap.get? d = some o → dictC w es o → es.length + more.length ≤ sizeLine →
    (∀ h' o' tk, h'.get? d = some o' → dictC w (dputs es more) o' → Heap.SameBut d s.heap h' → Q PUnit.unit { s with heap := h', toks := tk }) →
    wpAny (model prog w) A (forIn (more.map asPair) PUnit.unit fun (x : Value × Value) (_ : PUnit) => (do dictSet d x.1 x.2; pure (ForInStep.yield PUnit.unit) : Sem (ForInStep PUnit))) Q E s
  | [], es, o, s, Q, ho, hc, _, hQ => wpAny_pure (by simpa using hQ s.heap o s.toks ho hc (Heap.SameBut.refl _ _))
  | q :: r, es, o, s, Q, ho, hc, hz, hQ => by
    rw [List.map_cons, List.forIn_cons]
    simp only [List.length_cons] at hz
    refine wpAny_bind (wpAny_bind (wp_dictSet ho hc (by omega) fun h₁ o₁ ho₁ hc₁ hs₁ => wpAny_pure ?_))
    refine wp_storeAll r _ o₁ _ Q ho₁ hc₁ (by have := dput_length es q.1 q.2.1 (asPair q).2; omega) fun h' o' tk ho' hc' hs' => ?_
    exact hQ h' o' tk ho' hc' (hs₁.trans hs')

theorem R_pairs_nil {Q : List (Value × Value) → Pt → Prop} (h : Q [] p) : Run C A L (evalPairs []) p Q := Run.pure h
theorem R_pairs_cons {k v : Sem Value} {rest : List (Sem Value × Sem Value)} {Q : List (Value × Value) → Pt → Prop} (h : Run C A L k p fun kv p₁ => Run C A L v p₁ fun vv p₂ => Run C A L (evalPairs rest) p₂ fun vs p₃ => Q ((kv, vv) :: vs) p₃) :
    Run C A L (evalPairs ((k, v) :: rest)) p Q := by
  rw [evalPairs]
  exact .bind (h.mono fun kv p₁ h₁ => .bind (.holding (h₁.mono fun vv p₂ h₂ => .bind (.holding (h₂.mono fun vs p₃ h₃ => .pure h₃)))))

theorem R_allocD {Q : Addr → Pt → Prop} (h : ∀ a, Fresh C a → a ∉ dom p.N → Q a { p with N := (a, dictC C.w []) :: p.N }) : Run C A L (alloc { cls := .type "dict", data := .dict #[] }) p Q := .of fun s S T =>
  wpAny_alloc ⟨_, S.pushN rfl ⟨0, ⟨rfl, rfl, rfl⟩, rfl, List.nodup_nil⟩, Ext.pushN, h _ S.fresh (S.none_at (get_size_none _)).2.2.1⟩
theorem R_subDict {pairs : List (Sem Value × Sem Value)} {Q : Addr → Pt → Prop} (hlen : pairs.length ≤ 15)
    (h : ∀ d, Fresh C d → d ∉ dom p.N → Run C A L (evalPairs pairs) { p with N := (d, dictC C.w []) :: p.N } fun vs p₁ => ∃ more N', vs = more.map asPair ∧ more.length ≤ 15 ∧ PutN p₁.N d (dictC C.w []) (dictC C.w (dputs [] more)) N' ∧ Q d { p₁ with N := N' }) :
    Run C A L (subDict pairs) p Q := by
  unfold subDict
  refine .bind (R_allocD fun d hd hn => .bind (.holding ?_))
  rw [if_pos hlen]
  refine .bind ((h d hd hn).mono fun vs p₁ ⟨more, N', e, hz, P, hq⟩ => .holding (.bind ?_))
  subst e
  refine .of fun s₁ S₁ T₁ => ?_
  obtain ⟨o, ho, hc⟩ := S₁.s0.own _ P.mem
  refine wp_storeAll more [] o s₁ _ ho hc (by rw [sizeLine_eq]; simp; omega) fun h' o' tk ho' hc' hs' => ?_
  exact ⟨_, S₁.putN P hs'.extBut ho' hc', Ext.putN P hs'.extBut, .pure (.pure hq)⟩

/-- a display of pairs alone -/
theorem E_DictP {keys : List (Option Expr)} {values : List Expr} {pos : Pos} {pairs : List (Sem Value × Sem Value)} {Q : Value → Pt → Prop}
    (hshape : (evalEachOpt keys env).zip ((evalEach values env).map fun v => do let x ← v; PySem.standAt pos; Pure.pure x) = pairs.map fun p => (some p.1, p.2)) (h0 : pairs ≠ []) (hlen : pairs.length ≤ 15)
    (h : Run C A L (subDict pairs) p fun d p₁ => Q (.ref d) p₁) : Run C A L (eval (.Dict keys values pos) env) p Q := by
  rw [arm_eval_Dict, hshape, dictDisplay_pairs pairs h0 (by omega)]
  exact .bind (.standAt (.bind (h.mono fun d p₁ h₁ => .pure h₁)))

/-- a dict that may be read -/
theorem R_merge {d a : Addr} {es ea : List Ent} {N' : List (Addr × Cell)} {Q : Unit → Pt → Prop} (ha : DictG C.w p.G a ea ∨ ((a, dictC C.w ea) ∈ p.N ∧ (a == sysModules) = false ∧ a ≠ d)) (P : PutN p.N d (dictC C.w es) (dictC C.w (dputs es ea)) N') (hz : es.length + ea.length ≤ sizeLine)
    (h : Q () { p with N := N' }) : Run C A L (mergeMapping d (.ref a) false) p Q := .of fun s S T => by
  obtain ⟨o, ho, hc⟩ := S.s0.own _ P.mem
  rcases ha with ⟨hsm, oa, ea', hca⟩ | ⟨hm, hsm, hne⟩
  · refine wp_merge (fun e => ?_) hsm ho hc (S.s0.gs _ _ ea') hca hz fun h' o' ho' hc' hs' => ⟨_, S.putN P hs'.extBut ho' hc', Ext.putN P hs'.extBut, h⟩
    have := S.s0.nG d (mem_dom P.mem)
    rw [← e, ea'] at this; cases this
  · obtain ⟨oa, hoa, hca⟩ := S.s0.own _ hm
    exact wp_merge hne hsm ho hc hoa hca hz fun h' o' ho' hc' hs' => ⟨_, S.putN P hs'.extBut ho' hc', Ext.putN P hs'.extBut, h⟩

theorem R_tryCatch {α : Type} {t : Sem α} {k : Value → Sem α} {Q : α → Pt → Prop} (h : Run C A L t p Q) : Run C A L (tryCatch t k) p Q := .of fun s S T => wpAny_tryCatch (wpAny_mono (h.go s S T) (fun _ _ e => e) fun _ _ e => e.elim)
theorem R_onRaise {α : Type} {t : Sem α} {k : Value → Sem Unit} {Q : α → Pt → Prop} (h : Run C A L t p Q) : Run C A L (t.onRaise k) p Q := .of fun s S T => wpAny_onRaise (wpAny_mono (h.go s S T) (fun _ _ e => e) fun _ _ e => e.elim)

/-- a display that opens with another dict, three pairs behind it -/
theorem R_dictStar3 {m k1 v1 k2 v2 k3 v3 : Sem Value} {Q : Value → Pt → Prop}
    (h : ∀ d, Fresh C d → Run C A L m { p with N := (d, dictC C.w []) :: p.N } fun mv p₁ => Run C A L (mergeMapping d mv false) p₁ fun _ p₂ => Run C A L (subDict [(k1, v1), (k2, v2), (k3, v3)]) p₂ fun sub p₃ =>
      Run C A L (mergeMapping d (.ref sub) false) p₃ fun _ p₄ => Q (.ref d) p₄) :
    Run C A L (dictDisplay [(none, m), (some k1, v1), (some k2, v2), (some k3, v3)]) p Q := by
  unfold dictDisplay
  simp only [List.forIn_cons, List.forIn_nil, List.isEmpty_nil, if_true, pure_bind, bind_assoc]
  refine .bind (R_allocD fun d hd _ => .bind (.holding ((h d hd).mono fun mv p₁ h₁ => .bind (R_onRaise (R_tryCatch (R_onRaise (.holding (h₁.mono fun _ p₂ h₂ => ?_))))))))
  have e1 : ((0 + 1 : Nat) == 17) = false := rfl
  have e2 : ((0 + 1 + 1 : Nat) == 17) = false := rfl
  have e3 : ((0 + 1 + 1 + 1 : Nat) == 17) = false := rfl
  simp only [List.nil_append, List.cons_append, List.length_cons, List.length_nil, e1, e2, e3, Bool.false_eq_true, if_false, pure_bind, List.isEmpty_cons, bind_assoc]
  exact .bind (.holding (h₂.mono fun sub p₃ h₃ => .bind (R_onRaise (.holding (h₃.mono fun _ p₄ h₄ => .pure h₄)))))
end
end Mine

open PySem PySem.Calls PyProof.Rows
set_option Elab.async false
set_option linter.unusedVariables false
namespace Mine

def addGs (G : Addr → Option Obj) (as : List Addr) (h : Heap) : Addr → Option Obj := fun b => if b ∈ as then h.get? b else G b
section
variable {B : Heap} {L : Addr} {p : Pt} {h h' : Heap} {s : Shared}
theorem Sat.adds (S : Sat B L p h) (hk : ∀ b o, h.get? b = some o → h'.get? b = some o) {as : List Addr} {a : Addr} {c : Cell} {o : Obj} (ha : h.get? a = none) (ho : h'.get? a = some o) (hc : c o) (hn : ∀ b ∈ as, h.get? b = none) (hna : a ∉ as) :
    Sat B L { p with G := addGs p.G as h', N := (a, c) :: p.N } h' := by
  obtain ⟨aB, aG, aN, aL⟩ := S.none_at ha
  have S' := S.keep hk
  refine ⟨⟨S'.s0.base, fun b o e => ?_, fun q hq => ?_, fun b hb => ?_, fun b hb => ?_, List.nodup_cons.mpr ⟨aN, S.s0.nd⟩⟩, S'.ns, S.bL, ?_, fun hm => ?_, S.mnd⟩
  · simp only [addGs] at e
    split at e
    · exact e
    · exact S'.s0.gs b o e
  · rcases List.mem_cons.mp hq with e | hq
    · subst e; exact ⟨o, ho, hc⟩
    · exact S'.s0.own q hq
  · rcases List.mem_cons.mp hb with e | hb
    · exact e ▸ aB
    · exact S.s0.nB b hb
  · simp only [addGs]
    rcases List.mem_cons.mp hb with e | hb
    · rw [e, if_neg hna]; exact aG
    · rw [if_neg fun hm => (S.none_at (hn b hm)).2.2.1 hb]; exact S.s0.nG b hb
  · simp only [addGs]
    rw [if_neg fun hm => (S.none_at (hn L hm)).2.2.2 rfl]; exact S.gL
  · rcases List.mem_cons.mp hm with e | hm
    · exact aL e.symm
    · exact S.nL hm
theorem Ext.adds (S : Sat B L p s.heap) {tk : Nat} (hk : ∀ b o, s.heap.get? b = some o → h'.get? b = some o) {as : List Addr} {a : Addr} {c : Cell} (ha : s.heap.get? a = none) (hn : ∀ b ∈ as, s.heap.get? b = none) :
    Ext L p s { p with G := addGs p.G as h', N := (a, c) :: p.N } { s with heap := h', toks := tk } :=
  ⟨fun b o e _ _ => hk b o e, fun b o e => by
      simp only [addGs]
      rw [if_neg fun hm => by (have := (S.none_at (hn b hm)).2.1; rw [e] at this; cases this)]; exact e,
    fun b hb => by
      rcases hb with hb | hb
      · simp only [addGs] at hb
        split at hb
        · rename_i hm; exact .inr (.inr (hn b hm))
        · exact .inl hb
      · rcases List.mem_cons.mp hb with e | hb
        · exact .inr (.inr (e ▸ ha))
        · exact .inr (.inl hb), fun b hb => .inl (List.mem_cons_of_mem _ hb), rfl, rfl, Nat.le_refl _, .inl (Nat.le_refl _)⟩
theorem GLe.adds (S : Sat B L p h) {as : List Addr} (hn : ∀ b ∈ as, h.get? b = none) : GLe p.G (addGs p.G as h') := fun b o e => by
  simp only [addGs]
  rw [if_neg fun hm => by (have := (S.none_at (hn b hm)).2.1; rw [e] at this; cases this)]; exact e
end

section
variable {C : Cx} {A : Around} {L : Addr} {p : Pt} {env : Env}
/-- list(d.items()) -/
theorem R_listItems {v d : Addr} {es : List Ent} {Q : Value → Pt → Prop} (hh : A.handled = none) (hv : ViewG p.G v d) (x : DictG C.w p.G d es) (hz : es.length ≤ sizeLine)
    (h : ∀ a G' (as : List Addr), GLe p.G G' → as.length = es.length → (∀ (i : Nat) (q : Ent), es[i]? = some q → ∃ b t, as[i]? = some b ∧ TupAt G' b [Value.str q.1 t, q.2.2]) → Q (.ref a) { p with G := G', N := (a, listC (as.map Value.ref)) :: p.N }) :
    Run C A L (PySem.call (.type "list") [.ref v]) p Q := .of fun s S T => by
  obtain ⟨od, ep, e1, e2, e3⟩ := x.dictAt S
  obtain ⟨ov, g1, g2, g3⟩ := hv
  have hl : (kvOf es).length = es.length := by simp [kvOf]
  refine PySem.W.kdx_call (knd := PySem.strKind C.prog C.w) hh ⟨ov, S.s0.gs _ _ g1, g2, g3⟩ e3 (by rw [hl]; exact hz) fun h' tk acc c as hk hS hal hG hacc => ?_
  have fresh : ∀ b, s.heap.objs.size ≤ b → s.heap.get? b = none := fun b hb => by
    cases e : s.heap.get? b with
    | none => rfl
    | some o => exact absurd (Heap.lt_size e) (Nat.not_lt.mpr hb)
  have hn : ∀ b ∈ as, s.heap.get? b = none := fun b hb => fresh b (Nat.le_of_lt (hG.above b hb))
  have hna : s.heap.objs.size ∉ as := fun hm => Nat.lt_irrefl _ (hG.above _ hm)
  have hc : listC (as.map Value.ref) { cls := .type "list", dict := none, data := .seq acc c, slots := #[] } := ⟨c, by
    have : acc = (as.map Value.ref).toArray := by rw [← hacc]
    rw [this]⟩
  refine ⟨_, S.adds hk (fresh _ (Nat.le_refl _)) hS hc hn hna, Ext.adds S hk (fresh _ (Nat.le_refl _)) hn, h _ _ as (GLe.adds S hn) (by rw [hal, hl]) fun i q hq => ?_⟩
  have hi : i < as.length := by rw [hal, hl]; exact (List.getElem?_eq_some_iff.mp hq).1
  obtain ⟨key, k, xv, f1, f2, f3⟩ := hG.pairs i as[i] (by simp [hi])
  simp only [kvOf, List.getElem?_map, hq, Option.map_some, Option.some.injEq] at f1
  cases f1
  obtain ⟨t, rfl⟩ := Value.isStrOf_shape f2
  refine ⟨as[i], t, by simp [hi], ⟨{ cls := .type "tuple", data := .seq #[.str q.1 t, q.2.2] }, 0, ?_, rfl, rfl⟩⟩
  simp only [addGs]
  rw [if_pos (List.getElem_mem hi), f3]

theorem booked_keep {B h : Heap} (x : NoneBooked B) (hk : ∀ b o, B.get? b = some o → h.get? b = some o) : NoneBooked h := let ⟨mc, hn, hm⟩ := x; ⟨mc, hn.keeps hk, hm⟩
theorem R_replace {x y z : Str} {t u v : Tok} {Q : Value → Pt → Prop} (hnb : NoneBooked C.B) (hu : u ≠ 0) (hv : v ≠ 0) (huv : u ≠ v) (hb : x.length + (x.length + 1) * z.length ≤ 16777216) (h : ∀ tk, Q (.str (Txt.replace x y z) tk) p) :
    Run C A L (PySem.call (.builtin "str.replace") [.str x t, .str y u, .str z v]) p Q := .of fun s S T =>
  SC.replaceA hu hv huv hb (fun t' k => Post.same S (h t')) (booked_keep hnb S.s0.base)
end
end Mine

open PySem PySem.Calls PyProof.Rows
set_option Elab.async false
set_option linter.unusedVariables false
namespace Mine

section
variable {C : Cx} {A : Around} {L : Addr} {p : Pt} {env : Env}

/-- the values so far, each as it should be -/
def Made (R : Nat → Value → (Addr → Option Obj) → Nat → Prop) (idx : List Nat) (ys : List Value) (G : Addr → Option Obj) (k : Nat) : Prop :=
  ys.length = idx.length ∧ ∀ (j a : Nat) (y : Value), idx[j]? = some a → ys[j]? = some y → R a y G k
theorem Made.push {R : Nat → Value → (Addr → Option Obj) → Nat → Prop} {idx : List Nat} {ys : List Value} {G G' : Addr → Option Obj} {k k' a : Nat} {y : Value} (hm : ∀ a y G G' k k', R a y G k → GLe G G' → k ≤ k' → R a y G' k')
    (h : Made R idx ys G k) (hG : GLe G G') (hk : k ≤ k') (hy : R a y G' k') : Made R (idx ++ [a]) (ys ++ [y]) G' k' := by
  refine ⟨by simp [h.1], fun j b z hb hz => ?_⟩
  rcases Nat.lt_trichotomy j idx.length with hj | hj | hj
  · rw [List.getElem?_append_left hj] at hb
    rw [List.getElem?_append_left (by rw [h.1]; exact hj)] at hz
    exact hm _ _ _ _ _ _ (h.2 j b z hb hz) hG hk
  · subst hj
    rw [List.getElem?_append_right (Nat.le_refl _)] at hb
    rw [List.getElem?_append_right (by rw [h.1]; exact Nat.le_refl _), h.1] at hz
    simp at hb hz
    subst hb; subst hz
    exact hy
  · rw [List.getElem?_eq_none (by simp; omega)] at hb; cases hb
theorem Made.mono {R : Nat → Value → (Addr → Option Obj) → Nat → Prop} {idx : List Nat} {ys : List Value} {G G' : Addr → Option Obj} {k k' : Nat} (hm : ∀ a y G G' k k', R a y G k → GLe G G' → k ≤ k' → R a y G' k')
    (h : Made R idx ys G k) (hG : GLe G G') (hk : k ≤ k') : Made R idx ys G' k' := ⟨h.1, fun j a y h1 h2 => hm _ _ _ _ _ _ (h.2 j a y h1 h2) hG hk⟩
theorem Made.nil {R : Nat → Value → (Addr → Option Obj) → Nat → Prop} {G : Addr → Option Obj} {k : Nat} : Made R [] [] G k := ⟨rfl, fun j a y h => by simp at h⟩

abbrev MonoR (R : Nat → Value → (Addr → Option Obj) → Nat → Prop) : Prop := ∀ a y G G' k k', R a y G k → GLe G G' → k ≤ k' → R a y G' k'

/-- a comprehension's invariant: nothing owned changes -/
def CompI (R : Nat → Value → (Addr → Option Obj) → Nat → Prop) (sel : Nat → Bool) (p₁ : Pt) (M : List (Str × Option Value) → Prop) (i : Nat) (ys : List Value) (p : Pt) : Prop :=
  ∃ G' m' k', p = ⟨G', m', p₁.N, k'⟩ ∧ M m' ∧ GLe p₁.G G' ∧ p₁.k ≤ k' ∧ Made R ((List.range i).filter sel) ys G' k'
theorem CompI.len {R : Nat → Value → (Addr → Option Obj) → Nat → Prop} {sel : Nat → Bool} {p₁ p : Pt} {M : List (Str × Option Value) → Prop} {i : Nat} {ys : List Value} (h : CompI R sel p₁ M i ys p) : True := trivial

abbrev OneM (x : Str) (m : List (Str × Option Value)) : Prop := ∃ o, m = [(x, o)]
abbrev TwoM (x y : Str) (m : List (Str × Option Value)) : Prop := ∃ o o', m = [(x, o), (y, o')]

/-- what an element does -/
def Elt (C : Cx) (A : Around) (Cc : Addr) (elt : Expr) (cenv : Env) (R : Nat → Value → (Addr → Option Obj) → Nat → Prop) (i : Nat) (p : Pt) : Prop :=
  Run C A Cc (eval elt cenv) p fun y p₄ => ∃ G' k', p₄ = ⟨G', p.m, p.N, k'⟩ ∧ GLe p.G G' ∧ p.k ≤ k' ∧ R i y G' k'
/-- what a test does -/
def Tst (C : Cx) (A : Around) (Cc : Addr) (ifs : List Expr) (cenv : Env) (b : Bool) (p : Pt) (Q : Pt → Prop) : Prop :=
  Run C A Cc (forIn ifs true fun c r => if r = true then do let ok ← isTrue c cenv (eval c cenv); Pure.pure (ForInStep.yield ok) else Pure.pure (ForInStep.yield r)) p fun b' p₄ =>
    b' = b ∧ ∃ G' k', p₄ = ⟨G', p.m, p.N, k'⟩ ∧ GLe p.G G' ∧ p.k ≤ k' ∧ Q p₄

theorem filter_range_succ (sel : Nat → Bool) (i : Nat) : (List.range (i + 1)).filter sel = (List.range i).filter sel ++ if sel i then [i] else [] := by
  rw [List.range_succ, List.filter_append]
  congr 1
  cases h : sel i <;> simp [h]

theorem comp_step1 {R : Nat → Value → (Addr → Option Obj) → Nat → Prop} {sel : Nat → Bool} (hm : MonoR R) {elt : Expr} {ifs : List Expr} {x : Str} {px : Pos} {scope : Scope} {cl : List (Str × Addr)} {P : Nat → Value → Heap → Prop} {p₁ : Pt} {n : Nat}
    (hx : (compEnvC scope cl 0 env).kindOf x = some .local) (hk : (relabel scope env).kind = .function)
    (h : ∀ Cc i v G' k', i < n → (∃ h', P i v h') → GLe p₁.G G' → p₁.k ≤ k' → Tst C A Cc ifs (compEnvC scope cl Cc env) (sel i) ⟨G', [(x, some v)], p₁.N, k'⟩ fun p₄ => sel i = true → Elt C A Cc elt (compEnvC scope cl Cc env) R i p₄)
    (Cc : Addr) (i : Nat) (ys : List Value) (p₂ : Pt) (hi : i < n) (hI : CompI R sel p₁ (OneM x) i ys p₂) : AsgRun C A Cc (.Name x px) (compEnvC scope cl Cc env) (P i) p₂ fun p₃ =>
      Run C A Cc (forIn ifs true fun c r => if r = true then do let ok ← isTrue c (compEnvC scope cl Cc env) (eval c (compEnvC scope cl Cc env)); Pure.pure (ForInStep.yield ok) else Pure.pure (ForInStep.yield r)) p₃ fun b p₄ =>
        if b then Run C A Cc (eval elt (compEnvC scope cl Cc env)) p₄ (fun y p₅ => CompI R sel p₁ (OneM x) (i + 1) (ys ++ [y]) p₅) else CompI R sel p₁ (OneM x) (i + 1) ys p₄ := by
  obtain ⟨G', m', k', rfl, ⟨o, rfl⟩, hG, hk', hM⟩ := hI
  refine AsgRun.name fun v hv => storeLoc .head ?_ rfl hk hx
  refine (h Cc i v G' k' hi hv hG hk').mono fun b p₄ ⟨hb, G₄, k₄, e4, hG4, hk4, hq⟩ => ?_
  subst hb; subst e4
  cases hs : sel i with
  | true =>
    refine (hq hs).mono fun y p₅ ⟨G₅, k₅, e5, hG5, hk5, hy⟩ => ?_
    subst e5
    refine ⟨G₅, _, k₅, rfl, ⟨_, rfl⟩, hG.trans (GLe.trans hG4 hG5), Nat.le_trans hk' (Nat.le_trans hk4 hk5), ?_⟩
    rw [filter_range_succ, hs]
    exact hM.push hm (GLe.trans hG4 hG5) (Nat.le_trans hk4 hk5) hy
  | false =>
    refine ⟨G₄, _, k₄, rfl, ⟨_, rfl⟩, hG.trans hG4, Nat.le_trans hk' hk4, ?_⟩
    rw [filter_range_succ, hs]
    simpa using hM.mono hm hG4 hk4
theorem comp_step2 {R : Nat → Value → (Addr → Option Obj) → Nat → Prop} {sel : Nat → Bool} (hh : A.handled = none) (hm : MonoR R) {elt : Expr} {ifs : List Expr} {x y : Str} {px py tp : Pos} {kk : Nat} {scope : Scope} {cl : List (Str × Addr)} {P : Nat → Value → Heap → Prop} {p₁ : Pt} {n : Nat}
    (hx : (compEnvC scope cl 0 env).kindOf x = some .local) (hy : (compEnvC scope cl 0 env).kindOf y = some .local) (hk : (relabel scope env).kind = .function)
    (h : ∀ Cc i v h' G' k', i < n → P i v h' → GLe p₁.G G' → p₁.k ≤ k' → ∃ T a b, v = .ref T ∧ (TupAt p₁.G T [a, b] ∨ h'.IsTuple T #[a, b]) ∧
      Tst C A Cc ifs (compEnvC scope cl Cc env) (sel i) ⟨G', [(x, some a), (y, some b)], p₁.N, k'⟩ fun p₄ => sel i = true → Elt C A Cc elt (compEnvC scope cl Cc env) R i p₄)
    (Cc : Addr) (i : Nat) (ys : List Value) (p₂ : Pt) (hi : i < n) (hI : CompI R sel p₁ (TwoM x y) i ys p₂) : AsgRun C A Cc (.Tuple [.Name x px, .Name y py] kk tp) (compEnvC scope cl Cc env) (P i) p₂ fun p₃ =>
      Run C A Cc (forIn ifs true fun c r => if r = true then do let ok ← isTrue c (compEnvC scope cl Cc env) (eval c (compEnvC scope cl Cc env)); Pure.pure (ForInStep.yield ok) else Pure.pure (ForInStep.yield r)) p₃ fun b p₄ =>
        if b then Run C A Cc (eval elt (compEnvC scope cl Cc env)) p₄ (fun z p₅ => CompI R sel p₁ (TwoM x y) (i + 1) (ys ++ [z]) p₅) else CompI R sel p₁ (TwoM x y) (i + 1) ys p₄ := by
  obtain ⟨G', m', k', rfl, ⟨o, o', rfl⟩, hG, hk', hM⟩ := hI
  refine AsgRun.pair hh fun v h' hP => ?_
  obtain ⟨T, a, b, e, ht, hq⟩ := h Cc i v h' G' k' hi hP hG hk'
  refine ⟨T, a, b, e, ht.imp (fun t => t.mono hG) id, storeLoc .head (storeLoc (.tail .head) ?_ rfl hk hy) rfl hk hx⟩
  refine hq.mono fun b p₄ ⟨hb, G₄, k₄, e4, hG4, hk4, hq⟩ => ?_
  subst hb; subst e4
  cases hs : sel i with
  | true =>
    refine (hq hs).mono fun y p₅ ⟨G₅, k₅, e5, hG5, hk5, hy⟩ => ?_
    subst e5
    refine ⟨G₅, _, k₅, rfl, ⟨_, _, rfl⟩, hG.trans (GLe.trans hG4 hG5), Nat.le_trans hk' (Nat.le_trans hk4 hk5), ?_⟩
    rw [filter_range_succ, hs]
    exact hM.push hm (GLe.trans hG4 hG5) (Nat.le_trans hk4 hk5) hy
  | false =>
    refine ⟨G₄, _, k₄, rfl, ⟨_, _, rfl⟩, hG.trans hG4, Nat.le_trans hk' hk4, ?_⟩
    rw [filter_range_succ, hs]
    simpa using hM.mono hm hG4 hk4
theorem Tst.none {Cc : Addr} {cenv : Env} {Q : Pt → Prop} (h : Q p) : Tst C A Cc [] cenv true p Q := R_tests_nil ⟨rfl, p.G, p.k, rfl, GLe.refl _, Nat.le_refl _, h⟩

/-- [elt for x in iter], and with a test -/
theorem E_Comp1 {R : Nat → Value → (Addr → Option Obj) → Nat → Prop} (sel : Nat → Bool) (cl : List (Str × Addr)) (hm : MonoR R) {elt iter : Expr} {ifs : List Expr} {x : Str} {px : Pos} {scope : Scope} {pos : Pos} {Q : Value → Pt → Prop}
    (h : Run C A L (eval iter env) p fun xv p₁ => ∃ n P, IterOn C A L p₁ (.Name x px) xv n P ∧ n ≤ sizeLine ∧
      (∀ Cc i v G' k', i < n → (∃ h', P i v h') → GLe p₁.G G' → p₁.k ≤ k' → Tst C A Cc ifs (compEnvC scope cl Cc env) (sel i) ⟨G', [(x, some v)], p₁.N, k'⟩ fun p₄ => sel i = true → Elt C A Cc elt (compEnvC scope cl Cc env) R i p₄) ∧
      (∀ D ys G' k', GLe p₁.G G' → p₁.k ≤ k' → Made R ((List.range n).filter sel) ys G' k' → Q (.ref D) ⟨G', p₁.m, (D, listC ys) :: p₁.N, k'⟩))
    (hclos : closureFor scope env = Pure.pure cl := by rfl) (hcell : ∀ y ∈ scope.names, y.2 ≠ .cell := by decide) (hnames : ∀ y ∈ scope.names, y.2 = .local → scope.names.lookup y.1 = some .local := by decide)
    (hx : (compEnvC scope cl 0 env).kindOf x = some .local := by rfl) (hk : (relabel scope env).kind = .function := by rfl)
    (hkind : scope.kind = .function := by rfl) (hs : ∀ x, foldedSetIterable iter env x = Pure.pure x := by intro _; rfl) :
    Run C A L (eval (.ListComp elt [⟨.Name x px, iter, ifs, 0⟩] scope pos) env) p Q :=
  E_ListComp [(x, none)] hclos hcell hnames (by simp) (by simp) (h.mono fun xv p₁ ⟨n, P, it, hn, step, fin⟩ => ⟨n, P, CompI R sel p₁ (OneM x), it, hn, ⟨p₁.G, _, p₁.k, rfl, ⟨_, rfl⟩, GLe.refl _, Nat.le_refl _, Made.nil⟩,
    fun Cc i ys p₂ hi _ hI _ => comp_step1 hm hx hk step Cc i ys p₂ hi hI, fun D ys p₂ ⟨G', m', k', e, _, hG, hk', hM⟩ _ => by subst e; exact fin D ys G' k' hG hk' hM⟩) hkind hs
theorem X_Comp1 {R : Nat → Value → (Addr → Option Obj) → Nat → Prop} (sel : Nat → Bool) (cl : List (Str × Addr)) (hm : MonoR R) {z : Str} {pz spos : Pos} {elt iter : Expr} {ifs : List Expr} {x : Str} {px : Pos} {scope : Scope} {pos : Pos} {Q : Flow → Pt → Prop}
    (h : Run C A L (eval iter env) p fun xv p₁ => ∃ n P, IterOn C A L p₁ (.Name x px) xv n P ∧ n ≤ sizeLine ∧
      (∀ Cc i v G' k', i < n → (∃ h', P i v h') → GLe p₁.G G' → p₁.k ≤ k' → Tst C A Cc ifs (compEnvC scope cl Cc env) (sel i) ⟨G', [(x, some v)], p₁.N, k'⟩ fun p₄ => sel i = true → Elt C A Cc elt (compEnvC scope cl Cc env) R i p₄) ∧
      (∀ D ys G' k', GLe p₁.G G' → p₁.k ≤ k' → Made R ((List.range n).filter sel) ys G' k' → Run C A L (bindName env z (.ref D)) ⟨G', p₁.m, (D, listC ys) :: p₁.N, k'⟩ fun _ p₃ => Q .next p₃))
    (hsw : swapsWith (.ListComp elt [⟨.Name x px, iter, ifs, 0⟩] scope pos) (some (.Name z pz)) spos.line env = Pure.pure true := by rfl)
    (hclos : closureFor scope env = Pure.pure cl := by rfl) (hcell : ∀ y ∈ scope.names, y.2 ≠ .cell := by decide) (hnames : ∀ y ∈ scope.names, y.2 = .local → scope.names.lookup y.1 = some .local := by decide)
    (hx : (compEnvC scope cl 0 env).kindOf x = some .local := by rfl) (hk : (relabel scope env).kind = .function := by rfl)
    (hkind : scope.kind = .function := by rfl) (hs : ∀ x, foldedSetIterable iter env x = Pure.pure x := by intro _; rfl) :
    Run C A L (exec (.Assign [.Name z pz] (.ListComp elt [⟨.Name x px, iter, ifs, 0⟩] scope pos) spos) env) p Q :=
  X_Assign_ListComp [(x, none)] hclos hcell hnames (by simp) (by simp) (h.mono fun xv p₁ ⟨n, P, it, hn, step, fin⟩ => ⟨n, P, CompI R sel p₁ (OneM x), it, hn, ⟨p₁.G, _, p₁.k, rfl, ⟨_, rfl⟩, GLe.refl _, Nat.le_refl _, Made.nil⟩,
    fun Cc i ys p₂ hi _ hI _ => comp_step1 hm hx hk step Cc i ys p₂ hi hI, fun D ys p₂ ⟨G', m', k', e, _, hG, hk', hM⟩ _ => by subst e; exact fin D ys G' k' hG hk' hM⟩) hsw hkind hs
theorem X_Comp2 {R : Nat → Value → (Addr → Option Obj) → Nat → Prop} (sel : Nat → Bool) (cl : List (Str × Addr)) (hh : A.handled = none) (hm : MonoR R) {z : Str} {pz spos : Pos} {elt iter : Expr} {ifs : List Expr} {x y : Str} {px py tp : Pos} {kk : Nat} {scope : Scope} {pos : Pos} {Q : Flow → Pt → Prop}
    (h : Run C A L (eval iter env) p fun xv p₁ => ∃ n P, IterOn C A L p₁ (.Tuple [.Name x px, .Name y py] kk tp) xv n P ∧ n ≤ sizeLine ∧
      (∀ Cc i v h' G' k', i < n → P i v h' → GLe p₁.G G' → p₁.k ≤ k' → ∃ T a b, v = .ref T ∧ (TupAt p₁.G T [a, b] ∨ h'.IsTuple T #[a, b]) ∧
        Tst C A Cc ifs (compEnvC scope cl Cc env) (sel i) ⟨G', [(x, some a), (y, some b)], p₁.N, k'⟩ fun p₄ => sel i = true → Elt C A Cc elt (compEnvC scope cl Cc env) R i p₄) ∧
      (∀ D ys G' k', GLe p₁.G G' → p₁.k ≤ k' → Made R ((List.range n).filter sel) ys G' k' → Run C A L (bindName env z (.ref D)) ⟨G', p₁.m, (D, listC ys) :: p₁.N, k'⟩ fun _ p₃ => Q .next p₃))
    (hxy : x ≠ y := by decide)
    (hsw : swapsWith (.ListComp elt [⟨.Tuple [.Name x px, .Name y py] kk tp, iter, ifs, 0⟩] scope pos) (some (.Name z pz)) spos.line env = Pure.pure true := by rfl)
    (hclos : closureFor scope env = Pure.pure cl := by rfl) (hcell : ∀ y ∈ scope.names, y.2 ≠ .cell := by decide) (hnames : ∀ y ∈ scope.names, y.2 = .local → scope.names.lookup y.1 = some .local := by decide)
    (hx : (compEnvC scope cl 0 env).kindOf x = some .local := by rfl) (hy : (compEnvC scope cl 0 env).kindOf y = some .local := by rfl) (hk : (relabel scope env).kind = .function := by rfl)
    (hkind : scope.kind = .function := by rfl) (hs : ∀ x, foldedSetIterable iter env x = Pure.pure x := by intro _; rfl) :
    Run C A L (exec (.Assign [.Name z pz] (.ListComp elt [⟨.Tuple [.Name x px, .Name y py] kk tp, iter, ifs, 0⟩] scope pos) spos) env) p Q :=
  X_Assign_ListComp [(x, none), (y, none)] hclos hcell hnames (by simp) (by simp [hxy]) (h.mono fun xv p₁ ⟨n, P, it, hn, step, fin⟩ => ⟨n, P, CompI R sel p₁ (TwoM x y), it, hn, ⟨p₁.G, _, p₁.k, rfl, ⟨_, _, rfl⟩, GLe.refl _, Nat.le_refl _, Made.nil⟩,
    fun Cc i ys p₂ hi _ hI _ => comp_step2 hh hm hx hy hk step Cc i ys p₂ hi hI, fun D ys p₂ ⟨G', m', k', e, _, hG, hk', hM⟩ _ => by subst e; exact fin D ys G' k' hG hk' hM⟩) hsw hkind hs
end
end Mine

open PySem PySem.Calls PyProof.Rows
set_option Elab.async false
set_option linter.unusedVariables false
set_option maxRecDepth 100000
namespace Mine

def tx (l : List Nat) : Str := ⟨l.toArray⟩
def one (c : Nat) : Str := ⟨#[c]⟩
theorem tx_len (l : List Nat) : (tx l).length = l.length := by simp [tx, Str.length]
theorem tx_list (l : List Nat) : (tx l).cps.toList = l := by simp [tx]
theorem tx_of (x : Str) : tx x.cps.toList = x := by cases x; simp [tx]
theorem one_inj {a b : Nat} : one a = one b ↔ a = b := by simp [one]
theorem one_len (c : Nat) : (one c).length = 1 := rfl
theorem tx_append (a b : List Nat) : tx a ++ tx b = tx (a ++ b) := Str.ext' (by simp [Str.cps_append, tx])

/-! one sign's text for another -/
def rp (c : Nat) (z : List Nat) (l : List Nat) : List Nat := l.flatMap fun k => if k = c then z else [k]
theorem rp_append (c : Nat) (z a b : List Nat) : rp c z (a ++ b) = rp c z a ++ rp c z b := by simp [rp]
theorem rp_free (c : Nat) (z : List Nat) : ∀ l : List Nat, c ∉ l → rp c z l = l
  | [], _ => rfl
  | k :: r, h => by
    have h1 : ¬ k = c := fun e => h (e ▸ List.mem_cons_self ..)
    have ih := rp_free c z r fun m => h (List.mem_cons_of_mem _ m)
    simp only [rp, List.flatMap_cons] at ih ⊢
    rw [ih, if_neg h1]; rfl
theorem rp_one (c : Nat) (z : List Nat) : rp c z [c] = z := by simp [rp]
theorem rp_join (c : Nat) (z : List Nat) : ∀ parts : List Str, (∀ p ∈ parts, c ∉ p.cps.toList) → rp c z (Str.join (one c) parts).cps.toList = (Str.join (tx z) parts).cps.toList
  | [], _ => rfl
  | [p], h => rp_free c z _ (h p (List.mem_singleton.mpr rfl))
  | p :: q :: r, h => by
    have ih := rp_join c z (q :: r) fun a ha => h a (List.mem_cons_of_mem _ ha)
    show rp c z (p ++ one c ++ Str.join (one c) (q :: r)).cps.toList = (p ++ tx z ++ Str.join (tx z) (q :: r)).cps.toList
    simp only [Str.cps_append, Array.toList_append]
    rw [rp_append, rp_append, ih, rp_free c z _ (h p (List.mem_cons_self ..)), tx_list]
    show p.cps.toList ++ rp c z [c] ++ _ = _
    rw [rp_one]
theorem replace_tx (x : List Nat) (c : Nat) (z : List Nat) : Txt.replace (tx x) (one c) (tx z) = tx (rp c z x) := by
  have h1 := StrLaws.replace_one (tx x) (tx z) c
  have h2 := rp_join c z (Txt.split (tx x) (one c)) fun p hp => StrLaws.split_free (tx x) c p hp
  have h3 : Str.join (one c) (Txt.split (tx x) (one c)) = tx x := StrLaws.join_split (tx x) (one c)
  rw [h3, tx_list] at h2
  show Txt.replace (tx x) ⟨#[c]⟩ (tx z) = _
  rw [h1, h2]
  exact (tx_of _).symm
theorem contains_tx (x : List Nat) (c : Nat) : Txt.contains (tx x) (one c) = decide (c ∈ x) := by
  have := StrLaws.found_one (tx x) c
  rw [tx_list] at this
  exact this

theorem join_ones : ∀ l : List (List Nat), Builtin.Str.glued ⟨#[]⟩ (l.map tx) = tx l.flatten := by
  intro l
  rw [StrLaws.glued_eq_join]
  have : ∀ l : List (List Nat), (Str.join ⟨#[]⟩ (l.map tx)).cps.toList = l.flatten := by
    intro l
    induction l with
    | nil => rfl
    | cons a r ih =>
      cases r with
      | nil => simp [Str.join, tx]
      | cons b r =>
        show (tx a ++ ⟨#[]⟩ ++ Str.join ⟨#[]⟩ ((b :: r).map tx)).cps.toList = _
        simp only [Str.cps_append, Array.toList_append, ih, tx_list]
        simp
  exact (tx_of _).symm.trans (by rw [this l])
theorem one_tx (c : Nat) : one c = tx [c] := rfl

/-! a table's way with a sign -/
abbrev Tab := List (Nat × List Nat)
def thru : Nat → Tab → List Nat
  | c, [] => [c]
  | c, q :: r => if q.1 = c then q.2.flatMap fun x => thru x r else thru c r
theorem thru_cons (c : Nat) (q : Nat × List Nat) (r : Tab) : thru c (q :: r) = if q.1 = c then q.2.flatMap (fun x => thru x r) else thru c r := by cases r <;> rfl
def repls (T : Tab) (l : List Nat) : List Nat := T.foldl (fun a q => rp q.1 q.2 a) l
theorem repls_thru : ∀ (T : Tab) (l : List Nat), repls T l = l.flatMap fun c => thru c T
  | [], l => by simp [repls, thru, List.flatMap_singleton']
  | q :: r, l => by
    show repls r (rp q.1 q.2 l) = _
    rw [repls_thru r, rp, List.flatMap_assoc]
    congr 1
    funext c
    rw [thru_cons]
    by_cases h : c = q.1
    · subst h; simp
    · rw [if_neg h, if_neg (fun e => h e.symm)]; simp
def wt (T : Tab) : Nat := T.foldr (fun q n => n * max 1 q.2.length) 1
theorem wt_pos : ∀ T : Tab, 1 ≤ wt T
  | [] => Nat.le_refl _
  | q :: r => by
    show 1 ≤ wt r * max 1 q.2.length
    exact Nat.le_trans (wt_pos r) (Nat.le_mul_of_pos_right _ (by omega))
theorem rp_len (c : Nat) (z : List Nat) : ∀ l : List Nat, (rp c z l).length ≤ l.length * max 1 z.length
  | [] => by simp [rp]
  | k :: r => by
    have ih := rp_len c z r
    simp only [rp, List.flatMap_cons, List.length_append, List.length_cons] at ih ⊢
    have : (if k = c then z else [k]).length ≤ max 1 z.length := by
      split
      · exact Nat.le_max_right ..
      · exact Nat.le_max_left ..
    rw [Nat.add_mul]; omega
theorem repls_len : ∀ (T : Tab) (l : List Nat), (repls T l).length ≤ l.length * wt T
  | [], l => by simp [repls, wt]
  | q :: r, l => by
    have h1 := repls_len r (rp q.1 q.2 l)
    have h2 := rp_len q.1 q.2 l
    show (repls r (rp q.1 q.2 l)).length ≤ l.length * (wt r * max 1 q.2.length)
    calc _ ≤ (rp q.1 q.2 l).length * wt r := h1
      _ ≤ (l.length * max 1 q.2.length) * wt r := Nat.mul_le_mul_right _ h2
      _ = l.length * (wt r * max 1 q.2.length) := by rw [Nat.mul_assoc, Nat.mul_comm (max 1 _)]
theorem wt_take : ∀ (T : Tab) (i : Nat), wt (T.take i) ≤ wt T
  | [], i => by simp
  | q :: r, 0 => wt_pos _
  | q :: r, i + 1 => by
    show wt (r.take i) * max 1 q.2.length ≤ wt r * max 1 q.2.length
    exact Nat.mul_le_mul_right _ (wt_take r i)

def kput : Tab → Nat → List Nat → Tab
  | [], c, y => [(c, y)]
  | q :: r, c, y => if q.1 = c then (c, y) :: r else q :: kput r c y
def kputs (T more : Tab) : Tab := more.foldl (fun t q => kput t q.1 q.2) T
theorem wt_kput : ∀ (T : Tab) (c : Nat) (y : List Nat), wt (kput T c y) ≤ wt T * max 1 y.length
  | [], c, y => by simp [kput, wt]
  | q :: r, c, y => by
    unfold kput
    split
    · show wt r * max 1 y.length ≤ wt r * max 1 q.2.length * max 1 y.length
      exact Nat.mul_le_mul_right _ (Nat.le_mul_of_pos_right _ (by omega))
    · show wt (kput r c y) * max 1 q.2.length ≤ wt r * max 1 q.2.length * max 1 y.length
      calc _ ≤ (wt r * max 1 y.length) * max 1 q.2.length := Nat.mul_le_mul_right _ (wt_kput r c y)
        _ = _ := by rw [Nat.mul_assoc, Nat.mul_comm (max 1 y.length), ← Nat.mul_assoc]
/-- the pops that a sign costs -/
def cost : Nat → Tab → Nat
  | c, [] => 1
  | c, q :: r => if q.1 = c then 1 + (q.2.map fun x => cost x r).sum else cost c r
def wu (T : Tab) : Nat := T.foldr (fun q n => n * (1 + q.2.length)) 1
theorem wu_pos : ∀ T : Tab, 1 ≤ wu T
  | [] => Nat.le_refl _
  | q :: r => by
    show 1 ≤ wu r * (1 + q.2.length)
    exact Nat.le_trans (wu_pos r) (Nat.le_mul_of_pos_right _ (by omega))
theorem sum_le {f : Nat → Nat} {n : Nat} : ∀ l : List Nat, (∀ x, f x ≤ n) → (l.map f).sum ≤ l.length * n
  | [], _ => by simp
  | x :: r, h => by
    have := sum_le r h
    have := h x
    simp only [List.map_cons, List.sum_cons, List.length_cons, Nat.add_mul]; omega
theorem cost_le : ∀ (T : Tab) (c : Nat), cost c T ≤ wu T
  | [], c => Nat.le_refl _
  | q :: r, c => by
    unfold cost
    show _ ≤ wu r * (1 + q.2.length)
    split
    · have := sum_le (f := fun x => cost x r) q.2 (cost_le r)
      have := wu_pos r
      rw [Nat.mul_add, Nat.mul_one, Nat.mul_comm (wu r)]; omega
    · exact Nat.le_trans (cost_le r c) (Nat.le_mul_of_pos_right _ (by omega))
theorem cost_pos : ∀ (T : Tab) (c : Nat), 1 ≤ cost c T
  | [], c => Nat.le_refl _
  | q :: r, c => by
    unfold cost
    split
    · omega
    · exact cost_pos r c
theorem wu_kput : ∀ (T : Tab) (c : Nat) (y : List Nat), wu (kput T c y) ≤ wu T * (1 + y.length)
  | [], c, y => by simp [kput, wu]
  | q :: r, c, y => by
    unfold kput
    split
    · show wu r * (1 + y.length) ≤ wu r * (1 + q.2.length) * (1 + y.length)
      exact Nat.mul_le_mul_right _ (Nat.le_mul_of_pos_right _ (by omega))
    · show wu (kput r c y) * (1 + q.2.length) ≤ wu r * (1 + q.2.length) * (1 + y.length)
      calc _ ≤ (wu r * (1 + y.length)) * (1 + q.2.length) := Nat.mul_le_mul_right _ (wu_kput r c y)
        _ = _ := by rw [Nat.mul_assoc, Nat.mul_comm (1 + y.length), ← Nat.mul_assoc]
theorem kput_len (T : Tab) (c : Nat) (y : List Nat) : (kput T c y).length ≤ T.length + 1 := by
  induction T with
  | nil => exact Nat.le_refl _
  | cons q r ih => unfold kput; split <;> simp <;> omega
theorem kput_keys : ∀ (T : Tab) (c : Nat) (y : List Nat), (kput T c y).map (·.1) = if c ∈ T.map (·.1) then T.map (·.1) else T.map (·.1) ++ [c]
  | [], c, y => rfl
  | q :: r, c, y => by
    have ih := kput_keys r c y
    unfold kput
    by_cases h : q.1 = c
    · subst h; simp
    · rw [if_neg h]
      have : ¬ c = q.1 := fun e => h e.symm
      simp only [List.map_cons, ih, List.mem_cons]
      by_cases h2 : c ∈ r.map (·.1) <;> simp [this, h2]
def kget : Tab → Nat → Option (List Nat)
  | [], _ => none
  | q :: r, c => if q.1 = c then some q.2 else kget r c
theorem kget_none {T : Tab} {c : Nat} : kget T c = none ↔ c ∉ T.map (·.1) := by
  induction T with
  | nil => simp [kget]
  | cons q r ih =>
    unfold kget
    by_cases h : q.1 = c
    · simp [h]
    · rw [if_neg h, ih]
      have : ¬ c = q.1 := fun e => h e.symm
      simp [this]

/-- own entries laid over a table: in their places, and the rest behind -/
def over (T own : Tab) : Tab := T.map (fun q => (q.1, (kget own q.1).getD q.2)) ++ own.filter fun q => decide (q.1 ∉ T.map (·.1))
theorem kput_none {T : Tab} {c : Nat} {y : List Nat} : c ∉ T.map (·.1) → kput T c y = T ++ [(c, y)] := by
  induction T with
  | nil => exact fun _ => rfl
  | cons q r ih =>
    intro h
    have h1 : ¬ q.1 = c := fun e => h (by simp [e])
    unfold kput
    rw [if_neg h1, ih (fun m => h (by simp at m ⊢; exact .inr m))]; rfl
theorem kput_some {T : Tab} {c : Nat} {y : List Nat} : (T.map (·.1)).Nodup → c ∈ T.map (·.1) → kput T c y = T.map fun q => if q.1 = c then (c, y) else q := by
  induction T with
  | nil => intro _ h; simp at h
  | cons q r ih =>
    intro hn h
    have hn' := List.nodup_cons.mp hn
    unfold kput
    by_cases h1 : q.1 = c
    · rw [if_pos h1, List.map_cons, if_pos h1]
      congr 1
      have : ∀ x ∈ r, ¬ x.1 = c := fun x hx e => hn'.1 (by show q.1 ∈ _; rw [h1, ← e]; exact List.mem_map_of_mem (f := (·.1)) hx)
      exact ((List.map_congr_left fun x hx => by rw [if_neg (this x hx)]).trans (List.map_id' r)).symm
    · rw [if_neg h1, List.map_cons, if_neg h1]
      congr 1
      refine ih hn'.2 ?_
      rcases List.mem_cons.mp h with e | e
      · exact absurd e.symm h1
      · exact e
theorem kput_nodup {T : Tab} {c : Nat} {y : List Nat} (h : (T.map (·.1)).Nodup) : ((kput T c y).map (·.1)).Nodup := by
  rw [kput_keys]
  split
  · exact h
  · rename_i hn
    refine List.nodup_append.mpr ⟨h, by simp, fun a ha b hb e => ?_⟩
    rw [List.mem_singleton.mp hb] at e
    exact hn (e ▸ ha)
end Mine

open PySem PySem.Calls PyProof.Rows
set_option Elab.async false
set_option linter.unusedVariables false
set_option maxRecDepth 100000
namespace Mine

/-- a text, its token not below lo -/
def StrR (f : Nat → List Nat) (lo : Nat) (a : Nat) (y : Value) (G : Addr → Option Obj) (k : Nat) : Prop := ∃ u : Nat, y = .str (tx (f a)) u ∧ lo ≤ u ∧ u < k
theorem StrR.monoR {f : Nat → List Nat} {lo : Nat} : MonoR (StrR f lo) := fun a y G G' k k' ⟨u, e, h1, h2⟩ _ hk => ⟨u, e, h1, Nat.lt_of_lt_of_le h2 hk⟩
theorem Made.strs {f : Nat → List Nat} {lo : Nat} {G : Addr → Option Obj} {k : Nat} : ∀ {idx : List Nat} {ys : List Value}, Made (StrR f lo) idx ys G k → ∃ ls : List (Str × Tok), ys = strValues ls ∧ ls.map (·.1) = (idx.map f).map tx ∧ ∀ q ∈ ls, lo ≤ q.2 ∧ q.2 < k
  | [], [], _ => ⟨[], rfl, rfl, by simp⟩
  | [], _ :: _, h => by have := h.1; simp at this
  | _ :: _, [], h => by have := h.1; simp at this
  | a :: idx, y :: ys, h => by
    obtain ⟨u, e, h1, h2⟩ := h.2 0 a y rfl rfl
    obtain ⟨ls, e1, e2, e3⟩ := Made.strs (idx := idx) (ys := ys) ⟨by have := h.1; simpa using this, fun j b z hb hz => h.2 (j + 1) b z (by simpa using hb) (by simpa using hz)⟩
    refine ⟨(tx (f a), u) :: ls, by rw [e, e1]; rfl, by simp [e2], fun q hq => ?_⟩
    rcases List.mem_cons.mp hq with rfl | hq
    · exact ⟨h1, h2⟩
    · exact e3 q hq

section
variable {C : Cx} {A : Around} {L : Addr} {env : Env}
theorem sum_len : ∀ l : List (List Nat), ((l.map tx).map (·.length)).sum = l.flatten.length
  | [] => rfl
  | a :: r => by
    have := sum_len r
    rw [List.map_cons, List.map_cons, List.sum_cons, this, tx_len, List.flatten_cons, List.length_append]
theorem R_joinC {G : Addr → Option Obj} {m : List (Str × Option Value)} {N : List (Addr × Cell)} {k : Nat} {D : Addr} {ys : List Value} {idx : List Nat} {f : Nat → List Nat} {lo : Nat} {t : Tok} {Q : Value → Pt → Prop} (hM : Made (StrR f lo) idx ys G k) (hlo : lo ≤ k)
    (hz : (idx.flatMap f).length ≤ 16777216) (h : ∀ (u : Nat) G' k', GLe G G' → k ≤ k' → lo ≤ u → u < k' → Q (.str (tx (idx.flatMap f)) u) ⟨G', m, N, k'⟩) :
    Run C A L (PySem.call (.builtin "str.join") [.str ⟨#[]⟩ t, .ref D]) ⟨G, m, (D, listC ys) :: N, k⟩ Q := by
  obtain ⟨ls, rfl, e2, e3⟩ := hM.strs
  refine Run.freeze .head fun o G' hc hG hn => ?_
  subst hG
  have hg : Builtin.Str.glued ⟨#[]⟩ (ls.map (·.1)) = tx (idx.flatMap f) := by rw [e2, join_ones]; rfl
  have htot : ((ls.map (·.1)).toArray.foldl (fun a p => a + p.length + (⟨#[]⟩ : Str).length) 0) = (idx.flatMap f).length := by
    rw [StrLaws.joinTotal, e2, sum_len]
    show _ + _ * 0 = _
    simp [List.flatMap]
  refine R_join (l := ls) (.inl (ListAt.new hc)) ?_ ?_ ?_ ?_
  · show Builtin.Str.tooLong ((ls.map (·.1)).toArray.foldl (fun a p => a + p.length + (⟨#[]⟩ : Str).length) 0) = false
    rw [htot]
    exact decide_eq_false (by rw [sizeLine_eq]; omega)
  · rw [hg, tx_len, sizeLine_eq]; omega
  · intro q hq
    subst hq
    have : q.1 = tx (idx.flatMap f) := by
      rw [← hg]; rfl
    rw [this]
    obtain ⟨h1, h2⟩ := e3 q (List.mem_singleton.mpr rfl)
    exact h q.2 _ _ (GLe.add hn) (Nat.le_refl _) h1 h2
  · intro _ tk htk
    rw [hg]
    have htk' : k ≤ tk := htk
    exact h tk _ _ (GLe.add hn) (Nat.le_succ_of_le htk') (Nat.le_trans hlo htk') (Nat.lt_succ_self _)
end
end Mine

open PySem PySem.Calls PyProof.Rows
set_option Elab.async false
set_option linter.unusedVariables false
set_option maxRecDepth 100000
namespace Mine
namespace One

def fdOf (i : Nat) (dV : Value) (pm cd : Value) : FuncData :=
  match PySem.Challenge.pw_dn0038_01.main.body[i]? with
  | some (.FunctionDef name args body dl ret tp scope ts b pos) => { docDef name args body scope pm cd .none with defaults := dV }
  | _ => docDef "" ⟨[], [], none, [], [], none, []⟩ [] ⟨.function, [], false, false, []⟩ pm cd .none

/-- the module's functions as a run of the top leaves them -/
structure FnAt (B : Heap) (a : Addr) (fd : FuncData) : Prop where
  obj : ∃ o, B.get? a = some o ∧ o.data = .func fd
  code : B.CodeRec fd.code fd.qualname

abbrev pmL : Value := .str "law_dn0038_01" 215
abbrev pmS : Value := .str "cpy313.xml.sax.saxutils" 187
def gl : List (Str × Value) := [("dict_replace_saxutils", .ref 21), ("escape", .ref 30), ("quoteattr", .ref 39), ("_law_sign", .ref 46), ("_law_table", .ref 51), ("_law_through", .ref 56), ("law", .ref 61)]
def bl : List (Str × Value) := [("range", .type "range"), ("len", .builtin "len"), ("chr", .builtin "chr"), ("list", .type "list")]

structure Cx1 (C : Cx) where
  base : Base C gl bl
  nb : NoneBooked C.B
  hsm : ∃ o, C.B.get? 3 = some o
  f21 : FnAt C.B 21 (fdOf 1 .none pmS (.ref 20))
  f30 : FnAt C.B 30 (fdOf 2 (.ref 23) pmS (.ref 29))
  f39 : FnAt C.B 39 (fdOf 3 (.ref 32) pmS (.ref 38))
  f46 : FnAt C.B 46 (fdOf 5 .none pmL (.ref 45))
  f51 : FnAt C.B 51 (fdOf 6 .none pmL (.ref 50))
  f56 : FnAt C.B 56 (fdOf 7 .none pmL (.ref 55))
  f61 : FnAt C.B 61 (fdOf 8 .none pmL (.ref 60))
  t23 : ∃ o n, C.B.get? 23 = some o ∧ ∃ d, o.data = .seq #[d] n
  t32 : ∃ o n, C.B.get? 32 = some o ∧ ∃ d, o.data = .seq #[d] n

def signs : List Nat := "&;<>\"'\n\r\tamplt1#0".toList.map Char.toNat
/-- the sign that a number draws -/
def sgn (x : Int) : Nat := signs.getD (x.fmod 17).toNat 0

theorem sgn_at (x : Int) : (("&;<>\"'\n\r\tamplt1#0" : Str)).cps[(x.fmod 17).toNat]? = some (sgn x) := by
  have h0 : 0 ≤ x.fmod 17 := Int.fmod_nonneg_of_pos _ (by decide)
  have h1 : x.fmod 17 < 17 := Int.fmod_lt_of_pos _ (by decide)
  have key : ∀ n : Nat, n < 17 → (("&;<>\"'\n\r\tamplt1#0" : Str)).cps[n]? = some (signs.getD n 0) := by decide
  exact key _ (by omega)
variable {C : Cx} {A : Around}
theorem w_sign (H : Cx1 C) {d : Nat} (hr : Room A (d + 1)) {x : Int} {t : Tok} {G : Addr → Option Obj} {k : Nat} :
    PureCall C A 46 [.int x t] G k fun v G' k' => ∃ u, v = .str (one (sgn x)) u ∧ k ≤ u ∧ u < k' := by
  obtain ⟨⟨o, ho, hd⟩, hc⟩ := H.f46
  have h0 : 0 ≤ x.fmod 17 := Int.fmod_nonneg_of_pos _ (by decide)
  have h1 : x.fmod 17 < 17 := Int.fmod_lt_of_pos _ (by decide)
  refine PureCall.go [("x", some (.int x t))] H.base hr ho hd hc (.of_eq (binds := [("x", .int x t)]) rfl) fun L hR => ?_
  refine X_one (X_Return (E_Sb F.slot_str_getitem.lookup (E_str fun tk htk => E_BinOp (E_loc (v := .int x t) (.head _) (E_int fun t2 => B_mod (by decide) fun t3 => ⟨HasTy.str, ?_⟩)))))
  exact G_str h0 (by omega) (sgn_at x) fun u hu => ⟨u, rfl, by have e1 : tk + 1 ≤ u := hu; have e2 : k ≤ tk := htk; omega, Nat.lt_succ_self _⟩

/-- what a number lays: a sign, and the text to stand for it -/
def entX (x : Int) : Nat × List Nat := (sgn x, (List.range ((x.fdiv 17).fmod 3).toNat).map fun k => sgn (((x.fdiv 17).fdiv 3).fdiv (17 ^ k)))
def tbl (ns : List Int) : Tab := ns.foldl (fun T x => kput T (entX x).1 (entX x).2) []
/-- a dict's entries, below a token -/
inductive Ents (k : Nat) : List Ent → Tab → Prop
  | nil : Ents k [] []
  | cons {c : Nat} {y : List Nat} {t u : Nat} {es : List Ent} {T : Tab} : 0 < t → t < k → 0 < u → u < k → t ≠ u → Ents k es T → Ents k ((one c, t, .str (tx y) u) :: es) ((c, y) :: T)
theorem Ents.mono {k k' : Nat} {es : List Ent} {T : Tab} (h : Ents k es T) (hk : k ≤ k') : Ents k' es T := by
  induction h with
  | nil => exact .nil
  | cons a b c d e _ ih => exact .cons a (Nat.lt_of_lt_of_le b hk) c (Nat.lt_of_lt_of_le d hk) e ih
theorem Ents.length {k : Nat} {es : List Ent} {T : Tab} (h : Ents k es T) : es.length = T.length := by
  induction h with
  | nil => rfl
  | cons _ _ _ _ _ _ ih => simp [ih]
theorem Ents.put {k k' : Nat} {es : List Ent} {T : Tab} {c : Nat} {y : List Nat} {t u : Nat} (h : Ents k es T) (hk0 : 0 < k) (hk : k ≤ k') (h1 : 0 < t) (h2 : t < k') (h3 : k ≤ u) (h4 : u < k') (h5 : t ≠ u) : Ents k' (dput es (one c) t (.str (tx y) u)) (kput T c y) := by
  induction h with
  | nil => exact .cons h1 h2 (Nat.lt_of_lt_of_le hk0 h3) h4 h5 .nil
  | @cons c' y' t' u' es T a b cc d e hr ih =>
    unfold dput kput
    by_cases hc : c' = c
    · subst hc
      simp only [if_true]
      exact .cons a (by omega) (by omega) h4 (by omega) (hr.mono hk)
    · have : ¬ one c' = one c := fun e => hc (one_inj.mp e)
      simp only [if_neg hc, if_neg this]
      exact .cons a (by omega) cc (by omega) e ih
theorem tbl_succ {ns : List Int} {i : Nat} (h : i < ns.length) : tbl (ns.take (i + 1)) = kput (tbl (ns.take i)) (entX ns[i]).1 (entX ns[i]).2 := by
  rw [List.take_succ_eq_append_getElem h]; unfold tbl; rw [List.foldl_append]; rfl
theorem tbl_take_len (ns : List Int) : ∀ i, i ≤ ns.length → (tbl (ns.take i)).length ≤ i
  | 0, _ => Nat.le_refl _
  | i + 1, h => by
    rw [tbl_succ h]
    exact Nat.le_trans (kput_len ..) (Nat.succ_le_succ (tbl_take_len ns i (Nat.le_of_succ_le h)))
theorem filt (l : List Nat) : l.filter (fun _ => true) = l := List.filter_eq_self.mpr fun _ _ => rfl
theorem fm1 (f : Nat → Nat) : ∀ l : List Nat, (l.flatMap fun a => [f a]) = l.map f
  | [] => rfl
  | a :: r => by rw [List.flatMap_cons, fm1 f r]; rfl
def IntsAt (vs : List Value) (ns : List Int) : Prop := vs.length = ns.length ∧ ∀ (i : Nat) (n : Int), ns[i]? = some n → ∃ t, vs[i]? = some (Value.int n t)

set_option maxHeartbeats 2000000 in
theorem ne_sys (H : Cx1 C) {a : Addr} (h : Fresh C a) : (a == sysModules) = false := by
  obtain ⟨o, ho⟩ := H.hsm
  have : 3 < a := h 3 o ho
  refine beq_eq_false_iff_ne.mpr fun e => ?_
  rw [e] at this
  exact absurd this (by decide)
theorem w_table (H : Cx1 C) {d : Nat} (hr : Room A (d + 3)) {l : Addr} {vs : List Value} {ns : List Int} {G : Addr → Option Obj} {k : Nat} (h0k : 0 < k) (hl : ListAt G l vs) (hv : IntsAt vs ns) (hz : ns.length ≤ 63) :
    PureCall C A 51 [.ref l] G k fun v G' k' => ∃ dd es, v = .ref dd ∧ DictG C.w G' dd es ∧ Ents k' es (tbl ns) := by
  obtain ⟨⟨o, ho, hd⟩, hc⟩ := H.f51
  refine PureCall.goC [("numbers", some (.ref l)), ("table", none), ("x", none)] H.base hr ho hd hc (.of_eq (binds := [("numbers", .ref l)]) rfl) fun L hR => ?_
  show Run C _ L _ ⟨G, _, [(L + 1, cellC none)], k⟩ _
  refine X_cons (X_Assign (E_Dict0 fun dd hdB => storeLoc (.tail .head) ?_))
  refine X_cons (X_For (fun i p => ∃ G' k' es ox oc, p = ⟨G', [("numbers", some (.ref l)), ("table", some (.ref dd)), ("x", ox)], [(dd, dictC C.w es), (L + 1, cellC oc)], k'⟩ ∧ GLe G G' ∧ k ≤ k' ∧ Ents k' es (tbl (ns.take i)))
    (E_loc (v := .ref l) (.head _) ⟨vs.length, _, IterOn.list hR.hd hl, ⟨G, k, [], none, none, rfl, GLe.refl _, Nat.le_refl _, .nil⟩, ?_, ?_⟩))
  · rintro i p₂ hi ⟨G', k', es, ox, oc, rfl, hG, hk, hE⟩ hG2
    refine AsgRun.name fun v ⟨_, hvx⟩ => ?_
    have hin : i < ns.length := hv.1 ▸ hi
    obtain ⟨tv, e1⟩ := hv.2 i ns[i] (by simp [hin])
    rw [hvx] at e1; cases e1
    refine storeLoc (.tail (.tail .head)) ?_
    refine X_cons (X_Assign (E_BinOp (E_loc (v := .int ns[i] tv) (.tail _ (.tail _ (.head _))) (E_int fun t2 => B_fdiv (by decide) (by decide) fun t3 => storeCell (.tail .head) rfl ?_))))
    refine X_one (X_AssignSub (E_meth F.slot_str_join F.plainAttrs_str F.type_str_join (E_str fun tk htk => ⟨HasT.str, E_items_cons ?_⟩)))
    replace htk : k' ≤ tk := htk
    dsimp only
    have hr0 : 0 ≤ (ns[i].fdiv 17).fmod 3 := Int.fmod_nonneg_of_pos _ (by decide)
    have hr1 : (ns[i].fdiv 17).fmod 3 < 3 := Int.fmod_lt_of_pos _ (by decide)
    refine E_Comp1 (R := StrR (fun a => [sgn (((ns[i].fdiv 17).fdiv 3).fdiv (17 ^ a))]) (tk + 1)) (fun _ => true) [("rest", L + 1)] StrR.monoR (E_callV (f := .type "range") (E_blt H.base (.head _)) (E_items_cons (E_BinOp (E_cell (c := L + 1) (.tail _ (.head _)) rfl
      (E_int fun t4 => B_mod (by decide) fun t5 => E_items_nil ?_)))))
    rw [show (ns[i].fdiv 17).fmod 3 = (((ns[i].fdiv 17).fmod 3).toNat : Int) from by omega]
    refine R_range fun r G₁ hG₁ hrg => ⟨((ns[i].fdiv 17).fmod 3).toNat, _, IterOn.range hR.hd hrg (by omega), by rw [sizeLine_eq]; omega, fun Cc j v G₂ k₂ hj ⟨_, t6, hv6⟩ hG₂ hk₂ => ?_, fun D ys G₂ k₂ hG₂ hk₂ hM => ?_⟩
    · subst hv6
      refine Tst.none fun _ => ?_
      obtain ⟨⟨os, hos, hds⟩, hcs⟩ := H.f46
      refine E_callF hos hds (E_glob H.base (.tail _ (.tail _ (.tail _ (.head _))))) (E_items_cons (E_BinOp (E_BinOp (E_cell (c := L + 1) (.tail _ (.head _)) rfl (E_int fun t7 => B_fdiv (by decide) (by decide) fun t8 =>
        E_BinOp (E_int fun t9 => E_loc (.head _) (B_pow (by omega) ?_ fun t10 => B_fdiv ?_ ?_ fun t11 => E_items_nil ?_)))))))
      · have : (Builtin.Int.intBits 17 : Int) = 5 := by decide
        rw [this]; omega
      · have : j = 0 ∨ j = 1 ∨ j = 2 := by omega
        rcases this with rfl | rfl | rfl <;> decide
      · have : j = 0 ∨ j = 1 ∨ j = 2 := by omega
        rcases this with rfl | rfl | rfl <;> decide
      · refine R_pure ((w_sign H (hR.less (e := d + 1) (by omega))).mono fun v G' k' hG' hk' ⟨u, hv, h1, h2⟩ => ⟨G', k', rfl, hG', hk', u, hv, ?_, h2⟩)
        have h3 : tk + 1 ≤ k₂ := hk₂
        exact Nat.le_trans h3 h1
    · have hk₂' : tk + 1 ≤ k₂ := hk₂
      rw [filt] at hM
      refine E_items_nil (R_joinC hM hk₂' ?_ fun u G₃ k₃ hG₃ hk₃ hu hu' => ?_)
      · rw [fm1, List.length_map, List.length_range]; omega
      rw [fm1]
      refine E_loc (v := .ref dd) (.tail _ (.head _)) ?_
      obtain ⟨⟨os, hos, hds⟩, hcs⟩ := H.f46
      refine E_callF hos hds (E_glob H.base (.tail _ (.tail _ (.tail _ (.head _))))) (E_items_cons (E_loc (v := .int ns[i] tv) (.tail _ (.tail _ (.head _))) (E_items_nil ?_)))
      refine R_pure ((w_sign H (hR.less (e := d + 1) (by omega))).mono fun v G₄ k₄ hG₄ hk₄ ⟨w, hv, h1, h2⟩ => ?_)
      subst hv
      refine S_dict .head ?_ ?_
      · rw [hE.length, sizeLine_eq]
        have := tbl_take_len ns i (Nat.le_of_lt hin)
        omega
      replace h1 : k₃ ≤ w := h1
      refine ⟨G₄, k₄, _, _, _, rfl, hG.trans (GLe.trans hG₁ (GLe.trans hG₂ (GLe.trans hG₃ hG₄))), ?_, ?_⟩
      · have : k₃ ≤ k₄ := hk₄
        omega
      · rw [tbl_succ hin]
        have : k₃ ≤ k₄ := hk₄
        exact hE.put (Nat.lt_of_lt_of_le h0k hk) (by omega) (by omega) h2 (by omega) (by omega) (by omega)
  · rintro p₂ ⟨G', k', es, ox, oc, rfl, hG, hk, hE⟩ hG2
    refine X_nil ?_
    refine Run.freeze .head fun od G₂ hc hGe hn => X_one (X_Return (E_loc (v := .ref dd) (.tail _ (.head _)) ?_))
    subst hGe
    refine ⟨dd, es, rfl, ⟨ne_sys H hdB, od, addG_self, hc⟩, ?_⟩
    rw [hv.1, List.take_length] at hE
    exact hE
end One
end Mine

open PySem PySem.Calls PyProof.Rows
set_option Elab.async false
set_option linter.unusedVariables false
set_option maxRecDepth 100000
namespace Mine

section
variable {C : Cx} {A : Around} {L : Addr} {p : Pt} {env : Env}
theorem R_replaceT {x z : List Nat} {c : Nat} {t : Tok} {u v : Nat} {Y Z : Str} {Q : Value → Pt → Prop} (hnb : NoneBooked C.B) (hu : 0 < u) (hv : 0 < v) (huv : u ≠ v) (hb : x.length + (x.length + 1) * z.length ≤ 16777216) (hY : Y = one c) (hZ : Z = tx z) (h : ∀ tk, Q (.str (tx (rp c z x)) tk) p) :
    Run C A L (PySem.call (.builtin "str.replace") [.str (tx x) t, .str Y u, .str Z v]) p Q := by
  subst hY hZ
  refine R_replace hnb (Nat.ne_of_gt hu) (Nat.ne_of_gt hv) huv (by rw [tx_len, tx_len]; exact hb) fun tk => ?_
  rw [replace_tx]; exact h tk
theorem R_mod_t {F F' : Str} (hF : F = F') {x y : List Nat} {t u : Tok} {Q : Value → Pt → Prop} (G : Str → Str) (hG : G (tx x) = tx y) (hy : x.length ≤ 6000000) (hm : ∀ (t u : Tok) (z : PySem.Str), z.length ≤ 6000000 → Meets (Builtin.«str.__mod__» ⟨[.str F' t, .str z u], []⟩) (fun _ R s => ∀ t' k, R (.ok (.ret (.str (G z) t'))) { s with toks := k }))
    (h : ∀ tk, Q (.str (tx y) tk) p) : Run C A L (binaryOp .Mod (.str F t) (.str (tx x) u)) p Q := by
  subst hF
  exact .of fun s S T => binaryOp_meets (T := "str") (op := .Mod) (typeIs_str s _ t) (typeIs_str s _ u) PySem.F.fills_str_mod PySem.F.slot_str_mod PySem.F.entry_str_mod (PySem.F.args_str_mod_2 _ _) (hm t u (tx x) (by rw [tx_len]; exact hy)) fun t' k => ⟨(fun e => nomatch e), by
    rw [hG]; exact Post.same S (h t')⟩
end

namespace One
theorem Ents.get {k : Nat} {es : List Ent} {T : Tab} (h : Ents k es T) : ∀ {i : Nat} {q : Ent}, es[i]? = some q → ∃ c y, ∃ t u : Nat, q = (one c, t, .str (tx y) u) ∧ T[i]? = some (c, y) ∧ 0 < t ∧ 0 < u ∧ t ≠ u := by
  induction h with
  | nil => intro i q e; simp at e
  | @cons c y t u es T a b cc d e _ ih =>
    intro i q hq
    cases i with
    | zero => simp at hq; subst hq; exact ⟨c, y, t, u, rfl, rfl, a, cc, e⟩
    | succ i => exact ih (by simpa using hq)
theorem repls_succ {T : Tab} {i c : Nat} {y x : List Nat} (h : T[i]? = some (c, y)) : repls (T.take (i + 1)) x = rp c y (repls (T.take i) x) := by
  simp only [repls, List.take_add_one, h, Option.toList, List.foldl_append, List.foldl_cons, List.foldl_nil]

variable {C : Cx} {A : Around}
theorem w_dict (H : Cx1 C) {d : Nat} (hr : Room A (d + 1)) {x : List Nat} {t : Tok} {dd : Addr} {es : List Ent} {T : Tab} {G : Addr → Option Obj} {k : Nat} (hd : DictG C.w G dd es) (hE : Ents k es T) (hz : x.length * wt T ≤ 2000000) (h5 : ∀ q ∈ T, q.2.length ≤ 6) :
    PureCall C A 21 [.str (tx x) t, .ref dd] G k fun v G' k' => ∃ u, v = .str (tx (repls T x)) u := by
  obtain ⟨⟨o, ho, hdd⟩, hc⟩ := H.f21
  refine PureCall.go [("s", some (.str (tx x) t)), ("d", some (.ref dd)), ("key", none), ("value", none)] H.base hr ho hdd hc (.of_eq (binds := [("s", .str (tx x) t), ("d", .ref dd)]) rfl) fun L hR => ?_
  refine X_cons (X_For (fun i p => ∃ G' k' u o1 o2, p = ⟨G', [("s", some (.str (tx (repls (T.take i) x)) u)), ("d", some (.ref dd)), ("key", o1), ("value", o2)], [], k'⟩ ∧ GLe G G')
    (E_meth F.slot_dict_items F.plainAttrs_dict F.type_dict_items (E_loc (v := .ref dd) (.tail _ (.head _)) ⟨HasT.dict hd, E_items_nil (R_items hd fun v G₁ hG₁ hv => ⟨es.length, _, IterOn.items hR.hd hv (hd.mono hG₁), ⟨G₁, k, t, none, none, rfl, hG₁⟩, ?_, ?_⟩)⟩)))
  · rintro i p₂ hi ⟨G', k', u, o1, o2, rfl, hG⟩ hG2
    refine AsgRun.pair hR.hd fun v h' ⟨Tu, q, e, hq, ht⟩ => ⟨Tu, _, _, e, .inr ht, ?_⟩
    obtain ⟨c, y, t1, u1, rfl, hT, ht0, hu0, hne⟩ := hE.get hq
    refine storeLoc (.tail (.tail .head)) (storeLoc (.tail (.tail (.tail .head))) ?_)
    refine X_one (X_Assign (E_meth F.slot_str_replace F.plainAttrs_str F.type_str_replace (E_loc (v := .str (tx (repls (T.take i) x)) u) (.head _) ⟨HasT.str, E_items_cons (E_loc (v := .str (one c) t1) (.tail _ (.tail _ (.head _)))
      (E_items_cons (E_loc (v := .str (tx y) u1) (.tail _ (.tail _ (.tail _ (.head _)))) (E_items_nil (R_replaceT H.nb ht0 hu0 hne ?_ rfl rfl fun tk => storeLoc .head ?_)))))⟩)))
    · have h1 := repls_len (T.take i) x
      have h2 : x.length * wt (T.take i) ≤ x.length * wt T := Nat.mul_le_mul_left _ (wt_take T i)
      have h3 : y.length ≤ 6 := h5 (c, y) (List.mem_of_getElem? hT)
      have h4 : (repls (T.take i) x).length ≤ 2000000 := by omega
      have h6 : ((repls (T.take i) x).length + 1) * y.length ≤ 2000001 * 6 := Nat.mul_le_mul (by omega) h3
      omega
    · exact ⟨G', k', tk, _, _, by rw [repls_succ hT], hG⟩
  · rintro p₂ ⟨G', k', u, o1, o2, rfl, hG⟩ hG2
    refine X_nil (X_one (X_Return (E_loc (v := .str (tx (repls (T.take es.length) x)) u) (.head _) ⟨u, ?_⟩)))
    rw [hE.length, List.take_length]; rfl
end One
end Mine

open PySem PySem.Calls PyProof.Rows
set_option Elab.async false
set_option linter.unusedVariables false
set_option maxRecDepth 100000
namespace Mine
namespace One
theorem fmt_d : ∃ G : Str → Str, (∀ (t u : Tok) (z : Str), z.length ≤ 6000000 → Meets (Builtin.«str.__mod__» ⟨[.str ⟨#[34, 37, 115, 34]⟩ t, .str z u], []⟩) (fun _ R s => ∀ t' k, R (.ok (.ret (.str (G z) t'))) { s with toks := k })) ∧ ∀ x : List Nat, G (tx x) = tx (34 :: (x ++ [34])) := by
  refine ⟨?G, ?a, ?b⟩
  case a => kpc_run_s
  case b =>
    intro x
    show tx [34] ++ tx x ++ tx [34] = _
    rw [tx_append, tx_append]; simp
theorem fmt_s : ∃ G : Str → Str, (∀ (t u : Tok) (z : Str), z.length ≤ 6000000 → Meets (Builtin.«str.__mod__» ⟨[.str ⟨#[39, 37, 115, 39]⟩ t, .str z u], []⟩) (fun _ R s => ∀ t' k, R (.ok (.ret (.str (G z) t'))) { s with toks := k })) ∧ ∀ x : List Nat, G (tx x) = tx (39 :: (x ++ [39])) := by
  refine ⟨?G, ?a, ?b⟩
  case a => kpc_run_s
  case b =>
    intro x
    show tx [39] ++ tx x ++ tx [39] = _
    rw [tx_append, tx_append]; simp

end One
end Mine

open PySem PySem.Calls PyProof.Rows
set_option Elab.async false
set_option linter.unusedVariables false
set_option maxRecDepth 100000
namespace Mine
namespace One
def amp : List Nat := [38, 97, 109, 112, 59]
def lts : List Nat := [38, 108, 116, 59]
def gts : List Nat := [38, 103, 116, 59]
def esc3 (x : List Nat) : List Nat := rp 60 lts (rp 62 gts (rp 38 amp x))
def firstOf (c : Nat) : List Nat := if c = 38 then amp else if c = 60 then lts else if c = 62 then gts else [c]
theorem esc3_eq (x : List Nat) : esc3 x = x.flatMap firstOf := by
  unfold esc3 rp
  rw [List.flatMap_assoc, List.flatMap_assoc]
  congr 1
  funext c
  unfold firstOf
  by_cases h1 : c = 38
  · subst h1; rfl
  · by_cases h2 : c = 60
    · subst h2; rfl
    · by_cases h3 : c = 62
      · subst h3; rfl
      · simp [h1, h2, h3]
theorem firstOf_len (c : Nat) : (firstOf c).length ≤ 5 := by
  unfold firstOf
  split
  · decide
  · split
    · decide
    · split
      · decide
      · simp
theorem flatMap_len {f : Nat → List Nat} {n : Nat} (h : ∀ c, (f c).length ≤ n) : ∀ l : List Nat, (l.flatMap f).length ≤ l.length * n
  | [] => by simp
  | c :: r => by
    have := flatMap_len h r
    have := h c
    simp only [List.flatMap_cons, List.length_append, List.length_cons, Nat.add_mul]; omega
theorem esc3_len (x : List Nat) : (esc3 x).length ≤ x.length * 5 := by rw [esc3_eq]; exact flatMap_len firstOf_len x
theorem rp_len5 (c : Nat) (z : List Nat) (l : List Nat) {n m : Nat} (h : l.length ≤ n) (hz : z.length ≤ 5) (hm : n * 5 = m) : (rp c z l).length ≤ m := by
  have h1 := rp_len c z l
  have h2 : l.length * max 1 z.length ≤ n * 5 := Nat.mul_le_mul h (by omega)
  omega

variable {C : Cx} {A : Around}
theorem w_escape (H : Cx1 C) {d : Nat} (hr : Room A (d + 2)) {x : List Nat} {t : Tok} {dd : Addr} {es : List Ent} {T : Tab} {G : Addr → Option Obj} {k : Nat} (hk0 : 0 < k) (hd : DictG C.w G dd es) (hE : Ents k es T) (hx : x.length ≤ 63) (hz : x.length * 5 * wt T ≤ 2000000) (h5 : ∀ q ∈ T, q.2.length ≤ 6) (hn : T.length ≤ 100) :
    PureCall C A 30 [.str (tx x) t, .ref dd] G k fun v G' k' => ∃ u, v = .str (tx (repls T (esc3 x))) u := by
  obtain ⟨⟨o, ho, hdd⟩, hc⟩ := H.f30
  obtain ⟨o23, n23, e23, dv, d23⟩ := H.t23
  refine PureCall.go [("data", some (.str (tx x) t)), ("entities", some (.ref dd))] H.base hr ho hdd hc (.of_defaults (binds := [("data", .str (tx x) t), ("entities", .ref dd)]) (T := 23) rfl e23 d23 rfl rfl) fun L hR => ?_
  refine X_cons (X_Assign (E_meth F.slot_str_replace F.plainAttrs_str F.type_str_replace (E_loc (v := .str (tx x) t) (.head _) ⟨HasT.str, E_items_cons (E_str fun t1 h1 => E_items_cons (E_str fun t2 h2 => E_items_nil ?_))⟩)))
  replace h1 : k ≤ t1 := h1
  replace h2 : t1 + 1 ≤ t2 := h2
  refine R_replaceT (z := amp) (c := 38) H.nb (by omega) (by omega) (by omega) ?_ rfl rfl fun t3 => storeLoc .head ?_
  · have : amp.length = 5 := rfl
    rw [this]; omega
  dsimp only
  refine X_cons (X_Assign (E_meth F.slot_str_replace F.plainAttrs_str F.type_str_replace (E_loc (v := .str (tx (rp 38 amp x)) t3) (.head _) ⟨HasT.str, E_items_cons (E_str fun t4 h4 => E_items_cons (E_str fun t5 h5 => E_items_nil ?_))⟩)))
  replace h4 : t2 + 1 ≤ t4 := h4
  replace h5' : t4 + 1 ≤ t5 := h5
  have l1 : (rp 38 amp x).length ≤ 315 := rp_len5 38 amp x hx (by decide) rfl
  refine R_replaceT (z := gts) (c := 62) H.nb (by omega) (by omega) (by omega) ?_ rfl rfl fun t6 => storeLoc .head ?_
  · have : gts.length = 4 := rfl
    rw [this]; omega
  dsimp only
  refine X_cons (X_Assign (E_meth F.slot_str_replace F.plainAttrs_str F.type_str_replace (E_loc (v := .str (tx (rp 62 gts (rp 38 amp x))) t6) (.head _) ⟨HasT.str, E_items_cons (E_str fun t7 h7 => E_items_cons (E_str fun t8 h8 => E_items_nil ?_))⟩)))
  replace h7 : t5 + 1 ≤ t7 := h7
  replace h8 : t7 + 1 ≤ t8 := h8
  have l2 : (rp 62 gts (rp 38 amp x)).length ≤ 1575 := rp_len5 62 gts _ l1 (by decide) rfl
  refine R_replaceT (z := lts) (c := 60) H.nb (by omega) (by omega) (by omega) ?_ rfl rfl fun t9 => storeLoc .head ?_
  · have : lts.length = 4 := rfl
    rw [this]; omega
  dsimp only
  show Run C _ L _ ⟨G, [("data", some (.str (tx (esc3 x)) t9)), ("entities", some (.ref dd))], [], t8 + 1⟩ _
  refine X_cons (X_If (T_val (E_loc (v := .ref dd) (.tail _ (.head _)) (truthy_dict hd ?_ ?_))))
  · rw [hE.length, sizeLine_eq]; omega
  cases hes : es with
  | nil =>
    have hT : T = [] := by
      have := hE.length
      rw [hes] at this
      exact List.length_eq_zero_iff.mp this.symm
    show Run C _ L _ _ _
    refine X_nil (X_one (X_Return (E_loc (v := .str (tx (esc3 x)) t9) (.head _) ⟨t9, ?_⟩)))
    rw [hT]; rfl
  | cons q r =>
    show Run C _ L _ _ _
    obtain ⟨⟨os, hos, hds⟩, hcs⟩ := H.f21
    refine X_one (X_Assign (E_callF hos hds (E_glob H.base (.head _)) (E_items_cons (E_loc (v := .str (tx (esc3 x)) t9) (.head _) (E_items_cons (E_loc (v := .ref dd) (.tail _ (.head _)) (E_items_nil ?_)))))))
    refine R_pure ((w_dict H (hR.less (e := d + 1) (by omega)) hd (hE.mono (show k ≤ t8 + 1 by omega)) ?_ (by assumption)).mono fun v G' k' hG' hk' ⟨u, hv⟩ => ?_)
    · exact Nat.le_trans (Nat.mul_le_mul_right _ (esc3_len x)) hz
    subst hv
    refine storeLoc .head (X_one (X_Return (E_loc (v := .str (tx (repls T (esc3 x))) u) (.head _) ⟨u, rfl⟩)))
end One
end Mine

open PySem PySem.Calls PyProof.Rows
set_option Elab.async false
set_option linter.unusedVariables false
set_option maxRecDepth 100000
namespace Mine
section
variable {C : Cx} {A : Around} {L : Addr} {p : Pt} {env : Env}
theorem R_thenAt {e : Expr} {pos : Pos} {Q : Value → Pt → Prop} (h : Run C A L (eval e env) p Q) : Run C A L (do let x ← eval e env; PySem.standAt pos; Pure.pure x) p Q := .bind (h.mono fun v p₁ h₁ => .bind (.standAt (.pure h₁)))
theorem E_DictStar3 {a1 a2 a3 b0 b1 b2 b3 : Expr} {pos : Pos} {Q : Value → Pt → Prop}
    (h : ∀ d, Fresh C d → Run C A L (eval b0 env) { p with N := (d, dictC C.w []) :: p.N } fun mv p₁ => Run C A L (mergeMapping d mv false) p₁ fun _ p₂ =>
      Run C A L (subDict [(eval a1 env, do let x ← eval b1 env; PySem.standAt pos; Pure.pure x), (eval a2 env, do let x ← eval b2 env; PySem.standAt pos; Pure.pure x), (eval a3 env, do let x ← eval b3 env; PySem.standAt pos; Pure.pure x)]) p₂ fun sub p₃ =>
      Run C A L (mergeMapping d (.ref sub) false) p₃ fun _ p₄ => Q (.ref d) p₄) : Run C A L (eval (.Dict [none, some a1, some a2, some a3] [b0, b1, b2, b3] pos) env) p Q :=
  Run.of_eq (arm_eval_Dict ..) (.bind (.standAt (R_dictStar3 fun d hd => R_thenAt (h d hd))))
theorem E_Dict3 {a1 a2 a3 b1 b2 b3 : Expr} {pos : Pos} {Q : Value → Pt → Prop}
    (h : Run C A L (subDict [(eval a1 env, do let x ← eval b1 env; PySem.standAt pos; Pure.pure x), (eval a2 env, do let x ← eval b2 env; PySem.standAt pos; Pure.pure x), (eval a3 env, do let x ← eval b3 env; PySem.standAt pos; Pure.pure x)]) p fun d p₁ => Q (.ref d) p₁) :
    Run C A L (eval (.Dict [some a1, some a2, some a3] [b1, b2, b3] pos) env) p Q := E_DictP rfl (by simp) (by simp) h

theorem dput_none {es : List Ent} {k : Str} {t : Tok} {v : Value} : k ∉ es.map (·.1) → dput es k t v = es ++ [(k, t, v)] := by
  induction es with
  | nil => exact fun _ => rfl
  | cons q r ih =>
    intro h
    have h1 : ¬ q.1 = k := fun e => h (by simp [e])
    unfold dput
    rw [if_neg h1, ih (fun m => h (by simp at m ⊢; exact .inr m))]; rfl
theorem dputs_app : ∀ (more acc : List Ent), ((acc ++ more).map (·.1)).Nodup → dputs acc more = acc ++ more
  | [], acc, _ => by simp [dputs]
  | q :: r, acc, h => by
    show dputs (dput acc q.1 q.2.1 q.2.2) r = _
    have hn : q.1 ∉ acc.map (·.1) := fun hm => by
      simp only [List.map_append, List.map_cons] at h
      exact (List.nodup_append.mp h).2.2 q.1 hm q.1 List.mem_cons_self rfl
    rw [dput_none hn, dputs_app r _ (by simpa using h)]
    simp
theorem dputs_nil {es : List Ent} (h : (es.map (·.1)).Nodup) : dputs [] es = es := dputs_app es [] h

/-- three pairs of texts -/
theorem R_three {x1 x2 x3 y1 y2 y3 : Str} {n1 n2 n3 n4 n5 n6 : Nat} {q1 q2 q3 q4 q5 q6 pos : Pos} {Q : Addr → Pt → Prop} (hn : nd [x1, x2, x3] = true)
    (h : ∀ d (t1 u1 t2 u2 t3 u3 : Nat), Fresh C d → d ∉ dom p.N → p.k ≤ t1 → t1 < u1 → u1 < t2 → t2 < u2 → u2 < t3 → t3 < u3 →
      Q d ⟨p.G, p.m, (d, dictC C.w [(x1, t1, .str y1 u1), (x2, t2, .str y2 u2), (x3, t3, .str y3 u3)]) :: p.N, u3 + 1⟩) :
    Run C A L (subDict [(eval (.Constant (.str x1) n1 q1) env, do let x ← eval (.Constant (.str y1) n2 q2) env; PySem.standAt pos; Pure.pure x), (eval (.Constant (.str x2) n3 q3) env, do let x ← eval (.Constant (.str y2) n4 q4) env; PySem.standAt pos; Pure.pure x),
      (eval (.Constant (.str x3) n5 q5) env, do let x ← eval (.Constant (.str y3) n6 q6) env; PySem.standAt pos; Pure.pure x)]) p Q := by
  refine R_subDict (by simp) fun d hd hdN => ?_
  refine R_pairs_cons (E_str fun t1 h1 => R_thenAt (E_str fun u1 h2 => R_pairs_cons (E_str fun t2 h3 => R_thenAt (E_str fun u2 h4 => R_pairs_cons (E_str fun t3 h5 => R_thenAt (E_str fun u3 h6 => R_pairs_nil ?_))))))
  refine ⟨[(x1, t1, .str y1 u1), (x2, t2, .str y2 u2), (x3, t3, .str y3 u3)], _, rfl, by simp, ?_, h d t1 u1 t2 u2 t3 u3 hd hdN h1 h2 h3 h4 h5 h6⟩
  rw [dputs_nil (by simpa using nodup_of hn)]
  exact .head
end
end Mine

open PySem PySem.Calls PyProof.Rows
set_option Elab.async false
set_option linter.unusedVariables false
set_option maxRecDepth 100000
namespace Mine
namespace One
def nlT : List Nat := [38, 35, 49, 48, 59]
def crT : List Nat := [38, 35, 49, 51, 59]
def tbT : List Nat := [38, 35, 57, 59]
def own3 : Tab := [(10, nlT), (13, crT), (9, tbT)]
def quot : List Nat := [38, 113, 117, 111, 116, 59]
def qt (y : List Nat) : List Nat := if 34 ∈ y then (if 39 ∈ y then 34 :: (rp 34 quot y ++ [34]) else 39 :: (y ++ [39])) else 34 :: (y ++ [34])
theorem kput_mem {T : Tab} {c : Nat} {y : List Nat} {n : Nat} (h : ∀ q ∈ T, q.2.length ≤ n) (hy : y.length ≤ n) : ∀ q ∈ kput T c y, q.2.length ≤ n := by
  induction T with
  | nil => intro q hq; rw [List.mem_singleton.mp hq]; exact hy
  | cons a r ih =>
    intro q hq
    unfold kput at hq
    split at hq
    · rcases List.mem_cons.mp hq with e | hq
      · rw [e]; exact hy
      · exact h q (List.mem_cons_of_mem _ hq)
    · rcases List.mem_cons.mp hq with e | hq
      · rw [e]; exact h a List.mem_cons_self
      · exact ih (fun q hq => h q (List.mem_cons_of_mem _ hq)) q hq
theorem own_mem {T : Tab} (h : ∀ q ∈ T, q.2.length ≤ 6) : ∀ q ∈ kputs T own3, q.2.length ≤ 6 := kput_mem (kput_mem (kput_mem h (by decide)) (by decide)) (by decide)
theorem own_len (T : Tab) : (kputs T own3).length ≤ T.length + 3 := by
  have h1 := kput_len T 10 nlT
  have h2 := kput_len (kput T 10 nlT) 13 crT
  have h3 := kput_len (kput (kput T 10 nlT) 13 crT) 9 tbT
  show (kput (kput (kput T 10 nlT) 13 crT) 9 tbT).length ≤ _
  omega

variable {C : Cx} {A : Around}
theorem w_quote (H : Cx1 C) {d : Nat} (hr : Room A (d + 3)) {x : List Nat} {t : Tok} {dd : Addr} {es : List Ent} {T : Tab} {G : Addr → Option Obj} {k : Nat} (hk0 : 0 < k) (hd : DictG C.w G dd es) (hE : Ents k es T) (hx : x.length ≤ 63) (hz : x.length * 5 * wt (kputs T own3) ≤ 950000) (h6 : ∀ q ∈ T, q.2.length ≤ 6) (hn : T.length ≤ 10) :
    PureCall C A 39 [.str (tx x) t, .ref dd] G k fun v G' k' => ∃ u, v = .str (tx (qt (repls (kputs T own3) (esc3 x)))) u := by
  obtain ⟨⟨o, ho, hdd⟩, hc⟩ := H.f39
  obtain ⟨o32, n32, e32, dv, d32⟩ := H.t32
  refine PureCall.go [("data", some (.str (tx x) t)), ("entities", some (.ref dd))] H.base hr ho hdd hc (.of_defaults (binds := [("data", .str (tx x) t), ("entities", .ref dd)]) (T := 32) rfl e32 d32 rfl rfl) fun L hR => ?_
  have hes : (es.map (·.1)).Nodup := by obtain ⟨_, o, _, ep, _, _, hnn⟩ := hd; exact hnn
  have hel : es.length ≤ 10 := by rw [hE.length]; exact hn
  refine X_cons (X_Assign (E_DictStar3 fun d1 hd1 => E_loc (v := .ref dd) (.tail _ (.head _)) ?_))
  refine R_merge (es := []) (N' := [(d1, dictC C.w es)]) (.inl hd) ?_ (by rw [sizeLine_eq]; simp; omega) ?_
  · rw [dputs_nil hes]; exact .head
  refine R_three rfl fun d2 t1 u1 t2 u2 t3 u3 hd2 hd2N h1 h2 h3 h4 h5 h6' => ?_
  replace h1 : k ≤ t1 := h1
  have hne : d2 ≠ d1 := fun e => hd2N (by rw [e]; exact List.mem_cons_self)
  refine R_merge (es := es) (.inr ⟨.head _, ne_sys H hd2, hne⟩) (.tail .head) (by rw [sizeLine_eq]; simp; omega) ?_
  refine Run.freeze (.tail .head) fun od G₂ hcd hGe hGn => ?_
  subst hGe
  have hD : DictG C.w (addG G d1 od) d1 (dputs es [("\n", t1, .str "&#10;" u1), ("\r", t2, .str "&#13;" u2), ("\t", t3, .str "&#9;" u3)]) := ⟨ne_sys H hd1, od, addG_self, hcd⟩
  have hE2 : Ents (u3 + 1) (dputs es [("\n", t1, .str "&#10;" u1), ("\r", t2, .str "&#13;" u2), ("\t", t3, .str "&#9;" u3)]) (kputs T own3) :=
    ((hE.put (k' := u1 + 1) (c := 10) (y := nlT) (t := t1) (u := u1) hk0 (by omega) (by omega) (by omega) (by omega) (by omega) (by omega)).put (k' := u2 + 1) (c := 13) (y := crT) (t := t2) (u := u2) (by omega) (by omega) (by omega) (by omega) (by omega) (by omega) (by omega)).put
      (k' := u3 + 1) (c := 9) (y := tbT) (t := t3) (u := u3) (by omega) (by omega) (by omega) (by omega) (by omega) (by omega) (by omega)
  generalize dputs es [("\n", t1, Value.str "&#10;" u1), ("\r", t2, Value.str "&#13;" u2), ("\t", t3, Value.str "&#9;" u3)] = es2 at hD hE2
  refine storeLoc (.tail .head) ?_
  dsimp only
  obtain ⟨⟨os, hos, hds⟩, hcs⟩ := H.f30
  refine X_cons (X_Assign (E_callF hos hds (E_glob H.base (.tail _ (.head _))) (E_items_cons (E_loc (v := .str (tx x) t) (.head _) (E_items_cons (E_loc (v := .ref d1) (.tail _ (.head _)) (E_items_nil ?_)))))))
  refine R_pure ((w_escape H (hR.less (e := d + 2) (by omega)) (by omega) hD hE2 hx (Nat.le_trans hz (by decide)) (own_mem h6) (Nat.le_trans (own_len T) (by omega))).mono fun v G' k' hG' hk' ⟨u, hv⟩ => ?_)
  subst hv
  have hY : (repls (kputs T own3) (esc3 x)).length ≤ 950000 := Nat.le_trans (repls_len _ _) (Nat.le_trans (Nat.mul_le_mul_right _ (esc3_len x)) hz)
  generalize repls (kputs T own3) (esc3 x) = Y at hY ⊢
  refine storeLoc .head ?_
  dsimp only
  refine X_cons (X_If (T_Cmp (E_str fun t4 h7 => E_loc (v := .str (tx Y) u) (.head _) (C_inS (truthy_bool ?_)))))
  rw [show ("\"" : Str) = one 34 from rfl, contains_tx]
  dsimp only
  by_cases hq : 34 ∈ Y
  · rw [decide_eq_true hq, if_pos rfl]
    refine X_one (X_If (T_Cmp (E_str fun t5 h8 => E_loc (v := .str (tx Y) u) (.head _) (C_inS (truthy_bool ?_)))))
    rw [show ("'" : Str) = one 39 from rfl, contains_tx]
    dsimp only
    by_cases ha : 39 ∈ Y
    · rw [decide_eq_true ha, if_pos rfl]
      obtain ⟨W, hW, hW2⟩ := fmt_d
      refine X_one (X_Assign (E_BinOp (E_str fun t6 h9 => E_meth F.slot_str_replace F.plainAttrs_str F.type_str_replace (E_loc (v := .str (tx Y) u) (.head _) ⟨HasT.str, E_items_cons (E_str fun t7 h10 => E_items_cons (E_str fun t8 h11 => E_items_nil ?_))⟩))))
      replace h10 : t6 + 1 ≤ t7 := h10
      replace h11 : t7 + 1 ≤ t8 := h11
      refine R_replaceT (z := quot) (c := 34) H.nb (by omega) (by omega) (by omega) ?_ rfl rfl fun t9 => ?_
      · have : quot.length = 6 := rfl
        rw [this]; omega
      have hl := rp_len 34 quot Y
      have hm : max 1 quot.length = 6 := rfl
      rw [hm] at hl
      refine R_mod_t (y := 34 :: (rp 34 quot Y ++ [34])) (by decide) W (hW2 _) (by omega) hW fun t10 => storeLoc .head ?_
      refine X_one (X_Return (E_loc (v := .str (tx (34 :: (rp 34 quot Y ++ [34]))) t10) (.head _) ⟨t10, ?_⟩))
      unfold qt; rw [if_pos hq, if_pos ha]; rfl
    · rw [decide_eq_false ha, if_neg Bool.false_ne_true]
      obtain ⟨W, hW, hW2⟩ := fmt_s
      refine X_one (X_Assign (E_BinOp (E_str fun t6 h9 => E_loc (v := .str (tx Y) u) (.head _) ?_)))
      refine R_mod_t (y := 39 :: (Y ++ [39])) (by decide) W (hW2 _) (by omega) hW fun t10 => storeLoc .head ?_
      refine X_one (X_Return (E_loc (v := .str (tx (39 :: (Y ++ [39]))) t10) (.head _) ⟨t10, ?_⟩))
      unfold qt; rw [if_pos hq, if_neg ha]; rfl
  · rw [decide_eq_false hq, if_neg Bool.false_ne_true]
    obtain ⟨W, hW, hW2⟩ := fmt_d
    refine X_one (X_Assign (E_BinOp (E_str fun t6 h9 => E_loc (v := .str (tx Y) u) (.head _) ?_)))
    refine R_mod_t (y := 34 :: (Y ++ [34])) (by decide) W (hW2 _) (by omega) hW fun t10 => storeLoc .head ?_
    refine X_one (X_Return (E_loc (v := .str (tx (34 :: (Y ++ [34]))) t10) (.head _) ⟨t10, ?_⟩))
    unfold qt; rw [if_neg hq]; rfl
end One
end Mine

open PySem PySem.Calls PyProof.Rows
set_option Elab.async false
set_option linter.unusedVariables false
set_option maxRecDepth 100000
namespace Mine
section
variable {C : Cx} {A : Around} {L : Addr} {p : Pt} {env : Env}
theorem U_neg {a : Int} {t : Tok} {Q : Value → Pt → Prop} (h : ∀ tk, Q (.int (-a) tk) p) : Run C A L (unaryOp .USub (.int a t)) p Q := .of fun s S T => PySem.P.neg_int (Post.same S (h _))
theorem R_evalNone {Q : Value → Pt → Prop} (h : Q .none p) : Run C A L (evalPart none env) p Q := Run.pure h
theorem R_evalSome {e : Expr} {Q : Value → Pt → Prop} (h : Run C A L (eval e env) p Q) : Run C A L (evalPart (some e) env) p Q := h
/-- x[::-1] -/
theorem E_rev {e : Expr} {n : Nat} {p1 p2 p3 p4 : Pos} {x : List Nat} {Q : Value → Pt → Prop} (hz : x.length ≤ 16777216)
    (h : Run C A L (eval e env) p fun v p₁ => ∃ t, v = .str (tx x) t ∧ ∀ tk G', GLe p₁.G G' → Q (.str (tx x.reverse) tk) { p₁ with G := G' }) : Run C A L (eval (.Subscript e (.Slice none none (some (.UnaryOp .USub (.Constant (.int 1) n p1) p2)) p3) p4) env) p Q := by
  refine E_Sb F.slot_str_getitem.lookup (h.mono fun v p₁ ⟨t, e, hq⟩ => ?_)
  subst e
  refine E_Slice (R_evalNone (R_evalNone (R_evalSome (E_Unary (E_int fun t1 => U_neg fun t2 => fun a G' hG hs => ⟨HasTy.str, ?_⟩)))))
  refine G_strRev hs (by rw [tx_len, sizeLine_eq]; exact hz) fun tk => ?_
  rw [tx_list]
  exact hq tk G' hG
end

/-- signs and where they stand in the table's row -/
def WorkAt (G : Addr → Option Obj) (ws : List Value) (st : List (Nat × Nat)) : Prop :=
  ws.length = st.length ∧ ∀ (i : Nat) (q : Nat × Nat), st[i]? = some q → ∃ b t u, ws[i]? = some (Value.ref b) ∧ TupAt G b [Value.str (one q.1) t, Value.int q.2 u]
theorem WorkAt.mono {G G' : Addr → Option Obj} {ws : List Value} {st : List (Nat × Nat)} (h : WorkAt G ws st) (x : GLe G G') : WorkAt G' ws st := ⟨h.1, fun i q hq => let ⟨b, t, u, e, ht⟩ := h.2 i q hq; ⟨b, t, u, e, ht.mono x⟩⟩
theorem WorkAt.append {G : Addr → Option Obj} {ws ws' : List Value} {st st' : List (Nat × Nat)} (h : WorkAt G ws st) (h' : WorkAt G ws' st') : WorkAt G (ws ++ ws') (st ++ st') := by
  refine ⟨by simp [h.1, h'.1], fun i q hq => ?_⟩
  by_cases hi : i < st.length
  · rw [List.getElem?_append_left hi] at hq
    rw [List.getElem?_append_left (by rw [h.1]; exact hi)]
    exact h.2 i q hq
  · rw [List.getElem?_append_right (by omega)] at hq
    rw [List.getElem?_append_right (by rw [h.1]; omega), h.1]
    exact h'.2 _ q hq
theorem WorkAt.pop {G : Addr → Option Obj} {ws : List Value} {st : List (Nat × Nat)} {q : Nat × Nat} (h : WorkAt G ws (st ++ [q])) : ∃ ws' b t u, ws = ws' ++ [Value.ref b] ∧ WorkAt G ws' st ∧ TupAt G b [Value.str (one q.1) t, Value.int q.2 u] := by
  obtain ⟨b, t, u, e, ht⟩ := h.2 st.length q (by simp)
  have hl : ws.length = st.length + 1 := by rw [h.1]; simp
  have hd : ws = ws.take st.length ++ [Value.ref b] := by
    have h1 : ws.drop st.length = [Value.ref b] := by
      have h2 : ws[st.length] = Value.ref b := (List.getElem?_eq_some_iff.mp e).2
      rw [List.drop_eq_getElem_cons (by omega), h2, List.drop_eq_nil_iff.mpr (by omega)]
    calc ws = ws.take st.length ++ ws.drop st.length := (List.take_append_drop ..).symm
      _ = _ := by rw [h1]
  refine ⟨ws.take st.length, b, t, u, hd, ⟨by simp; omega, fun i r hr => ?_⟩, ht⟩
  have hi : i < st.length := (List.getElem?_eq_some_iff.mp hr).1
  obtain ⟨b', t', u', e', ht'⟩ := h.2 i r (by rw [List.getElem?_append_left hi]; exact hr)
  exact ⟨b', t', u', by rw [List.getElem?_take, if_pos hi]; exact e', ht'⟩
/-- a pair of a sign and a number -/
def PairR (f : Nat → Nat) (m : Int) (a : Nat) (y : Value) (G : Addr → Option Obj) (k : Nat) : Prop := ∃ b t u, y = Value.ref b ∧ TupAt G b [Value.str (one (f a)) t, Value.int m u]
theorem PairR.monoR {f : Nat → Nat} {m : Int} : MonoR (PairR f m) := fun a y G G' k k' ⟨b, t, u, e, ht⟩ hG _ => ⟨b, t, u, e, ht.mono hG⟩
theorem PairR.work {v : List Nat} {m : Nat} {G : Addr → Option Obj} {k : Nat} {ys : List Value} (h : Made (PairR (fun a => v[a]?.getD 0) m) (List.range v.length) ys G k) : WorkAt G ys (v.map fun c => (c, m)) := by
  refine ⟨by rw [h.1]; simp, fun i q hq => ?_⟩
  rw [List.getElem?_map] at hq
  cases hv : v[i]? with
  | none => rw [hv] at hq; cases hq
  | some c =>
    rw [hv] at hq; cases hq
    have hi : i < v.length := (List.getElem?_eq_some_iff.mp hv).1
    obtain ⟨y, hy⟩ : ∃ y, ys[i]? = some y := ⟨ys[i]'(by rw [h.1]; simpa using hi), by simp⟩
    obtain ⟨b, t, u, e, ht⟩ := h.2 i i y (by simp [hi]) hy
    subst e
    have : v[i]?.getD 0 = c := by rw [hv]; rfl
    dsimp only at ht
    rw [this] at ht
    exact ⟨b, t, u, hy, ht⟩

theorem thru_drop {T : Tab} {m : Nat} (h : m < T.length) (c : Nat) : thru c (T.drop m) = if T[m].1 = c then T[m].2.flatMap (fun x => thru x (T.drop (m + 1))) else thru c (T.drop (m + 1)) := by
  rw [List.drop_eq_getElem_cons h, thru_cons]
theorem cost_cons (c : Nat) (q : Nat × List Nat) (r : Tab) : cost c (q :: r) = if q.1 = c then 1 + (q.2.map fun x => cost x r).sum else cost c r := by cases r <;> rfl
theorem cost_drop {T : Tab} {m : Nat} (h : m < T.length) (c : Nat) : cost c (T.drop m) = if T[m].1 = c then 1 + (T[m].2.map fun x => cost x (T.drop (m + 1))).sum else cost c (T.drop (m + 1)) := by
  rw [List.drop_eq_getElem_cons h, cost_cons]
def load (T : Tab) (st : List (Nat × Nat)) : Nat := (st.map fun q => cost q.1 (T.drop q.2)).sum
def out (T : Tab) (st : List (Nat × Nat)) : List Nat := st.reverse.flatMap fun q => thru q.1 (T.drop q.2)
theorem load_len (T : Tab) : ∀ st : List (Nat × Nat), st.length ≤ load T st
  | [] => Nat.le_refl _
  | q :: r => by
    have := load_len T r
    have := cost_pos (T.drop q.2) q.1
    show r.length + 1 ≤ cost q.1 (T.drop q.2) + load T r
    omega
theorem load_append (T : Tab) (a b : List (Nat × Nat)) : load T (a ++ b) = load T a + load T b := by simp [load]
theorem out_append (T : Tab) (a b : List (Nat × Nat)) : out T (a ++ b) = out T b ++ out T a := by simp [out]
theorem out_rev (T : Tab) (v : List Nat) (m : Nat) : out T (v.reverse.map fun c => (c, m)) = v.flatMap fun x => thru x (T.drop m) := by
  unfold out
  rw [← List.map_reverse, List.reverse_reverse, List.flatMap_map]
theorem load_rev (T : Tab) (v : List Nat) (m : Nat) : load T (v.reverse.map fun c => (c, m)) = (v.map fun x => cost x (T.drop m)).sum := by
  unfold load
  rw [List.map_map]
  show (v.reverse.map (fun x => cost x (T.drop m))).sum = _
  rw [List.map_reverse, List.sum_reverse]
end Mine

open PySem PySem.Calls PyProof.Rows
set_option Elab.async false
set_option linter.unusedVariables false
set_option maxRecDepth 100000
namespace Mine
namespace One
variable {C : Cx} {A : Around}
def tabTx (T : Tab) : List (Str × Str) := T.map fun q => (one q.1, tx q.2)
theorem w_through (H : Cx1 C) {d : Nat} (hr : Room A (d + 3)) {x : List Nat} {t : Tok} {l : Addr} {vs : List Value} {T : Tab} {G : Addr → Option Obj} {k : Nat} (hl : ListG G l vs) (hv : PairsG G vs (tabTx T)) (hx : x.length ≤ 16777216)
    (hz : load T (x.reverse.map fun c => (c, 0)) ≤ 16000000) (hw : (x.flatMap fun c => thru c T).length ≤ 16000000) (hT : T.length ≤ 100) :
    PureCall C A 56 [.str (tx x) t, .ref l] G k fun v G' k' => ∃ u, v = .str (tx (x.flatMap fun c => thru c T)) u := by
  obtain ⟨⟨o, ho, hd⟩, hc⟩ := H.f56
  refine PureCall.goC [("text", some (.str (tx x) t)), ("steps", some (.ref l)), ("told", none), ("work", none), ("sign", none)] H.base hr ho hd hc (.of_eq (binds := [("text", .str (tx x) t), ("steps", .ref l)]) rfl) fun L hR => ?_
  show Run C _ L _ ⟨G, _, [(L + 1, cellC none)], k⟩ _
  have hvl : vs.length = T.length := by rw [hv.1]; simp [tabTx]
  refine X_cons (X_Assign (E_List (E_items_nil (newList_N (by simp) fun a => storeLoc (.tail (.tail .head)) ?_))))
  dsimp only
  refine X_cons (X_Comp1 (R := PairR (fun a => x.reverse[a]?.getD 0) ((0 : Nat) : Int)) (fun _ => true) [] PairR.monoR (E_rev hx (E_loc (v := .str (tx x) t) (.head _) ⟨t, rfl, fun tk G' hG => ?_⟩)))
  refine ⟨_, _, IterOn.str hR.hd, by rw [sizeLine_eq]; simpa [tx] using hx, fun Cc i v G₁ k₁ hi ⟨_, hs⟩ hG₁ hk₁ => Tst.none fun _ => ?_, fun D ys G₁ k₁ hG₁ hk₁ hM => storeLoc (.tail (.tail (.tail .head))) ?_⟩
  · obtain ⟨c, u, e1, rfl⟩ := hs
    refine E_Tuple (E_items_cons (E_loc (v := .str ⟨#[c]⟩ u) (.head _) (E_items_cons (E_int fun t1 => E_items_nil (newTuple_G (by simp [sizeLine_eq]) fun b G₂ hG₂ hn => ?_)))))
    subst hG₂
    refine ⟨_, _, rfl, GLe.add hn, Nat.le_refl _, b, u, t1, rfl, ?_⟩
    have : x.reverse[i]?.getD 0 = c := by
      have : (tx x.reverse).cps[i]? = x.reverse[i]? := by simp [tx]
      rw [this] at e1; rw [e1]; rfl
    show TupAt _ b [Value.str (one (x.reverse[i]?.getD 0)) u, _]
    rw [this]
    exact TupAt.new
  have hW : WorkAt G₁ ys (x.reverse.map fun c => (c, 0)) := by
    refine PairR.work (k := k₁) ?_
    rw [filt] at hM
    have e : (tx x.reverse).cps.size = x.reverse.length := by simp [tx]
    rw [e] at hM
    exact hM
  clear hM
  dsimp only
  have hGG : GLe G G₁ := GLe.trans hG hG₁
  refine X_cons (X_While (fun n p => ∃ G' kk ws ls st told os ok, p = ⟨G', [("text", some (.str (tx x) t)), ("steps", some (.ref l)), ("told", some (.ref a)), ("work", some (.ref D)), ("sign", os)], [(D, listC ws), (a, listC (strValues ls)), (L + 1, cellC ok)], kk⟩ ∧
      GLe G G' ∧ WorkAt G' ws st ∧ ls.map (·.1) = told.map one ∧ told ++ out T st = (x.flatMap fun c => thru c T) ∧ load T st = n ∧ n ≤ 16000000 ∧ (∀ q ∈ st, q.2 ≤ T.length)) (load T (x.reverse.map fun c => (c, 0))) ?_ ?_)
  · refine ⟨G₁, k₁, ys, [], _, [], none, none, rfl, hGG, hW, rfl, ?_, rfl, hz, fun q hq => ?_⟩
    · rw [out_rev]; rfl
    · obtain ⟨c, _, rfl⟩ := List.mem_map.mp hq; exact Nat.zero_le _
  · rintro n p₁ ⟨G', kk, ws, ls, st, told, os, ok, rfl, hG', hWs, hls, hout, rfl, hn, hst⟩
    refine T_Cmp (E_loc (v := .ref D) (.tail _ (.tail _ (.tail _ (.head _)))) (E_List (E_items_nil (newList_N (by simp) fun e => C_neL hR.u (.inr (.tail _ (.head _))) (.head _) (truthy_bool ?_)))))
    dsimp only
    have hll : ls.length = told.length := by have := congrArg List.length hls; simpa using this
    have hcc : st = [] ∨ ∃ st' q, st = st' ++ [q] := (List.eq_nil_or_concat st).imp id fun ⟨a, b, e⟩ => ⟨a, b, by rw [e, List.concat_eq_append]⟩
    rcases hcc with rfl | ⟨st', ⟨c, k0⟩, rfl⟩
    · have hws : ws = [] := List.length_eq_zero_iff.mp hWs.1
      subst hws
      rw [if_neg (by simp)]
      refine X_nil (X_one (X_Return (E_meth F.slot_str_join F.plainAttrs_str F.type_str_join (E_str fun tk htk => ⟨HasT.str, E_items_cons (E_loc (v := .ref a) (.tail _ (.tail _ (.head _))) (E_items_nil ?_))⟩))))
      have ho : told = (x.flatMap fun c => thru c T) := by simpa [out] using hout
      have hg : Builtin.Str.glued ⟨#[]⟩ (ls.map (·.1)) = tx (x.flatMap fun c => thru c T) := by
        rw [hls, ← ho, show told.map one = (told.map fun c => [c]).map tx from by rw [List.map_map]; rfl, join_ones]
        congr 1
        rw [← List.flatMap_def, List.flatMap_singleton']
      refine R_join (l := ls) (.inr (.tail _ (.tail _ (.head _)))) ?_ ?_ ?_ ?_
      · show Builtin.Str.tooLong ((ls.map (·.1)).toArray.foldl (fun a p => a + p.length + (⟨#[]⟩ : Str).length) 0) = false
        rw [StrLaws.joinTotal, hls, show told.map one = (told.map fun c => [c]).map tx from by rw [List.map_map]; rfl, sum_len, ← List.flatMap_def, List.flatMap_singleton', ho]
        exact decide_eq_false (by rw [sizeLine_eq]; show ¬ 16777216 < _ + _ * 0; omega)
      · show (Builtin.Str.glued ⟨#[]⟩ (ls.map (·.1))).length ≤ sizeLine
        rw [hg, tx_len, sizeLine_eq]; omega
      · intro q hq
        subst hq
        exact ⟨q.2, by rw [← hg]; rfl⟩
      · intro _ tk htk
        exact ⟨tk, by show Value.str (Builtin.Str.glued ⟨#[]⟩ (ls.map (·.1))) tk = _; rw [hg]⟩
    · obtain ⟨ws', b, t1, u1, rfl, hW', ht⟩ := hWs.pop
      rw [if_pos (by simp)]
      refine Run.freeze .head fun oe G₂ hce hGe hne => ?_
      have hG2 : GLe G G₂ := GLe.trans hG' (by subst hGe; exact GLe.add hne)
      have hG2' : GLe G' G₂ := by subst hGe; exact GLe.add hne
      clear hGe hce
      have hk0 : k0 ≤ T.length := hst (c, k0) (by simp)
      have hload : load T st' + cost c (T.drop k0) ≤ 16000000 := by
        rw [load_append] at hn
        have e : load T [(c, k0)] = cost c (T.drop k0) := by simp [load]
        rw [e] at hn; exact hn
      have hlen := load_len T st'
      refine X_cons (X_AssignT (E_meth F.slot_list_pop F.plainAttrs_list F.type_list_pop (E_loc (v := .ref D) (.tail _ (.tail _ (.tail _ (.head _)))) ⟨HasT.list (.inr (.head _)), E_items_nil (R_pop .head ?_ (AsgRun.pair hR.hd fun v h' hvb => ⟨b, _, _, hvb, .inl (ht.mono hG2'), storeLoc (.tail (.tail (.tail (.tail .head)))) (storeCell (.tail (.tail .head)) rfl ?_)⟩))⟩)))
      · rw [hW'.1, sizeLine_eq]; omega
      dsimp only
      refine X_cons (Run.mono (Q := fun f p => f = .next ∧ ∃ (m : Nat) (u : Tok), p = ⟨G₂, [("text", some (.str (tx x) t)), ("steps", some (.ref l)), ("told", some (.ref a)), ("work", some (.ref D)), ("sign", some (.str (one c) t1))],
          [(D, listC ws'), (a, listC (strValues ls)), (L + 1, cellC (some (.int m u)))], kk⟩ ∧ m ≤ T.length ∧ thru c (T.drop k0) = thru c (T.drop m) ∧ cost c (T.drop k0) = cost c (T.drop m) ∧ ∀ h : m < T.length, T[m].1 = c)
        (X_While (fun j p => ∃ (m : Nat) (u : Tok), p = ⟨G₂, [("text", some (.str (tx x) t)), ("steps", some (.ref l)), ("told", some (.ref a)), ("work", some (.ref D)), ("sign", some (.str (one c) t1))],
          [(D, listC ws'), (a, listC (strValues ls)), (L + 1, cellC (some (.int m u)))], kk⟩ ∧ m ≤ T.length ∧ thru c (T.drop k0) = thru c (T.drop m) ∧ cost c (T.drop k0) = cost c (T.drop m) ∧ j = T.length - m) (T.length - k0) ⟨k0, u1, rfl, hk0, rfl, rfl, rfl⟩ ?_) ?_)
      · rintro j p₂ ⟨m, u, rfl, hm, e1, e2, rfl⟩
        refine T_BoolOp (T_And_cons (T_Cmp (E_cell (c := L + 1) (.tail _ (.tail _ (.head _))) rfl (E_callV (f := .builtin "len") (E_blt H.base (.tail _ (.head _))) (E_items_cons (E_loc (v := .ref l) (.tail _ (.head _)) (E_items_nil (R_len_list (.inl (hl.mono hG2).at) (by rw [hvl]; omega) fun tk => C_ltI (truthy_bool ?_)))))))))
        by_cases hmT : m < T.length
        · rw [decide_eq_true (by rw [hvl]; omega), if_pos rfl]
          obtain ⟨a', t', u', e', ht'⟩ := hv.2 m (one T[m].1, tx T[m].2) (by simp [tabTx, hmT])
          refine T_And_cons (T_Cmp (E_Sb F.slot_tuple_getitem.lookup (E_Sb F.slot_list_getitem.lookup (E_loc (v := .ref l) (.tail _ (.head _)) (E_cell (c := L + 1) (.tail _ (.tail _ (.head _))) rfl ⟨HasTy.listG (hl.mono hG2), G_list (x := .ref a') (.inl (hl.mono hG2).at) (by omega) (by omega) (by simpa using e')
            (E_int fun tk2 => ⟨HasTy.tup (ht'.mono hG2), G_tup (x := .str (one T[m].1) t') (ht'.mono hG2) (by decide) (by decide) rfl (E_loc (v := .str (one c) t1) (.tail _ (.tail _ (.tail _ (.tail _ (.head _))))) (C_neS (truthy_bool ?_)))⟩)⟩)))))
          by_cases hcm : T[m].1 = c
          · rw [decide_eq_true (by rw [hcm])]
            exact X_nil ⟨rfl, m, u, rfl, hm, e1, e2, fun _ => hcm⟩
          · rw [decide_eq_false (fun e => hcm (one_inj.mp e))]
            refine T_And_nil ?_
            refine X_one (X_AugN (L_cell (c := L + 1) (.tail _ (.tail _ (.head _))) rfl (E_int fun tk3 => B_iadd fun tk4 => storeCell (.tail (.tail .head)) rfl ?_)))
            refine ⟨T.length - (m + 1), by omega, m + 1, tk4, rfl, hmT, ?_, ?_, rfl⟩
            · rw [e1, thru_drop hmT, if_neg hcm]
            · rw [e2, cost_drop hmT, if_neg hcm]
        · rw [decide_eq_false (by rw [hvl]; omega), if_neg Bool.false_ne_true]
          exact X_nil ⟨rfl, m, u, rfl, hm, e1, e2, fun h => absurd h hmT⟩
      · rintro f p₂ ⟨rfl, m, u, rfl, hm, e1, e2, hx2⟩
        show Run C _ L _ _ _
        refine X_one (X_If (T_Cmp (E_cell (c := L + 1) (.tail _ (.tail _ (.head _))) rfl (E_callV (f := .builtin "len") (E_blt H.base (.tail _ (.head _))) (E_items_cons (E_loc (v := .ref l) (.tail _ (.head _)) (E_items_nil (R_len_list (.inl (hl.mono hG2).at) (by rw [hvl]; omega) fun tk => C_eqI (truthy_bool ?_)))))))))
        by_cases hmT : m = T.length
        · rw [show ((m : Int) == (vs.length : Int)) = true from by rw [hvl, hmT]; simp, if_pos rfl]
          have hth : thru c (T.drop k0) = [c] := by rw [e1, hmT, List.drop_length]; rfl
          refine X_one (X_Expr (E_meth F.slot_list_append F.plainAttrs_list F.type_list_append (E_loc (v := .ref a) (.tail _ (.tail _ (.head _))) ⟨HasT.list (.inr (.tail _ (.head _))), E_items_cons (E_loc (v := .str (one c) t1) (.tail _ (.tail _ (.tail _ (.tail _ (.head _)))))
            (E_items_nil (R_append (.tail .head) ?_ ⟨(fun _ e => nomatch e), ?_⟩)))⟩)))
          · have h1 : (told ++ out T (st' ++ [(c, k0)])).length ≤ 16000000 := by rw [hout]; exact hw
            rw [List.length_append] at h1
            simp only [strValues, List.length_map]
            rw [sizeLine_eq]; omega
          · refine ⟨load T st', ?_, G₂, kk, ws', ls ++ [(one c, t1)], st', told ++ [c], some (.str (one c) t1), some (.int m u), ?_, hG2, hW'.mono hG2', ?_, ?_, rfl, by omega, fun q hq => hst q (List.mem_append_left _ hq)⟩
            · rw [load_append]
              have e : load T [(c, k0)] = cost c (T.drop k0) := by simp [load]
              have := cost_pos (T.drop k0) c
              rw [e]; omega
            · simp only [strValues, List.map_append, List.map_cons, List.map_nil]
            · rw [List.map_append, List.map_append, hls]; rfl
            · rw [← hout, out_append]
              have e : out T [(c, k0)] = [c] := by simp [out, hth]
              rw [e, List.append_assoc]
        · have hlt : m < T.length := by omega
          have hcm := hx2 hlt
          rw [show ((m : Int) == (vs.length : Int)) = false from by rw [hvl]; exact beq_eq_false_iff_ne.mpr (by omega), if_neg Bool.false_ne_true]
          obtain ⟨a', t', u', e', ht'⟩ := hv.2 m (one T[m].1, tx T[m].2) (by simp [tabTx, hlt])
          have hth : thru c (T.drop k0) = T[m].2.flatMap fun x => thru x (T.drop (m + 1)) := by rw [e1, thru_drop hlt, if_pos hcm]
          have hco : cost c (T.drop k0) = 1 + load T (T[m].2.reverse.map fun c => (c, m + 1)) := by rw [e2, cost_drop hlt, if_pos hcm, load_rev]
          have hvl2 := load_len T (T[m].2.reverse.map fun c => (c, m + 1))
          rw [List.length_map, List.length_reverse] at hvl2
          refine X_one (X_Expr (E_meth F.slot_list_extend F.plainAttrs_list F.type_list_extend (E_loc (v := .ref D) (.tail _ (.tail _ (.tail _ (.head _)))) ⟨HasT.list (.inr (.head _)), E_items_cons ?_⟩)))
          refine E_Comp1 (R := PairR (fun a => T[m].2.reverse[a]?.getD 0) ((m + 1 : Nat) : Int)) (fun _ => true) [("k", L + 1)] PairR.monoR (E_rev (x := T[m].2) (by omega) (E_Sb F.slot_tuple_getitem.lookup (E_Sb F.slot_list_getitem.lookup (E_loc (v := .ref l) (.tail _ (.head _)) (E_cell (c := L + 1) (.tail _ (.tail _ (.head _))) rfl
            ⟨HasTy.listG (hl.mono hG2), G_list (x := .ref a') (.inl (hl.mono hG2).at) (by omega) (by omega) (by simpa using e') (E_int fun tk2 => ⟨HasTy.tup (ht'.mono hG2), G_tup (x := .str (tx T[m].2) u') (ht'.mono hG2) (by decide) (by decide) rfl ⟨u', rfl, fun tk G₃ hG₃ => ?_⟩⟩)⟩)))))
          refine ⟨_, _, IterOn.str hR.hd, by rw [sizeLine_eq]; simp [tx]; omega, fun Cc i v G₄ k₄ hi ⟨_, hs⟩ hG₄ hk₄ => Tst.none fun _ => ?_, fun D2 ys G₄ k₄ hG₄ hk₄ hM => E_items_nil ?_⟩
          · obtain ⟨ci, u2, e3, rfl⟩ := hs
            refine E_Tuple (E_items_cons (E_loc (v := .str ⟨#[ci]⟩ u2) (.head _) (E_items_cons (E_BinOp (E_cell (c := L + 1) (.tail _ (.tail _ (.head _))) rfl (E_int fun t3 => B_add fun t4 => E_items_nil (newTuple_G (by simp [sizeLine_eq]) fun b2 G₅ hG₅ hn5 => ?_)))))))
            subst hG₅
            refine ⟨_, _, rfl, GLe.add hn5, Nat.le_refl _, b2, u2, t4, rfl, ?_⟩
            have : T[m].2.reverse[i]?.getD 0 = ci := by
              have : (tx T[m].2.reverse).cps[i]? = T[m].2.reverse[i]? := by simp [tx]
              rw [this] at e3; rw [e3]; rfl
            show TupAt _ b2 [Value.str (one (T[m].2.reverse[i]?.getD 0)) u2, _]
            rw [this]
            exact TupAt.new
          · have hW2 : WorkAt G₄ ys (T[m].2.reverse.map fun c => (c, m + 1)) := by
              refine PairR.work (k := k₄) ?_
              rw [filt] at hM
              have e : (tx T[m].2.reverse).cps.size = T[m].2.reverse.length := by simp [tx]
              rw [e] at hM
              exact hM
            refine Run.freeze .head fun od G₅ hcd hGe5 hne5 => ?_
            subst hGe5
            have hG5 : GLe G₂ (addG G₄ D2 od) := GLe.trans hG₃ (GLe.trans hG₄ (GLe.add hne5))
            refine R_extend .head (ListG.new hcd) ?_ ⟨(fun _ e => nomatch e), ?_⟩
            · rw [hW'.1, hW2.1, List.length_map, List.length_reverse, sizeLine_eq]; omega
            · refine ⟨load T st' + load T (T[m].2.reverse.map fun c => (c, m + 1)), ?_, _, k₄, ws' ++ ys, ls, st' ++ T[m].2.reverse.map (fun c => (c, m + 1)), told, _, _, rfl, GLe.trans hG2 hG5, (hW'.mono (GLe.trans hG2' hG5)).append (hW2.mono (GLe.add hne5)), hls, ?_, load_append .., ?_, fun q hq => ?_⟩
              · rw [load_append]
                have e : load T [(c, k0)] = cost c (T.drop k0) := by simp [load]
                rw [e]; omega
              · rw [← hout, out_append, out_append, out_rev]
                have e : out T [(c, k0)] = T[m].2.flatMap fun x => thru x (T.drop (m + 1)) := by simp [out, hth]
                rw [e]
              · omega
              · rcases List.mem_append.mp hq with hq | hq
                · exact hst q (List.mem_append_left _ hq)
                · obtain ⟨c', _, rfl⟩ := List.mem_map.mp hq
                  exact hlt
end One
end Mine

open PySem PySem.Calls PyProof.Rows
set_option Elab.async false
set_option linter.unusedVariables false
set_option maxRecDepth 100000
namespace Mine
namespace One

theorem kget_map {own T : Tab} {c : Nat} {y : List Nat} : kget ((c, y) :: own) c = some y := by simp [kget]
theorem over_cons {T r : Tab} {c : Nat} {y : List Nat} (hT : (T.map (·.1)).Nodup) (hc : c ∉ r.map (·.1)) : over (kput T c y) r = over T ((c, y) :: r) := by
  have hn : kget r c = none := kget_none.mpr hc
  by_cases h : c ∈ T.map (·.1)
  · have hk : (kput T c y).map (·.1) = T.map (·.1) := by rw [kput_keys, if_pos h]
    unfold over
    rw [hk, List.filter_cons_of_neg (by simpa using h)]
    congr 1
    rw [kput_some hT h, List.map_map]
    refine List.map_congr_left fun q _ => ?_
    show ((if q.1 = c then (c, y) else q).1, (kget r (if q.1 = c then (c, y) else q).1).getD (if q.1 = c then (c, y) else q).2) = (q.1, (if c = q.1 then some y else kget r q.1).getD q.2)
    by_cases hq : q.1 = c
    · rw [if_pos hq, if_pos hq.symm, hn, hq]; rfl
    · rw [if_neg hq, if_neg (fun e => hq e.symm)]
  · rw [kput_none h]
    unfold over
    rw [List.map_append, List.filter_cons_of_pos (by simpa using h), List.append_assoc]
    congr 1
    · refine List.map_congr_left fun q hq => ?_
      have : ¬ c = q.1 := fun e => h (e ▸ List.mem_map_of_mem (f := (·.1)) hq)
      show (q.1, (kget r q.1).getD q.2) = (q.1, (if c = q.1 then some y else kget r q.1).getD q.2)
      rw [if_neg this]
    · show (c, (kget r c).getD y) :: _ = (c, y) :: _
      rw [hn]
      congr 1
      refine List.filter_congr fun q hq => ?_
      have : ¬ q.1 = c := fun e => hc (e ▸ List.mem_map_of_mem (f := (·.1)) hq)
      simp [this]
theorem over_nil (T : Tab) : over T [] = T := by
  unfold over
  simp [kget]
theorem kputs_over : ∀ (own T : Tab), (T.map (·.1)).Nodup → (own.map (·.1)).Nodup → kputs T own = over T own
  | [], T, _, _ => (over_nil T).symm
  | (c, y) :: r, T, hT, ho => by
    have ho' := List.nodup_cons.mp ho
    rw [← over_cons hT ho'.1]
    exact kputs_over r _ (kput_nodup hT) ho'.2
theorem tbl_nodup (ns : List Int) : ((tbl ns).map (·.1)).Nodup := by
  have : ∀ (l : List Int) (T : Tab), (T.map (·.1)).Nodup → ((l.foldl (fun T x => kput T (entX x).1 (entX x).2) T).map (·.1)).Nodup := by
    intro l
    induction l with
    | nil => exact fun T h => h
    | cons x r ih => exact fun T h => ih _ (kput_nodup h)
  exact this ns [] List.nodup_nil
theorem ent_len (x : Int) : (entX x).2.length ≤ 2 := by
  have h1 : (x.fdiv 17).fmod 3 < 3 := Int.fmod_lt_of_pos _ (by decide)
  simp only [entX, List.length_map, List.length_range]; omega
theorem tbl_all (ns : List Int) : ∀ q ∈ tbl ns, q.2.length ≤ 2 := by
  have : ∀ (l : List Int) (T : Tab), (∀ q ∈ T, q.2.length ≤ 2) → ∀ q ∈ l.foldl (fun T x => kput T (entX x).1 (entX x).2) T, q.2.length ≤ 2 := by
    intro l
    induction l with
    | nil => exact fun T h => h
    | cons x r ih => exact fun T h => ih _ (kput_mem h (ent_len x))
  exact this ns [] (by simp)
theorem tbl_wt (ns : List Int) : wt (tbl ns) ≤ 2 ^ ns.length := by
  have : ∀ (l : List Int) (T : Tab), wt (l.foldl (fun T x => kput T (entX x).1 (entX x).2) T) ≤ wt T * 2 ^ l.length := by
    intro l
    induction l with
    | nil => exact fun T => by simp
    | cons x r ih =>
      intro T
      have h1 := ih (kput T (entX x).1 (entX x).2)
      have h2 := wt_kput T (entX x).1 (entX x).2
      have h3 := ent_len x
      have h4 : wt T * max 1 (entX x).2.length ≤ wt T * 2 := Nat.mul_le_mul_left _ (by omega)
      show wt (r.foldl _ (kput T (entX x).1 (entX x).2)) ≤ _
      calc _ ≤ wt (kput T (entX x).1 (entX x).2) * 2 ^ r.length := h1
        _ ≤ (wt T * 2) * 2 ^ r.length := Nat.mul_le_mul_right _ (Nat.le_trans h2 h4)
        _ = wt T * 2 ^ (r.length + 1) := by rw [Nat.pow_succ, Nat.mul_assoc, Nat.mul_comm 2]
  have h := this ns []
  have e : wt [] = 1 := rfl
  rw [e, Nat.one_mul] at h; exact h
theorem tbl_wu (ns : List Int) : wu (tbl ns) ≤ 3 ^ ns.length := by
  have : ∀ (l : List Int) (T : Tab), wu (l.foldl (fun T x => kput T (entX x).1 (entX x).2) T) ≤ wu T * 3 ^ l.length := by
    intro l
    induction l with
    | nil => exact fun T => by simp
    | cons x r ih =>
      intro T
      have h1 := ih (kput T (entX x).1 (entX x).2)
      have h2 := wu_kput T (entX x).1 (entX x).2
      have h3 := ent_len x
      have h4 : wu T * (1 + (entX x).2.length) ≤ wu T * 3 := Nat.mul_le_mul_left _ (by omega)
      show wu (r.foldl _ (kput T (entX x).1 (entX x).2)) ≤ _
      calc _ ≤ wu (kput T (entX x).1 (entX x).2) * 3 ^ r.length := h1
        _ ≤ (wu T * 3) * 3 ^ r.length := Nat.mul_le_mul_right _ (Nat.le_trans h2 h4)
        _ = wu T * 3 ^ (r.length + 1) := by rw [Nat.pow_succ, Nat.mul_assoc, Nat.mul_comm 3]
  have h := this ns []
  have e : wu [] = 1 := rfl
  rw [e, Nat.one_mul] at h; exact h
theorem own_wt (T : Tab) : wt (kputs T own3) ≤ wt T * 100 := by
  have h1 := wt_kput T 10 nlT
  have h2 := wt_kput (kput T 10 nlT) 13 crT
  have h3 := wt_kput (kput (kput T 10 nlT) 13 crT) 9 tbT
  have e1 : max 1 nlT.length = 5 := rfl
  have e2 : max 1 crT.length = 5 := rfl
  have e3 : max 1 tbT.length = 4 := rfl
  rw [e1] at h1; rw [e2] at h2; rw [e3] at h3
  show wt (kput (kput (kput T 10 nlT) 13 crT) 9 tbT) ≤ _
  omega
theorem own_wu (T : Tab) : wu (kputs T own3) ≤ wu T * 180 := by
  have h1 := wu_kput T 10 nlT
  have h2 := wu_kput (kput T 10 nlT) 13 crT
  have h3 := wu_kput (kput (kput T 10 nlT) 13 crT) 9 tbT
  have e1 : 1 + nlT.length = 6 := rfl
  have e2 : 1 + crT.length = 6 := rfl
  have e3 : 1 + tbT.length = 5 := rfl
  rw [e1] at h1; rw [e2] at h2; rw [e3] at h3
  show wu (kput (kput (kput T 10 nlT) 13 crT) 9 tbT) ≤ _
  omega
theorem small2 : ∀ n, n < 64 → n * 2 ^ (n % 6) ≤ 1888 := by decide +kernel
theorem small3 : ∀ n, n < 64 → n * 3 ^ (n % 6) ≤ 14337 := by decide +kernel
theorem load_le (T : Tab) : ∀ x : List Nat, load T (x.map fun c => (c, 0)) ≤ x.length * wu T
  | [] => Nat.zero_le _
  | c :: r => by
    have h1 := load_le T r
    have h2 := cost_le T c
    show cost c T + load T (r.map fun c => (c, 0)) ≤ (r.length + 1) * wu T
    rw [Nat.add_mul, Nat.one_mul]; omega

/-- all the sizes that the law reaches -/
structure Sizes (n : Nat) (text plain : List Nat) (T : Tab) : Prop where
  t63 : text.length ≤ 63
  p315 : plain.length ≤ 315
  w : text.length * 5 * wt (kputs T own3) ≤ 950000
  w0 : text.length * 5 * wt T ≤ 2000000
  len : T.length ≤ 5
  u : load T (plain.reverse.map fun c => (c, 0)) ≤ 16000000
  u3 : load (kputs T own3) (plain.reverse.map fun c => (c, 0)) ≤ 16000000
  o : (plain.flatMap fun c => thru c T).length ≤ 16000000
  o3 : (plain.flatMap fun c => thru c (kputs T own3)).length ≤ 950000
theorem Sizes.of {ns : List Int} {text : List Nat} (hn : ns.length ≤ 63) (ht : text.length = ns.length) : Sizes ns.length text (esc3 text) (tbl (ns.take (ns.length % 6))) := by
  have hj : (ns.take (ns.length % 6)).length = ns.length % 6 := by rw [List.length_take]; exact Nat.min_eq_left (Nat.mod_le _ _)
  have hw := tbl_wt (ns.take (ns.length % 6))
  have hu := tbl_wu (ns.take (ns.length % 6))
  rw [hj] at hw hu
  have hl : (tbl (ns.take (ns.length % 6))).length ≤ ns.length % 6 := tbl_take_len ns _ (Nat.mod_le _ _)
  generalize tbl (ns.take (ns.length % 6)) = T at hw hu hl
  have s2 := small2 ns.length (by omega)
  have s3 := small3 ns.length (by omega)
  have hp := esc3_len text
  have o1 := own_wt T
  have o2 := own_wu T
  have a1 : ns.length * wt T ≤ 1888 := Nat.le_trans (Nat.mul_le_mul_left _ hw) s2
  have a2 : ns.length * wu T ≤ 14337 := Nat.le_trans (Nat.mul_le_mul_left _ hu) s3
  have b1 : ns.length * wt (kputs T own3) ≤ 188800 := by
    have := Nat.mul_le_mul_left ns.length o1
    rw [← Nat.mul_assoc] at this; omega
  have b2 : ns.length * wu (kputs T own3) ≤ 2580660 := by
    have := Nat.mul_le_mul_left ns.length o2
    rw [← Nat.mul_assoc] at this; omega
  have five : ∀ k : Nat, ns.length * 5 * k = 5 * (ns.length * k) := fun k => by rw [Nat.mul_comm ns.length 5, Nat.mul_assoc]
  rw [ht] at hp
  have r1 : (esc3 text).length * wt T ≤ ns.length * 5 * wt T := Nat.mul_le_mul_right _ hp
  have r2 : (esc3 text).length * wt (kputs T own3) ≤ ns.length * 5 * wt (kputs T own3) := Nat.mul_le_mul_right _ hp
  have r3 : (esc3 text).length * wu T ≤ ns.length * 5 * wu T := Nat.mul_le_mul_right _ hp
  have r4 : (esc3 text).length * wu (kputs T own3) ≤ ns.length * 5 * wu (kputs T own3) := Nat.mul_le_mul_right _ hp
  rw [five] at r1 r2 r3 r4
  have l1 := load_le T (esc3 text).reverse
  have l2 := load_le (kputs T own3) (esc3 text).reverse
  rw [List.length_reverse] at l1 l2
  have q1 := repls_len T (esc3 text)
  have q2 := repls_len (kputs T own3) (esc3 text)
  rw [repls_thru] at q1 q2
  exact ⟨by omega, by omega, by rw [ht, five]; omega, by rw [ht, five]; omega, by omega, by omega, by omega, by omega, by omega⟩

theorem Ents.dget {k : Nat} {es : List Ent} {T : Tab} (h : Ents k es T) (c : Nat) : (kget T c = none → dget es (one c) = none) ∧ ∀ y, kget T c = some y → ∃ u, dget es (one c) = some (.str (tx y) u) := by
  induction h with
  | nil => exact ⟨fun _ => rfl, fun y e => by simp [kget] at e⟩
  | @cons c' y' t u es T a b cc d e _ ih =>
    unfold kget Mine.dget
    by_cases hc : c' = c
    · subst hc
      simp only [if_true]
      exact ⟨(fun e => nomatch e), (fun y e => ⟨u, by cases e; rfl⟩)⟩
    · have : ¬ one c' = one c := fun e => hc (one_inj.mp e)
      simp only [if_neg hc, if_neg this]
      exact ih
theorem Ents.isSome {k : Nat} {es : List Ent} {T : Tab} (h : Ents k es T) (c : Nat) : (Mine.dget es (one c)).isSome = (kget T c).isSome := by
  cases e : kget T c with
  | none => rw [(h.dget c).1 e]; rfl
  | some y => obtain ⟨u, hu⟩ := (h.dget c).2 y e; rw [hu]; rfl
end One
end Mine

open PySem PySem.Calls PyProof.Rows
set_option Elab.async false
set_option linter.unusedVariables false
set_option maxRecDepth 100000
namespace Mine
def Str0 (f : Nat → List Nat) (a : Nat) (y : Value) (G : Addr → Option Obj) (k : Nat) : Prop := ∃ u, y = Value.str (tx (f a)) u
theorem Str0.monoR {f : Nat → List Nat} : MonoR (Str0 f) := fun a y G G' k k' h _ _ => h
theorem Made.strs0 {f : Nat → List Nat} {G : Addr → Option Obj} {k : Nat} : ∀ {idx : List Nat} {ys : List Value}, Made (Str0 f) idx ys G k → ∃ ls : List (Str × Tok), ys = strValues ls ∧ ls.map (·.1) = (idx.map f).map tx
  | [], [], _ => ⟨[], rfl, rfl⟩
  | [], _ :: _, h => by have := h.1; simp at this
  | _ :: _, [], h => by have := h.1; simp at this
  | a :: idx, y :: ys, h => by
    obtain ⟨u, e⟩ := h.2 0 a y rfl rfl
    obtain ⟨ls, e1, e2⟩ := Made.strs0 (idx := idx) (ys := ys) ⟨by have := h.1; simpa using this, fun j b z hb hz => h.2 (j + 1) b z (by simpa using hb) (by simpa using hz)⟩
    exact ⟨(tx (f a), u) :: ls, by rw [e, e1]; rfl, by simp [e2]⟩
/-- the frozen tuples of a table's row -/
def TupR (S : Tab) (a : Nat) (y : Value) (G : Addr → Option Obj) (k : Nat) : Prop := ∀ q, S[a]? = some q → ∃ b t u, y = Value.ref b ∧ TupAt G b [Value.str (one q.1) t, Value.str (tx q.2) u]
theorem TupR.monoR {S : Tab} : MonoR (TupR S) := fun a y G G' k k' h hG _ q hq => let ⟨b, t, u, e, ht⟩ := h q hq; ⟨b, t, u, e, ht.mono hG⟩
theorem TupR.pairs {S S' : Tab} {idx : List Nat} {ys : List Value} {G : Addr → Option Obj} {k : Nat} (h : Made (TupR S) idx ys G k) (hl : idx.length = S'.length) (hi : ∀ (j a : Nat), idx[j]? = some a → S[a]? = S'[j]?) : PairsG G ys (One.tabTx S') := by
  refine ⟨by rw [h.1, hl]; simp [One.tabTx], fun i q hq => ?_⟩
  simp only [One.tabTx, List.getElem?_map, Option.map_eq_some_iff] at hq
  obtain ⟨r, hr, rfl⟩ := hq
  have hlt : i < S'.length := (List.getElem?_eq_some_iff.mp hr).1
  have h1 : idx[i]? = some (idx[i]'(by omega)) := by simp
  have h2 := hi i _ h1
  have hy : ys[i]? = some (ys[i]'(by rw [h.1]; omega)) := by simp
  obtain ⟨b, t, u, e, ht⟩ := h.2 i _ _ h1 hy r (by rw [h2, hr])
  rw [e] at hy
  exact ⟨b, t, u, hy, ht⟩

section
variable {C : Cx} {A : Around} {L : Addr} {p : Pt} {env : Env}
theorem R_joinC0 {G : Addr → Option Obj} {m : List (Str × Option Value)} {N : List (Addr × Cell)} {k : Nat} {D : Addr} {ys : List Value} {idx : List Nat} {f : Nat → List Nat} {t : Tok} {Q : Value → Pt → Prop} (hM : Made (Str0 f) idx ys G k)
    (hz : (idx.flatMap f).length ≤ 16777216) (h : ∀ u G' k', GLe G G' → k ≤ k' → Q (.str (tx (idx.flatMap f)) u) ⟨G', m, N, k'⟩) :
    Run C A L (PySem.call (.builtin "str.join") [.str ⟨#[]⟩ t, .ref D]) ⟨G, m, (D, listC ys) :: N, k⟩ Q := by
  obtain ⟨ls, rfl, e2⟩ := hM.strs0
  refine Run.freeze .head fun o G' hc hG hn => ?_
  subst hG
  have hg : Builtin.Str.glued ⟨#[]⟩ (ls.map (·.1)) = tx (idx.flatMap f) := by rw [e2, join_ones]; rfl
  have htot : ((ls.map (·.1)).toArray.foldl (fun a p => a + p.length + (⟨#[]⟩ : Str).length) 0) = (idx.flatMap f).length := by
    rw [StrLaws.joinTotal, e2, sum_len]
    show _ + _ * 0 = _
    simp [List.flatMap]
  refine R_join (l := ls) (.inl (ListAt.new hc)) ?_ ?_ ?_ ?_
  · show Builtin.Str.tooLong ((ls.map (·.1)).toArray.foldl (fun a p => a + p.length + (⟨#[]⟩ : Str).length) 0) = false
    rw [htot]
    exact decide_eq_false (by rw [sizeLine_eq]; omega)
  · rw [hg, tx_len, sizeLine_eq]; omega
  · intro q hq
    subst hq
    have : q.1 = tx (idx.flatMap f) := by rw [← hg]; rfl
    rw [this]
    exact h q.2 _ _ (GLe.add hn) (Nat.le_refl _)
  · intro _ tk htk
    rw [hg]
    have htk' : k ≤ tk := htk
    exact h tk _ _ (GLe.add hn) (Nat.le_succ_of_le htk')
theorem E_And2 {x y : Expr} {pos : Pos} {Q : Value → Pt → Prop} (h : Run C A L (eval x env) p fun v p₁ => Run C A L (truthy v) p₁ fun b p₂ => b = true ∧ Run C A L (eval y env) p₂ Q) : Run C A L (eval (.BoolOp .And [x, y] pos) env) p Q := by
  refine Run.of_eq (arm_eval_BoolOp ..) ?_
  show Run C A L (do
    let v ← eval x env
    PySem.standAt pos
    let t ← PySem.holding [v] (truthy v)
    match BoolOp.And, t with
    | .And, false | .Or, true => Pure.pure v
    | _, _ => boolOp pos .And [eval y env]) p Q
  refine .bind (h.mono fun v p₁ h₁ => .bind (.standAt (.bind (.holding (h₁.mono fun b p₂ ⟨hb, h₂⟩ => ?_)))))
  subst hb
  exact h₂
end
theorem range_get (l : List Nat) : (List.range l.length).map (fun a => l[a]?.getD 0) = l := by
  apply List.ext_getElem
  · simp
  · intro i h1 h2; simp [h2]
theorem range_flat (l : List Nat) (g : Nat → List Nat) : (List.range l.length).flatMap (fun a => g (l[a]?.getD 0)) = l.flatMap g := by
  conv => rhs; rw [← range_get l]
  rw [List.flatMap_map]
theorem range_flatI (l : List Int) (g : Int → List Nat) : (List.range l.length).flatMap (fun a => g (l[a]?.getD 0)) = l.flatMap g := by
  have : (List.range l.length).map (fun a => l[a]?.getD 0) = l := by
    apply List.ext_getElem
    · simp
    · intro i h1 h2; simp [h2]
  conv => rhs; rw [← this]
  rw [List.flatMap_map]
namespace One
def chT (n : Int) : Nat := if n.fmod 2 = 0 then sgn (n.fdiv 2) else ((n.fdiv 2).fmod 1114112).toNat
theorem IntsAt.take {vs : List Value} {ns : List Int} (h : IntsAt vs ns) (j : Nat) : IntsAt (vs.take j) (ns.take j) := by
  refine ⟨by simp [h.1], fun i n hn => ?_⟩
  rw [List.getElem?_take] at hn ⊢
  split at hn
  · rename_i hi; rw [if_pos hi]; exact h.2 i n hn
  · cases hn

theorem flat_one (g : Int → Nat) : ∀ l : List Int, l.flatMap (fun n => [g n]) = l.map g
  | [] => rfl
  | a :: r => by rw [List.flatMap_cons, flat_one g r]; rfl
def firstT : Tab := [(38, amp), (60, lts), (62, gts)]
theorem firstOf_kget (c : Nat) : firstOf c = (kget firstT c).getD [c] := by
  unfold firstOf
  show _ = (if 38 = c then some amp else if 60 = c then some lts else if 62 = c then some gts else none).getD [c]
  by_cases h1 : c = 38
  · subst h1; rfl
  · by_cases h2 : c = 60
    · subst h2; rfl
    · by_cases h3 : c = 62
      · subst h3; rfl
      · rw [if_neg h1, if_neg h2, if_neg h3, if_neg (fun e => h1 e.symm), if_neg (fun e => h2 e.symm), if_neg (fun e => h3 e.symm)]; rfl
def endOf (I : List Nat) : Nat := if 34 ∈ I ∧ ¬ 39 ∈ I then 39 else 34
theorem qt_eq (I : List Nat) : qt I = endOf I :: (rp (endOf I) quot I ++ [endOf I]) := by
  unfold qt endOf
  by_cases h1 : 34 ∈ I
  · by_cases h2 : 39 ∈ I
    · simp [h1, h2]
    · simp [h1, h2, rp_free 39 quot I h2]
  · simp [h1, rp_free 34 quot I h1]
theorem three_ents {k : Nat} {x1 x2 x3 : Nat} {y1 y2 y3 : List Nat} {t1 u1 t2 u2 t3 u3 : Nat} (h0 : 0 < k) (h1 : k ≤ t1) (h2 : t1 < u1) (h3 : u1 < t2) (h4 : t2 < u2) (h5 : u2 < t3) (h6 : t3 < u3) :
    Ents (u3 + 1) [(one x1, t1, .str (tx y1) u1), (one x2, t2, .str (tx y2) u2), (one x3, t3, .str (tx y3) u3)] [(x1, y1), (x2, y2), (x3, y3)] :=
  .cons (by omega) (by omega) (by omega) (by omega) (by omega) (.cons (by omega) (by omega) (by omega) (by omega) (by omega) (.cons (by omega) (by omega) (by omega) (by omega) (by omega) .nil))
theorem pairs_of {k : Nat} {es : List Ent} {T : Tab} (h : Ents k es T) {G : Addr → Option Obj} {as : List Addr} (hl : as.length = es.length) (hp : ∀ (i : Nat) (q : Ent), es[i]? = some q → ∃ b t, as[i]? = some b ∧ TupAt G b [Value.str q.1 t, q.2.2]) : PairsG G (as.map Value.ref) (tabTx T) := by
  refine ⟨by simp [tabTx, hl, h.length], fun i q hq => ?_⟩
  simp only [tabTx, List.getElem?_map, Option.map_eq_some_iff] at hq
  obtain ⟨r, hr, rfl⟩ := hq
  have hi : i < es.length := by rw [h.length]; exact (List.getElem?_eq_some_iff.mp hr).1
  obtain ⟨c, y, t, u, e1, e2, _⟩ := h.get (i := i) (q := es[i]) (by simp [hi])
  rw [hr] at e2; cases e2
  obtain ⟨b, t', e3, ht⟩ := hp i es[i] (by simp [hi])
  rw [e1] at ht
  exact ⟨b, t', u, by rw [List.getElem?_map, e3]; rfl, ht⟩
theorem PairsG.append {G : Addr → Option Obj} {vs ws : List Value} {xs ys : List (Str × Str)} (h : PairsG G vs xs) (h' : PairsG G ws ys) : PairsG G (vs ++ ws) (xs ++ ys) := by
  refine ⟨by simp [h.1, h'.1], fun i q hq => ?_⟩
  by_cases hi : i < xs.length
  · rw [List.getElem?_append_left hi] at hq
    rw [List.getElem?_append_left (by rw [h.1]; exact hi)]
    exact h.2 i q hq
  · rw [List.getElem?_append_right (by omega)] at hq
    rw [List.getElem?_append_right (by rw [h.1]; omega), h.1]
    exact h'.2 _ q hq
theorem tabTx_append (a b : Tab) : tabTx (a ++ b) = tabTx a ++ tabTx b := by simp [tabTx]
def selOf (T : Tab) (i : Nat) : Bool := !(kget T ((own3[i]?.map (·.1)).getD 0)).isSome
theorem sel_spec (T : Tab) : ((List.range 3).filter (selOf T)).length = (own3.filter fun q => decide (q.1 ∉ T.map (·.1))).length ∧
    ∀ (j a : Nat), ((List.range 3).filter (selOf T))[j]? = some a → own3[a]? = (own3.filter fun q => decide (q.1 ∉ T.map (·.1)))[j]? := by
  have hk : ∀ c, (!(kget T c).isSome) = decide (c ∉ T.map (·.1)) := fun c => by
    cases e : kget T c with
    | none => exact (decide_eq_true (kget_none.mp e)).symm
    | some y =>
      have : ¬ (c ∉ T.map (·.1)) := fun hn => by rw [kget_none.mpr hn] at e; cases e
      exact (decide_eq_false this).symm
  have e1 : (List.range 3).filter (selOf T) = (if decide (10 ∉ T.map (·.1)) then [0] else []) ++ ((if decide (13 ∉ T.map (·.1)) then [1] else []) ++ (if decide (9 ∉ T.map (·.1)) then [2] else [])) := by
    have a0 : selOf T 0 = decide (10 ∉ T.map (·.1)) := hk 10
    have a1 : selOf T 1 = decide (13 ∉ T.map (·.1)) := hk 13
    have a2 : selOf T 2 = decide (9 ∉ T.map (·.1)) := hk 9
    show List.filter (selOf T) [0, 1, 2] = _
    simp only [List.filter_cons, List.filter_nil, a0, a1, a2]
    cases decide (10 ∉ T.map (·.1)) <;> cases decide (13 ∉ T.map (·.1)) <;> cases decide (9 ∉ T.map (·.1)) <;> rfl
  have e2 : (own3.filter fun q => decide (q.1 ∉ T.map (·.1))) = (if decide (10 ∉ T.map (·.1)) then [(10, nlT)] else []) ++ ((if decide (13 ∉ T.map (·.1)) then [(13, crT)] else []) ++ (if decide (9 ∉ T.map (·.1)) then [(9, tbT)] else [])) := by
    show List.filter _ [(10, nlT), (13, crT), (9, tbT)] = _
    simp only [List.filter_cons, List.filter_nil]
    cases decide (10 ∉ T.map (·.1)) <;> cases decide (13 ∉ T.map (·.1)) <;> cases decide (9 ∉ T.map (·.1)) <;> rfl
  rw [e1, e2]
  cases decide (10 ∉ T.map (·.1)) <;> cases decide (13 ∉ T.map (·.1)) <;> cases decide (9 ∉ T.map (·.1)) <;>
    refine ⟨rfl, fun j a h => ?_⟩ <;> (match j with
      | 0 => first | (cases h; rfl) | cases h
      | 1 => first | (cases h; rfl) | cases h
      | 2 => first | (cases h; rfl) | cases h
      | j + 3 => simp at h)

variable {C : Cx} {A : Around}
theorem w_law (H : Cx1 C) {d : Nat} (hr : Room A (d + 6)) {l : Addr} {vs : List Value} {ns : List Int} {G : Addr → Option Obj} {k : Nat} (hl : ListAt G l vs) (hv : IntsAt vs ns) (hn : ns.length ≤ 63) :
    PureCall C A 61 [.ref l] G k fun v G' k' => v = .bool true := by
  obtain ⟨⟨o, ho, hd⟩, hc⟩ := H.f61
  refine PureCall.goC [("script", some (.ref l)), ("text", none), ("pairs", none), ("plain", none), ("steps", none), ("inner", none), ("due", none)] H.base hr ho hd hc (.of_eq (binds := [("script", .ref l)]) rfl) fun L hR => ?_
  show Run C _ L _ ⟨G, _, [(L + 4, cellC none), (L + 3, cellC none), (L + 2, cellC none), (L + 1, cellC none)], k⟩ _
  have hvl : vs.length = ns.length := hv.1
  refine X_cons (X_Assign (E_meth F.slot_str_join F.plainAttrs_str F.type_str_join (E_str fun tk htk => ⟨HasT.str, E_items_cons ?_⟩)))
  refine E_Comp1 (R := Str0 (fun a => [chT (ns[a]?.getD 0)])) (fun _ => true) [] Str0.monoR (E_loc (v := .ref l) (.head _) ⟨vs.length, _, IterOn.list hR.hd hl, by rw [sizeLine_eq]; omega, fun Cc i v G₁ k₁ hi ⟨_, hx⟩ hG₁ hk₁ => Tst.none fun _ => ?_, fun D ys G₁ k₁ hG₁ hk₁ hM => ?_⟩)
  · have hin : i < ns.length := hvl ▸ hi
    obtain ⟨tv, e1⟩ := hv.2 i ns[i] (by simp [hin])
    rw [hx] at e1; cases e1
    refine E_IfExp (T_Cmp (E_BinOp (E_loc (v := .int ns[i] tv) (.head _) (E_int fun t1 => B_mod (by decide) fun t2 => E_int fun t3 => C_eqI (truthy_bool ?_)))))
    have hget : ns[i]?.getD 0 = ns[i] := by simp [hin]
    by_cases hm : ns[i].fmod 2 = 0
    · rw [show (ns[i].fmod 2 == 0) = true from by rw [hm]; rfl, if_pos rfl]
      obtain ⟨⟨os, hos, hds⟩, hcs⟩ := H.f46
      refine E_callF hos hds (E_glob H.base (.tail _ (.tail _ (.tail _ (.head _))))) (E_items_cons (E_BinOp (E_loc (v := .int ns[i] tv) (.head _) (E_int fun t4 => B_fdiv (by decide) (by decide) fun t5 => E_items_nil ?_))))
      refine R_pure ((w_sign H (hR.less (e := d + 1) (by omega))).mono fun v G' k' hG' hk' ⟨u, hvv, h1, h2⟩ => ⟨G', k', rfl, hG', hk', u, ?_⟩)
      dsimp only; rw [hvv, hget]; unfold chT; rw [if_pos hm]; rfl
    · rw [show (ns[i].fmod 2 == 0) = false from beq_eq_false_iff_ne.mpr hm, if_neg Bool.false_ne_true]
      have h0 : 0 ≤ (ns[i].fdiv 2).fmod 1114112 := Int.fmod_nonneg_of_pos _ (by decide)
      have h1 : (ns[i].fdiv 2).fmod 1114112 < 1114112 := Int.fmod_lt_of_pos _ (by decide)
      refine E_callV (f := .builtin "chr") (E_blt H.base (.tail _ (.tail _ (.head _)))) (E_items_cons (E_BinOp (E_BinOp (E_loc (v := .int ns[i] tv) (.head _) (E_int fun t4 => B_fdiv (by decide) (by decide) fun t5 => E_int fun t6 => B_mod (by decide) fun t7 => E_items_nil (R_chr h0 (by omega) fun u hu => ?_))))))
      refine ⟨_, _, rfl, GLe.refl _, Nat.le_succ_of_le hu, u, ?_⟩
      dsimp only; rw [hget]; unfold chT; rw [if_neg hm]; rfl
  rw [filt, hvl] at hM
  have hX : (List.range ns.length).flatMap (fun a => [chT (ns[a]?.getD 0)]) = ns.map chT := by
    rw [range_flatI ns (fun n => [chT n]), flat_one]
  refine E_items_nil (R_joinC0 hM ?_ fun u G₂ k₂ hG₂ hk₂ => storeLoc (.tail .head) ?_)
  · rw [hX, List.length_map]; omega
  rw [hX]
  have hS := Sizes.of (text := ns.map chT) hn (by simp)
  have hXl : (ns.map chT).length = ns.length := by simp
  clear hM
  have hGa : GLe G G₂ := GLe.trans hG₁ hG₂
  have hk2p : 0 < k₂ := Nat.lt_of_lt_of_le (Nat.succ_pos tk) (Nat.le_trans hk₁ hk₂)
  dsimp only
  generalize ns.map chT = X at *
  obtain ⟨⟨o51, h51, d51⟩, _⟩ := H.f51
  refine X_cons (X_Assign (E_callF h51 d51 (E_glob H.base (.tail _ (.tail _ (.tail _ (.tail _ (.head _)))))) (E_items_cons ?_)))
  refine E_Sb F.slot_list_getitem.lookup (E_loc (v := .ref l) (.head _) (E_Slice (R_evalNone (R_evalSome (E_BinOp (E_callV (f := .builtin "len") (E_blt H.base (.tail _ (.head _))) (E_items_cons (E_loc (v := .ref l) (.head _) (E_items_nil (R_len_list (.inl (hl.mono hGa)) (by omega) fun t1 =>
    E_int fun t2 => B_mod (by decide) fun t3 => R_evalNone fun a G₃ hG₃ hs => ?_))))))))))
  refine ⟨HasTy.list (.inl (hl.mono (GLe.trans hGa hG₃))), G_listS (.inl (hl.mono (GLe.trans hGa hG₃))) hs .none (.int _ _) .none (by simp) (by rw [sizeLine_eq]; omega) fun b => E_items_nil ?_⟩
  have hsl : (slicePick vs.toArray none (some ((vs.length : Int).fmod 6)) none).toList = vs.take (ns.length % 6) := by
    rw [show ((vs.length : Int).fmod 6) = ((vs.length % 6 : Nat) : Int) from by rw [Int.fmod_eq_emod_of_nonneg _ (by decide)]; omega, slicePick_upto', hvl]
  rw [hsl]
  refine Run.freeze .head fun od G₄ hcd hGe hne => ?_
  have hG₄ : GLe G₃ G₄ := by subst hGe; exact GLe.add hne
  have hlt : ListAt G₄ b (vs.take (ns.length % 6)) := by subst hGe; exact ListAt.new hcd
  clear hGe hcd
  refine R_pure ((w_table H (hR.less (e := d + 3) (by omega)) hk2p hlt (hv.take _) (by rw [List.length_take]; omega)).mono fun v G₅ k₅ hG₅ hk₅ ⟨dd, es, hvd, hD, hE⟩ => ?_)
  subst hvd
  refine storeCell (.tail (.tail (.tail .head))) rfl ?_
  have hk0 : 0 < k₅ := Nat.lt_of_lt_of_le hk2p hk₅
  have hTn := tbl_nodup (ns.take (ns.length % 6))
  have hT2 := tbl_all (ns.take (ns.length % 6))
  generalize tbl (ns.take (ns.length % 6)) = T at *
  have hT6 : ∀ q ∈ T, q.2.length ≤ 6 := fun q hq => Nat.le_trans (hT2 q hq) (by decide)
  have hTl := hS.len
  have hel : es.length ≤ 5 := by rw [hE.length]; exact hTl
  dsimp only
  refine X_cons (X_Assign (E_callV (f := .type "list") (E_blt H.base (.tail _ (.tail _ (.tail _ (.head _))))) (E_items_cons (E_meth F.slot_dict_items F.plainAttrs_dict F.type_dict_items (E_cell (c := L + 1) (.tail _ (.tail _ (.tail _ (.head _)))) rfl
    ⟨HasT.dict hD, E_items_nil (R_items hD fun v G₆ hG₆ hv6 => E_items_nil (R_listItems hR.hd hv6 (hD.mono hG₆) (by rw [sizeLine_eq]; omega) fun a7 G₇ as hG₇ hal hpa => Run.freeze .head fun od7 G₈ hc7 hGe7 hne7 => storeLoc (.tail (.tail .head)) ?_))⟩)))))
  have hP := (pairs_of hE hal hpa)
  have hG₈ : GLe G₇ G₈ := by subst hGe7; exact GLe.add hne7
  have hPl : ListG G₈ a7 (as.map Value.ref) := by subst hGe7; exact ListG.new hc7
  replace hP := hP.mono hG₈
  replace hD := hD.mono (GLe.trans hG₆ (GLe.trans hG₇ hG₈))
  clear hGe7 hc7 hpa
  dsimp only
  refine X_cons (X_Assign (E_Dict3 (R_three rfl fun d1 t1 u1 t2 u2 t3 u3 hd1 _ h1 h2 h3 h4 h5 h6 => Run.freeze .head fun od1 G₉ hc1 hGe1 hne1 => storeCell (.tail (.tail .head)) rfl ?_)))
  have hG₉ : GLe G₈ G₉ := by subst hGe1; exact GLe.add hne1
  have hF : DictG C.w G₉ d1 [("&", t1, .str "&amp;" u1), ("<", t2, .str "&lt;" u2), (">", t3, .str "&gt;" u3)] := by subst hGe1; exact ⟨ne_sys H hd1, od1, addG_self, hc1⟩
  have hFE : Ents (u3 + 1) [("&", t1, .str "&amp;" u1), ("<", t2, .str "&lt;" u2), (">", t3, .str "&gt;" u3)] firstT := three_ents hk0 h1 h2 h3 h4 h5 h6
  generalize ([("&", t1, Value.str "&amp;" u1), ("<", t2, Value.str "&lt;" u2), (">", t3, Value.str "&gt;" u3)] : List Ent) = es1 at hF hFE
  have hku : k₅ ≤ u3 + 1 := by have h1 : k₅ ≤ t1 := h1; omega
  replace hE := hE.mono hku
  clear hGe1 hc1
  dsimp only
  refine X_cons (X_Assign (E_meth F.slot_str_join F.plainAttrs_str F.type_str_join (E_str fun tk2 htk2 => ⟨HasT.str, E_items_cons ?_⟩)))
  refine E_Comp1 (R := Str0 (fun a => firstOf (X[a]?.getD 0))) (fun _ => true) [("first", L + 2)] Str0.monoR (E_loc (v := .str (tx X) u) (.tail _ (.head _)) ⟨_, _, IterOn.str hR.hd, by rw [sizeLine_eq]; simp [tx]; omega, fun Cc i v Ga ka hi ⟨_, hs⟩ hGa hka => Tst.none fun _ => ?_, fun Da ys Ga ka hGa hka hMa => ?_⟩)
  · obtain ⟨c, uc, e3, rfl⟩ := hs
    have hget : X[i]?.getD 0 = c := by
      have : (tx X).cps[i]? = X[i]? := by simp [tx]
      rw [this] at e3; rw [e3]; rfl
    refine E_IfExp (T_Cmp (E_loc (v := .str ⟨#[c]⟩ uc) (.head _) (E_cell (c := L + 2) (.tail _ (.tail _ (.head _))) rfl (C_inD (hF.mono hGa) (truthy_bool ?_)))))
    have hsm : (dget es1 ⟨#[c]⟩).isSome = (kget firstT c).isSome := hFE.isSome c
    rw [hsm]
    cases hkg : kget firstT c with
    | none =>
      rw [if_neg (by simp)]
      refine E_loc (v := .str ⟨#[c]⟩ uc) (.head _) ⟨_, _, rfl, GLe.refl _, Nat.le_refl _, uc, ?_⟩
      dsimp only
      rw [hget, firstOf_kget, hkg]; rfl
    | some y =>
      rw [if_pos (by simp)]
      obtain ⟨uy, hy⟩ := (hFE.dget c).2 y hkg
      refine E_Sb F.slot_dict_getitem.lookup (E_cell (c := L + 2) (.tail _ (.tail _ (.head _))) rfl (E_loc (v := .str ⟨#[c]⟩ uc) (.head _) ⟨HasTy.dict (hF.mono hGa), G_dict (hF.mono hGa) hy ⟨_, _, rfl, GLe.refl _, Nat.le_refl _, uy, ?_⟩⟩))
      dsimp only
      rw [hget, firstOf_kget, hkg]; rfl
  have hPX : (List.range X.length).flatMap (fun a => firstOf (X[a]?.getD 0)) = esc3 X := by rw [range_flat, esc3_eq]
  have hsz : (tx X).cps.size = X.length := by simp [tx]
  rw [filt, hsz] at hMa
  refine E_items_nil (R_joinC0 hMa (by rw [hPX]; have := hS.p315; omega) fun up Gb kb hGb hkb => storeLoc (.tail (.tail (.tail .head))) ?_)
  rw [hPX]
  clear hMa
  replace hka : u3 + 1 ≤ ka := Nat.le_trans (Nat.le_succ_of_le htk2) hka
  have hGab : GLe G₉ Gb := GLe.trans hGa hGb
  replace hD := hD.mono (GLe.trans hG₉ hGab)
  replace hP := hP.mono (GLe.trans hG₉ hGab)
  replace hPl := hPl.mono (GLe.trans hG₉ hGab)
  replace hE := hE.mono (Nat.le_trans hka hkb)
  have hkbp : 0 < kb := Nat.lt_of_lt_of_le (Nat.succ_pos u3) (Nat.le_trans hka hkb)
  dsimp only
  obtain ⟨⟨o30, h30, d30⟩, _⟩ := H.f30
  obtain ⟨⟨o56, h56, d56⟩, _⟩ := H.f56
  refine X_cons (X_If (T_Cmp (E_callF h30 d30 (E_glob H.base (.tail _ (.head _))) (E_items_cons (E_loc (v := .str (tx X) u) (.tail _ (.head _)) (E_items_cons (E_cell (c := L + 1) (.tail _ (.tail _ (.tail _ (.head _)))) rfl (E_items_nil ?_))))))))
  refine R_pure ((w_escape H (hR.less (e := d + 2) (by omega)) hkbp hD hE hS.t63 hS.w0 hT6 (by omega)).mono fun v Gc kc hGc hkc ⟨ue, hve⟩ => ?_)
  subst hve
  refine E_callF h56 d56 (E_glob H.base (.tail _ (.tail _ (.tail _ (.tail _ (.tail _ (.head _))))))) (E_items_cons (E_loc (v := .str (tx (esc3 X)) up) (.tail _ (.tail _ (.tail _ (.head _)))) (E_items_cons (E_loc (v := .ref a7) (.tail _ (.tail _ (.head _))) (E_items_nil ?_)))))
  have hp3 := hS.p315
  refine R_pure ((w_through H (hR.less (e := d + 3) (by omega)) (hPl.mono hGc) (hP.mono hGc) (by omega) hS.u hS.o (by omega)).mono fun v Ge ke hGe hke ⟨ut, hvt⟩ => ?_)
  subst hvt
  refine C_neS (truthy_bool ?_)
  rw [repls_thru, decide_eq_true rfl, if_neg (by simp)]
  refine X_nil ?_
  replace hD := hD.mono (GLe.trans hGc hGe)
  replace hP := hP.mono (GLe.trans hGc hGe)
  replace hPl := hPl.mono (GLe.trans hGc hGe)
  replace hE := hE.mono (Nat.le_trans hkc hke)
  show Run C _ L _ ⟨Ge, [("script", some (.ref l)), ("text", some (.str (tx X) u)), ("pairs", some (.ref a7)), ("plain", some (.str (tx (esc3 X)) up)), ("steps", none), ("inner", none), ("due", none)],
    [(L + 4, cellC none), (L + 3, cellC none), (L + 2, cellC (some (.ref d1))), (L + 1, cellC (some (.ref dd)))], ke⟩ _
  have hk0' : 0 < ke := Nat.lt_of_lt_of_le hkbp (Nat.le_trans hkc hke)
  refine X_cons (X_Assign (E_Dict3 (R_three rfl fun d2 t1 u1 t2 u2 t3 u3 hd2 _ h1 h2 h3 h4 h5 h6 => Run.freeze .head fun od2 Gf hc2 hGe2 hne2 => storeCell (.tail .head) rfl ?_)))
  have hGf : GLe Ge Gf := by subst hGe2; exact GLe.add hne2
  have hO : DictG C.w Gf d2 [("\n", t1, .str "&#10;" u1), ("\r", t2, .str "&#13;" u2), ("\t", t3, .str "&#9;" u3)] := by subst hGe2; exact ⟨ne_sys H hd2, od2, addG_self, hc2⟩
  have hOE : Ents (u3 + 1) [("\n", t1, .str "&#10;" u1), ("\r", t2, .str "&#13;" u2), ("\t", t3, .str "&#9;" u3)] own3 := three_ents hk0' h1 h2 h3 h4 h5 h6
  generalize ([("\n", t1, Value.str "&#10;" u1), ("\r", t2, Value.str "&#13;" u2), ("\t", t3, Value.str "&#9;" u3)] : List Ent) = es2 at hO hOE
  have hku2 : ke ≤ u3 + 1 := by have h1 : ke ≤ t1 := h1; omega
  replace hE := hE.mono hku2
  replace hD := hD.mono hGf
  replace hP := hP.mono hGf
  replace hPl := hPl.mono hGf
  clear hGe2 hc2
  dsimp only
  have hkfp : 0 < u3 + 1 := Nat.succ_pos _
  generalize u3 + 1 = kf at *
  have hPn : (as.map Value.ref).length = T.length := by rw [hP.1]; simp [tabTx]
  refine X_cons (X_Comp2 (R := TupR (T.map fun q => (q.1, (kget own3 q.1).getD q.2))) (fun _ => true) [("own", L + 3)] hR.hd TupR.monoR (E_loc (v := .ref a7) (.tail _ (.tail _ (.head _))) ⟨_, _, IterOn.list hR.hd hPl.at, by rw [sizeLine_eq, hPn]; omega,
    fun Cc i v h' Gg kg hi hvi hGg hkg => ?_, fun D3 ys Gg kg hGg hkg hM => Run.freeze .head fun od3 Gh hc3 hGe3 hne3 => storeLoc (.tail (.tail (.tail (.tail .head)))) ?_⟩))
  · have hiT : i < T.length := hPn ▸ hi
    obtain ⟨b, t, u', e1, ht⟩ := hP.2 i (one T[i].1, tx T[i].2) (by simp [tabTx, hiT])
    have hvi' : (as.map Value.ref)[i]? = some v := hvi
    rw [e1] at hvi'; cases hvi'
    refine ⟨b, _, _, rfl, .inl ht, Tst.none fun _ => ?_⟩
    refine E_Tuple (E_items_cons (E_loc (v := .str (one T[i].1) t) (.head _) (E_items_cons (E_IfExp (T_Cmp (E_loc (v := .str (one T[i].1) t) (.head _) (E_cell (c := L + 3) (.tail _ (.head _)) rfl (C_inD (hO.mono hGg) (truthy_bool ?_)))))))))
    rw [hOE.isSome T[i].1]
    cases hkq : kget own3 T[i].1 with
    | none =>
      rw [if_neg (by simp)]
      refine E_loc (v := .str (tx T[i].2) u') (.tail _ (.head _)) (E_items_nil (newTuple_G (by simp [sizeLine_eq]) fun b2 Gi hGi hn2 => ?_))
      subst hGi
      refine ⟨_, _, rfl, GLe.add hn2, Nat.le_refl _, fun q hq => ?_⟩
      simp only [List.getElem?_map, List.getElem?_eq_getElem hiT, Option.map_some, Option.some.injEq] at hq
      subst hq
      refine ⟨b2, t, u', rfl, ?_⟩
      rw [hkq]
      exact TupAt.new
    | some y =>
      rw [if_pos (by simp)]
      obtain ⟨uy, hy⟩ := (hOE.dget T[i].1).2 y hkq
      refine E_Sb F.slot_dict_getitem.lookup (E_cell (c := L + 3) (.tail _ (.head _)) rfl (E_loc (v := .str (one T[i].1) t) (.head _) ⟨HasTy.dict (hO.mono hGg), G_dict (hO.mono hGg) hy (E_items_nil (newTuple_G (by simp [sizeLine_eq]) fun b2 Gi hGi hn2 => ?_))⟩))
      subst hGi
      refine ⟨_, _, rfl, GLe.add hn2, Nat.le_refl _, fun q hq => ?_⟩
      simp only [List.getElem?_map, List.getElem?_eq_getElem hiT, Option.map_some, Option.some.injEq] at hq
      subst hq
      refine ⟨b2, t, uy, rfl, ?_⟩
      rw [hkq]
      exact TupAt.new
  rw [filt, hPn] at hM
  have hQ1 : PairsG Gg ys (tabTx (T.map fun q => (q.1, (kget own3 q.1).getD q.2))) := TupR.pairs hM (by simp) fun j a hj => by
    have : j = a := by
      have := (List.getElem?_eq_some_iff.mp hj)
      obtain ⟨h1, h2⟩ := this
      simpa using h2
    rw [this]
  have hGh : GLe Gf Gh := GLe.trans hGg (by subst hGe3; exact GLe.add hne3)
  have hQ1' : PairsG Gh ys (tabTx (T.map fun q => (q.1, (kget own3 q.1).getD q.2))) := hQ1.mono (by subst hGe3; exact GLe.add hne3)
  have hQ1l : ListG Gh D3 ys := by subst hGe3; exact ListG.new hc3
  replace hD := hD.mono hGh
  replace hO := hO.mono hGh
  replace hP := hP.mono hGh
  replace hPl := hPl.mono hGh
  replace hE := hE.mono hkg
  replace hOE := hOE.mono hkg
  clear hGe3 hc3 hM hQ1
  dsimp only
  refine X_cons (X_Assign (E_BinOp (E_loc (v := .ref D3) (.tail _ (.tail _ (.tail _ (.tail _ (.head _))))) ?_)))
  refine E_Comp1 (R := TupR own3) (selOf T) [("table", L + 1), ("own", L + 3)] TupR.monoR (E_cell (c := L + 3) (.tail _ (.head _)) rfl ⟨_, _, IterOn.keys hR.hd hO, by rw [hOE.length, sizeLine_eq]; decide, fun Cc i v Gi ki hi ⟨_, q, t, hq, hvq⟩ hGi hki => ?_, fun D4 ys4 Gj kj hGj hkj hM4 => ?_⟩)
  · obtain ⟨c, y, tt, uu, rfl, hown, _⟩ := hOE.get hq
    subst hvq
    have hsel : selOf T i = !(kget T c).isSome := by unfold selOf; rw [hown]; rfl
    refine R_tests_one (T_Cmp (E_loc (v := .str (one c) t) (.head _) (E_cell (c := L + 1) (.tail _ (.tail _ (.tail _ (.head _)))) rfl (C_notInD (hD.mono hGi) (truthy_bool ⟨?_, _, _, rfl, GLe.refl _, Nat.le_refl _, fun hs => ?_⟩)))))
    · rw [hE.isSome, hsel]
    obtain ⟨uy, hy⟩ := (hOE.dget c).2 y (by
      have : own3[i]? = some (c, y) := hown
      match i with
      | 0 => cases this; rfl
      | 1 => cases this; rfl
      | 2 => cases this; rfl
      | n + 3 => simp [own3] at this)
    refine E_Tuple (E_items_cons (E_loc (v := .str (one c) t) (.head _) (E_items_cons (E_Sb F.slot_dict_getitem.lookup (E_cell (c := L + 3) (.tail _ (.head _)) rfl (E_loc (v := .str (one c) t) (.head _) ⟨HasTy.dict (hO.mono hGi), G_dict (hO.mono hGi) hy (E_items_nil (newTuple_G (by simp [sizeLine_eq]) fun b2 Gk hGk hn2 => ?_))⟩))))))
    subst hGk
    refine ⟨_, _, rfl, GLe.add hn2, Nat.le_refl _, fun q hq => ?_⟩
    rw [hown] at hq; cases hq
    exact ⟨b2, t, uy, rfl, TupAt.new⟩
  have he3 : es2.length = 3 := hOE.length
  rw [he3] at hM4
  have hQ2 := TupR.pairs hM4 (sel_spec T).1 (sel_spec T).2
  have hyl : ys.length = T.length := by rw [hQ1'.1]; simp [tabTx]
  have hyl4 : ys4.length ≤ 3 := by
    rw [hQ2.1]
    simp only [tabTx, List.length_map]
    exact List.length_filter_le _ own3
  refine Run.freeze .head fun od4 Gl hc4 hGe4 hne4 => ?_
  have hGjl : GLe Gj Gl := by subst hGe4; exact GLe.add hne4
  refine B_addL (hQ1l.mono (GLe.trans hGj hGjl)) (by subst hGe4; exact ListG.new hc4) (by rw [sizeLine_eq]; omega) fun a5 => Run.freeze .head fun od5 Gm hc5 hGe5 hne5 => storeLoc (.tail (.tail (.tail (.tail .head)))) ?_
  have hGlm : GLe Gl Gm := by subst hGe5; exact GLe.add hne5
  have hStl : ListG Gm a5 (ys ++ ys4) := by subst hGe5; exact ListG.new hc5
  have hSt : PairsG Gm (ys ++ ys4) (tabTx (kputs T own3)) := by
    rw [kputs_over own3 T hTn (by decide)]
    unfold over
    rw [tabTx_append]
    exact PairsG.append ((hQ1'.mono (GLe.trans hGj hGjl)).mono hGlm) ((hQ2.mono hGjl).mono hGlm)
  have hGm : GLe Gh Gm := GLe.trans hGj (GLe.trans hGjl hGlm)
  replace hD := hD.mono hGm
  replace hP := hP.mono hGm
  replace hPl := hPl.mono hGm
  replace hE := hE.mono hkj
  clear hGe4 hc4 hGe5 hc5 hM4 hQ2 hQ1' hQ1l hO hOE
  dsimp only
  refine X_cons (X_Assign (E_callF h56 d56 (E_glob H.base (.tail _ (.tail _ (.tail _ (.tail _ (.tail _ (.head _))))))) (E_items_cons (E_loc (v := .str (tx (esc3 X)) up) (.tail _ (.tail _ (.tail _ (.head _)))) (E_items_cons (E_loc (v := .ref a5) (.tail _ (.tail _ (.tail _ (.tail _ (.head _))))) (E_items_nil ?_)))))))
  have ho3 := hS.o3
  have hol := own_len T
  refine R_pure ((w_through H (hR.less (e := d + 3) (by omega)) hStl hSt (by omega) hS.u3 (by omega) (by omega)).mono fun v Gn kn hGn hkn ⟨ui, hvi⟩ => ?_)
  subst hvi
  have hknp : 0 < kn := Nat.lt_of_lt_of_le hkfp (Nat.le_trans hkg (Nat.le_trans hkj hkn))
  rw [← repls_thru]
  rw [← repls_thru] at ho3
  have hqt := qt_eq (repls (kputs T own3) (esc3 X))
  generalize hI : repls (kputs T own3) (esc3 X) = I at hqt ho3 ⊢
  refine storeLoc (.tail (.tail (.tail (.tail (.tail .head))))) ?_
  replace hD := hD.mono hGn
  replace hP := hP.mono hGn
  replace hPl := hPl.mono hGn
  replace hE := hE.mono hkn
  show Run C _ L _ ⟨Gn, [("script", some (.ref l)), ("text", some (.str (tx X) u)), ("pairs", some (.ref a7)), ("plain", some (.str (tx (esc3 X)) up)), ("steps", some (.ref a5)), ("inner", some (.str (tx I) ui)), ("due", none)],
    [(L + 4, cellC none), (L + 3, cellC (some (.ref d2))), (L + 2, cellC (some (.ref d1))), (L + 1, cellC (some (.ref dd)))], kn⟩ _
  refine X_cons (X_Assign (Run.mono (Q := fun v p' => ∃ ue k', v = .str (one (endOf I)) ue ∧ kn ≤ k' ∧ p' = ⟨Gn, [("script", some (.ref l)), ("text", some (.str (tx X) u)), ("pairs", some (.ref a7)), ("plain", some (.str (tx (esc3 X)) up)), ("steps", some (.ref a5)), ("inner", some (.str (tx I) ui)), ("due", none)],
    [(L + 4, cellC none), (L + 3, cellC (some (.ref d2))), (L + 2, cellC (some (.ref d1))), (L + 1, cellC (some (.ref dd)))], k'⟩) ?_ ?_))
  · refine E_IfExp (T_BoolOp (T_And_cons (T_Cmp (E_str fun t1 h1 => E_loc (v := .str (tx I) ui) (.tail _ (.tail _ (.tail _ (.tail _ (.tail _ (.head _)))))) (C_inS (truthy_bool ?_))))))
    replace h1 : kn ≤ t1 := h1
    rw [show ("\"" : Str) = one 34 from rfl, contains_tx]
    dsimp only
    by_cases hq : 34 ∈ I
    · rw [decide_eq_true hq, if_pos rfl]
      refine T_And_cons (T_Cmp (E_str fun t2 h2 => E_loc (v := .str (tx I) ui) (.tail _ (.tail _ (.tail _ (.tail _ (.tail _ (.head _)))))) (C_notInS (truthy_bool ?_))))
      replace h2 : t1 + 1 ≤ t2 := h2
      rw [show ("'" : Str) = one 39 from rfl, contains_tx]
      dsimp only
      by_cases ha : 39 ∈ I
      · rw [decide_eq_true ha, if_neg (by simp)]
        show Run _ _ _ (eval _ _) _ _
        refine E_str fun t3 h3 => ⟨t3, t3 + 1, ?_, ?_, rfl⟩
        · unfold endOf; rw [if_neg (by simp [ha])]
        · have h3 : t2 + 1 ≤ t3 := h3
          omega
      · rw [decide_eq_false ha, if_pos (show (!false) = true from rfl)]
        refine T_And_nil ?_
        rw [if_pos rfl]
        refine E_str fun t3 h3 => ⟨t3, t3 + 1, ?_, ?_, rfl⟩
        · unfold endOf; rw [if_pos ⟨hq, ha⟩]
        · have h3 : t2 + 1 ≤ t3 := h3
          omega
    · rw [decide_eq_false hq, if_neg (by simp)]
      show Run _ _ _ (eval _ _) _ _
      refine E_str fun t3 h3 => ⟨t3, t3 + 1, ?_, ?_, rfl⟩
      · unfold endOf; rw [if_neg (by simp [hq])]
      · have h3 : t1 + 1 ≤ t3 := h3
        omega
  rintro v p₁ ⟨ue, k', rfl, hk', rfl⟩
  refine storeCell .head rfl ?_
  replace hE := hE.mono hk'
  dsimp only
  generalize endOf I = e at hqt ⊢
  refine X_cons (X_Assign (E_BinOp (E_BinOp (E_cell (c := L + 4) (.head _) rfl (E_meth F.slot_str_join F.plainAttrs_str F.type_str_join (E_str fun tk3 htk3 => ⟨HasT.str, E_items_cons ?_⟩))))))
  refine E_Comp1 (R := Str0 (fun a => (fun c => if c = e then quot else [c]) (I[a]?.getD 0))) (fun _ => true) [("end", L + 4)] Str0.monoR (E_loc (v := .str (tx I) ui) (.tail _ (.tail _ (.tail _ (.tail _ (.tail _ (.head _)))))) ⟨_, _, IterOn.str hR.hd, by rw [sizeLine_eq]; simp [tx]; omega, fun Cc i v Ga ka hi ⟨_, hs⟩ hGa hka => Tst.none fun _ => ?_, fun Da ys Ga ka hGa hka hMa => ?_⟩)
  · obtain ⟨c, uc, e3, rfl⟩ := hs
    have hget : I[i]?.getD 0 = c := by
      have : (tx I).cps[i]? = I[i]? := by simp [tx]
      rw [this] at e3; rw [e3]; rfl
    refine E_IfExp (T_Cmp (E_loc (v := .str ⟨#[c]⟩ uc) (.head _) (E_cell (c := L + 4) (.head _) rfl (C_eqS (truthy_bool ?_)))))
    have hce : ((⟨#[c]⟩ : Str) = one e) ↔ c = e := one_inj (a := c) (b := e)
    by_cases hc : c = e
    · rw [decide_eq_true (hce.mpr hc), if_pos rfl]
      refine E_str fun t4 h4 => ⟨_, _, rfl, GLe.refl _, Nat.le_succ_of_le h4, t4, ?_⟩
      dsimp only
      rw [hget, if_pos hc]; rfl
    · rw [decide_eq_false (fun h => hc (hce.mp h)), if_neg Bool.false_ne_true]
      refine E_loc (v := .str ⟨#[c]⟩ uc) (.head _) ⟨_, _, rfl, GLe.refl _, Nat.le_refl _, uc, ?_⟩
      dsimp only
      rw [hget, if_neg hc]; rfl
  have hPX2 : (List.range I.length).flatMap (fun a => (fun c => if c = e then quot else [c]) (I[a]?.getD 0)) = rp e quot I := range_flat I fun c => if c = e then quot else [c]
  have hsz2 : (tx I).cps.size = I.length := by simp [tx]
  rw [filt, hsz2] at hMa
  have hrl := rp_len e quot I
  have hmx : max 1 quot.length = 6 := rfl
  rw [hmx] at hrl
  refine E_items_nil (R_joinC0 hMa (by rw [hPX2]; omega) fun uj Gb kb hGb hkb => ?_)
  rw [hPX2]
  clear hMa
  replace hka : k' ≤ ka := Nat.le_trans (Nat.le_succ_of_le htk3) hka
  replace hD := hD.mono (GLe.trans hGa hGb)
  replace hP := hP.mono (GLe.trans hGa hGb)
  replace hPl := hPl.mono (GLe.trans hGa hGb)
  replace hE := hE.mono (Nat.le_trans hka hkb)
  refine B_addS (by rw [tx_len, sizeLine_eq]; show 1 + _ ≤ _; omega) fun ub => E_cell (c := L + 4) (.head _) rfl (B_addS ?_ fun uc => storeLoc (.tail (.tail (.tail (.tail (.tail (.tail .head)))))) ?_)
  · show (tx [e] ++ tx (rp e quot I)).length + 1 ≤ _
    rw [tx_append, tx_len, sizeLine_eq]; simp; omega
  have hdue : one e ++ tx (rp e quot I) ++ one e = tx (qt I) := by
    show tx [e] ++ tx (rp e quot I) ++ tx [e] = _
    rw [tx_append, tx_append, hqt]; rfl
  rw [hdue]
  dsimp only
  have hkq : 0 < kb := by
    have hA : k' ≤ kb := Nat.le_trans hka hkb
    have hB : 0 < k' := Nat.lt_of_lt_of_le hknp hk'
    exact Nat.lt_of_lt_of_le hB hA
  obtain ⟨⟨o39, h39, d39⟩, _⟩ := H.f39
  refine X_one (X_Return (E_And2 (E_Cmp (E_callF h39 d39 (E_glob H.base (.tail _ (.tail _ (.head _)))) (E_items_cons (E_loc (v := .str (tx X) u) (.tail _ (.head _)) (E_items_cons (E_cell (c := L + 1) (.tail _ (.tail _ (.tail _ (.head _)))) rfl (E_items_nil ?_)))))))))
  refine R_pure ((w_quote H (hR.less (e := d + 3) (by omega)) hkq hD hE hS.t63 hS.w hT6 (by omega)).mono fun v Gc kc hGc hkc ⟨uq, hvq⟩ => ?_)
  subst hvq
  rw [hI]
  refine E_loc (v := .str (tx (qt I)) uc) (.tail _ (.tail _ (.tail _ (.tail _ (.tail _ (.tail _ (.head _))))))) (C_eqS (truthy_bool ⟨by simp, ?_⟩))
  replace hD := hD.mono hGc
  replace hP := hP.mono hGc
  replace hPl := hPl.mono hGc
  refine E_Cmp (E_callV (f := .type "list") (E_blt H.base (.tail _ (.tail _ (.tail _ (.head _))))) (E_items_cons (E_meth F.slot_dict_items F.plainAttrs_dict F.type_dict_items (E_cell (c := L + 1) (.tail _ (.tail _ (.tail _ (.head _)))) rfl
    ⟨HasT.dict hD, E_items_nil (R_items hD fun v G₆ hG₆ hv6 => E_items_nil (R_listItems hR.hd hv6 (hD.mono hG₆) (by rw [sizeLine_eq]; omega) fun a9 G₇ as9 hG₇ hal9 hpa9 => ?_))⟩))))
  refine E_loc (v := .ref a7) (.tail _ (.tail _ (.head _))) ?_
  exact C_eqPairs (ys := []) (xs := tabTx T) (by have := hR.units; show _ + 1 < _; omega) (.inr (.head _)) (.inl (hPl.mono (GLe.trans hG₆ hG₇)).at) (pairs_of hE hal9 hpa9) (hP.mono (GLe.trans hG₆ hG₇)) rfl
end One
end Mine

open PySem PySem.Calls PyProof.Rows
set_option Elab.async false
set_option linter.unusedVariables false
set_option maxRecDepth 100000
namespace Mine
namespace One
theorem ints_at : ∀ {vs : List Value} {ns : List Int}, IntsAre vs ns → IntsAt vs ns := by
  intro vs ns h
  induction h with
  | nil => exact ⟨rfl, fun i n e => by simp at e⟩
  | cons n t _ ih =>
    refine ⟨by simp [ih.1], fun i m e => ?_⟩
    cases i with
    | zero => simp at e; subst e; exact ⟨t, rfl⟩
    | succ i => exact ih.2 i m (by simpa using e)
theorem law_ends {C : Cx} (H : Cx1 C) {A : Around} (hr : Room A 6) {l : Addr} {vs : List Value} {ns : List Int} (hl : C.B.IsList l vs.toArray) (hI : IntsAre vs ns) (hn : ns.length ≤ 63) (s : Shared) (hs : s.heap = C.B) :
    wpAny (model C.prog C.w) A (PySem.call (.ref 61) [.ref l]) (fun v s' => v = .bool true ∧ (∀ b o, s.heap.get? b = some o → s'.heap.get? b = some o) ∧ s'.os = s.os ∧ s'.gens = s.gens) (fun _ _ => False) s := by
  obtain ⟨o, ho, hc, n, hd⟩ := hl
  have S : Sat0 C.B (fun b => C.B.get? b) [] s.heap := by
    rw [hs]
    exact ⟨fun _ _ e => e, fun _ _ e => e, (fun q hq => nomatch hq), (fun b hb => nomatch hb), (fun b hb => nomatch hb), List.nodup_nil⟩
  refine wpAny_call (codeAny_mono (w_law H (d := 0) hr (G := fun b => C.B.get? b) (k := s.toks) ⟨o, n, ho, hc, hd⟩ (ints_at hI) hn s S ⟨Nat.le_refl _⟩) fun r s' hr => ?_)
  obtain ⟨v, G', N', k', rfl, S', x, _, _, _, hv⟩ := hr
  exact ⟨hv, fun b o e => x.keep b o e id (fun h => nomatch h), x.os, x.gens⟩
theorem fn_in {K : PySem.W.Frag} {h : Heap} (X : K.In h) {a : Addr} {fd : FuncData} (e : (K.lookup a).map (·.data) = some (.func fd)) : ∃ o, h.get? a = some o ∧ o.data = .func fd := by
  cases q : K.lookup a with
  | none => rw [q] at e; cases e
  | some o => rw [q] at e; exact ⟨o, X a o q, by injection e⟩
def codeOk (K : PySem.W.Frag) (c : Addr) (q : Str) : Bool := match K.lookup c with
  | some ⟨_, _, Data.fields vs, _⟩ => (match (vs : Array Value)[1]? with
    | some (Value.str x _) => x == q
    | _ => false)
  | _ => false
theorem code_in {K : PySem.W.Frag} {h : Heap} (X : K.In h) {c : Addr} {q : Str} (e : codeOk K c q = true) : h.CodeRec (.ref c) q := by
  unfold codeOk at e
  split at e
  · rename_i a b vs d e1
    split at e
    · rename_i x t e2
      exact ⟨c, _, vs, t, rfl, X _ _ e1, rfl, by rw [e2, eq_of_beq e]⟩
    · cases e
  · cases e
theorem some_in {K : PySem.W.Frag} {h : Heap} (X : K.In h) {a : Addr} (e : (K.lookup a).isSome = true) : ∃ o, h.get? a = some o := by
  obtain ⟨o, q⟩ := Option.isSome_iff_exists.mp e
  exact ⟨o, X a o q⟩
end One
end Mine

open PySem PySem.W PyProof.Rows
set_option Elab.async false
set_option maxRecDepth 100000 in
set_option maxHeartbeats 8000000 in
theorem PySem.Challenge.cw_dn0038_01_holds : PySem.Challenge.rw_dn0038_01.Holds := by
  w_on
  o_law
  k_head
  case hw => w_witness2
  k_fill
  intro w s₀ s₁ mg mb G Y fa o pm cd doc dV kV ho hd hcd hD hmg hg args vals as hpre hlay hrd hwl hlo
  have KX := kIn_of Y
  refine Ground.open G ?_
  intro T B D TE TW
  wrow_args hpre hlay hrd hwl hlo
  all_goals rename Heap.IsList _ _ _ => hL
  all_goals rename IntsAre _ _ => hI
  all_goals rename (¬ _ < _) => hlen
  all_goals (have hfa : fa = 61 := (by
    have h1 := mg_of (n := Str.ofString "law") (v := .ref 61) KX T.g (by kernel_rfl)
    have h2 : mg (Str.ofString "law") = some (.ref fa) := hmg
    rw [h1] at h2
    injection h2 with h2
    injection h2 with h2
    exact h2.symm))
  all_goals (have H : Mine.One.Cx1 ⟨PySem.Challenge.rw_dn0038_01.row.prog, w, s₁.heap⟩ := {
    base := { mg := mg, mb := mb, hg := T.g, hb := T.b, lim := T.nolimit,
              g := List.forall_mem_cons.mpr ⟨mg_of KX T.g (by kernel_rfl), List.forall_mem_cons.mpr ⟨mg_of KX T.g (by kernel_rfl), List.forall_mem_cons.mpr ⟨mg_of KX T.g (by kernel_rfl), List.forall_mem_cons.mpr ⟨mg_of KX T.g (by kernel_rfl),
                List.forall_mem_cons.mpr ⟨mg_of KX T.g (by kernel_rfl), List.forall_mem_cons.mpr ⟨mg_of KX T.g (by kernel_rfl), List.forall_mem_cons.mpr ⟨mg_of KX T.g (by kernel_rfl), (fun _ h => nomatch h)⟩⟩⟩⟩⟩⟩⟩,
              b := List.forall_mem_cons.mpr ⟨⟨mg_none_of KX T.g (by kernel_rfl), (T.builtins _ (by decide)).trans (by kernel_rfl)⟩, List.forall_mem_cons.mpr ⟨⟨mg_none_of KX T.g (by kernel_rfl), (T.builtins _ (by decide)).trans (by kernel_rfl)⟩,
                List.forall_mem_cons.mpr ⟨⟨mg_none_of KX T.g (by kernel_rfl), (T.builtins _ (by decide)).trans (by kernel_rfl)⟩, List.forall_mem_cons.mpr ⟨⟨mg_none_of KX T.g (by kernel_rfl), (T.builtins _ (by decide)).trans (by kernel_rfl)⟩, (fun _ h => nomatch h)⟩⟩⟩⟩ },
    nb := (by obtain ⟨mc, hmc, _⟩ := T.nodigits; exact ⟨mc, hmc, ns_none_of KX hmc (by kernel_rfl)⟩),
    hsm := Mine.One.some_in KX (by kernel_rfl),
    f21 := ⟨Mine.One.fn_in KX (by kernel_rfl), Mine.One.code_in (c := 20) KX (by kernel_rfl)⟩,
    f30 := ⟨Mine.One.fn_in KX (by kernel_rfl), Mine.One.code_in (c := 29) KX (by kernel_rfl)⟩,
    f39 := ⟨Mine.One.fn_in KX (by kernel_rfl), Mine.One.code_in (c := 38) KX (by kernel_rfl)⟩,
    f46 := ⟨Mine.One.fn_in KX (by kernel_rfl), Mine.One.code_in (c := 45) KX (by kernel_rfl)⟩,
    f51 := ⟨Mine.One.fn_in KX (by kernel_rfl), Mine.One.code_in (c := 50) KX (by kernel_rfl)⟩,
    f56 := ⟨Mine.One.fn_in KX (by kernel_rfl), Mine.One.code_in (c := 55) KX (by kernel_rfl)⟩,
    f61 := ⟨Mine.One.fn_in KX (by kernel_rfl), Mine.One.code_in (c := 60) KX (by kernel_rfl)⟩,
    t23 := ⟨{ cls := .type "tuple", data := .seq #[.ref 22] }, 0, KX 23 _ (by kernel_rfl), .ref 22, rfl⟩,
    t32 := ⟨{ cls := .type "tuple", data := .seq #[.ref 31] }, 0, KX 32 _ (by kernel_rfl), .ref 31, rfl⟩ })
  all_goals clear hd hcd hD hmg Y KX
  all_goals subst hfa
  all_goals refine wpAny_mono (Mine.One.law_ends (C := ⟨PySem.Challenge.rw_dn0038_01.row.prog, w, s₁.heap⟩) H ⟨by decide, by decide, rfl⟩ hL hI (by omega) s₁ rfl) (fun v s' hv => ?_) (fun _ _ h => h.elim)
  all_goals (obtain ⟨rfl, hk, hos, hgn⟩ := hv)
  all_goals exact GoodW.toG ⟨.inl ⟨.bool true, .bool true, [], rfl, fun _ => rfl, .bool _, by kernel_rfl, fun _ => ⟨List.nodup_nil, (fun _ h => nomatch h)⟩⟩, hk, hos, hgn.trans hg⟩
