/- The senders' states, plainly; and how the windows and the models hold them. -/
import Derived.Test.YbulkczmqStep
import Derived.Test.YbulkczmqSame
namespace Go.Proofs.Ybulkczmq
open Go.RowKit

/-- A sender's state. -/
structure Sd where
  known : Bool
  ne : Int
  ar : Int
  fl : Int
  acc : List Int

def Rep (B T : Nat) (f : Int → Int) (sel : Sd → List Int) (S : Sd) (X : Wn) (w : World) : Prop :=
  (S.known = false ∧ X = zeroW) ∨ (S.known = true ∧ ∃ g cap, X = ⟨true, f S.ne, f S.ar, f S.fl, .slice (some ⟨g, 0, none⟩) (sel S).length cap⟩ ∧ w.ownsRow B T 1 (.slice (some ⟨g, 0, none⟩) (sel S).length cap) (sel S).length (ints (sel S)))

structure Reps (B T : Nat) (f : Int → Int) (sel : Sd → List Int) (Xs : List Wn) (Ss : List Sd) (w : World) : Prop where
  len : Xs.length = Ss.length
  rep : ∀ (k : Nat) (S : Sd) (X : Wn), Ss[k]? = some S → Xs[k]? = some X → Rep B T f sel S X w
  apart : ∀ (j k : Nat) (X Y : Wn), j ≠ k → Xs[j]? = some X → Xs[k]? = some Y → X.sv.ownBlock = none ∨ X.sv.ownBlock ≠ Y.sv.ownBlock

/-- The row that a change names is one of type T, or there is none. -/
def RowT (T : Nat) (w : World) (row : Option Nat) : Prop := row = none ∨ ∃ h cur, row = some h ∧ w.heap[h]? = some (.cells cur T (0, 0))

theorem Rep.own {B T : Nat} {f : Int → Int} {sel : Sd → List Int} {S : Sd} {X : Wn} {w : World} (h : Rep B T f sel S X w) : RowT T w X.sv.ownBlock := by
  rcases h with ⟨_, rfl⟩ | ⟨_, g, cap, rfl, hown⟩
  · exact .inl rfl
  · rcases hown.2 with ⟨h0, _⟩ | ⟨g', cap', cur, hv, hb, hh, _⟩
    · cases h0
    · cases hv; exact .inr ⟨g, cur, rfl, hh⟩

theorem Rep.block {B T : Nat} {f : Int → Int} {sel : Sd → List Int} {S : Sd} {X : Wn} {w : World} (h : Rep B T f sel S X w) (k : Nat) (hk : X.sv.ownBlock = some k) : B ≤ k ∧ k < w.heap.size := by
  rcases h with ⟨_, rfl⟩ | ⟨_, g, cap, rfl, hown⟩
  · cases hk
  · exact hown.lt k (by simpa using hk)

theorem Rep.keep {A B T : Nat} {row : Option Nat} {f : Int → Int} {sel : Sd → List Int} {S : Sd} {X : Wn} {w w' : World} (h : Rep B T f sel S X w) (hf : Fr A row w w') (hA : X.sv.ownBlock ≠ some A) (hr : X.sv.ownBlock = none ∨ X.sv.ownBlock ≠ row) : Rep B T f sel S X w' := by
  rcases h with h | ⟨hk, g, cap, rfl, hown⟩
  · exact .inl h
  · refine .inr ⟨hk, g, cap, rfl, hown.1, ?_⟩
    rcases hown.2 with ⟨h0, _⟩ | ⟨g', cap', cur, hv, hb, hh, rest⟩
    · cases h0
    · cases hv
      refine .inr ⟨g, cap, cur, rfl, hb, ?_, rest⟩
      rw [hf.block g (lt_of_block hh) (fun e => hA (by simp [Value.ownBlock, e])) (by rcases hr with e | e; (cases e); exact e)]
      exact hh

theorem Reps.update {A B T : Nat} {row : Option Nat} {f : Int → Int} {sel : Sd → List Int} {Xs : List Wn} {Ss : List Sd} {w w' : World} (h : Reps B T f sel Xs Ss w) {k : Nat} {X0 : Wn} {S1 : Sd} (hX : Xs[k]? = some X0)
    (hrow : row = none ∨ row = X0.sv.ownBlock) (hf : Fr A row w w') (hA : A < B) (hk1 : S1.known = true) (g cap : Nat) (hown : w'.ownsRow B T 1 (.slice (some ⟨g, 0, none⟩) (sel S1).length cap) (sel S1).length (ints (sel S1))) (hg : row = some g ∨ w.heap.size ≤ g) :
    Reps B T f sel (Xs.set k ⟨true, f S1.ne, f S1.ar, f S1.fl, .slice (some ⟨g, 0, none⟩) (sel S1).length cap⟩) (Ss.set k S1) w' := by
  have hkX : k < Xs.length := (List.getElem?_eq_some_iff.1 hX).1
  have hkS : k < Ss.length := by rw [← h.len]; exact hkX
  have old : ∀ (j : Nat) (X : Wn), j ≠ k → Xs[j]? = some X → ∃ S, Ss[j]? = some S ∧ Rep B T f sel S X w := fun j X _ hj => by
    have hjX := (List.getElem?_eq_some_iff.1 hj).1
    have hjS : j < Ss.length := by rw [← h.len]; exact hjX
    exact ⟨Ss[j], List.getElem?_eq_getElem hjS, h.rep j _ X (List.getElem?_eq_getElem hjS) hj⟩
  refine ⟨by simp [h.len], ?_, ?_⟩
  · intro j S X hS hXj
    by_cases e : j = k
    · subst e
      rw [List.getElem?_set_self hkS] at hS
      rw [List.getElem?_set_self hkX] at hXj
      cases hS; cases hXj
      exact .inr ⟨hk1, g, cap, rfl, hown⟩
    · rw [List.getElem?_set_ne (Ne.symm e)] at hS hXj
      have hr := h.rep j S X hS hXj
      refine hr.keep hf (fun e' => by have := (hr.block A e').1; omega) ?_
      rcases h.apart j k X X0 e hXj hX with e' | e'
      · exact .inl e'
      · rcases hrow with r | r
        · rw [r]
          cases hb : X.sv.ownBlock with
          | none => exact .inl rfl
          | some b => exact .inr (by simp)
        · rw [r]; exact .inr e'
  · intro j l X Y hjl hj hl
    by_cases ej : j = k
    · subst ej
      rw [List.getElem?_set_self hkX] at hj
      rw [List.getElem?_set_ne hjl] at hl
      cases hj
      right
      obtain ⟨S, hS, hrep⟩ := old l Y (Ne.symm hjl) hl
      intro e
      have hb := hrep.block g (by rw [← e]; rfl)
      rcases hg with r | r
      · rcases hrow with r' | r'
        · rw [r'] at r; cases r
        · rcases h.apart l j Y X0 (Ne.symm hjl) hl hX with e' | e'
          · rw [← e] at e'; cases e'
          · exact e' (by rw [← e, ← r', r]; rfl)
      · omega
    · rw [List.getElem?_set_ne (Ne.symm ej)] at hj
      by_cases el : l = k
      · subst el
        rw [List.getElem?_set_self hkX] at hl
        cases hl
        obtain ⟨S, hS, hrep⟩ := old j X ej hj
        cases hb : X.sv.ownBlock with
        | none => exact .inl rfl
        | some b =>
          right
          intro e
          have e2 : b = g := by simpa [Value.ownBlock] using e
          subst e2
          have hb' := hrep.block b hb
          rcases hg with r | r
          · rcases hrow with r' | r'
            · rw [r'] at r; cases r
            · rcases h.apart j l X X0 ej hj hX with e' | e'
              · rw [hb] at e'; cases e'
              · exact e' (by rw [hb, ← r', r])
          · omega
      · rw [List.getElem?_set_ne (Ne.symm el)] at hl
        exact h.apart j l X Y hjl hj hl

/-- A change of blocks of other types. -/
theorem Reps.other {A B T TA T' : Nat} {row : Option Nat} {f : Int → Int} {sel : Sd → List Int} {Xs : List Wn} {Ss : List Sd} {w w' : World} (h : Reps B T f sel Xs Ss w) (hf : Fr A row w w') {cA : Array Value} (hA : w.heap[A]? = some (.cells cA TA (0, 0))) (hTA : T ≠ TA) (hrow : RowT T' w row) (hT : T ≠ T') :
    Reps B T f sel Xs Ss w' := by
  refine ⟨h.len, fun k S X hS hX => ?_, h.apart⟩
  have hr := h.rep k S X hS hX
  refine hr.keep hf ?_ ?_
  · intro e
    rcases hr.own with r | ⟨b, cur, r, hb⟩
    · rw [e] at r; cases r
    · rw [e] at r; cases r
      rw [hA] at hb; cases hb; exact hTA rfl
  · rcases hr.own with r | ⟨b, cur, r, hb⟩
    · exact .inl r
    · right
      rw [r]
      intro e
      rcases hrow with q | ⟨b', cur', q, hb'⟩
      · rw [q] at e; cases e
      · rw [q] at e; cases e
        rw [hb] at hb'; cases hb'; exact hT rfl

/-- A change of nothing. -/
theorem Reps.kept {A B T : Nat} {f : Int → Int} {sel : Sd → List Int} {Xs : List Wn} {Ss : List Sd} {w w' : World} (h : Reps B T f sel Xs Ss w) (hf : Fr A none w w') (hA : A < B) : Reps B T f sel Xs Ss w' := by
  refine ⟨h.len, fun k S X hS hX => ?_, h.apart⟩
  have hr := h.rep k S X hS hX
  refine hr.keep hf (fun e => by have := (hr.block A e).1; omega) ?_
  cases X.sv.ownBlock with
  | none => exact .inl rfl
  | some b => exact .inr (by simp)

theorem Fm.block {SB F n : Nat} {ma fa : Int} {Ws : List Wn} {w : World} (h : Fm SB F n ma fa Ws w) : ∃ cur, w.heap[SB]? = some (.cells cur 43 (0, 0)) := by
  rcases h.row.2 with ⟨h0, _⟩ | ⟨g', cap', cur, hv, hb, hh, _⟩
  · cases h0
  · cases hv; exact ⟨cur, hh⟩

theorem Fm.of_fr {SB F n A TA T' : Nat} {row : Option Nat} {ma fa : Int} {Ws : List Wn} {w w' : World} (h : Fm SB F n ma fa Ws w) (hf : Fr A row w w') {cA : Array Value} (hA : w.heap[A]? = some (.cells cA TA (0, 0))) (h1 : TA ≠ 43) (h2 : TA ≠ 46) (hrow : RowT T' w row) (h3 : T' ≠ 43) (h4 : T' ≠ 46) : Fm SB F n ma fa Ws w' := by
  have keep : ∀ (b : Nat) (cur : Array Value) (T : Nat), w.heap[b]? = some (Obj.cells cur T (0, 0)) → TA ≠ T → T' ≠ T → w'.heap[b]? = w.heap[b]? := fun b cur T hb a1 a2 => by
    refine hf.block b (lt_of_block hb) (fun e => ?_) (fun e => ?_)
    · subst e; rw [hA] at hb; cases hb; exact a1 rfl
    · rcases hrow with q | ⟨b', cur', q, hb'⟩
      · rw [q] at e; cases e
      · rw [q] at e; cases e
        rw [hb] at hb'; cases hb'; exact a2 rfl
  refine ⟨⟨h.row.1, ?_⟩, h.len, h.lt, by rw [keep F _ _ h.f h2 h4]; exact h.f⟩
  rcases h.row.2 with ⟨h0, _⟩ | ⟨g', cap', cur, hv, hb, hh, rest⟩
  · cases h0
  · cases hv
    exact .inr ⟨SB, n, cur, rfl, hb, by rw [keep SB _ _ hh h1 h3]; exact hh, rest⟩

theorem Mm.of_fr {M A TA T' : Nat} {row : Option Nat} {Ms : List Wn} {w w' : World} (h : Mm M Ms w) (hf : Fr A row w w') {cA : Array Value} (hA : w.heap[A]? = some (.cells cA TA (0, 0))) (h1 : TA ≠ 30) (hrow : RowT T' w row) (h3 : T' ≠ 30) : Mm M Ms w' := by
  refine ⟨?_, h.len⟩
  rw [hf.block M (lt_of_block h.h) (fun e => ?_) (fun e => ?_)]
  · exact h.h
  · have := h.h; rw [e, hA] at this; cases this; exact h1 rfl
  · rcases hrow with q | ⟨b', cur', q, hb'⟩
    · rw [q] at e; cases e
    · rw [q] at e; cases e
      rw [h.h] at hb'; cases hb'; exact h3 rfl
end Go.Proofs.Ybulkczmq
