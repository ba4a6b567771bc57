import Derived.Test.Qxb6628994aStep
namespace Go.Proofs.Qxb6628994a
open Go.RowKit Go.IntWalk
set_option linter.unusedVariables false
set_option linter.unusedSimpArgs false
theorem dgB_iff (x : Int) : dgB x = true ↔ dg x := by unfold dgB dg; simp
theorem First.unique {z : List Int} {i f f' : Nat} (h : First z i f) (h' : First z i f') : f = f' := by
  rcases h with ⟨a, rfl⟩ | ⟨a, rfl⟩ <;> rcases h' with ⟨b, rfl⟩ | ⟨b, rfl⟩
  · rfl
  · exact absurd a b
  · exact absurd b a
  · rfl
theorem Core.unique {z : List Int} {i f k f' k' : Nat} (h : Core z i f k) (h' : Core z i f' k') : f = f' ∧ k = k' := by
  obtain ⟨h1, h2⟩ := h
  obtain ⟨h1', h2'⟩ := h'
  obtain rfl := h1.unique h1'
  refine ⟨rfl, ?_⟩
  rcases h2 with ⟨a, rfl⟩ | ⟨a, b, _⟩ <;> rcases h2' with ⟨c, rfl⟩ | ⟨c, d, _⟩
  · rfl
  · exact absurd a c
  · exact absurd c a
  · exact isEnd_unique b d
/-- What the automaton has read when it is at p in state s. -/
def AInv (z : List Int) (i p s : Nat) : Prop :=
  i ≤ p ∧ p ≤ z.length ∧
  ((s = 0 ∧ p = i) ∨ (s = 1 ∧ p = i + 1 ∧ hit z i 45) ∨ (s = 2 ∧ ∃ f, First z i f ∧ hit z f 48 ∧ p = f + 1) ∨
   (s = 3 ∧ ∃ f, First z i f ∧ ¬ hit z f 48 ∧ f < p ∧ ∀ j, f ≤ j → j < p → dg (z.getD j 0)) ∨
   (4 ≤ s ∧ s ≤ 8 ∧ ∃ f k, Core z i f k ∧ (hit z k 46 ∨ hit z k 101 ∨ hit z k 69)))
theorem AInv.lt {z : List Int} {i p s : Nat} (h : AInv z i p s) : s < 9 := by
  obtain ⟨_, _, h⟩ := h
  rcases h with ⟨rfl, _⟩ | ⟨rfl, _⟩ | ⟨rfl, _⟩ | ⟨rfl, _⟩ | ⟨_, h, _⟩ <;> omega
theorem nst_ge {s : Nat} {b : Int} (h4 : 4 ≤ s) (h8 : s ≤ 8) (h : nst s b ≠ 9) : 4 ≤ nst s b ∧ nst s b ≤ 8 := by
  obtain rfl | rfl | rfl | rfl | rfl : s = 4 ∨ s = 5 ∨ s = 6 ∨ s = 7 ∨ s = 8 := by omega
  all_goals
    unfold nst at h ⊢
    simp only at h ⊢
    repeat' split
    all_goals first | omega | (simp_all; done)
theorem nst0 (b : Int) : nst 0 b = if b = 45 then 1 else if b = 48 then 2 else if 49 ≤ b ∧ b ≤ 57 then 3 else 9 := rfl
theorem nst1 (b : Int) : nst 1 b = if b = 48 then 2 else if 49 ≤ b ∧ b ≤ 57 then 3 else 9 := rfl
theorem nst2 (b : Int) : nst 2 b = if b = 46 then 4 else if b = 101 ∨ b = 69 then 6 else 9 := rfl
theorem nst3 (b : Int) : nst 3 b = if dgB b = true then 3 else if b = 46 then 4 else if b = 101 ∨ b = 69 then 6 else 9 := rfl
theorem AInv.step {z : List Int} {i p s : Nat} (h : AInv z i p s) (hp : p < z.length) (hn : nst s (z.getD p 0) ≠ 9) : AInv z i (p + 1) (nst s (z.getD p 0)) := by
  obtain ⟨h1, h2, h⟩ := h
  refine ⟨by omega, by omega, ?_⟩
  rcases h with ⟨rfl, rfl⟩ | ⟨rfl, rfl, h45⟩ | ⟨rfl, f, hF, h48, rfl⟩ | ⟨rfl, f, hF, h48, hfp, hdg⟩ | ⟨h4, h8, hx⟩
  · by_cases a : z.getD p 0 = 45
    · refine .inr (.inl ⟨?_, rfl, hp, a⟩)
      simp only [nst0, nst1, nst2, nst3]; rw [if_pos a]
    · have hF : First z p p := .inr ⟨fun h => a h.2, rfl⟩
      by_cases b : z.getD p 0 = 48
      · refine .inr (.inr (.inl ⟨?_, p, hF, ⟨hp, b⟩, rfl⟩))
        simp only [nst0, nst1, nst2, nst3]; rw [if_neg a, if_pos b]
      · by_cases c : 49 ≤ z.getD p 0 ∧ z.getD p 0 ≤ 57
        · refine .inr (.inr (.inr (.inl ⟨?_, p, hF, fun h => b h.2, by omega, fun j hj1 hj2 => ?_⟩)))
          · simp only [nst0, nst1, nst2, nst3]; rw [if_neg a, if_neg b, if_pos c]
          · obtain rfl : j = p := by omega
            exact ⟨by omega, c.2⟩
        · refine absurd ?_ hn
          simp only [nst0, nst1, nst2, nst3]; rw [if_neg a, if_neg b, if_neg c]
  · have hF : First z i (i + 1) := .inl ⟨h45, rfl⟩
    by_cases b : z.getD (i + 1) 0 = 48
    · refine .inr (.inr (.inl ⟨?_, i + 1, hF, ⟨hp, b⟩, rfl⟩))
      simp only [nst0, nst1, nst2, nst3]; rw [if_pos b]
    · by_cases c : 49 ≤ z.getD (i + 1) 0 ∧ z.getD (i + 1) 0 ≤ 57
      · refine .inr (.inr (.inr (.inl ⟨?_, i + 1, hF, fun h => b h.2, by omega, fun j hj1 hj2 => ?_⟩)))
        · simp only [nst0, nst1, nst2, nst3]; rw [if_neg b, if_pos c]
        · obtain rfl : j = i + 1 := by omega
          exact ⟨by omega, c.2⟩
      · refine absurd ?_ hn
        simp only [nst0, nst1, nst2, nst3]; rw [if_neg b, if_neg c]
  · have hC : Core z i f (f + 1) := ⟨hF, .inl ⟨h48, rfl⟩⟩
    by_cases a : z.getD (f + 1) 0 = 46
    · refine .inr (.inr (.inr (.inr ⟨?_, ?_, f, f + 1, hC, .inl ⟨hp, a⟩⟩))) <;> (simp only [nst0, nst1, nst2, nst3]; rw [if_pos a]; omega)
    · by_cases b : z.getD (f + 1) 0 = 101 ∨ z.getD (f + 1) 0 = 69
      · refine .inr (.inr (.inr (.inr ⟨?_, ?_, f, f + 1, hC, .inr (b.imp (fun b => ⟨hp, b⟩) (fun b => ⟨hp, b⟩))⟩))) <;> (simp only [nst0, nst1, nst2, nst3]; rw [if_neg a, if_pos b]; omega)
      · refine absurd ?_ hn
        simp only [nst0, nst1, nst2, nst3]; rw [if_neg a, if_neg b]
  · by_cases d : dgB (z.getD p 0) = true
    · refine .inr (.inr (.inr (.inl ⟨?_, f, hF, h48, by omega, fun j hj1 hj2 => ?_⟩)))
      · simp only [nst0, nst1, nst2, nst3]; rw [if_pos d]
      · by_cases hj : j = p
        · subst hj; exact (dgB_iff _).1 d
        · exact hdg j hj1 (by omega)
    · have hC : Core z i f p := ⟨hF, .inr ⟨h48, ⟨by omega, by omega, hdg, fun _ h => d ((dgB_iff _).2 h)⟩, hfp⟩⟩
      by_cases a : z.getD p 0 = 46
      · refine .inr (.inr (.inr (.inr ⟨?_, ?_, f, p, hC, .inl ⟨hp, a⟩⟩))) <;> (simp only [nst0, nst1, nst2, nst3]; rw [if_neg d, if_pos a]; omega)
      · by_cases b : z.getD p 0 = 101 ∨ z.getD p 0 = 69
        · refine .inr (.inr (.inr (.inr ⟨?_, ?_, f, p, hC, .inr (b.imp (fun b => ⟨hp, b⟩) (fun b => ⟨hp, b⟩))⟩))) <;> (simp only [nst0, nst1, nst2, nst3]; rw [if_neg d, if_neg a, if_pos b]; omega)
        · refine absurd ?_ hn
          simp only [nst0, nst1, nst2, nst3]; rw [if_neg d, if_neg a, if_neg b]
  · have := nst_ge h4 h8 hn
    exact .inr (.inr (.inr (.inr ⟨this.1, this.2, hx⟩)))
/-- Where it ends. -/
def AEnd (z : List Int) (i p s : Nat) : Prop := AInv z i p s ∧ (p < z.length → nst s (z.getD p 0) = 9)
theorem AEnd.yes {z : List Int} {i p s : Nat} (h : AEnd z i p s) (hs : s = 2 ∨ s = 3) : ∃ f, IntAt z i f p := by
  obtain ⟨⟨h1, h2, h⟩, he⟩ := h
  have key : ∀ f, Core z i f p → (p < z.length → ¬ z.getD p 0 = 46 ∧ ¬ z.getD p 0 = 101 ∧ ¬ z.getD p 0 = 69) → ∃ f, IntAt z i f p :=
    fun f hC hx => ⟨f, hC, fun h => (hx h.1).1 h.2, fun h => (hx h.1).2.1 h.2, fun h => (hx h.1).2.2 h.2⟩
  rcases h with ⟨rfl, _⟩ | ⟨rfl, _⟩ | ⟨rfl, f, hF, h48, rfl⟩ | ⟨rfl, f, hF, h48, hfp, hdg⟩ | ⟨h4, h8, _⟩
  · omega
  · omega
  · refine key f ⟨hF, .inl ⟨h48, rfl⟩⟩ fun hp => ?_
    have hx := he hp
    simp only [nst0, nst1, nst2, nst3] at hx
    refine ⟨fun a => ?_, fun a => ?_, fun a => ?_⟩
    · rw [if_pos a] at hx; omega
    · rw [if_neg (by omega), if_pos (.inl a)] at hx; omega
    · rw [if_neg (by omega), if_pos (.inr a)] at hx; omega
  · have hnd : p < z.length → ¬ dg (z.getD p 0) := fun hp hd => by
      have hx := he hp
      simp only [nst0, nst1, nst2, nst3] at hx
      rw [if_pos ((dgB_iff _).2 hd)] at hx; omega
    refine key f ⟨hF, .inr ⟨h48, ⟨by omega, h2, hdg, hnd⟩, hfp⟩⟩ fun hp => ?_
    have hx := he hp
    simp only [nst0, nst1, nst2, nst3] at hx
    rw [if_neg (fun h => hnd hp ((dgB_iff _).1 h))] at hx
    refine ⟨fun a => ?_, fun a => ?_, fun a => ?_⟩
    · rw [if_pos a] at hx; omega
    · rw [if_neg (by omega), if_pos (.inl a)] at hx; omega
    · rw [if_neg (by omega), if_pos (.inr a)] at hx; omega
  · omega
theorem AEnd.no {z : List Int} {i p s : Nat} (h : AEnd z i p s) (hs : ¬ (s = 2 ∨ s = 3)) (f k : Nat) : ¬ IntAt z i f k := by
  intro hI
  have hlt := hI.1.lt
  obtain ⟨⟨h1, h2, h⟩, he⟩ := h
  rcases h with ⟨rfl, rfl⟩ | ⟨rfl, rfl, h45⟩ | ⟨rfl, _⟩ | ⟨rfl, _⟩ | ⟨h4, h8, f', k', hC, hx⟩
  · have hx := he (by omega)
    simp only [nst0, nst1, nst2, nst3] at hx
    rcases hI.1.1 with ⟨a, rfl⟩ | ⟨a, rfl⟩
    · rw [if_pos a.2] at hx; omega
    · rw [if_neg (fun e => a ⟨by omega, e⟩)] at hx
      by_cases b : z.getD f 0 = 48
      · rw [if_pos b] at hx; omega
      · have hd := hI.1.digit f (by omega) (by omega)
        rw [if_neg b, if_pos ⟨by have := hd.1; omega, hd.2⟩] at hx; omega
  · obtain rfl : f = i + 1 := by
      rcases hI.1.1 with ⟨a, b⟩ | ⟨a, b⟩
      · exact b
      · exact absurd h45 a
    have hx := he (by omega)
    simp only [nst0, nst1, nst2, nst3] at hx
    by_cases b : z.getD (i + 1) 0 = 48
    · rw [if_pos b] at hx; omega
    · have hd := hI.1.digit (i + 1) (by omega) (by omega)
      rw [if_neg b, if_pos ⟨by have := hd.1; omega, hd.2⟩] at hx; omega
  · exact hs (.inl rfl)
  · exact hs (.inr rfl)
  · obtain ⟨rfl, rfl⟩ := hC.unique hI.1
    rcases hx with hx | hx | hx
    · exact hI.2.1 hx
    · exact hI.2.2.1 hx
    · exact hI.2.2.2 hx
end Go.Proofs.Qxb6628994a
