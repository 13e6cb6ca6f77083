/- Numbers with a sign in memory: the state of many Ints at once. Decimal texts as lists of bytes: plain lists and numbers, no program in sight. Numbers with a sign: the methods of Int. Conditions: those that each theorem states. -/
import Derived.Test.YtpabbnogfflgpaaGreatDoorBase06
set_option linter.all false

section
namespace Go.Proofs.YtpabbnogfflgpaaGreatDoor
open Go.RowKit

/-- An Int at block B: the number z, its words in block o. -/
def IntAt (w : World) (B : Nat) (z : Int) (o : Option Nat) : Prop :=
  ∃ v, Blk w B 114 [.bool (decide (z < 0)), v] ∧ NatS w v z.natAbs o
/-- The Ints S, each with words of its own, none of them in a block of P. -/
structure St (P : Nat → Prop) (w : World) (S : Nat → Option Int) (own : Nat → Option Nat) : Prop where
  gl : Gl w
  pg : ∀ k, k < 18 → P k
  pl : ∀ k, P k → k < w.heap.size
  at_ : ∀ B z, S B = some z → IntAt w B z (own B)
  np : ∀ B z, S B = some z → ¬ P B
  no : ∀ B z K, S B = some z → own B = some K → ¬ P K ∧ S K = none
  ap : ∀ B B' z z' K, S B = some z → S B' = some z' → own B = some K → own B' = some K → B = B'
def Ints (P : Nat → Prop) (w : World) (S : Nat → Option Int) : Prop := ∃ own, St P w S own
def upd (S : Nat → Option Int) (B : Nat) (z : Int) : Nat → Option Int := fun k => if k = B then some z else S k
section
variable {P Q : Nat → Prop} {w w' w'' w1 : World} {S S' : Nat → Option Int} {own : Nat → Option Nat} {B B' B1 B2 K m : Nat} {z z' z0 z1 z2 : Int} {v v1 v2 : Value} {o o' o1 o2 : Option Nat}
theorem upd_same : upd S B z B = some z := by simp [upd]
theorem upd_ne (h : K ≠ B) : upd S B z K = S K := by simp [upd, h]
theorem Keep.trans (h : Keep P w w') (k : Keep P w' w'') : Keep P w w'' :=
  ⟨k.os.trans h.os, k.tape.trans h.tape, k.output.trans h.output, Nat.le_trans h.size k.size, fun i hp hi => (k.block i hp (Nat.lt_of_lt_of_le hi h.size)).trans (h.block i hp hi)⟩
theorem Keep.sub (h : Keep Q w w') (hs : ∀ k, P k → Q k) : Keep P w w' := ⟨h.os, h.tape, h.output, h.size, fun k hp hk => h.block k (hs k hp) hk⟩
theorem Keep.of_below (h : Below w.heap.size w w') : Keep P w w' := ⟨h.os, h.tape, h.output, h.size, fun k _ hk => h.block k hk⟩
theorem Keep.below (h : Keep P w w') (hP : ∀ k, k < w.heap.size → P k) : Below w.heap.size w w' := ⟨h.os, h.tape, h.output, h.size, fun k hk => h.block k (hP k hk) hk⟩
theorem Keep.drewN (w : World) (n : Nat) : Keep P w (w.drewN n) := ⟨rfl, rfl, rfl, Nat.le_refl _, fun _ _ _ => rfl⟩
theorem Keep.blk {E : TypeId} {xs : List Value} (h : Keep P w w') (hb : Blk w K E xs) (hP : P K) : Blk w' K E xs := hb.of_heap (h.block K hP hb.lt)
theorem IntAt.lt (h : IntAt w B z o) : B < w.heap.size := by obtain ⟨v, h, _⟩ := h; exact h.lt
theorem IntAt.own_lt (h : IntAt w B z o) (ho : o = some K) : K < w.heap.size := by obtain ⟨v, _, h⟩ := h; exact h.lt ho
theorem IntAt.of_heap (h : IntAt w B z o) (e1 : w'.heap[B]? = w.heap[B]?) (e2 : ∀ K, o = some K → w'.heap[K]? = w.heap[K]?) : IntAt w' B z o := by
  obtain ⟨v, h1, h2⟩ := h
  exact ⟨v, h1.of_heap e1, h2.of_heap e2⟩
theorem St.below (h : St P w S own) (hb : Below w.heap.size w w') (hg : ∀ k, k < 18 → Q k) (hQ : ∀ k, Q k → P k ∨ (w.heap.size ≤ k ∧ k < w'.heap.size)) : St Q w' S own where
  gl := h.gl.below hb
  pg := hg
  pl k hk := by
    rcases hQ k hk with h1 | h1
    · exact Nat.lt_of_lt_of_le (h.pl k h1) hb.size
    · exact h1.2
  at_ B z hB := (h.at_ B z hB).of_heap (hb.block B (h.at_ B z hB).lt) fun K hK => hb.block K ((h.at_ B z hB).own_lt hK)
  np B z hB hq := by
    rcases hQ B hq with h1 | h1
    · exact h.np B z hB h1
    · have := (h.at_ B z hB).lt; omega
  no B z K hB hK := ⟨fun hq => by
    rcases hQ K hq with h1 | h1
    · exact (h.no B z K hB hK).1 h1
    · have := (h.at_ B z hB).own_lt hK; omega, (h.no B z K hB hK).2⟩
  ap := h.ap
/-- New blocks, some of them to be kept from now on. -/
theorem Ints.more (h : Ints P w S) (hb : Below w.heap.size w w') (hg : ∀ k, k < 18 → Q k) (hQ : ∀ k, Q k → P k ∨ (w.heap.size ≤ k ∧ k < w'.heap.size)) : Ints Q w' S := by
  obtain ⟨own, h⟩ := h
  exact ⟨own, h.below hb hg hQ⟩
theorem Ints.below (h : Ints P w S) (hb : Below w.heap.size w w') : Ints P w' S := by
  obtain ⟨own, h⟩ := h
  exact ⟨own, h.below hb h.pg fun k hk => .inl hk⟩
theorem Ints.drewN (h : Ints P w S) (n : Nat) : Ints P (w.drewN n) S := h.below ⟨rfl, rfl, rfl, Nat.le_refl _, fun _ _ => rfl⟩
theorem Ints.less (h : Ints P w S) (hg : ∀ k, k < 18 → Q k) (hQ : ∀ k, Q k → P k) : Ints Q w S := h.more (Below.refl _ _) hg fun k hk => .inl (hQ k hk)
theorem Ints.sub (h : Ints P w S) (hS : ∀ k z, S' k = some z → S k = some z) : Ints P w S' := by
  obtain ⟨own, h⟩ := h
  refine ⟨own, ⟨h.gl, h.pg, h.pl, fun B z hB => h.at_ B z (hS B z hB), fun B z hB => h.np B z (hS B z hB), fun B z K hB hK => ⟨(h.no B z K (hS B z hB) hK).1, ?_⟩, fun B B' z z' K h1 h2 => h.ap B B' z z' K (hS B z h1) (hS B' z' h2)⟩⟩
  cases e : S' K with
  | none => rfl
  | some y => have := hS K y e; rw [(h.no B z K (hS B z hB) hK).2] at this; cases this
theorem Ints.gl (h : Ints P w S) : Gl w := by obtain ⟨own, h⟩ := h; exact h.gl
theorem Ints.pg (h : Ints P w S) : ∀ k, k < 18 → P k := by obtain ⟨own, h⟩ := h; exact h.pg
theorem Ints.pl (h : Ints P w S) : ∀ k, P k → k < w.heap.size := by obtain ⟨own, h⟩ := h; exact h.pl
theorem Ints.np (h : Ints P w S) (hB : S B = some z) : ¬ P B := by obtain ⟨own, h⟩ := h; exact h.np B z hB
theorem Ints.lt (h : Ints P w S) (hB : S B = some z) : B < w.heap.size := by obtain ⟨own, h⟩ := h; exact (h.at_ B z hB).lt
theorem Ints.fresh (h : Ints P w S) (hK : w.heap.size ≤ K) : S K = none := by
  cases e : S K with
  | none => rfl
  | some y => have := h.lt e; omega
theorem Ints.ne (_h : Ints P w S) (hB : S B = some z) (hK : S K = none) : B ≠ K := fun e => by rw [e, hK] at hB; cases hB
/-- One Int turned. -/
theorem St.write (h : St P w S own) (hB : S B = some z0) (hr : NatR w w1 (own B) m v) (hp : Put w1 w' B 114 [.bool (decide (z' < 0)), v]) (hm : m = z'.natAbs) : Keep P w w' ∧ Ints P w' (upd S B z') := by
  obtain ⟨o', hn, hc, ho⟩ := hr
  subst hm
  have hlt := (h.at_ B z0 hB).lt
  have hoP : ∀ K, o' = some K → ¬ P K ∧ S K = none := fun K hK => by
    rcases ho with rfl | ⟨K', rfl, hk⟩
    · exact h.no B z0 K hB hK
    · obtain rfl : K' = K := Option.some.inj hK
      refine ⟨fun hp => by have := h.pl K' hp; omega, ?_⟩
      cases e : S K' with
      | none => rfl
      | some y => have := (h.at_ K' y e).lt; omega
  have hoB : o' ≠ some B := fun e => by have := (hoP B e).2; rw [hB] at this; cases this
  have hblk : ∀ k, k < w.heap.size → k ≠ B → own B ≠ some k → w'.heap[k]? = w.heap[k]? := fun k hk h1 h2 => (hp.other k h1).trans (hc.block k hk h2)
  refine ⟨⟨hp.os.trans hc.os, hp.tape.trans hc.tape, hp.output.trans hc.output, by rw [hp.size]; exact hc.size, fun k hk hl => hblk k hl (fun e => h.np B z0 hB (by rw [← e]; exact hk)) (fun e => (h.no B z0 k hB e).1 hk)⟩, fun k => if k = B then o' else own k, ?_⟩
  have key : ∀ k y, upd S B z' k = some y → (k = B ∧ y = z') ∨ (k ≠ B ∧ S k = some y) := fun k y hk => by
    unfold upd at hk
    by_cases e : k = B
    · rw [if_pos e] at hk; cases hk; exact .inl ⟨e, rfl⟩
    · rw [if_neg e] at hk; exact .inr ⟨e, hk⟩
  refine ⟨?_, h.pg, fun k hk => by rw [hp.size]; exact Nat.lt_of_lt_of_le (h.pl k hk) hc.size, ?_, ?_, ?_, ?_⟩
  · have key : ∀ g x, g < 18 → w.cell? ⟨g, 0, none⟩ = some x → w'.cell? ⟨g, 0, none⟩ = some x := fun g x hg hx => by
      rw [← hx]
      exact World.cell?_of_block (w := w) (hblk g (World.block_lt_of_cell? w _ hx) (fun e => h.np B z0 hB (e ▸ h.pg g hg)) (fun e => (h.no B z0 g hB e).1 (h.pg g hg)))
    exact h.gl.of_cells key
  · intro k y hk
    rcases key k y hk with ⟨rfl, rfl⟩ | ⟨h1, h2⟩
    · simp only [if_true]
      exact ⟨v, hp.here, hn.of_heap fun K hK => hp.other K (fun e => hoB (e ▸ hK))⟩
    · simp only [h1, if_false]
      exact (h.at_ k y h2).of_heap (hblk k (h.at_ k y h2).lt h1 (fun e => by have := (h.no B z0 k hB e).2; rw [h2] at this; cases this)) fun K hK =>
        hblk K ((h.at_ k y h2).own_lt hK) (fun e => by have := (h.no k y K h2 hK).2; rw [e, hB] at this; cases this) (fun e => h1 (h.ap k B y z0 K h2 hB hK e))
  · intro k y hk
    rcases key k y hk with ⟨rfl, rfl⟩ | ⟨h1, h2⟩
    · exact h.np k z0 hB
    · exact h.np k y h2
  · intro k y K hk
    rcases key k y hk with ⟨rfl, rfl⟩ | ⟨h1, h2⟩
    · simp only [if_true]
      intro hK
      exact ⟨(hoP K hK).1, by rw [upd_ne (fun e => hoB (by rw [hK, e]))]; exact (hoP K hK).2⟩
    · simp only [h1, if_false]
      intro hK
      exact ⟨(h.no k y K h2 hK).1, by rw [upd_ne (fun e => by have := (h.no k y K h2 hK).2; rw [e, hB] at this; cases this)]; exact (h.no k y K h2 hK).2⟩
  · intro k k' y y' K hk hk'
    rcases key k y hk with ⟨rfl, rfl⟩ | ⟨h1, h2⟩ <;> rcases key k' y' hk' with ⟨rfl, rfl⟩ | ⟨h3, h4⟩
    · intros; rfl
    · simp only [if_true, h3, if_false]
      intro hK hK'
      rcases ho with rfl | ⟨K', rfl, hk⟩
      · exact absurd (h.ap k k' z0 y' K hB h4 hK hK').symm h3
      · cases hK
        have := (h.at_ k' y' h4).own_lt hK'; omega
    · simp only [if_true, h1, if_false]
      intro hK hK'
      rcases ho with rfl | ⟨K', rfl, hk⟩
      · exact absurd (h.ap k' k z0 y K hB h2 hK' hK).symm h1
      · cases hK'
        have := (h.at_ k y h2).own_lt hK; omega
    · simp only [h1, h3, if_false]
      exact h.ap k k' y y' K h2 h4
/-- What a division leaves: a quotient and a rest, in their old rows or in new ones. -/
structure DivR (w w' : World) (oz o2 : Option Nat) (q r : Nat) (vq vr : Value) (oq orr : Option Nat) : Prop where
  hq : NatS w' vq q oq
  hr : NatS w' vr r orr
  os : w'.os = w.os
  tape : w'.tape = w.tape
  output : w'.output = w.output
  size : w.heap.size ≤ w'.heap.size
  block : ∀ k, k < w.heap.size → oz ≠ some k → o2 ≠ some k → w'.heap[k]? = w.heap[k]?
  fq : oq = oz ∨ ∃ K, oq = some K ∧ w.heap.size ≤ K
  fr : orr = o2 ∨ ∃ K, orr = some K ∧ w.heap.size ≤ K
  ne : ∀ K, oq = some K → orr ≠ some K
/-- A new Int. -/
theorem St.fresh (h : St P w S own) (hb : Below w.heap.size w w') (hB : w.heap.size ≤ B) (hi : IntAt w' B z o) (ho : ∀ K, o = some K → w.heap.size ≤ K ∧ K ≠ B) : Keep P w w' ∧ Ints P w' (upd S B z) := by
  have h' := h.below hb h.pg fun k hk => .inl hk
  refine ⟨.of_below hb, fun k => if k = B then o else own k, ?_⟩
  have hold : ∀ k y, S k = some y → k < w.heap.size := fun k y hk => (h.at_ k y hk).lt
  have key : ∀ k y, upd S B z k = some y → (k = B ∧ y = z) ∨ (k ≠ B ∧ S k = some y) := fun k y hk => by
    unfold upd at hk
    by_cases e : k = B
    · rw [if_pos e] at hk; cases hk; exact .inl ⟨e, rfl⟩
    · rw [if_neg e] at hk; exact .inr ⟨e, hk⟩
  refine ⟨h'.gl, h'.pg, h'.pl, ?_, ?_, ?_, ?_⟩
  · intro k y hk
    rcases key k y hk with ⟨rfl, rfl⟩ | ⟨h1, h2⟩
    · simp only [if_true]; exact hi
    · simp only [h1, if_false]; exact h'.at_ k y h2
  · intro k y hk
    rcases key k y hk with ⟨rfl, rfl⟩ | ⟨h1, h2⟩
    · intro hp; have := h.pl k hp; omega
    · exact h'.np k y h2
  · intro k y K hk
    rcases key k y hk with ⟨rfl, rfl⟩ | ⟨h1, h2⟩
    · simp only [if_true]
      intro hK
      obtain ⟨h3, h4⟩ := ho K hK
      refine ⟨fun hp => by have := h.pl K hp; omega, ?_⟩
      rw [upd_ne h4]
      cases e : S K with
      | none => rfl
      | some y => have := hold K y e; omega
    · simp only [h1, if_false]
      intro hK
      refine ⟨(h'.no k y K h2 hK).1, ?_⟩
      have := (h.at_ k y h2).own_lt hK
      rw [upd_ne (by omega)]
      exact (h'.no k y K h2 hK).2
  · intro k k' y y' K hk hk'
    rcases key k y hk with ⟨rfl, rfl⟩ | ⟨h1, h2⟩ <;> rcases key k' y' hk' with ⟨rfl, rfl⟩ | ⟨h3, h4⟩
    · intros; rfl
    · simp only [if_true, h3, if_false]
      intro hK hK'
      have := (h.at_ k' y' h4).own_lt hK'
      have := (ho K hK).1; omega
    · simp only [if_true, h1, if_false]
      intro hK hK'
      have := (h.at_ k y h2).own_lt hK
      have := (ho K hK').1; omega
    · simp only [h1, h3, if_false]
      exact h.ap k k' y y' K h2 h4
/-- Two Ints turned by a division. -/
theorem St.write2 (h : St P w S own) (hB1 : S B1 = some z0) (hB2 : S B2 = some z1) (hne : B1 ≠ B2) {a b : Nat} {oq orr : Option Nat} (hd : DivR w w1 (own B1) (own B2) a b v1 v2 oq orr)
    (hb1 : Blk w' B1 114 [.bool (decide (z < 0)), v1]) (hb2 : Blk w' B2 114 [.bool (decide (z' < 0)), v2]) (hos : w'.os = w1.os) (htape : w'.tape = w1.tape) (hout : w'.output = w1.output) (hsz : w'.heap.size = w1.heap.size)
    (hoth : ∀ k, k ≠ B1 → k ≠ B2 → w'.heap[k]? = w1.heap[k]?) (ha : a = z.natAbs) (hb : b = z'.natAbs) : Keep P w w' ∧ Ints P w' (upd (upd S B1 z) B2 z') := by
  subst ha hb
  have hfree : ∀ K, w.heap.size ≤ K → ¬ P K ∧ S K = none := fun K hk => by
    refine ⟨fun hp => by have := h.pl K hp; omega, ?_⟩
    cases e : S K with
    | none => rfl
    | some y => have := (h.at_ K y e).lt; omega
  have hqP : ∀ K, oq = some K → ¬ P K ∧ S K = none := fun K hK => by
    rcases hd.fq with e | ⟨K', e, hk⟩
    · exact h.no B1 z0 K hB1 (e ▸ hK)
    · rw [e] at hK; obtain rfl : K' = K := Option.some.inj hK; exact hfree K' hk
  have hrP : ∀ K, orr = some K → ¬ P K ∧ S K = none := fun K hK => by
    rcases hd.fr with e | ⟨K', e, hk⟩
    · exact h.no B2 z1 K hB2 (e ▸ hK)
    · rw [e] at hK; obtain rfl : K' = K := Option.some.inj hK; exact hfree K' hk
  have hn1 : ∀ K, S K = none → K ≠ B1 ∧ K ≠ B2 := fun K hK => ⟨fun e => (by rw [e, hB1] at hK; cases hK), fun e => (by rw [e, hB2] at hK; cases hK)⟩
  have hblk : ∀ k, k < w.heap.size → k ≠ B1 → k ≠ B2 → own B1 ≠ some k → own B2 ≠ some k → w'.heap[k]? = w.heap[k]? := fun k hk h1 h2 h3 h4 => (hoth k h1 h2).trans (hd.block k hk h3 h4)
  refine ⟨⟨hos.trans hd.os, htape.trans hd.tape, hout.trans hd.output, by rw [hsz]; exact hd.size, fun k hk hl => hblk k hl (fun e => h.np B1 z0 hB1 (e ▸ hk)) (fun e => h.np B2 z1 hB2 (e ▸ hk)) (fun e => (h.no B1 z0 k hB1 e).1 hk) (fun e => (h.no B2 z1 k hB2 e).1 hk)⟩, fun k => if k = B1 then oq else if k = B2 then orr else own k, ?_⟩
  have key : ∀ k y, upd (upd S B1 z) B2 z' k = some y → (k = B1 ∧ y = z) ∨ (k = B2 ∧ k ≠ B1 ∧ y = z') ∨ (k ≠ B1 ∧ k ≠ B2 ∧ S k = some y) := fun k y hk => by
    unfold upd at hk
    by_cases e2 : k = B2
    · rw [if_pos e2] at hk; cases hk; exact .inr (.inl ⟨e2, fun e => hne (e.symm.trans e2), rfl⟩)
    · rw [if_neg e2] at hk
      by_cases e1 : k = B1
      · rw [if_pos e1] at hk; cases hk; exact .inl ⟨e1, rfl⟩
      · rw [if_neg e1] at hk; exact .inr (.inr ⟨e1, e2, hk⟩)
  have hun : ∀ K, S K = none → upd (upd S B1 z) B2 z' K = none := fun K hK => by rw [upd_ne (hn1 K hK).2, upd_ne (hn1 K hK).1, hK]
  refine ⟨?_, h.pg, fun k hk => by rw [hsz]; exact Nat.lt_of_lt_of_le (h.pl k hk) hd.size, ?_, ?_, ?_, ?_⟩
  · have key : ∀ g x, g < 18 → w.cell? ⟨g, 0, none⟩ = some x → w'.cell? ⟨g, 0, none⟩ = some x := fun g x hg hx => by
      rw [← hx]
      have hk := h.pg g hg
      exact World.cell?_of_block (w := w) (hblk g (World.block_lt_of_cell? w _ hx) (fun e => h.np B1 z0 hB1 (e ▸ hk)) (fun e => h.np B2 z1 hB2 (e ▸ hk)) (fun e => (h.no B1 z0 g hB1 e).1 hk) (fun e => (h.no B2 z1 g hB2 e).1 hk))
    exact h.gl.of_cells key
  · intro k y hk
    rcases key k y hk with ⟨rfl, rfl⟩ | ⟨rfl, h1, rfl⟩ | ⟨h1, h2, h3⟩
    · simp only [if_true]
      exact ⟨v1, hb1, hd.hq.of_heap fun K hK => hoth K (hn1 K (hqP K hK).2).1 (hn1 K (hqP K hK).2).2⟩
    · simp only [h1, if_true, if_false]
      exact ⟨v2, hb2, hd.hr.of_heap fun K hK => hoth K (hn1 K (hrP K hK).2).1 (hn1 K (hrP K hK).2).2⟩
    · simp only [h1, h2, if_false]
      have hkn : S k ≠ none := by rw [h3]; exact fun e => by cases e
      exact (h.at_ k y h3).of_heap (hblk k (h.at_ k y h3).lt h1 h2 (fun e => hkn (h.no B1 z0 k hB1 e).2) (fun e => hkn (h.no B2 z1 k hB2 e).2)) fun K hK =>
        hblk K ((h.at_ k y h3).own_lt hK) (hn1 K (h.no k y K h3 hK).2).1 (hn1 K (h.no k y K h3 hK).2).2 (fun e => h1 (h.ap k B1 y z0 K h3 hB1 hK e)) (fun e => h2 (h.ap k B2 y z1 K h3 hB2 hK e))
  · intro k y hk
    rcases key k y hk with ⟨rfl, rfl⟩ | ⟨rfl, h1, rfl⟩ | ⟨h1, h2, h3⟩
    · exact h.np k z0 hB1
    · exact h.np k z1 hB2
    · exact h.np k y h3
  · intro k y K hk
    rcases key k y hk with ⟨rfl, rfl⟩ | ⟨rfl, h1, rfl⟩ | ⟨h1, h2, h3⟩
    · simp only [if_true]
      exact fun hK => ⟨(hqP K hK).1, hun K (hqP K hK).2⟩
    · simp only [h1, if_true, if_false]
      exact fun hK => ⟨(hrP K hK).1, hun K (hrP K hK).2⟩
    · simp only [h1, h2, if_false]
      exact fun hK => ⟨(h.no k y K h3 hK).1, hun K (h.no k y K h3 hK).2⟩
  · have hq' : ∀ k y K, S k = some y → k ≠ B1 → own k = some K → oq ≠ some K := fun k y K h1 h2 h3 e => by
      rcases hd.fq with e1 | ⟨K', e1, hk⟩
      · exact h2 (h.ap k B1 y z0 K h1 hB1 h3 (e1 ▸ e))
      · rw [e1] at e; cases e
        have := (h.at_ k y h1).own_lt h3; omega
    have hr' : ∀ k y K, S k = some y → k ≠ B2 → own k = some K → orr ≠ some K := fun k y K h1 h2 h3 e => by
      rcases hd.fr with e1 | ⟨K', e1, hk⟩
      · exact h2 (h.ap k B2 y z1 K h1 hB2 h3 (e1 ▸ e))
      · rw [e1] at e; cases e
        have := (h.at_ k y h1).own_lt h3; omega
    intro k k' y y' K hk hk'
    rcases key k y hk with ⟨rfl, rfl⟩ | ⟨rfl, h1, rfl⟩ | ⟨h1, h2, h3⟩ <;> rcases key k' y' hk' with ⟨rfl, rfl⟩ | ⟨rfl, h4, rfl⟩ | ⟨h4, h5, h6⟩
    · intros; rfl
    · simp only [h4, if_true, if_false]
      exact fun e1 e2 => absurd e2 (hd.ne K e1)
    · simp only [h4, h5, if_true, if_false]
      exact fun e1 e2 => absurd e1 (hq' k' y' K h6 h4 e2)
    · simp only [h1, if_true, if_false]
      exact fun e1 e2 => absurd e1 (hd.ne K e2)
    · intros; rfl
    · simp only [h1, h4, h5, if_true, if_false]
      exact fun e1 e2 => absurd e1 (hr' k' y' K h6 h5 e2)
    · simp only [h1, h2, if_true, if_false]
      exact fun e1 e2 => absurd e2 (hq' k y K h3 h1 e1)
    · simp only [h1, h2, h4, if_true, if_false]
      exact fun e1 e2 => absurd e2 (hr' k y K h3 h2 e1)
    · simp only [h1, h2, h4, h5, if_false]
      exact h.ap k k' y y' K h3 h6
end
end Go.Proofs.YtpabbnogfflgpaaGreatDoor
end

section
namespace Go.Proofs.YtpabbnogfflgpaaGreatDoor

/-- The bytes of a string. -/
def bts (s : ByteArray) : List Nat := s.data.toList.map UInt8.toNat
def mkT (l : List Nat) : ByteArray := ⟨(l.map UInt8.ofNat).toArray⟩
theorem bts_length (s : ByteArray) : (bts s).length = s.size := by simp [bts]
theorem rev_ind {α : Type} {motive : List α → Prop} (nil : motive []) (snoc : ∀ l a, motive l → motive (l ++ [a])) (l : List α) : motive l := by
  rw [← List.reverse_reverse l]
  induction l.reverse with
  | nil => exact nil
  | cons a m ih => rw [List.reverse_cons]; exact snoc _ _ ih
theorem bts_lt {s : ByteArray} {b : Nat} (h : b ∈ bts s) : b < 256 := by
  unfold bts at h
  simp only [List.mem_map] at h
  obtain ⟨x, _, rfl⟩ := h
  exact x.toNat_lt
theorem mkT_bts (s : ByteArray) : mkT (bts s) = s := by
  unfold mkT bts
  rw [List.map_map, List.map_congr_left (g := id) (by intro x _; simp)]
  simp
theorem bts_mkT {l : List Nat} (h : ∀ b, b ∈ l → b < 256) : bts (mkT l) = l := by
  unfold mkT bts
  simp only [List.map_map]
  rw [List.map_congr_left (g := id), List.map_id]
  intro x hx
  have := h x hx
  simp [UInt8.toNat_ofNat', Nat.mod_eq_of_lt this]
theorem bts_inj {s t : ByteArray} (h : bts s = bts t) : s = t := by rw [← mkT_bts s, h, mkT_bts]
theorem mkT_size (l : List Nat) : (mkT l).size = l.length := by simp [mkT, ByteArray.size]
def isD (b : Nat) : Prop := 48 ≤ b ∧ b ≤ 57
instance (b : Nat) : Decidable (isD b) := inferInstanceAs (Decidable (_ ∧ _))
/-- The number of a list of digits. -/
def nums (l : List Nat) : Nat := l.foldl (fun n b => 10 * n + (b - 48)) 0
theorem nums_nil : nums [] = 0 := rfl
theorem nums_snoc (l : List Nat) (b : Nat) : nums (l ++ [b]) = 10 * nums l + (b - 48) := by simp [nums]
theorem nums_lt {l : List Nat} (h : ∀ b, b ∈ l → isD b) : nums l < 10 ^ l.length := by
  induction l using rev_ind with
  | nil => simp [nums]
  | snoc l b ih =>
    have h1 := ih (fun c hc => h c (by simp [hc]))
    have h2 := h b (by simp)
    rw [nums_snoc, List.length_append, List.length_singleton, Nat.pow_succ]
    unfold isD at h2
    omega
theorem nums_app (l m : List Nat) : nums (l ++ m) = nums l * 10 ^ m.length + nums m := by
  induction m using rev_ind with
  | nil => simp [nums]
  | snoc m b ih =>
    rw [← List.append_assoc, nums_snoc, nums_snoc, ih, List.length_append, List.length_singleton, Nat.pow_succ, Nat.mul_add, ← Nat.mul_assoc, Nat.mul_comm 10, Nat.mul_assoc, Nat.mul_comm 10]
    omega
theorem nums_zeros (k : Nat) : nums (List.replicate k 48) = 0 := by
  induction k with
  | zero => rfl
  | succ k ih => rw [List.replicate_succ', nums_snoc, ih]
theorem nums_cons (b : Nat) (l : List Nat) : nums (b :: l) = (b - 48) * 10 ^ l.length + nums l := by
  have := nums_app [b] l
  simpa [nums] using this
theorem nums_digits {a n : Nat} (h : a < 10 ^ n) : ∀ k, k ≤ n → nums ((List.range k).map fun j => 48 + dgt a n j) = a / 10 ^ (n - k)
  | 0, _ => by rw [Nat.sub_zero, Nat.div_eq_of_lt h]; rfl
  | k + 1, hk => by
    rw [List.range_succ, List.map_append, List.map_singleton, nums_snoc, nums_digits h k (by omega)]
    unfold dgt
    rw [show n - k = (n - (k + 1)) + 1 by omega, Nat.pow_succ, ← Nat.div_div_eq_div_mul, show n - 1 - k = n - (k + 1) by omega]
    omega
theorem dtxt_isD {a b : Nat} (h : b ∈ dtxt false a) : isD b := by
  unfold dtxt at h
  simp at h
  obtain ⟨j, _, rfl⟩ := h
  have := dgt_lt a (dlen a) j
  unfold isD; omega
theorem nums_dtxt (a : Nat) : nums (dtxt false a) = a := by
  have := nums_digits (lt_dlen a) (dlen a) (Nat.le_refl _)
  rw [Nat.sub_self, Nat.pow_zero, Nat.div_one] at this
  simpa [dtxt] using this
theorem dtxt_neg (a : Nat) : dtxt true a = 45 :: dtxt false a := by simp [dtxt]
theorem dtxt_lt {neg : Bool} {a b : Nat} (h : b ∈ dtxt neg a) : b < 256 := by
  cases neg
  · have := dtxt_isD h; unfold isD at this; omega
  · rw [dtxt_neg] at h
    rcases List.mem_cons.1 h with rfl | h
    · omega
    · have := dtxt_isD h; unfold isD at this; omega
/-- The digits of the number of a list of digits. -/
theorem dgt_nums {l : List Nat} (h : ∀ b, b ∈ l → isD b) : ∀ j (hj : j < l.length), 48 + dgt (nums l) l.length j = l[j] := by
  induction l using rev_ind with
  | nil => intro j hj; simp at hj
  | snoc l b ih =>
    intro j hj
    have h2 := h b (by simp)
    unfold isD at h2
    simp only [List.length_append, List.length_singleton] at hj ⊢
    unfold dgt at ih ⊢
    rw [nums_snoc]
    by_cases h3 : j < l.length
    · rw [List.getElem_append_left h3, ← ih (fun c hc => h c (by simp [hc])) j h3]
      rw [show l.length + 1 - 1 - j = (l.length - 1 - j) + 1 by omega, Nat.pow_succ', ← Nat.div_div_eq_div_mul, show (10 * nums l + (b - 48)) / 10 = nums l by omega]
    · obtain rfl : j = l.length := by omega
      simp
      omega
theorem dlen_eq {a n : Nat} (h1 : a < 10 ^ (n + 1)) (h2 : 10 ^ n ≤ a) : dlen a = n + 1 := by
  have h0 : a ≠ 0 := by have : 0 < 10 ^ n := Nat.pow_pos (by decide); omega
  have h3 := dlen_le_of h1 h0
  have h4 := lt_dlen a
  have : n < dlen a := (Nat.pow_lt_pow_iff_right (by decide : 1 < 10)).1 (Nat.lt_of_le_of_lt h2 h4)
  omega
theorem dlen_small {a : Nat} (h : a < 10) : dlen a = 1 := by rw [dlen]; simp [h]
theorem dlen_nums {l : List Nat} (h : ∀ b, b ∈ l → isD b) (h0 : l ≠ []) (h1 : l.length = 1 ∨ l.head? ≠ some 48) : dlen (nums l) = l.length := by
  cases l with
  | nil => exact absurd rfl h0
  | cons b l =>
    have hb := h b (by simp)
    unfold isD at hb
    rcases h1 with h1 | h1
    · simp at h1
      subst h1
      rw [dlen_small (by simp [nums]; omega)]; rfl
    · simp at h1
      have hlt := nums_lt h
      refine dlen_eq hlt ?_
      rw [nums_cons]
      have : 1 * 10 ^ l.length ≤ (b - 48) * 10 ^ l.length := Nat.mul_le_mul_right _ (by omega)
      omega
theorem dtxt_nums {l : List Nat} (h : ∀ b, b ∈ l → isD b) (h0 : l ≠ []) (h1 : l.length = 1 ∨ l.head? ≠ some 48) : dtxt false (nums l) = l := by
  have hd := dlen_nums h h0 h1
  unfold dtxt
  rw [hd]
  simp
  apply List.ext_getElem
  · simp
  · intro i h2 h3
    simp
    exact dgt_nums h i h3
/-- The text of a number with a sign. -/
def ztx (z : Int) : List Nat := dtxt (decide (z < 0)) z.natAbs
def zT (z : Int) : ByteArray := mkT (ztx z)
theorem ztx_lt {z : Int} {b : Nat} (h : b ∈ ztx z) : b < 256 := dtxt_lt h
theorem bts_zT (z : Int) : bts (zT z) = ztx z := bts_mkT fun _ h => ztx_lt h
theorem ztx_pos {z : Int} (h : 0 ≤ z) : ztx z = dtxt false z.natAbs := by unfold ztx; rw [decide_eq_false (by omega)]
theorem ztx_neg {z : Int} (h : z < 0) : ztx z = 45 :: dtxt false z.natAbs := by unfold ztx; rw [decide_eq_true h, dtxt_neg]
theorem dtxt_len (a : Nat) : (dtxt false a).length = dlen a := by rw [dtxt_length]; rfl
theorem dtxt_ne (a : Nat) : dtxt false a ≠ [] := fun h => by have := dlen_pos a; rw [← dtxt_len, h] at this; simp at this
theorem ztx_inj {x y : Int} (h : ztx x = ztx y) : x = y := by
  have key : ∀ a b, dtxt false a ≠ 45 :: b := fun a b e => by
    have := dtxt_isD (a := a) (b := 45) (by rw [e]; simp)
    unfold isD at this; omega
  by_cases hx : x < 0 <;> by_cases hy : y < 0
  · rw [ztx_neg hx, ztx_neg hy] at h
    have := congrArg nums (List.cons.inj h).2
    rw [nums_dtxt, nums_dtxt] at this; omega
  · rw [ztx_neg hx, ztx_pos (by omega)] at h; exact absurd h.symm (key _ _)
  · rw [ztx_pos (by omega), ztx_neg hy] at h; exact absurd h (key _ _)
  · rw [ztx_pos (by omega), ztx_pos (by omega)] at h
    have := congrArg nums h
    rw [nums_dtxt, nums_dtxt] at this; omega
theorem zT_inj {x y : Int} (h : zT x = zT y) : x = y := ztx_inj (by rw [← bts_zT, h, bts_zT])
theorem ztx_length (z : Int) : (ztx z).length = dlen z.natAbs + (if z < 0 then 1 else 0) := by
  unfold ztx; rw [dtxt_length]; by_cases h : z < 0 <;> simp [h]
end Go.Proofs.YtpabbnogfflgpaaGreatDoor
end

section
namespace Go.Proofs.YtpabbnogfflgpaaGreatDoor
open Go.RowKit
set_option maxRecDepth 100000
theorem intInfo0 : (Tryz.prog.info? 114).map (fun i => (i.size, i.bytes)) = some (2, 32) := by kernel_rfl
theorem intInfo : ∃ j, Tryz.prog.info? 114 = some j ∧ j.size ≠ 0 := by
  have := intInfo0
  cases h : Tryz.prog.info? 114 with
  | none => rw [h] at this; cases this
  | some j => rw [h] at this; simp at this; exact ⟨j, rfl, by omega⟩
theorem ieq_same (a : Addr) (w : World) : (binOp .eql 69 (.pointer (some a)) (.pointer (some a))).run Tryz.prog w = .ok (.bool true) w := by
  obtain ⟨j, hj, _⟩ := intInfo
  exact run_eql_ptr_same w a Tryz.underlying69 hj
theorem ine_same (a : Addr) (w : World) : (binOp .neq 69 (.pointer (some a)) (.pointer (some a))).run Tryz.prog w = .ok (.bool false) w := by
  obtain ⟨j, hj, _⟩ := intInfo
  exact Lib.run_neq_ptr_same w a Tryz.underlying69 hj
theorem ieq_other {a b : Addr} (hne : a ≠ b) (w : World) (ha : HB w a.block) (hb : HB w b.block) : (binOp .eql 69 (.pointer (some a)) (.pointer (some b))).run Tryz.prog w = .ok (.bool false) w := by
  obtain ⟨j, hj, hs⟩ := intInfo
  exact peq_other Tryz.underlying69 hj hs hne w ha hb
theorem ine_other {a b : Addr} (hne : a ≠ b) (w : World) (ha : HB w a.block) (hb : HB w b.block) : (binOp .neq 69 (.pointer (some a)) (.pointer (some b))).run Tryz.prog w = .ok (.bool true) w := by
  obtain ⟨j, hj, hs⟩ := intInfo
  exact pne_other Tryz.underlying69 hj hs hne w ha hb
/-- The pointer to an Int. -/
abbrev ptr (B : Nat) : Value := .pointer (some ⟨B, 0, none⟩)
theorem below_drew (w : World) : Below w.heap.size w w.drew := ⟨rfl, rfl, rfl, Nat.le_refl _, fun _ _ => rfl⟩
theorem below_drewN (w : World) (n : Nat) : Below w.heap.size w (w.drewN n) := ⟨rfl, rfl, rfl, Nat.le_refl _, fun _ _ => rfl⟩
/-- The number's sign: -1, 0 or 1. -/
def sgn (z : Int) : Int := if z < 0 then -1 else if z = 0 then 0 else 1
section
variable {P : Nat → Prop} {w : World} {S : Nat → Option Int} {B : Nat} {z : Int}
/-- An Int of the state, open. -/
theorem IntAt.open {o : Option Nat} (h : IntAt w B z o) : ∃ A cap, Blk w B 114 [.bool (decide (z < 0)), .slice A (wlen z.natAbs) cap] ∧ NatS w (.slice A (wlen z.natAbs) cap) z.natAbs o ∧ w.cell? ⟨B, 0, none⟩ = some (.bool (decide (z < 0))) ∧ w.cell? ⟨B, 1, none⟩ = some (.slice A (wlen z.natAbs) cap) ∧ wlen z.natAbs ≤ cap ∧ cap < 1000 := by
  obtain ⟨v, h1, h2⟩ := h
  obtain ⟨A, cap, rfl, h3, h4, h5⟩ := h2.open
  exact ⟨A, cap, h1, h2, h1.cell 0, h1.cell 1, h3, h4⟩
end
theorem NatR.form {w w' : World} {oz : Option Nat} {m : Nat} {v : Value} (h : NatR w w' oz m v) : ∃ A cap, v = .slice A (wlen m) cap := by
  obtain ⟨o, h1, _⟩ := h
  obtain ⟨A, cap, h1, _⟩ := h1.open
  exact ⟨A, cap, h1⟩
/-- A contract on words, its result written out, seen from an elder world. -/
theorem sl {Pr : Program} {f : FuncId} {args : Array Value} {w w1 : World} {oz : Option Nat} {m : Nat} (hb : Below w.heap.size w w1) (h : Calls Pr f args w1 fun e w' => ∃ v, e = .returned v ∧ NatR w1 w' oz m v) :
    Calls Pr f args w1 fun e w' => ∃ A cap, e = .returned (.slice A (wlen m) cap) ∧ NatR w w' oz m (.slice A (wlen m) cap) :=
  h.mono fun e w' ⟨v, he, hr⟩ => by
    obtain ⟨A, cap, hv⟩ := hr.form
    exact ⟨A, cap, by rw [he, hv], by rw [← hv]; exact hr.lead hb⟩
/-- What the walk wants of an Int's block behind a call that has turned the row 'o'. -/
theorem blk_facts {w w2 : World} {o : Option Nat} {B : Nat} {b : Bool} {v : Value} (hc : Chg w w2 o) (hb : Blk w B 114 [.bool b, v]) (ho : o ≠ some B) :
    Blk w2 B 114 [.bool b, v] ∧ w2.cell? ⟨B, 0, none⟩ = some (.bool b) ∧ w2.cell? ⟨B, 1, none⟩ = some v ∧ w2.frozen? ⟨B, 0, none⟩ = false ∧ w2.frozen? ⟨B, 1, none⟩ = false := by
  have h := hc.blk hb ho
  exact ⟨h, h.cell 0, h.cell 1, h.frozen 0, h.frozen 1⟩
theorem Sign_any (P : Nat → Prop) (B : Nat) (z : Int) (S : Nat → Option Int) (w : World) (hI : Ints P w S) (hB : S B = some z) :
    Calls Tryz.prog 149 #[ptr B] w fun e w' => e = .returned (.int .i64 (sgn z)) ∧ w = w' := by
  obtain ⟨own, hst⟩ := hI
  obtain ⟨A, cap, hb, hn, g0, g1, h3, h4⟩ := (hst.at_ B z hB).open
  clear hst hn
  by_cases h0 : z = 0
  · subst h0
    rw [show Int.natAbs 0 = 0 from rfl, wlen_zero, show decide ((0 : Int) < 0) = false from rfl] at *
    go_enter Tryz.func149, Tryz.ntmps149
    go_wp2
    go_ret
    exact ⟨rfl, rfl⟩
  · have hw : ((wlen z.natAbs : Int) == 0) = false := by
      have : wlen z.natAbs ≠ 0 := fun h => h0 (by have := wlen_eq_zero.1 h; omega)
      simp; omega
    by_cases h1 : z < 0
    · have h2 : sgn z = -1 := by unfold sgn; rw [if_pos h1]
      rw [h2]
      rw [decide_eq_true h1] at g0 hb
      replace h2 := Hd.mk h2
      replace h0 := Hd.mk h0
      go_enter Tryz.func149, Tryz.ntmps149
      go_wp2
      go_ret
      exact ⟨rfl, rfl⟩
    · have h2 : sgn z = 1 := by unfold sgn; rw [if_neg h1, if_neg h0]
      rw [h2]
      rw [decide_eq_false h1] at g0 hb
      replace h2 := Hd.mk h2
      replace h0 := Hd.mk h0
      go_enter Tryz.func149, Tryz.ntmps149
      go_wp2
      go_ret
      exact ⟨rfl, rfl⟩
set_option maxHeartbeats 1000000 in
theorem ISet_any (P : Nat → Prop) (bz bx : Nat) (z x : Int) (S : Nat → Option Int) (w : World) (hI : Ints P w S) (hz : S bz = some z) (hx : S bx = some x) (hwl : wlen x.natAbs < 800) :
    Calls Tryz.prog 142 #[ptr bz, ptr bx] w fun e w' => e = .returned (ptr bz) ∧ Keep P w w' ∧ Ints P w' (upd S bz x) := by
  by_cases hbb : bz = bx
  · subst hbb
    have hu : upd S bz x = S := by funext k; unfold upd; split; (· subst k; exact hx.symm); (· rfl)
    have hpe := ine_same ⟨bz, 0, none⟩
    replace hI := Hd.mk hI
    go_enter Tryz.func142, Tryz.ntmps142
    go_wp2
    go_ret
    exact ⟨rfl, Keep.refl _ _, by rw [hu]; exact hI.out⟩
  · obtain ⟨own, hst⟩ := hI
    obtain ⟨A, cap, hb, hn, g0, g1, h3, h4⟩ := (hst.at_ bz z hz).open
    obtain ⟨C, cx, hbx, hnx, k0, k1, h5, h6⟩ := (hst.at_ bx x hx).open
    have hset := fun w1 (hb1 : Below w.heap.size w w1) => sl hb1 (set_any (.slice A (wlen z.natAbs) cap) (.slice C (wlen x.natAbs) cx) x.natAbs (own bz) (own bx) w1 (hn.recv.below hb1) (hnx.below hb1) hwl)
    have hpe := fun w => ine_other (a := ⟨bz, 0, none⟩) (b := ⟨bx, 0, none⟩) (fun e => hbb (by cases e; rfl)) w
    have hlz := hb.lt
    have hlx := hbx.lt
    have hpe0 := hpe w ⟨_, _, hb⟩ ⟨_, _, hbx⟩
    have hoz : own bz ≠ some bz := fun e => by have := (hst.no bz z bz hz e).2; rw [hz] at this; cases this
    have hox : own bz ≠ some bx := fun e => by have := (hst.no bz z bx hz e).2; rw [hx] at this; cases this
    clear hpe
    replace hst := Hd.mk hst
    replace hn := Hd.mk hn
    replace hnx := Hd.mk hnx
    replace hset := Hd.mk hset
    have fz := hb.frozen 1
    have fz0 := hb.frozen 0
    replace hb := Hd.mk hb
    replace hbx := Hd.mk hbx
    replace hz := Hd.mk hz
    replace hx := Hd.mk hx
    go_enter Tryz.func142, Tryz.ntmps142
    go_wp2
    go_region_law (first | (go_simp; go_at_call 184; refine (hset.out _ (below_drew _)).mono ?_; rintro e w2 ⟨A2, cap2, rfl, hr⟩; obtain ⟨o2, hn2, hc2, ho2⟩ := hr; obtain ⟨hb2, l0, l1, lz0, lz⟩ := blk_facts hc2 hb.out hoz; obtain ⟨hbx2, m0, m1, mz0, mz⟩ := blk_facts hc2 hbx.out hox; replace hr := Hd.mk (show NatR w w2 (own bz) x.natAbs (.slice A2 (wlen x.natAbs) cap2) from ⟨o2, hn2, hc2, ho2⟩); clear hn2 hc2 ho2; replace hb2 := Hd.mk hb2; replace hbx2 := Hd.mk hbx2))
    all_goals
      go_wp2
      go_ret
      have hp := ((Put.refl hb2.out).set 1 (.slice A2 (wlen x.natAbs) cap2)).set 0 (.bool (decide (x < 0)))
      obtain ⟨q1, q2⟩ := hst.out.write hz.out hr.out hp rfl
      exact ⟨rfl, q1, q2⟩
end Go.Proofs.YtpabbnogfflgpaaGreatDoor
end
